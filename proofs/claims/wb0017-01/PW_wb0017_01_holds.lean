import PyProof.Rows.All
import Wide.All
import OpenK.AllK
import Wide.FinOn
import KE.LcTurns
import KE.KDictList
import KE.KPairComp
import KE.KTryDeep
import PySem.Challenge.RW_wb0017_01
set_option Elab.async false
set_option compiler.extract_closed false
set_option linter.all false
section
open PySem PySem.W PyProof.Rows
namespace Mine
theorem fa_cons {α : Type} {p : α → Prop} {a : α} {l : List α} (h : p a) (t : ∀ x ∈ l, p x) : ∀ x ∈ a :: l, p x := List.forall_mem_cons.mpr ⟨h, t⟩
theorem fa_nil {α : Type} {p : α → Prop} : ∀ x ∈ ([] : List α), p x := List.forall_mem_nil _
theorem sub_cons {α : Type} {a : α} {l n : List α} (h : a ∈ n) (t : ∀ x ∈ l, x ∈ n) : ∀ x ∈ a :: l, x ∈ n := List.forall_mem_cons.mpr ⟨h, t⟩
theorem sub_skip {α : Type} {a : α} {l n : List α} (t : ∀ x ∈ l, x ∈ n) : ∀ x ∈ l, x ∈ a :: n := fun x hx => .tail _ (t x hx)
theorem sub_same {α : Type} {l : List α} : ∀ x ∈ l, x ∈ l := fun _ h => h
theorem sub_nil {α : Type} {n : List α} : ∀ x ∈ ([] : List α), x ∈ n := fun _ h => nomatch h
theorem off2 {G : Prop} {D a1 a2 : Nat} {o1 o2 : Obj} {tn : List (Addr × Obj)} (h : ∀ p ∈ (a1, o1) :: (a2, o2) :: tn, p.1 ≠ D) (k : @Ne Nat a1 D → @Ne Nat a2 D → (∀ p ∈ tn, p.1 ≠ D) → G) : G :=
  k (h _ (.head _)) (h _ (.tail _ (.head _))) (fun p hp => h p (.tail _ (.tail _ (hp))))
theorem off3 {G : Prop} {D a1 a2 a3 : Nat} {o1 o2 o3 : Obj} {tn : List (Addr × Obj)} (h : ∀ p ∈ (a1, o1) :: (a2, o2) :: (a3, o3) :: tn, p.1 ≠ D) (k : @Ne Nat a1 D → @Ne Nat a2 D → @Ne Nat a3 D → (∀ p ∈ tn, p.1 ≠ D) → G) : G :=
  k (h _ (.head _)) (h _ (.tail _ (.head _))) (h _ (.tail _ (.tail _ (.head _)))) (fun p hp => h p (.tail _ (.tail _ (.tail _ (hp)))))
theorem off4 {G : Prop} {D a1 a2 a3 a4 : Nat} {o1 o2 o3 o4 : Obj} {tn : List (Addr × Obj)} (h : ∀ p ∈ (a1, o1) :: (a2, o2) :: (a3, o3) :: (a4, o4) :: tn, p.1 ≠ D) (k : @Ne Nat a1 D → @Ne Nat a2 D → @Ne Nat a3 D → @Ne Nat a4 D → (∀ p ∈ tn, p.1 ≠ D) → G) : G :=
  k (h _ (.head _)) (h _ (.tail _ (.head _))) (h _ (.tail _ (.tail _ (.head _)))) (h _ (.tail _ (.tail _ (.tail _ (.head _))))) (fun p hp => h p (.tail _ (.tail _ (.tail _ (.tail _ (hp))))))
theorem off5 {G : Prop} {D a1 a2 a3 a4 a5 : Nat} {o1 o2 o3 o4 o5 : Obj} {tn : List (Addr × Obj)} (h : ∀ p ∈ (a1, o1) :: (a2, o2) :: (a3, o3) :: (a4, o4) :: (a5, o5) :: tn, p.1 ≠ D) (k : @Ne Nat a1 D → @Ne Nat a2 D → @Ne Nat a3 D → @Ne Nat a4 D → @Ne Nat a5 D → (∀ p ∈ tn, p.1 ≠ D) → G) : G :=
  k (h _ (.head _)) (h _ (.tail _ (.head _))) (h _ (.tail _ (.tail _ (.head _)))) (h _ (.tail _ (.tail _ (.tail _ (.head _))))) (h _ (.tail _ (.tail _ (.tail _ (.tail _ (.head _)))))) (fun p hp => h p (.tail _ (.tail _ (.tail _ (.tail _ (.tail _ (hp)))))))
theorem off6 {G : Prop} {D a1 a2 a3 a4 a5 a6 : Nat} {o1 o2 o3 o4 o5 o6 : Obj} {tn : List (Addr × Obj)} (h : ∀ p ∈ (a1, o1) :: (a2, o2) :: (a3, o3) :: (a4, o4) :: (a5, o5) :: (a6, o6) :: tn, p.1 ≠ D) (k : @Ne Nat a1 D → @Ne Nat a2 D → @Ne Nat a3 D → @Ne Nat a4 D → @Ne Nat a5 D → @Ne Nat a6 D → (∀ p ∈ tn, p.1 ≠ D) → G) : G :=
  k (h _ (.head _)) (h _ (.tail _ (.head _))) (h _ (.tail _ (.tail _ (.head _)))) (h _ (.tail _ (.tail _ (.tail _ (.head _))))) (h _ (.tail _ (.tail _ (.tail _ (.tail _ (.head _)))))) (h _ (.tail _ (.tail _ (.tail _ (.tail _ (.tail _ (.head _))))))) (fun p hp => h p (.tail _ (.tail _ (.tail _ (.tail _ (.tail _ (.tail _ (hp))))))))
theorem ltt6 {G : Prop} {D a1 a2 a3 a4 a5 a6 : Nat} {o1 o2 o3 o4 o5 o6 : Obj} {tn : List (Addr × Obj)} (h : ∀ p ∈ (a1, o1) :: (a2, o2) :: (a3, o3) :: (a4, o4) :: (a5, o5) :: (a6, o6) :: tn, p.1 < D) (k : a1 < D → a2 < D → a3 < D → a4 < D → a5 < D → a6 < D → (∀ p ∈ tn, p.1 < D) → G) : G :=
  k (h _ (.head _)) (h _ (.tail _ (.head _))) (h _ (.tail _ (.tail _ (.head _)))) (h _ (.tail _ (.tail _ (.tail _ (.head _))))) (h _ (.tail _ (.tail _ (.tail _ (.tail _ (.head _)))))) (h _ (.tail _ (.tail _ (.tail _ (.tail _ (.tail _ (.head _))))))) (fun p hp => h p (.tail _ (.tail _ (.tail _ (.tail _ (.tail _ (.tail _ (hp))))))))
theorem off7 {G : Prop} {D a1 a2 a3 a4 a5 a6 a7 : Nat} {o1 o2 o3 o4 o5 o6 o7 : Obj} {tn : List (Addr × Obj)} (h : ∀ p ∈ (a1, o1) :: (a2, o2) :: (a3, o3) :: (a4, o4) :: (a5, o5) :: (a6, o6) :: (a7, o7) :: tn, p.1 ≠ D) (k : @Ne Nat a1 D → @Ne Nat a2 D → @Ne Nat a3 D → @Ne Nat a4 D → @Ne Nat a5 D → @Ne Nat a6 D → @Ne Nat a7 D → (∀ p ∈ tn, p.1 ≠ D) → G) : G :=
  k (h _ (.head _)) (h _ (.tail _ (.head _))) (h _ (.tail _ (.tail _ (.head _)))) (h _ (.tail _ (.tail _ (.tail _ (.head _))))) (h _ (.tail _ (.tail _ (.tail _ (.tail _ (.head _)))))) (h _ (.tail _ (.tail _ (.tail _ (.tail _ (.tail _ (.head _))))))) (h _ (.tail _ (.tail _ (.tail _ (.tail _ (.tail _ (.tail _ (.head _)))))))) (fun p hp => h p (.tail _ (.tail _ (.tail _ (.tail _ (.tail _ (.tail _ (.tail _ (hp)))))))))
theorem off8 {G : Prop} {D a1 a2 a3 a4 a5 a6 a7 a8 : Nat} {o1 o2 o3 o4 o5 o6 o7 o8 : Obj} {tn : List (Addr × Obj)} (h : ∀ p ∈ (a1, o1) :: (a2, o2) :: (a3, o3) :: (a4, o4) :: (a5, o5) :: (a6, o6) :: (a7, o7) :: (a8, o8) :: tn, p.1 ≠ D) (k : @Ne Nat a1 D → @Ne Nat a2 D → @Ne Nat a3 D → @Ne Nat a4 D → @Ne Nat a5 D → @Ne Nat a6 D → @Ne Nat a7 D → @Ne Nat a8 D → (∀ p ∈ tn, p.1 ≠ D) → G) : G :=
  k (h _ (.head _)) (h _ (.tail _ (.head _))) (h _ (.tail _ (.tail _ (.head _)))) (h _ (.tail _ (.tail _ (.tail _ (.head _))))) (h _ (.tail _ (.tail _ (.tail _ (.tail _ (.head _)))))) (h _ (.tail _ (.tail _ (.tail _ (.tail _ (.tail _ (.head _))))))) (h _ (.tail _ (.tail _ (.tail _ (.tail _ (.tail _ (.tail _ (.head _)))))))) (h _ (.tail _ (.tail _ (.tail _ (.tail _ (.tail _ (.tail _ (.tail _ (.head _))))))))) (fun p hp => h p (.tail _ (.tail _ (.tail _ (.tail _ (.tail _ (.tail _ (.tail _ (.tail _ (hp))))))))))
theorem and2 {G a1 a2 : Prop} (h : a1 ∧ a2) (k : a1 → a2 → G) : G := k h.1 h.2
theorem and3 {G a1 a2 a3 : Prop} (h : a1 ∧ a2 ∧ a3) (k : a1 → a2 → a3 → G) : G := k h.1 h.2.1 h.2.2
theorem and4 {G a1 a2 a3 a4 : Prop} (h : a1 ∧ a2 ∧ a3 ∧ a4) (k : a1 → a2 → a3 → a4 → G) : G := k h.1 h.2.1 h.2.2.1 h.2.2.2
theorem and5 {G a1 a2 a3 a4 a5 : Prop} (h : a1 ∧ a2 ∧ a3 ∧ a4 ∧ a5) (k : a1 → a2 → a3 → a4 → a5 → G) : G := k h.1 h.2.1 h.2.2.1 h.2.2.2.1 h.2.2.2.2
theorem and6 {G a1 a2 a3 a4 a5 a6 : Prop} (h : a1 ∧ a2 ∧ a3 ∧ a4 ∧ a5 ∧ a6) (k : a1 → a2 → a3 → a4 → a5 → a6 → G) : G := k h.1 h.2.1 h.2.2.1 h.2.2.2.1 h.2.2.2.2.1 h.2.2.2.2.2
theorem and7 {G a1 a2 a3 a4 a5 a6 a7 : Prop} (h : a1 ∧ a2 ∧ a3 ∧ a4 ∧ a5 ∧ a6 ∧ a7) (k : a1 → a2 → a3 → a4 → a5 → a6 → a7 → G) : G := k h.1 h.2.1 h.2.2.1 h.2.2.2.1 h.2.2.2.2.1 h.2.2.2.2.2.1 h.2.2.2.2.2.2
theorem and8 {G a1 a2 a3 a4 a5 a6 a7 a8 : Prop} (h : a1 ∧ a2 ∧ a3 ∧ a4 ∧ a5 ∧ a6 ∧ a7 ∧ a8) (k : a1 → a2 → a3 → a4 → a5 → a6 → a7 → a8 → G) : G := k h.1 h.2.1 h.2.2.1 h.2.2.2.1 h.2.2.2.2.1 h.2.2.2.2.2.1 h.2.2.2.2.2.2.1 h.2.2.2.2.2.2.2
theorem and9 {G a1 a2 a3 a4 a5 a6 a7 a8 a9 : Prop} (h : a1 ∧ a2 ∧ a3 ∧ a4 ∧ a5 ∧ a6 ∧ a7 ∧ a8 ∧ a9) (k : a1 → a2 → a3 → a4 → a5 → a6 → a7 → a8 → a9 → G) : G := k h.1 h.2.1 h.2.2.1 h.2.2.2.1 h.2.2.2.2.1 h.2.2.2.2.2.1 h.2.2.2.2.2.2.1 h.2.2.2.2.2.2.2.1 h.2.2.2.2.2.2.2.2
end Mine
end
section
namespace Mine.Ln
set_option genSizeOf false
set_option genInjectivity false
/-- A small checker of Farkas certificates over the natural numbers. -/
inductive E | v (i : Nat) | n (k : Nat) | a (x y : E) | m (k : Nat) (x : E)
inductive P | le (x y : E) | lt (x y : E) | eq (x y : E) | no (p : P) | an (p q : P) | or (p q : P)
inductive T | l (ks : List Nat) | s (x y : T)
noncomputable def at' : List Nat → Nat → Nat
  | [], _ => 0
  | x :: _, 0 => x
  | _ :: l, i + 1 => at' l i
noncomputable def E.d (c : List Nat) : E → Nat
  | .v i => at' c i
  | .n k => k
  | .a x y => x.d c + y.d c
  | .m k x => k * x.d c
noncomputable def P.d (c : List Nat) : P → Prop
  | .le x y => x.d c ≤ y.d c
  | .lt x y => x.d c < y.d c
  | .eq x y => x.d c = y.d c
  | .no p => ¬ p.d c
  | .an p q => p.d c ∧ q.d c
  | .or p q => p.d c ∨ q.d c
noncomputable def Imp (c : List Nat) : List P → Prop
  | [] => False
  | p :: ps => p.d c → Imp c ps
noncomputable def addL : List Nat → List Nat → List Nat
  | [], y => y
  | x :: l, [] => x :: l
  | x :: l, y :: r => (x + y) :: addL l r
noncomputable def unit : Nat → List Nat
  | 0 => [1]
  | i + 1 => 0 :: unit i
noncomputable def mulL (k : Nat) : List Nat → List Nat
  | [] => []
  | x :: l => k * x :: mulL k l
noncomputable def E.l : E → List Nat
  | .v i => unit (i + 1)
  | .n k => [k]
  | .a x y => addL x.l y.l
  | .m k x => mulL k x.l
noncomputable def dot : List Nat → List Nat → Nat
  | [], _ => 0
  | _, [] => 0
  | x :: l, y :: r => x * y + dot l r
theorem ad {a b c d : Nat} (h : a = b) (k : c = d) : a + c = b + d := h ▸ k ▸ rfl
theorem dot_add : ∀ x y c : List Nat, dot (addL x y) c = dot x c + dot y c
  | [], _, _ => (Nat.zero_add _).symm
  | _ :: _, [], _ => rfl
  | _ :: _, _ :: _, [] => rfl
  | x :: l, y :: r, z :: c => (ad (Nat.add_mul x y z) (dot_add l r c)).trans (Nat.add_add_add_comm _ _ _ _)
theorem dot_mul (k : Nat) : ∀ x c : List Nat, dot (mulL k x) c = k * dot x c
  | [], _ => rfl
  | _ :: _, [] => rfl
  | x :: l, z :: c => (ad (Nat.mul_assoc k x z) (dot_mul k l c)).trans (Nat.mul_add k _ _).symm
theorem dot_unit : ∀ (i : Nat) (c : List Nat), dot (unit i) c = at' c i
  | 0, [] => rfl
  | 0, z :: c => Nat.one_mul z
  | i + 1, [] => rfl
  | i + 1, z :: c => (ad (Nat.zero_mul z) (dot_unit i c)).trans (Nat.zero_add _)
theorem dot_l (c : List Nat) : ∀ e : E, dot e.l (1 :: c) = e.d c
  | .v i => dot_unit (i + 1) (1 :: c)
  | .n k => Nat.mul_one k
  | .a x y => (dot_add _ _ _).trans (ad (dot_l c x) (dot_l c y))
  | .m k x => (dot_mul _ _ _).trans (congrArg _ (dot_l c x))
noncomputable def leL : List Nat → List Nat → Bool
  | [], _ => true
  | x :: l, [] => Nat.beq x 0 && leL l []
  | x :: l, y :: r => Nat.ble x y && leL l r
theorem leL_dot : ∀ (x y c : List Nat), leL x y = true → dot x c ≤ dot y c
  | [], _, _, _ => Nat.zero_le _
  | _ :: _, [], [], _ => Nat.le_refl _
  | x :: l, [], z :: c, h => Nat.add_le_add (Nat.le_of_eq ((congrArg (· * z) (Nat.eq_of_beq_eq_true (Bool.and_eq_true_iff.mp h).1)).trans (Nat.zero_mul z))) (leL_dot l [] c (Bool.and_eq_true_iff.mp h).2)
  | _ :: _, _ :: _, [], _ => Nat.le_refl _
  | x :: l, y :: r, z :: c, h => Nat.add_le_add (Nat.mul_le_mul_right z (Nat.le_of_ble_eq_true (Bool.and_eq_true_iff.mp h).1)) (leL_dot l r c (Bool.and_eq_true_iff.mp h).2)
noncomputable def leaf : List Nat → List (E × E) → List Nat → List Nat → Bool
  | k :: ks, f :: fs, A, B => leaf ks fs (addL A (mulL k f.1.l)) (addL B (mulL k f.2.l))
  | _, _, A, B => leL (addL [1] B) A
noncomputable def Ok (c : List Nat) (fs : List (E × E)) : Prop := ∀ f ∈ fs, f.1.d c ≤ f.2.d c
theorem leaf_end {c A B : List Nat} (h : leL (addL [1] B) A = true) (q : dot A (1 :: c) ≤ dot B (1 :: c)) : False :=
  Nat.lt_irrefl _ (Nat.le_trans (Nat.le_of_eq ((Nat.add_comm _ 1).trans (dot_add [1] B (1 :: c)).symm)) (Nat.le_trans (leL_dot _ _ (1 :: c) h) q))
theorem pl (A : List Nat) (k : Nat) (e : E) (c : List Nat) : dot (addL A (mulL k e.l)) (1 :: c) = dot A (1 :: c) + k * e.d c :=
  (dot_add _ _ _).trans (congrArg _ ((dot_mul _ _ _).trans (congrArg _ (dot_l c e))))
theorem leaf_no (c : List Nat) : ∀ (ks : List Nat) (fs : List (E × E)) (A B : List Nat), leaf ks fs A B = true → Ok c fs → dot A (1 :: c) ≤ dot B (1 :: c) → False
  | [], _, _, _, h, _, q => leaf_end h q
  | _ :: _, [], _, _, h, _, q => leaf_end h q
  | k :: ks, f :: fs, A, B, h, o, q => leaf_no c ks fs _ _ h (fun g hg => o g (.tail _ hg)) (Nat.le_trans (Nat.le_of_eq (pl A k f.1 c)) (Nat.le_trans (Nat.add_le_add q (Nat.mul_le_mul_left k (o f (.head _)))) (Nat.le_of_eq (pl B k f.2 c).symm)))
noncomputable abbrev K := List (E × E) → T → Bool
noncomputable def both (f g : T → Bool) : T → Bool
  | .s x y => f x && g y
  | .l _ => false
noncomputable def P.go : P → Bool → K → K
  | .le x y, true, k, fs, t => k ((x, y) :: fs) t
  | .le x y, false, k, fs, t => k ((.a y (.n 1), x) :: fs) t
  | .lt x y, true, k, fs, t => k ((.a x (.n 1), y) :: fs) t
  | .lt x y, false, k, fs, t => k ((y, x) :: fs) t
  | .eq x y, true, k, fs, t => k ((x, y) :: (y, x) :: fs) t
  | .eq x y, false, k, fs, t => both (k ((.a x (.n 1), y) :: fs)) (k ((.a y (.n 1), x) :: fs)) t
  | .no p, b, k, fs, t => p.go (!b) k fs t
  | .an p q, true, k, fs, t => p.go true (q.go true k) fs t
  | .an p q, false, k, fs, t => both (p.go false k fs) (q.go false k fs) t
  | .or p q, true, k, fs, t => both (p.go true k fs) (q.go true k fs) t
  | .or p q, false, k, fs, t => p.go false (q.go false k) fs t
noncomputable def chk : List P → K
  | [], fs, .l ks => leaf ks fs [] []
  | [], _, .s _ _ => false
  | p :: ps, fs, t => p.go true (chk ps) fs t
noncomputable def Good (c : List Nat) (k : K) : Prop := ∀ fs t, k fs t = true → Ok c fs → False
noncomputable def P.b (c : List Nat) (p : P) : Bool → Prop
  | true => p.d c
  | false => ¬ p.d c
theorem both_no {f g : T → Bool} {t : T} (h : both f g t = true) : ∃ x y, f x = true ∧ g y = true := by
  cases t with
  | l ks => cases h
  | s x y => exact ⟨x, y, (Bool.and_eq_true _ _).mp h⟩
theorem ok_cons {c : List Nat} {x y : E} {fs : List (E × E)} (h : x.d c ≤ y.d c) (o : Ok c fs) : Ok c ((x, y) :: fs) := fun g hg => by
  cases hg with
  | head => exact h
  | tail _ q => exact o g q
theorem go_no (c : List Nat) : ∀ (p : P) (b : Bool) (k : K), (p.b c b → Good c k) → p.b c b → Good c (p.go b k)
  | .le x y, true, k, g, h, fs, t, e, o => g h _ _ e (ok_cons h o)
  | .le x y, false, k, g, h, fs, t, e, o => g h _ _ e (ok_cons (Nat.lt_of_not_le h) o)
  | .lt x y, true, k, g, h, fs, t, e, o => g h _ _ e (ok_cons h o)
  | .lt x y, false, k, g, h, fs, t, e, o => g h _ _ e (ok_cons (Nat.le_of_not_lt h) o)
  | .eq x y, true, k, g, h, fs, t, e, o => g h _ _ e (ok_cons (Nat.le_of_eq h) (ok_cons (Nat.le_of_eq (Eq.symm h)) o))
  | .eq x y, false, k, g, h, fs, t, e, o => by
    obtain ⟨u, v, e1, e2⟩ := both_no e
    rcases Nat.lt_or_gt_of_ne h with q | q
    · exact g h _ _ e1 (ok_cons q o)
    · exact g h _ _ e2 (ok_cons q o)
  | .no p, true, k, g, h, fs, t, e, o => go_no c p false k g h fs t e o
  | .no p, false, k, g, h, fs, t, e, o => go_no c p true k (fun q => g fun r => r q) (Classical.not_not.mp h) fs t e o
  | .an p q, true, k, g, h, fs, t, e, o => go_no c p true (q.go true k) (fun _ => go_no c q true k (fun _ => g h) h.2) h.1 fs t e o
  | .an p q, false, k, g, h, fs, t, e, o => by
    obtain ⟨u, v, e1, e2⟩ := both_no e
    by_cases hp : p.d c
    · exact go_no c q false k (fun _ => g h) (fun r => h ⟨hp, r⟩) fs v e2 o
    · exact go_no c p false k (fun _ => g h) hp fs u e1 o
  | .or p q, true, k, g, h, fs, t, e, o => by
    obtain ⟨u, v, e1, e2⟩ := both_no e
    rcases h with r | r
    · exact go_no c p true k (fun _ => g (.inl r)) r fs u e1 o
    · exact go_no c q true k (fun _ => g (.inr r)) r fs v e2 o
  | .or p q, false, k, g, h, fs, t, e, o => go_no c p false (q.go false k) (fun _ => go_no c q false k (fun _ => g h) (fun r => h (.inr r))) (fun r => h (.inl r)) fs t e o
theorem imp_of (c : List Nat) : ∀ (ps : List P) (fs : List (E × E)) (t : T), chk ps fs t = true → Ok c fs → Imp c ps
  | [], fs, .l ks, h, o => leaf_no c ks fs [] [] h o (Nat.le_refl _)
  | [], fs, .s _ _, h, _ => nomatch h
  | p :: ps, fs, t, h, o => fun q => Classical.byContradiction fun no =>
    go_no c p true (chk ps) (fun _ fs' t' e o' => no (imp_of c ps fs' t' e o')) q fs t h o
theorem sound (c : List Nat) (ps : List P) (t : T) (h : chk ps [] t = true) : Imp c ps :=
  imp_of c ps [] t h (fun _ hg => nomatch hg)
theorem sb (a b : Nat) : a - b = 0 ∧ a ≤ b ∨ a - b + b = a := (Nat.le_total a b).imp (fun h => ⟨Nat.sub_eq_zero_of_le h, h⟩) (fun h => Nat.sub_add_cancel h)
theorem mn (a b : Nat) : min a b = a ∧ a ≤ b ∨ min a b = b ∧ b ≤ a := (Nat.le_total a b).imp (fun h => ⟨Nat.min_eq_left h, h⟩) (fun h => ⟨Nat.min_eq_right h, h⟩)
theorem mx (a b : Nat) : max a b = a ∧ b ≤ a ∨ max a b = b ∧ a ≤ b := (Nat.le_total b a).imp (fun h => ⟨Nat.max_eq_left h, h⟩) (fun h => ⟨Nat.max_eq_right h, h⟩)
theorem d2 (a : Nat) : 2 * (a / 2) ≤ a ∧ a ≤ 2 * (a / 2) + 1 := ⟨Nat.mul_div_le a 2, Nat.le_of_lt_succ (Nat.lt_mul_div_succ a Nat.two_pos)⟩
theorem by_no {p : Prop} (h : ¬ p → False) : p := Classical.byContradiction h
noncomputable abbrev v0 : E := .v 0
noncomputable abbrev v1 : E := .v 1
noncomputable abbrev v2 : E := .v 2
noncomputable abbrev v3 : E := .v 3
noncomputable abbrev v4 : E := .v 4
noncomputable abbrev v5 : E := .v 5
noncomputable abbrev v6 : E := .v 6
noncomputable abbrev v7 : E := .v 7
noncomputable abbrev v8 : E := .v 8
noncomputable abbrev v9 : E := .v 9
noncomputable abbrev n0 : E := .n 0
noncomputable abbrev n1 : E := .n 1
theorem rr : true = true := rfl
theorem lt_i {a b : Nat} (h : (a : Int) < b) : a < b := Int.ofNat_lt.mp h
theorem eq_i {a b : Nat} (h : (a : Int) = b) : a = b := Int.ofNat.inj h
theorem nlt_i {a b : Nat} (h : ¬ (a : Int) < b) : ¬ a < b := fun q => h (Int.ofNat_lt.mpr q)
theorem i_le {a b : Nat} (h : a ≤ b) : (a : Int) ≤ b := Int.ofNat_le.mpr h
theorem i_lt {a b : Nat} (h : a < b) : (a : Int) < b := Int.ofNat_lt.mpr h
theorem i_eq {a b : Nat} (h : a = b) : (a : Int) = b := congrArg _ h
end Mine.Ln
end
section
namespace Mine.Ln
theorem o0 {x1 x2 x3 x4 x0 : Nat} (h0 : x1 + x2 < x3 ∧ x3 ≤ x1 + x4) (h1 : x3 ≤ x0) (h2 : x0 = x1 + x2) : False := sound [x1, x2, x3, x4, x0] [.an (.lt (.a v0 v1) v2) (.le v2 (.a v0 v3)), .le v2 v4, .eq v4 (.a v0 v1)] (.l [1,0,1,0,1]) rr h0 h1 h2
theorem o1 {x0 x1 x4 x3 x2 : Nat} (h0 : x0 + x1 < x4 ∧ x4 ≤ x0 + x3) (h1 : x4 ≤ x2) (h2 : x2 < x0 + (x3 + 1)) : x0 + x1 < x2 ∧ x2 ≤ x0 + x3 := by_no (sound [x0, x1, x4, x3, x2] [.an (.lt (.a v0 v1) v2) (.le v2 (.a v0 v3)), .le v2 v4, .lt v4 (.a v0 (.a v3 n1)), .no (.an (.lt (.a v0 v1) v4) (.le v4 (.a v0 v3)))] (.s (.l [1,0,1,0,1]) (.l [1,1])) rr h0 h1 h2)
theorem o2 {x0 x1 : Nat} (h0 : x0 < x1) : min (x0 + 1) x1 = x0 + 1 := by_no (sound [x0, x1, min (x0 + 1) x1] [.lt v0 v1, .or (.an (.eq v2 (.a v0 n1)) (.le (.a v0 n1) v1)) (.an (.eq v2 v1) (.le v1 (.a v0 n1))), .no (.eq v2 (.a v0 n1))] (.s (.s (.l [1,0,0,1]) (.l [1,0,1])) (.s (.l [1,0,0,1,1]) (.l [1,1,1]))) rr h0 (mn (x0 + 1) x1))
theorem o3 {x3 x2 x0 x1 : Nat} (h0 : x3 ≤ x2) (h1 : x0 < x1 + (x2 + 1)) (h2 : ¬(x1 + x3 < x0 ∧ x0 ≤ x1 + x2)) (h3 : ¬x0 = x1 + x3) : x0 < x1 + x2 := by_no (sound [x3, x2, x0, x1] [.le v0 v1, .lt v2 (.a v3 (.a v1 n1)), .no (.an (.lt (.a v3 v0) v2) (.le v2 (.a v3 v1))), .no (.eq v2 (.a v3 v0)), .no (.lt v2 (.a v3 v1))] (.s (.s (.l [1,1,0,0,1]) (.l [0,1,1])) (.s (.l [0,1,1,0,1]) (.l [0,0,1,1]))) rr h0 h1 h2 h3)
theorem o4 {x0 x3 x2 x1 : Nat} (h0 : x0 + x3 ≤ x2) (h1 : x1 ≤ x3) : x0 + x1 ≤ x2 := by_no (sound [x0, x3, x2, x1] [.le (.a v0 v1) v2, .le v3 v1, .no (.le (.a v0 v3) v2)] (.l [1,1,1]) rr h0 h1)
theorem o5 {x3 x2 x0 x1 : Nat} (h0 : x3 ≤ x2) : x0 + (x0 + x1) - 1 - x2 ≤ x0 + (x0 + x1) - 1 - x3 := by_no (sound [x3, x2, x0 + (x0 + x1) - 1 - x2, x0 + (x0 + x1) - 1, x0, x1, x0 + (x0 + x1) - 1 - x3] [.le v0 v1, .or (.an (.eq v3 n0) (.le (.a v4 (.a v4 v5)) n1)) (.eq (.a v3 n1) (.a v4 (.a v4 v5))), .or (.an (.eq v2 n0) (.le v3 v1)) (.eq (.a v2 v1) v3), .or (.an (.eq v6 n0) (.le v3 v0)) (.eq (.a v6 v0) v3), .no (.le v2 v6)] (.s (.s (.s (.l [1,0,0,1,0,1]) (.l [1,0,0,0,1])) (.s (.l [1,1,0,1,1,0,0,0,0,1]) (.l [1,0,1,1,0,0,0,0,1]))) (.s (.s (.l [1,0,0,1,0,1]) (.l [1,0,0,0,1])) (.s (.l [1,1,0,1,1,0,0,0,1]) (.l [1,0,1,1,0,0,0,1])))) rr h0 (sb (x0 + (x0 + x1)) 1) (sb (x0 + (x0 + x1) - 1) x2) (sb (x0 + (x0 + x1) - 1) x3))
theorem o6 {x0 x1 x2 : Nat} (h0 : x0 ≤ x1 + x2) (h1 : ¬x0 = x1 + x2) : x0 ≤ x1 + x2 - 1 := by_no (sound [x0, x1, x2, x1 + x2 - 1] [.le v0 (.a v1 v2), .no (.eq v0 (.a v1 v2)), .or (.an (.eq v3 n0) (.le (.a v1 v2) n1)) (.eq (.a v3 n1) (.a v1 v2)), .no (.le v0 v3)] (.s (.s (.l [1,1,0,1,1]) (.l [1,0,1,1])) (.s (.l [0,0,0,0,1,1]) (.l [0,0,0,1,1]))) rr h0 h1 (sb (x1 + x2) 1))
theorem o7 {x0 : Nat} (h0 : x0 < 0) : False := sound [x0] [.lt v0 n0] (.l [1]) rr h0
theorem o8 {x2 x0 x1 : Nat} (h0 : x2 ≤ x0) (h1 : x0 ≤ x1) (h2 : x1 < x2 + 1) : x0 = x1 := by_no (sound [x2, x0, x1] [.le v0 v1, .le v1 v2, .lt v2 (.a v0 n1), .no (.eq v1 v2)] (.s (.l [1,1,0,1]) (.l [1,0,1])) rr h0 h1 h2)
theorem o9 {x0 : Nat} : 1 ≤ x0 + 1 := by_no (sound [x0] [.no (.le n1 (.a v0 n1))] (.l [1]) rr)
theorem o10 {x1 x2 x0 : Nat} (h0 : x1 < x2) : x0 + x1 < x0 + x2 := by_no (sound [x1, x2, x0] [.lt v0 v1, .no (.lt (.a v2 v0) (.a v2 v1))] (.l [1,1]) rr h0)
theorem o11 {x0 x3 x2 x1 : Nat} (h0 : x0 + x3 ≤ x2) (h1 : x1 < x3) : x0 + x1 < x2 := by_no (sound [x0, x3, x2, x1] [.le (.a v0 v1) v2, .lt v3 v1, .no (.lt (.a v0 v3) v2)] (.l [1,1,1]) rr h0 h1)
theorem o12 {x0 x1 : Nat} (h0 : x0 < x1) : min x0 x1 = x0 := by_no (sound [x0, x1, min x0 x1] [.lt v0 v1, .or (.an (.eq v2 v0) (.le v0 v1)) (.an (.eq v2 v1) (.le v1 v0)), .no (.eq v2 v0)] (.s (.s (.l [1,0,0,1]) (.l [1,0,1])) (.s (.l [0,1,0,0,1]) (.l [0,1,0,0,1]))) rr h0 (mn x0 x1))
theorem o13 {x2 x0 x1 : Nat} (h0 : x2 < x0 + x1) : x0 ≤ x0 + (x0 + x1) - 1 - x2 := by_no (sound [x2, x0, x1, x0 + (x0 + x1) - 1 - x2, x0 + (x0 + x1) - 1] [.lt v0 (.a v1 v2), .or (.an (.eq v4 n0) (.le (.a v1 (.a v1 v2)) n1)) (.eq (.a v4 n1) (.a v1 (.a v1 v2))), .or (.an (.eq v3 n0) (.le v4 v0)) (.eq (.a v3 v0) v4), .no (.le v1 v3)] (.s (.s (.l [1,0,0,1,1,0,0,1]) (.l [1,0,1,1,0,1,1])) (.s (.l [1,1,0,1,0,1,1]) (.l [1,0,1,0,1,1]))) rr h0 (sb (x0 + (x0 + x1)) 1) (sb (x0 + (x0 + x1) - 1) x2))
theorem o14 {x2 x3 x1 x0 : Nat} (h0 : x2 ≤ x3) (h1 : ¬x1 ≥ x2) : x0 + (x1 + x2) / 2 < x0 + x3 := by_no (sound [x2, x3, x1, x0, (x1 + x2) / 2] [.le v0 v1, .no (.le v0 v2), .an (.le (.m 2 v4) (.a v2 v0)) (.le (.a v2 v0) (.a (.m 2 v4) n1)), .no (.lt (.a v3 v4) (.a v3 v1))] (.l [2,0,1,1,2]) rr h0 h1 (d2 (x1 + x2)))
theorem o15 {x0 x1 : Nat} (h0 : x0 ≤ x1) : x0 - 1 ≤ x1 - 1 := by_no (sound [x0, x1, x0 - 1, x1 - 1] [.le v0 v1, .or (.an (.eq v2 n0) (.le v0 n1)) (.eq (.a v2 n1) v0), .or (.an (.eq v3 n0) (.le v1 n1)) (.eq (.a v3 n1) v1), .no (.le v2 v3)] (.s (.s (.l [1,0,0,1,0,1]) (.l [1,0,0,0,1])) (.s (.l [1,1,0,1,1,0,1]) (.l [1,0,1,1,0,1]))) rr h0 (sb x0 1) (sb x1 1))
theorem o16 {x0 x3 x2 x1 : Nat} (h0 : x0 + x3 ≤ x2) (h1 : x1 < x3) : x0 + x1 - 1 < x2 := by_no (sound [x0, x3, x2, x1, x0 + x1 - 1] [.le (.a v0 v1) v2, .lt v3 v1, .or (.an (.eq v4 n0) (.le (.a v0 v3) n1)) (.eq (.a v4 n1) (.a v0 v3)), .no (.lt v4 v2)] (.s (.l [1,0,1,0,1,1]) (.l [1,1,0,1,1])) rr h0 h1 (sb (x0 + x1) 1))
theorem o17 {x0 x1 x2 : Nat} (h0 : x0 < x1 + x2) : x0 ≤ x1 + x2 - 1 := by_no (sound [x0, x1, x2, x1 + x2 - 1] [.lt v0 (.a v1 v2), .or (.an (.eq v3 n0) (.le (.a v1 v2) n1)) (.eq (.a v3 n1) (.a v1 v2)), .no (.le v0 v3)] (.s (.l [1,1,0,1,1]) (.l [1,0,1,1])) rr h0 (sb (x1 + x2) 1))
theorem o18 {x0 x1 : Nat} (h0 : x0 ≤ x1) : x0 + (x1 - x0) = x1 := by_no (sound [x0, x1, x1 - x0] [.le v0 v1, .or (.an (.eq v2 n0) (.le v1 v0)) (.eq (.a v2 v0) v1), .no (.eq (.a v0 v2) v1)] (.s (.s (.l [1,1,0,1]) (.l [1,0,1,0,1])) (.s (.l [1,0,1]) (.l [1,1]))) rr h0 (sb x1 x0))
theorem o19 {x0 x2 x3 x1 : Nat} (h0 : x0 ≤ x2) (h1 : x3 < x0 + x1) : x0 + (x0 + x1) - 1 - x2 < x0 + x1 := by_no (sound [x0, x2, x3, x1, x0 + (x0 + x1) - 1 - x2, x0 + (x0 + x1) - 1] [.le v0 v1, .lt v2 (.a v0 v3), .or (.an (.eq v5 n0) (.le (.a v0 (.a v0 v3)) n1)) (.eq (.a v5 n1) (.a v0 (.a v0 v3))), .or (.an (.eq v4 n0) (.le v5 v1)) (.eq (.a v4 v1) v5), .no (.lt v4 (.a v0 v3))] (.s (.s (.l [1,0,1,0,0,0,0,1]) (.l [1,1,0,0,1,0,1])) (.s (.l [1,0,1,0,0,0,1]) (.l [1,1,0,1,0,0,1]))) rr h0 h1 (sb (x0 + (x0 + x1)) 1) (sb (x0 + (x0 + x1) - 1) x2))
theorem o20 {x1 x3 x0 x2 : Nat} (h0 : x1 + x3 ≤ x0) (h1 : x0 < x1 + x2) : x0 - x1 < x2 := by_no (sound [x1, x3, x0, x2, x0 - x1] [.le (.a v0 v1) v2, .lt v2 (.a v0 v3), .or (.an (.eq v4 n0) (.le v2 v0)) (.eq (.a v4 v0) v2), .no (.lt v4 v3)] (.s (.l [1,0,1,0,1,1]) (.l [1,1,0,1])) rr h0 h1 (sb x0 x1))
theorem o21 {x2 x1 x0 : Nat} (h0 : 1 ≤ x2) (h1 : x2 ≤ x1) : x0 + x1 - 1 < x0 + x1 := by_no (sound [x2, x1, x0 + x1 - 1, x0] [.le n1 v0, .le v0 v1, .or (.an (.eq v2 n0) (.le (.a v3 v1) n1)) (.eq (.a v2 n1) (.a v3 v1)), .no (.lt v2 (.a v3 v1))] (.s (.l [1,0,1,0,1,1]) (.l [1,1])) rr h0 h1 (sb (x0 + x1) 1))
theorem o22 {x1 x0 x2 : Nat} (h0 : x1 - x0 ≤ x2 - max 0 x2) (h1 : x0 ≤ x1) : x0 = x1 := by_no (sound [x1 - x0, x1, x0, x2 - max 0 x2, x2, max 0 x2] [.le v0 v3, .le v2 v1, .or (.an (.eq v0 n0) (.le v1 v2)) (.eq (.a v0 v2) v1), .or (.an (.eq v5 n0) (.le v4 n0)) (.an (.eq v5 v4) (.le n0 v4)), .or (.an (.eq v3 n0) (.le v4 v5)) (.eq (.a v3 v5) v4), .no (.eq v2 v1)] (.s (.s (.s (.s (.l [1,0,0,0,0,0,0,1]) (.l [1,0,0,0,0,0,0,0,0,0,1])) (.s (.l [1,0,0,0,0,0,1]) (.l [1,0,0,0,0,0,0,0,0,1]))) (.s (.s (.l [1,0,0,0,0,0,0,1]) (.l [1,0,0,0,0,0,0,0,0,0,1])) (.s (.l [1,0,0,0,0,0,1]) (.l [1,0,0,0,0,0,0,0,0,1])))) (.s (.s (.s (.l [1,0,1,0,0,0,0,0,1,0,1]) (.l [1,0,0,0,0,0,0,0,0,1])) (.s (.l [1,1,0,1,0,1,0,1,0,1]) (.l [1,0,0,0,0,0,0,0,1]))) (.s (.s (.l [1,0,1,0,0,0,0,0,1,0,1]) (.l [1,0,0,0,0,0,0,0,0,1])) (.s (.l [1,1,0,0,0,1,0,1,0,1]) (.l [1,0,0,0,0,0,0,0,1]))))) rr h0 h1 (sb x1 x0) (mx 0 x2) (sb x2 (max 0 x2)))
theorem o24 {x0 x3 x1 x2 : Nat} (h0 : x0 ≤ x3) (h1 : x3 < x1 + x2) : x0 < x1 + x2 := by_no (sound [x0, x3, x1, x2] [.le v0 v1, .lt v1 (.a v2 v3), .no (.lt v0 (.a v2 v3))] (.l [1,1,1]) rr h0 h1)
theorem o25 {x0 x1 : Nat} : min (max (max x0 1) x1) x1 = x1 := by_no (sound [min (max (max x0 1) x1) x1, max (max x0 1) x1, max x0 1, x0, x1] [.or (.an (.eq v2 v3) (.le n1 v3)) (.an (.eq v2 n1) (.le v3 n1)), .or (.an (.eq v1 v2) (.le v4 v2)) (.an (.eq v1 v4) (.le v2 v4)), .or (.an (.eq v0 v1) (.le v1 v4)) (.an (.eq v0 v4) (.le v4 v1)), .no (.eq v0 v4)] (.s (.s (.s (.s (.l [1,0,0,1,1,0,1]) (.l [1,1,1])) (.s (.l [1,0,0,1]) (.l [1,0,1]))) (.s (.s (.l [1,0,0,1,0,0,1]) (.l [1,1,1])) (.s (.l [1,0,0,1]) (.l [1,0,1])))) (.s (.s (.s (.l [1,0,0,1,1,0,1]) (.l [1,1,1])) (.s (.l [1,0,0,1]) (.l [1,0,1]))) (.s (.s (.l [1,0,0,1,0,0,1]) (.l [1,1,1])) (.s (.l [1,0,0,1]) (.l [1,0,1]))))) rr (mx x0 1) (mx (max x0 1) x1) (mn (max (max x0 1) x1) x1))
theorem o26 {x0 x1 : Nat} (h0 : x0 ≤ x1) : max x0 x1 = x1 := by_no (sound [x0, x1, max x0 x1] [.le v0 v1, .or (.an (.eq v2 v0) (.le v1 v0)) (.an (.eq v2 v1) (.le v0 v1)), .no (.eq v2 v1)] (.s (.s (.l [1,1,0,1]) (.l [1,0,1,0,1])) (.s (.l [1,0,0,1]) (.l [1,0,1]))) rr h0 (mx x0 x1))
theorem o27 {x0 x1 x2 x3 : Nat} (h0 : x0 < x1 + min (max x2 1) x3) (h1 : ¬x2 = 0) : x0 < x1 + x2 := by_no (sound [x0, x1, min (max x2 1) x3, max x2 1, x2, x3] [.lt v0 (.a v1 v2), .no (.eq v4 n0), .or (.an (.eq v3 v4) (.le n1 v4)) (.an (.eq v3 n1) (.le v4 n1)), .or (.an (.eq v2 v3) (.le v3 v5)) (.an (.eq v2 v5) (.le v5 v3)), .no (.lt v0 (.a v1 v4))] (.s (.s (.s (.l [1,0,1,0,0,1,0,0,1]) (.l [1,1,1,0,0,1,0,0,1])) (.s (.l [0,0,0,0,0,0,0,1]) (.l [0,0,0,0,0,0,0,1]))) (.s (.s (.l [1,0,1,0,0,1,0,0,1]) (.l [1,1,1,0,0,1,0,0,1])) (.s (.l [1,0,1,0,0,1,0,1,1]) (.l [1,1,1,0,0,1,0,1,1])))) rr h0 h1 (mx x2 1) (mn (max x2 1) x3))
theorem o28 {x2 x0 x1 : Nat} (h0 : x2 < x0 + x1) : x0 + x1 - 1 < x0 + x1 := by_no (sound [x2, x0, x1, x0 + x1 - 1] [.lt v0 (.a v1 v2), .or (.an (.eq v3 n0) (.le (.a v1 v2) n1)) (.eq (.a v3 n1) (.a v1 v2)), .no (.lt v3 (.a v1 v2))] (.s (.l [1,0,1,0,1]) (.l [1,1])) rr h0 (sb (x0 + x1) 1))
theorem o29 {x0 x3 x2 x1 : Nat} (h0 : x0 + x3 ≤ x2) (h1 : x1 < x3) : x0 + x1 ≤ x2 := by_no (sound [x0, x3, x2, x1] [.le (.a v0 v1) v2, .lt v3 v1, .no (.le (.a v0 v3) v2)] (.l [1,1,1]) rr h0 h1)
theorem o31 {x0 x1 : Nat} (h0 : x0 ≥ x1) (h1 : x0 ≤ x1) : x0 = x1 := by_no (sound [x1, x0] [.le v0 v1, .le v1 v0, .no (.eq v1 v0)] (.s (.l [1,0,1]) (.l [1,1])) rr h0 h1)
theorem o32 {x1 x0 x2 : Nat} (h0 : x1 ≤ x0) (h1 : x0 ≤ x2) (h2 : x2 < x1 + (1 + 1)) (h3 : ¬x0 = x2) : x0 = x1 := by_no (sound [x1, x0, x2] [.le v0 v1, .le v1 v2, .lt v2 (.a v0 (.a n1 n1)), .no (.eq v1 v2), .no (.eq v1 v0)] (.s (.s (.l [1,0,0,0,1]) (.l [1,1,1])) (.s (.l [1,0,0,0,1]) (.l [0,1,0,1]))) rr h0 h1 h2 h3)
theorem o33 {x0 x1 x2 x3 : Nat} (h0 : x0 + (x1 + 1) - (x2 + 1 + 1) ≤ x3) : x0 + x1 - (x2 + 1) ≤ x3 := by_no (sound [x0 + (x1 + 1) - (x2 + 1 + 1), x0, x1, x2, x3, x0 + x1 - (x2 + 1)] [.le v0 v4, .or (.an (.eq v0 n0) (.le (.a v1 (.a v2 n1)) (.a (.a v3 n1) n1))) (.eq (.a v0 (.a (.a v3 n1) n1)) (.a v1 (.a v2 n1))), .or (.an (.eq v5 n0) (.le (.a v1 v2) (.a v3 n1))) (.eq (.a v5 (.a v3 n1)) (.a v1 v2)), .no (.le v5 v4)] (.s (.s (.l [1,0,1]) (.l [1,1,0,1])) (.s (.l [1,0,1]) (.l [1,1,0,0,1,1]))) rr h0 (sb (x0 + (x1 + 1)) (x2 + 1 + 1)) (sb (x0 + x1) (x2 + 1)))
theorem o34 {x3 x0 x1 x2 : Nat} (h0 : x3 < x0) (h1 : x0 + x1 - (x0 + x1 - (x0 + x2)) < x3 ∧ x3 ≤ x0 + x1) : False := sound [x3, x0, x0 + x1 - (x0 + x1 - (x0 + x2)), x1, x0 + x1 - (x0 + x2), x2] [.lt v0 v1, .an (.lt v2 v0) (.le v0 (.a v1 v3)), .or (.an (.eq v4 n0) (.le (.a v1 v3) (.a v1 v5))) (.eq (.a v4 (.a v1 v5)) (.a v1 v3)), .or (.an (.eq v2 n0) (.le (.a v1 v3) v4)) (.eq (.a v2 v4) (.a v1 v3))] (.s (.s (.l [1,0,1,0,1,0,1,1]) (.l [0,1,0,1,0,1,1])) (.s (.l [1,0,1,1,0,0,1,1]) (.l [0,1,1,0,0,1,1]))) rr h0 h1 (sb (x0 + x1) (x0 + x2)) (sb (x0 + x1) (x0 + x1 - (x0 + x2)))
theorem o35 {x1 x0 x2 : Nat} (h0 : x1 < x0) (h1 : x0 ≤ x1 ∧ x1 < x0 + x2) : False := sound [x1, x0, x2] [.lt v0 v1, .an (.le v1 v0) (.lt v0 (.a v1 v2))] (.l [0,1,1]) rr h0 h1
theorem o36 {x1 x0 : Nat} (h0 : x1 ≤ x0) (h1 : x0 < x1) : False := sound [x1, x0] [.le v0 v1, .lt v1 v0] (.l [1,1]) rr h0 h1
theorem o37 {x1 x2 x0 : Nat} (h0 : x1 ≤ x2) (h1 : ¬x0 ≥ x1) : (x0 + x1) / 2 ≤ x2 := by_no (sound [x1, x2, x0, (x0 + x1) / 2] [.le v0 v1, .no (.le v0 v2), .an (.le (.m 2 v3) (.a v2 v0)) (.le (.a v2 v0) (.a (.m 2 v3) n1)), .no (.le v3 v1)] (.l [2,0,1,1,2]) rr h0 h1 (d2 (x0 + x1)))
theorem o38 {x0 x1 x2 : Nat} (h0 : x0 ≤ x1 + x2) (h1 : ¬x0 = x1 + x2) : x0 < x1 + x2 := by_no (sound [x0, x1, x2] [.le v0 (.a v1 v2), .no (.eq v0 (.a v1 v2)), .no (.lt v0 (.a v1 v2))] (.s (.l [1,1]) (.l [0,1,1])) rr h0 h1)
theorem o40 {x0 x1 x2 : Nat} (h0 : x0 < x1 + (x2 + 1)) (h1 : ¬x0 < x1 + x2) : x0 = x1 + x2 := by_no (sound [x0, x1, x2] [.lt v0 (.a v1 (.a v2 n1)), .no (.lt v0 (.a v1 v2)), .no (.eq v0 (.a v1 v2))] (.s (.l [1,1]) (.l [1,0,1])) rr h0 h1)
theorem o41 {x1 x2 x0 : Nat} (h0 : x1 + x2 - (0 + 1) ≤ x0) (h1 : x0 < x1 + x2) : x0 = x1 + x2 - 1 := by_no (sound [x1 + x2 - (0 + 1), x1, x2, x0, x1 + x2 - 1] [.le v0 v3, .lt v3 (.a v1 v2), .or (.an (.eq v0 n0) (.le (.a v1 v2) (.a n0 n1))) (.eq (.a v0 (.a n0 n1)) (.a v1 v2)), .or (.an (.eq v4 n0) (.le (.a v1 v2) n1)) (.eq (.a v4 n1) (.a v1 v2)), .no (.eq v3 v4)] (.s (.s (.s (.l [1,0,1]) (.l [1,1,0,1,0,0,0,1])) (.s (.l [1,1,0,1]) (.l [1,0,1,0,0,0,1]))) (.s (.s (.l [1,0,1]) (.l [1,1,0,1,0,0,1])) (.s (.l [1,1,0,0,1,0,1]) (.l [1,0,1,0,0,1])))) rr h0 h1 (sb (x1 + x2) (0 + 1)) (sb (x1 + x2) 1))
theorem o42 {x1 x0 x2 : Nat} (h0 : x1 ≤ x0) (h1 : x0 < x1 + x2) : x0 - x1 < x2 := by_no (sound [x1, x0, x2, x0 - x1] [.le v0 v1, .lt v1 (.a v0 v2), .or (.an (.eq v3 n0) (.le v1 v0)) (.eq (.a v3 v0) v1), .no (.lt v3 v2)] (.s (.l [1,0,1,0,1,1]) (.l [1,1,0,1])) rr h0 h1 (sb x0 x1))
theorem o43 {x1 x0 : Nat} (h0 : 1 ≤ x1) (h1 : x1 ≤ x0) : 1 ≤ x0 := by_no (sound [x1, x0] [.le n1 v0, .le v0 v1, .no (.le n1 v1)] (.l [1,1,1]) rr h0 h1)
theorem o44 {x0 x2 x1 : Nat} (h0 : x0 ≤ x2) (h1 : x2 ≤ x1) : x0 ≤ x1 := by_no (sound [x0, x2, x1] [.le v0 v1, .le v1 v2, .no (.le v0 v2)] (.l [1,1,1]) rr h0 h1)
theorem o45 {x0 x1 x3 x2 : Nat} (h0 : x0 ≤ x1) (h1 : x1 ≤ x3) (h2 : x3 < x0 + x2) : x0 ≤ x1 ∧ x1 < x0 + x2 := by_no (sound [x0, x1, x3, x2] [.le v0 v1, .le v1 v2, .lt v2 (.a v0 v3), .no (.an (.le v0 v1) (.lt v1 (.a v0 v3)))] (.s (.l [1,0,0,1]) (.l [1,1,1])) rr h0 h1 h2)
theorem o46 {x2 x3 x0 x1 x4 : Nat} (h0 : x2 = 0) (h1 : x3 ≤ x0) (h2 : x0 ≤ x1) (h3 : x1 < x3 + min (max x2 1) x4) : x0 = x1 := by_no (sound [x2, x3, x0, x1, min (max x2 1) x4, max x2 1, x4] [.eq v0 n0, .le v1 v2, .le v2 v3, .lt v3 (.a v1 v4), .or (.an (.eq v5 v0) (.le n1 v0)) (.an (.eq v5 n1) (.le v0 n1)), .or (.an (.eq v4 v5) (.le v5 v6)) (.an (.eq v4 v6) (.le v6 v5)), .no (.eq v2 v3)] (.s (.s (.s (.l [0,0,0,0,1,0,0,0,0,0,1]) (.l [1,0,0,0,0,0,0,0,1])) (.s (.l [0,0,0,0,1,0,0,0,0,0,1]) (.l [1,0,0,0,0,0,0,0,1]))) (.s (.s (.l [1,0,1,0,0,1,0,1,0,1]) (.l [1,0,0,0,0,0,0,0,1])) (.s (.l [1,1,1,0,0,1,0,1,0,1]) (.l [1,0,0,0,0,0,0,0,1])))) rr h0 h1 h2 h3 (mx x2 1) (mn (max x2 1) x4))
theorem o47 {x0 x1 x2 : Nat} : x0 + x1 - (x0 + x2) ≤ x0 + x1 := by_no (sound [x0 + x1 - (x0 + x2), x0, x1, x2] [.or (.an (.eq v0 n0) (.le (.a v1 v2) (.a v1 v3))) (.eq (.a v0 (.a v1 v3)) (.a v1 v2)), .no (.le v0 (.a v1 v2))] (.s (.l [1,0,1]) (.l [1,1])) rr (sb (x0 + x1) (x0 + x2)))
theorem o48 {x0 : Nat} (h0 : 1 ≤ x0) (h1 : ¬x0 > 1) : x0 = 1 := by_no (sound [x0] [.le n1 v0, .no (.lt n1 v0), .no (.eq v0 n1)] (.s (.l [1,0,1]) (.l [1,1])) rr h0 h1)
theorem o49 {x1 x0 : Nat} (h0 : x1 + 1 ≤ x0) : 1 ≤ x0 := by_no (sound [x1, x0] [.le (.a v0 n1) v1, .no (.le n1 v1)] (.l [1,1]) rr h0)
theorem o50 {x0 x1 : Nat} (h0 : x0 + 1 ≤ x1) : x0 + 1 + 1 ≤ x1 + 1 := by_no (sound [x0, x1] [.le (.a v0 n1) v1, .no (.le (.a (.a v0 n1) n1) (.a v1 n1))] (.l [1,1]) rr h0)
theorem o51 {x0 : Nat} (h0 : 1 ≤ x0) (h1 : ¬1 = x0) : 1 + 1 ≤ x0 := by_no (sound [x0] [.le n1 v0, .no (.eq n1 v0), .no (.le (.a n1 n1) v0)] (.s (.l [1,1]) (.l [0,1,1])) rr h0 h1)
theorem o52 {x0 x1 x2 x3 : Nat} (h0 : x0 - x1 ≤ x2 - x3) : x0 - ((x1 + x0) / 2 + 1) ≤ x2 - (x3 + 1) := by_no (sound [x0 - x1, x0, x1, x2 - x3, x2, x3, x0 - ((x1 + x0) / 2 + 1), (x1 + x0) / 2, x2 - (x3 + 1)] [.le v0 v3, .or (.an (.eq v0 n0) (.le v1 v2)) (.eq (.a v0 v2) v1), .or (.an (.eq v3 n0) (.le v4 v5)) (.eq (.a v3 v5) v4), .an (.le (.m 2 v7) (.a v2 v1)) (.le (.a v2 v1) (.a (.m 2 v7) n1)), .or (.an (.eq v6 n0) (.le v1 (.a v7 n1))) (.eq (.a v6 (.a v7 n1)) v1), .or (.an (.eq v8 n0) (.le v4 (.a v5 n1))) (.eq (.a v8 (.a v5 n1)) v4), .no (.le v6 v8)] (.s (.s (.s (.s (.l [1,0,0,1,0,1]) (.l [1,0,0,0,1])) (.s (.l [2,0,0,2,2,0,1,0,0,0,0,1]) (.l [0,1,0,0,0,0,0,1]))) (.s (.s (.l [1,0,0,1,0,1]) (.l [1,0,0,0,1])) (.s (.l [2,0,0,2,2,0,1,0,0,0,1]) (.l [2,0,0,2,0,1,0,0,0,1])))) (.s (.s (.s (.l [1,0,0,1,0,1]) (.l [1,0,0,0,1])) (.s (.l [2,0,0,2,2,0,1,0,0,1,0,0,1,1]) (.l [0,1,0,0,0,0,0,1]))) (.s (.s (.l [1,0,0,1,0,1]) (.l [1,0,0,0,1])) (.s (.l [2,1,0,2,2,0,1,0,1,0,0,1,1]) (.l [2,0,1,2,0,1,0,1,0,0,1,1]))))) rr h0 (sb x0 x1) (sb x2 x3) (d2 (x1 + x0)) (sb x0 ((x1 + x0) / 2 + 1)) (sb x2 (x3 + 1)))
theorem o53 {x1 x2 x3 x0 : Nat} (h0 : x1 < (x2 + x3) / 2 + 1) : x0 + x1 ≤ x0 + (x2 + x3) / 2 := by_no (sound [x1, (x2 + x3) / 2, x2, x3, x0] [.lt v0 (.a v1 n1), .an (.le (.m 2 v1) (.a v2 v3)) (.le (.a v2 v3) (.a (.m 2 v1) n1)), .no (.le (.a v4 v0) (.a v4 v1))] (.l [1,0,0,1]) rr h0 (d2 (x2 + x3)))
theorem o54 {x1 x0 x2 x3 : Nat} (h0 : x1 - x0 ≤ x2 - x3) : (x0 + x1) / 2 - x0 ≤ x2 - (x3 + 1) := by_no (sound [x1 - x0, x1, x0, x2 - x3, x2, x3, (x0 + x1) / 2 - x0, (x0 + x1) / 2, x2 - (x3 + 1)] [.le v0 v3, .or (.an (.eq v0 n0) (.le v1 v2)) (.eq (.a v0 v2) v1), .or (.an (.eq v3 n0) (.le v4 v5)) (.eq (.a v3 v5) v4), .an (.le (.m 2 v7) (.a v2 v1)) (.le (.a v2 v1) (.a (.m 2 v7) n1)), .or (.an (.eq v6 n0) (.le v7 v2)) (.eq (.a v6 v2) v7), .or (.an (.eq v8 n0) (.le v4 (.a v5 n1))) (.eq (.a v8 (.a v5 n1)) v4), .no (.le v6 v8)] (.s (.s (.s (.s (.l [1,0,0,1,0,1]) (.l [1,0,0,0,1])) (.s (.l [2,0,0,2,2,0,0,1,0,0,0,1]) (.l [0,1,0,0,0,0,0,1]))) (.s (.s (.l [1,0,0,1,0,1]) (.l [1,0,0,0,1])) (.s (.l [2,0,0,2,2,0,0,1,0,0,1]) (.l [2,0,0,2,0,0,1,0,0,1])))) (.s (.s (.s (.l [1,0,0,1,0,1]) (.l [1,0,0,0,1])) (.s (.l [2,0,0,2,2,0,0,1,0,1,0,0,1,1]) (.l [0,1,0,0,0,0,0,1]))) (.s (.s (.l [1,0,0,1,0,1]) (.l [1,0,0,0,1])) (.s (.l [2,1,0,2,2,0,0,1,1,0,0,1,1]) (.l [2,0,1,2,0,0,1,1,0,0,1,1]))))) rr h0 (sb x1 x0) (sb x2 x3) (d2 (x0 + x1)) (sb ((x0 + x1) / 2) x0) (sb x2 (x3 + 1)))
theorem o55 {x4 x0 x1 x2 x3 : Nat} (h0 : x4 = x0 + x1) (h1 : x4 ≤ x2) (h2 : x2 < x0 + (x3 + 1)) (h3 : ¬x2 = x0 + x1) : x0 + x1 < x2 ∧ x2 ≤ x0 + x3 := by_no (sound [x4, x0, x1, x2, x3] [.eq v0 (.a v1 v2), .le v0 v3, .lt v3 (.a v1 (.a v4 n1)), .no (.eq v3 (.a v1 v2)), .no (.an (.lt (.a v1 v2) v3) (.le v3 (.a v1 v4)))] (.s (.s (.l [0,1,0,1,0,1]) (.l [1,0,1])) (.s (.l [1,1]) (.l [1,0,1]))) rr h0 h1 h2 h3)
theorem o56 {x0 : Nat} : x0 ≤ x0 := by_no (sound [x0] [.no (.le v0 v0)] (.l [1]) rr)
theorem o57 {x0 x1 x2 : Nat} (h0 : x0 < x1 + (x2 + 1)) (h1 : ¬x0 = x1 + x2) : x0 < x1 + x2 := by_no (sound [x0, x1, x2] [.lt v0 (.a v1 (.a v2 n1)), .no (.eq v0 (.a v1 v2)), .no (.lt v0 (.a v1 v2))] (.s (.l [1,1]) (.l [0,1,1])) rr h0 h1)
theorem o58 {x0 x1 x2 x3 : Nat} (h0 : x0 < x1) (h1 : x0 = x1 + x2 - (x1 + x2 - (x1 + x3))) : False := sound [x0, x1, x1 + x2 - (x1 + x2 - (x1 + x3)), x2, x1 + x2 - (x1 + x3), x3] [.lt v0 v1, .eq v0 v2, .or (.an (.eq v4 n0) (.le (.a v1 v3) (.a v1 v5))) (.eq (.a v4 (.a v1 v5)) (.a v1 v3)), .or (.an (.eq v2 n0) (.le (.a v1 v3) v4)) (.eq (.a v2 v4) (.a v1 v3))] (.s (.s (.l [1,0,0,0,1,0,0,0,1]) (.l [0,1,0,1,0,0,1,1])) (.s (.l [1,0,0,1,0,0,0,1]) (.l [0,1,1,0,0,1,1]))) rr h0 h1 (sb (x1 + x2) (x1 + x3)) (sb (x1 + x2) (x1 + x2 - (x1 + x3)))
theorem o59 {x2 x4 x0 x3 x1 : Nat} (h0 : x2 ≤ x4) (h1 : x0 + x4 < x3) (h2 : ¬x1 ≥ x2) : x0 + (x1 + x2) / 2 < x3 := by_no (sound [x2, x4, x0, x3, x1, (x1 + x2) / 2] [.le v0 v1, .lt (.a v2 v1) v3, .no (.le v0 v4), .an (.le (.m 2 v5) (.a v4 v0)) (.le (.a v4 v0) (.a (.m 2 v5) n1)), .no (.lt (.a v2 v5) v3)] (.l [2,0,1,1,2,2]) rr h0 h1 h2 (d2 (x1 + x2)))
theorem o60 {x0 x1 : Nat} (h0 : ¬x0 ≥ x1) : (x0 + x1) / 2 + 1 ≤ x1 := by_no (sound [x1, x0, (x0 + x1) / 2] [.no (.le v0 v1), .an (.le (.m 2 v2) (.a v1 v0)) (.le (.a v1 v0) (.a (.m 2 v2) n1)), .no (.le (.a v2 n1) v0)] (.l [2,0,1,1]) rr h0 (d2 (x0 + x1)))
theorem o61 {x2 x0 x1 : Nat} (h0 : x2 + x0 ≤ x1) : x0 ≤ x1 - x2 := by_no (sound [x2, x0, x1, x1 - x2] [.le (.a v0 v1) v2, .or (.an (.eq v3 n0) (.le v2 v0)) (.eq (.a v3 v0) v2), .no (.le v1 v3)] (.s (.l [1,1,0,1,1]) (.l [1,0,1,1])) rr h0 (sb x1 x2))
theorem o62 {x0 x1 : Nat} (h0 : x0 < x1) : x0 ≤ x1 := by_no (sound [x0, x1] [.lt v0 v1, .no (.le v0 v1)] (.l [1,1]) rr h0)
theorem o64 {x1 x3 x0 x2 : Nat} (h0 : x1 + x3 < x0 ∧ x0 ≤ x1 + x2) : x0 - 1 < x1 + x2 := by_no (sound [x1, x3, x0, x2, x0 - 1] [.an (.lt (.a v0 v1) v2) (.le v2 (.a v0 v3)), .or (.an (.eq v4 n0) (.le v2 n1)) (.eq (.a v4 n1) v2), .no (.lt v4 (.a v0 v3))] (.s (.l [1,0,1,0,1,1]) (.l [1,1,0,1])) rr h0 (sb x0 1))
theorem o65 {x0 x2 x1 : Nat} (h0 : x0 + x2 ≤ x1) : x0 + (x1 - x0) = x1 := by_no (sound [x0, x2, x1, x1 - x0] [.le (.a v0 v1) v2, .or (.an (.eq v3 n0) (.le v2 v0)) (.eq (.a v3 v0) v2), .no (.eq (.a v0 v3) v2)] (.s (.s (.l [1,1,0,1]) (.l [1,0,1,0,1])) (.s (.l [1,0,1]) (.l [1,1]))) rr h0 (sb x1 x0))
theorem o66 {x0 x3 x1 x2 : Nat} (h0 : x0 ≤ x3) (h1 : x3 ≤ x1) (h2 : x1 < x0 + x2) : x0 ≤ x1 ∧ x1 < x0 + x2 := by_no (sound [x0, x3, x1, x2] [.le v0 v1, .le v1 v2, .lt v2 (.a v0 v3), .no (.an (.le v0 v2) (.lt v2 (.a v0 v3)))] (.s (.l [1,0,1,1]) (.l [1,1])) rr h0 h1 h2)
theorem o67 {x2 x3 x1 x4 x0 : Nat} (h0 : x2 + x3 < x1 ∧ x1 ≤ x2 + x4) (h1 : x0 ≤ x1) (h2 : ¬(x2 + x3 < x0 ∧ x0 ≤ x2 + x4)) : x0 ≤ x1 - 1 := by_no (sound [x2, x3, x1, x4, x0, x1 - 1] [.an (.lt (.a v0 v1) v2) (.le v2 (.a v0 v3)), .le v4 v2, .no (.an (.lt (.a v0 v1) v4) (.le v4 (.a v0 v3))), .or (.an (.eq v5 n0) (.le v2 n1)) (.eq (.a v5 n1) v2), .no (.le v4 v5)] (.s (.s (.l [1,1,0,1,1,0,0,1]) (.l [1,0,1,1,0,0,1])) (.s (.l [0,0,0,0,1,1,1]) (.l [0,0,0,1,1,1]))) rr h0 h1 h2 (sb x1 1))
theorem o68 {x0 x1 : Nat} (h0 : ¬x0 ≥ x1) : x0 ≤ (x0 + x1) / 2 := by_no (sound [x1, x0, (x0 + x1) / 2] [.no (.le v0 v1), .an (.le (.m 2 v2) (.a v1 v0)) (.le (.a v1 v0) (.a (.m 2 v2) n1)), .no (.le v1 v2)] (.l [2,1,0,1]) rr h0 (d2 (x0 + x1)))
theorem o69 {x0 x1 : Nat} : x0 + (x1 + 1) - 1 = x0 + x1 := by_no (sound [x0 + (x1 + 1) - 1, x0, x1] [.or (.an (.eq v0 n0) (.le (.a v1 (.a v2 n1)) n1)) (.eq (.a v0 n1) (.a v1 (.a v2 n1))), .no (.eq v0 (.a v1 v2))] (.s (.s (.l [1,1,0,1]) (.l [1,0,1])) (.s (.l [1,0,1]) (.l [1,1]))) rr (sb (x0 + (x1 + 1)) 1))
theorem o70 {x0 x2 x1 x3 : Nat} (h0 : x0 + x2 < x1 ∧ x1 ≤ x0 + x3) : x0 ≤ x1 - 1 := by_no (sound [x0, x2, x1, x3, x1 - 1] [.an (.lt (.a v0 v1) v2) (.le v2 (.a v0 v3)), .or (.an (.eq v4 n0) (.le v2 n1)) (.eq (.a v4 n1) v2), .no (.le v0 v4)] (.s (.l [1,1,0,1,0,1]) (.l [1,0,1,0,1])) rr h0 (sb x1 1))
theorem o71 {x3 x1 x2 x0 : Nat} (h0 : x3 = x1 + x2) (h1 : x0 ≤ x3) (h2 : ¬x0 = x1 + x2) : x0 < x1 + x2 := by_no (sound [x3, x1, x2, x0] [.eq v0 (.a v1 v2), .le v3 v0, .no (.eq v3 (.a v1 v2)), .no (.lt v3 (.a v1 v2))] (.s (.l [1,1]) (.l [0,1,1,1])) rr h0 h1 h2)
theorem o72 {x0 x1 x2 x3 : Nat} (h0 : x0 + x1 < x2 ∧ x2 ≤ x0 + x3) : x0 + x1 ≤ x2 - 1 := by_no (sound [x0, x1, x2, x3, x2 - 1] [.an (.lt (.a v0 v1) v2) (.le v2 (.a v0 v3)), .or (.an (.eq v4 n0) (.le v2 n1)) (.eq (.a v4 n1) v2), .no (.le (.a v0 v1) v4)] (.s (.l [1,1,0,1,0,1]) (.l [1,0,1,0,1])) rr h0 (sb x2 1))
theorem o73 {x1 x2 x3 x0 : Nat} (h0 : (x1 + x2) / 2 ≤ x3) : x0 + (x1 + x2) / 2 ≤ x0 + x3 := by_no (sound [(x1 + x2) / 2, x1, x2, x3, x0] [.le v0 v3, .an (.le (.m 2 v0) (.a v1 v2)) (.le (.a v1 v2) (.a (.m 2 v0) n1)), .no (.le (.a v4 v0) (.a v4 v3))] (.l [1,0,0,1]) rr h0 (d2 (x1 + x2)))
theorem o74 {x1 x0 x3 x2 : Nat} (h0 : x1 > 1) (h1 : x0 + x3 ≤ x2) (h2 : x1 ≤ x3) : x0 + x1 - 1 < x2 := by_no (sound [x1, x0, x3, x2, x0 + x1 - 1] [.lt n1 v0, .le (.a v1 v2) v3, .le v0 v2, .or (.an (.eq v4 n0) (.le (.a v1 v0) n1)) (.eq (.a v4 n1) (.a v1 v0)), .no (.lt v4 v3)] (.s (.l [0,1,0,0,0,0,1]) (.l [1,1,0,1,1])) rr h0 h1 h2 (sb (x0 + x1) 1))
theorem o75 {x0 : Nat} : 0 ≤ x0 := by_no (sound [x0] [.no (.le n0 v0)] (.l [1]) rr)
theorem o76 {x0 x2 x1 : Nat} (h0 : x0 + x2 ≤ x1) (h1 : 1 ≤ x2) : x0 < x1 := by_no (sound [x0, x2, x1] [.le (.a v0 v1) v2, .le n1 v1, .no (.lt v0 v2)] (.l [1,1,1]) rr h0 h1)
theorem o77 {x2 x1 x0 : Nat} (h0 : x2 = x1) (h1 : x2 ≤ x0) (h2 : x0 < x1 + (1 + 1)) (h3 : ¬x2 = x0) : x0 = x1 + 1 := by_no (sound [x2, x1, x0] [.eq v0 v1, .le v0 v2, .lt v2 (.a v1 (.a n1 n1)), .no (.eq v0 v2), .no (.eq v2 (.a v1 n1))] (.s (.s (.l [1,1,0,0,0,1]) (.l [1,0,1])) (.s (.l [0,1,0,1]) (.l [1,0,1]))) rr h0 h1 h2 h3)
theorem o78 {x2 x1 x0 : Nat} (h0 : x2 ≤ x1) : x0 + x1 - (x0 + x1 - (x0 + x2)) = x0 + x2 := by_no (sound [x2, x1, x0 + x1 - (x0 + x1 - (x0 + x2)), x0, x0 + x1 - (x0 + x2)] [.le v0 v1, .or (.an (.eq v4 n0) (.le (.a v3 v1) (.a v3 v0))) (.eq (.a v4 (.a v3 v0)) (.a v3 v1)), .or (.an (.eq v2 n0) (.le (.a v3 v1) v4)) (.eq (.a v2 v4) (.a v3 v1)), .no (.eq v2 (.a v3 v0))] (.s (.s (.s (.l [1,1,0,1,0,1,0,1]) (.l [1,0,1])) (.s (.l [1,0,1,0,1,0,1]) (.l [1,1,0,1,0,1]))) (.s (.s (.l [1,1,0,1,1]) (.l [1,0,1])) (.s (.l [1,0,1,1]) (.l [1,1,0,0,1])))) rr h0 (sb (x0 + x1) (x0 + x2)) (sb (x0 + x1) (x0 + x1 - (x0 + x2))))
theorem o79 {x0 x1 : Nat} : x0 ≤ x0 + x1 := by_no (sound [x0, x1] [.no (.le v0 (.a v0 v1))] (.l [1]) rr)
theorem o80 {x0 x1 : Nat} (h0 : x0 ≤ x1) (h1 : ¬x0 = x1) : x0 + 1 ≤ x1 := by_no (sound [x0, x1] [.le v0 v1, .no (.eq v0 v1), .no (.le (.a v0 n1) v1)] (.s (.l [1,1]) (.l [0,1,1])) rr h0 h1)
theorem o81 {x0 x1 x3 x2 : Nat} (h0 : x0 + min x1 (x3 - x0) ≤ x2) (h1 : x2 < x3) : x0 + x1 ≤ x2 := by_no (sound [x0, min x1 (x3 - x0), x1, x3 - x0, x3, x2] [.le (.a v0 v1) v5, .lt v5 v4, .or (.an (.eq v3 n0) (.le v4 v0)) (.eq (.a v3 v0) v4), .or (.an (.eq v1 v2) (.le v2 v3)) (.an (.eq v1 v3) (.le v3 v2)), .no (.le (.a v0 v2) v5)] (.s (.s (.l [1,0,0,1,0,0,0,0,1]) (.l [0,0,0,0,1,0,0,1,1])) (.s (.l [1,0,0,1,0,0,0,1]) (.l [0,0,0,1,0,1,1,1]))) rr h0 h1 (sb x3 x0) (mn x1 (x3 - x0)))
theorem o82 {x0 x1 : Nat} (h0 : x0 + 1 ≤ x1) : x0 + 1 + 1 ≤ 2 * x1 + 1 := by_no (sound [x0, x1] [.le (.a v0 n1) v1, .no (.le (.a (.a v0 n1) n1) (.a (.m 2 v1) n1))] (.l [1,2]) rr h0)
theorem o83 {x2 x0 x1 : Nat} (h0 : x2 < x0 + 1 - min x1 (x0 + 1)) (h1 : x0 + 1 ≤ x1) : False := sound [x2, x0 + 1 - min x1 (x0 + 1), x0, min x1 (x0 + 1), x1] [.lt v0 v1, .le (.a v2 n1) v4, .or (.an (.eq v3 v4) (.le v4 (.a v2 n1))) (.an (.eq v3 (.a v2 n1)) (.le (.a v2 n1) v4)), .or (.an (.eq v1 n0) (.le (.a v2 n1) v3)) (.eq (.a v1 v3) (.a v2 n1))] (.s (.s (.l [0,1,0,0,0,0,0,1]) (.l [1,0,0,0,1,1,1])) (.s (.l [0,1,0,0,0,0,0,1]) (.l [1,0,0,0,1,0,1]))) rr h0 h1 (mn x1 (x0 + 1)) (sb (x0 + 1) (min x1 (x0 + 1)))
theorem o84 {x0 x4 x3 x1 x2 : Nat} (h0 : x0 + x4 ≤ x3) (h1 : x1 < x4) : x0 + (x1 - x2) < x3 := by_no (sound [x0, x4, x3, x1, x1 - x2, x2] [.le (.a v0 v1) v2, .lt v3 v1, .or (.an (.eq v4 n0) (.le v3 v5)) (.eq (.a v4 v5) v3), .no (.lt (.a v0 v4) v2)] (.s (.l [1,0,1,0,1,1]) (.l [1,1,0,1,1])) rr h0 h1 (sb x1 x2))
theorem o85 {x0 : Nat} : x0 < 2 * x0 + 1 := by_no (sound [x0] [.no (.lt v0 (.a (.m 2 v0) n1))] (.l [1]) rr)
theorem o86 {x0 x4 x3 x2 x1 : Nat} (h0 : x0 + x4 ≤ x3) (h1 : x2 ≤ x4) (h2 : ¬x1 ≥ x2) : x0 + (x1 + (x2 - x1) / 2) < x3 := by_no (sound [x0, x4, x3, x2, x1, (x2 - x1) / 2, x2 - x1] [.le (.a v0 v1) v2, .le v3 v1, .no (.le v3 v4), .or (.an (.eq v6 n0) (.le v3 v4)) (.eq (.a v6 v4) v3), .an (.le (.m 2 v5) v6) (.le v6 (.a (.m 2 v5) n1)), .no (.lt (.a v0 (.a v4 v5)) v2)] (.s (.l [0,0,0,1,0,0,1]) (.l [2,0,1,1,0,1,2,2])) rr h0 h1 h2 (sb x2 x1) (d2 (x2 - x1)))
theorem o87 {x0 x2 x1 : Nat} (h0 : x0 < x2) : x0 + min x1 (x2 - x0) ≤ x2 := by_no (sound [x0, x2, min x1 (x2 - x0), x1, x2 - x0] [.lt v0 v1, .or (.an (.eq v4 n0) (.le v1 v0)) (.eq (.a v4 v0) v1), .or (.an (.eq v2 v3) (.le v3 v4)) (.an (.eq v2 v4) (.le v4 v3)), .no (.le (.a v0 v2) v1)] (.s (.s (.l [0,0,0,0,1,0,0,1]) (.l [0,0,0,0,1,0,0,1])) (.s (.l [1,1,1,0,1]) (.l [1,0,1,0,1]))) rr h0 (sb x2 x0) (mn x1 (x2 - x0)))
theorem o88 {x0 x1 x2 x3 : Nat} (h0 : x0 - x1 ≤ x2 - x3) : x0 - (x1 + (x0 - x1) / 2 + 1) ≤ x2 - (x3 + 1) := by_no (sound [x0 - x1, x0, x1, x2 - x3, x2, x3, x0 - (x1 + (x0 - x1) / 2 + 1), (x0 - x1) / 2, x2 - (x3 + 1)] [.le v0 v3, .or (.an (.eq v0 n0) (.le v1 v2)) (.eq (.a v0 v2) v1), .or (.an (.eq v3 n0) (.le v4 v5)) (.eq (.a v3 v5) v4), .an (.le (.m 2 v7) v0) (.le v0 (.a (.m 2 v7) n1)), .or (.an (.eq v6 n0) (.le v1 (.a (.a v2 v7) n1))) (.eq (.a v6 (.a (.a v2 v7) n1)) v1), .or (.an (.eq v8 n0) (.le v4 (.a v5 n1))) (.eq (.a v8 (.a v5 n1)) v4), .no (.le v6 v8)] (.s (.s (.s (.s (.l [1,0,0,1,0,1]) (.l [1,0,0,0,1])) (.s (.l [1,0,0,1,1,0,0,0,0,0,0,1]) (.l [0,1,0,0,0,0,0,1]))) (.s (.s (.l [1,0,0,1,0,1]) (.l [1,0,0,0,1])) (.s (.l [1,0,0,1,1,0,0,0,0,0,1]) (.l [1,0,0,1,0,0,0,0,0,1])))) (.s (.s (.s (.l [1,0,0,1,0,1]) (.l [1,0,0,0,1])) (.s (.l [2,0,0,2,2,0,1,0,0,1,0,0,2,1]) (.l [0,1,0,0,0,0,0,1]))) (.s (.s (.l [1,0,0,1,0,1]) (.l [1,0,0,0,1])) (.s (.l [2,1,0,2,2,0,1,0,1,0,0,2,1]) (.l [2,0,1,2,0,1,0,1,0,0,2,1]))))) rr h0 (sb x0 x1) (sb x2 x3) (d2 (x0 - x1)) (sb x0 (x1 + (x0 - x1) / 2 + 1)) (sb x2 (x3 + 1)))
theorem o89 {x1 x2 x0 : Nat} (h0 : x1 ≤ x2) (h1 : ¬x0 ≥ x1) : x0 + (x1 - x0) / 2 < x2 := by_no (sound [x1, x2, x0, (x1 - x0) / 2, x1 - x0] [.le v0 v1, .no (.le v0 v2), .or (.an (.eq v4 n0) (.le v0 v2)) (.eq (.a v4 v2) v0), .an (.le (.m 2 v3) v4) (.le v4 (.a (.m 2 v3) n1)), .no (.lt (.a v2 v3) v1)] (.s (.l [0,0,0,1,0,0,1]) (.l [2,0,1,1,0,1,2])) rr h0 h1 (sb x1 x0) (d2 (x1 - x0)))
theorem o90 {x1 x2 x0 x3 : Nat} (h0 : x1 + min x2 (x0 - x1) ≤ x3) (h1 : x3 < x0) (h2 : x0 - x1 ≤ x2) : False := sound [x1, min x2 (x0 - x1), x2, x0 - x1, x0, x3] [.le (.a v0 v1) v5, .lt v5 v4, .le v3 v2, .or (.an (.eq v3 n0) (.le v4 v0)) (.eq (.a v3 v0) v4), .or (.an (.eq v1 v2) (.le v2 v3)) (.an (.eq v1 v3) (.le v3 v2))] (.s (.s (.l [0,0,0,1,0,0,0,1,1]) (.l [0,0,0,1,0,0,0,1,1])) (.s (.l [0,0,1,0,1,1,1,1]) (.l [0,0,1,0,1,0,1,1]))) rr h0 h1 h2 (sb x0 x1) (mn x2 (x0 - x1))
theorem o91 {x0 x4 x3 x2 x1 : Nat} (h0 : x0 + x4 ≤ x3) (h1 : ¬x2 ≥ x4 - x1) : x0 + (x1 + x2) < x3 := by_no (sound [x0, x4, x3, x4 - x1, x1, x2] [.le (.a v0 v1) v2, .no (.le v3 v5), .or (.an (.eq v3 n0) (.le v1 v4)) (.eq (.a v3 v4) v1), .no (.lt (.a v0 (.a v4 v5)) v2)] (.s (.l [0,0,1,0,1]) (.l [1,1,0,1,1])) rr h0 h1 (sb x4 x1))
theorem o92 {x1 x2 x0 : Nat} (h0 : x1 ≤ x2) (h1 : ¬x0 ≥ x1) : x0 + (x1 - x0) / 2 ≤ x2 := by_no (sound [x1, x2, x0, (x1 - x0) / 2, x1 - x0] [.le v0 v1, .no (.le v0 v2), .or (.an (.eq v4 n0) (.le v0 v2)) (.eq (.a v4 v2) v0), .an (.le (.m 2 v3) v4) (.le v4 (.a (.m 2 v3) n1)), .no (.le (.a v2 v3) v1)] (.s (.l [0,0,0,1,0,0,1]) (.l [2,0,1,1,0,1,2])) rr h0 h1 (sb x1 x0) (d2 (x1 - x0)))
theorem o93 {x1 x0 x2 x3 : Nat} (h0 : x1 - x0 ≤ x2 - x3) : x0 + (x1 - x0) / 2 - x0 ≤ x2 - (x3 + 1) := by_no (sound [x1 - x0, x1, x0, x2 - x3, x2, x3, x0 + (x1 - x0) / 2 - x0, (x1 - x0) / 2, x2 - (x3 + 1)] [.le v0 v3, .or (.an (.eq v0 n0) (.le v1 v2)) (.eq (.a v0 v2) v1), .or (.an (.eq v3 n0) (.le v4 v5)) (.eq (.a v3 v5) v4), .an (.le (.m 2 v7) v0) (.le v0 (.a (.m 2 v7) n1)), .or (.an (.eq v6 n0) (.le (.a v2 v7) v2)) (.eq (.a v6 v2) (.a v2 v7)), .or (.an (.eq v8 n0) (.le v4 (.a v5 n1))) (.eq (.a v8 (.a v5 n1)) v4), .no (.le v6 v8)] (.s (.s (.s (.s (.l [1,0,0,1,0,1]) (.l [1,0,0,0,1])) (.s (.l [2,0,0,2,2,0,0,1,0,0,0,0,1]) (.l [0,1,0,0,0,0,0,1]))) (.s (.s (.l [1,0,0,1,0,1]) (.l [1,0,0,0,1])) (.s (.l [2,0,0,2,2,0,0,1,0,0,0,1]) (.l [2,0,0,2,0,0,1,0,0,0,1])))) (.s (.s (.s (.l [1,0,0,1,0,1]) (.l [1,0,0,0,1])) (.s (.l [2,0,0,2,2,0,0,1,0,1,0,0,0,1]) (.l [0,1,0,0,0,0,0,1]))) (.s (.s (.l [1,0,0,1,0,1]) (.l [1,0,0,0,1])) (.s (.l [2,1,0,2,2,0,0,1,1,0,0,0,1]) (.l [2,0,1,2,0,0,1,1,0,0,0,1]))))) rr h0 (sb x1 x0) (sb x2 x3) (d2 (x1 - x0)) (sb (x0 + (x1 - x0) / 2) x0) (sb x2 (x3 + 1)))
theorem o94 {x0 x1 : Nat} (h0 : ¬x0 ≥ x1 + 1) : x0 ≤ x1 := by_no (sound [x1, x0] [.no (.le (.a v0 n1) v1), .no (.le v1 v0)] (.l [1,1]) rr h0)
theorem o95 {x1 x2 x0 : Nat} (h0 : ¬x1 ≥ x2 - x0) : x0 + x1 < x2 := by_no (sound [x2 - x0, x2, x0, x1] [.no (.le v0 v3), .or (.an (.eq v0 n0) (.le v1 v2)) (.eq (.a v0 v2) v1), .no (.lt (.a v2 v3) v1)] (.s (.l [0,0,1,0,1]) (.l [1,1,0,1])) rr h0 (sb x2 x0))
theorem o96 {x0 x1 x2 : Nat} (h0 : x0 < x1 + 1 - min x2 (x1 + 1)) : x0 ≤ x1 - x2 := by_no (sound [x0, x1 + 1 - min x2 (x1 + 1), x1, min x2 (x1 + 1), x2, x1 - x2] [.lt v0 v1, .or (.an (.eq v3 v4) (.le v4 (.a v2 n1))) (.an (.eq v3 (.a v2 n1)) (.le (.a v2 n1) v4)), .or (.an (.eq v1 n0) (.le (.a v2 n1) v3)) (.eq (.a v1 v3) (.a v2 n1)), .or (.an (.eq v5 n0) (.le v2 v4)) (.eq (.a v5 v4) v2), .no (.le v0 v5)] (.s (.s (.s (.l [1,0,0,1,0,1,0,0,0,0,1]) (.l [0,0,0,0,1,0,0,0,0,1])) (.s (.l [1,1,0,1,1,0,0,0,1,1]) (.l [1,0,1,1,0,0,0,1,1]))) (.s (.s (.l [1,0,0,1,0,1,0,0,0,0,1]) (.l [0,0,0,0,1,0,0,0,0,1])) (.s (.l [1,0,0,1,1,0,0,0,1,1]) (.l [0,0,0,1,0,0,0,1,1])))) rr h0 (mn x2 (x1 + 1)) (sb (x1 + 1) (min x2 (x1 + 1))) (sb x1 x2))
theorem o97 {x2 x1 x0 : Nat} (h0 : x2 < x1) : x0 + 1 - min x1 (x0 + 1) ≤ x0 - x2 := by_no (sound [x2, x1, x0 + 1 - min x1 (x0 + 1), x0, min x1 (x0 + 1), x0 - x2] [.lt v0 v1, .or (.an (.eq v4 v1) (.le v1 (.a v3 n1))) (.an (.eq v4 (.a v3 n1)) (.le (.a v3 n1) v1)), .or (.an (.eq v2 n0) (.le (.a v3 n1) v4)) (.eq (.a v2 v4) (.a v3 n1)), .or (.an (.eq v5 n0) (.le v3 v0)) (.eq (.a v5 v0) v3), .no (.le v2 v5)] (.s (.s (.s (.l [1,0,0,1,0,1]) (.l [1,0,0,0,1])) (.s (.l [1,1,0,1,1,0,0,0,1,1]) (.l [1,0,1,1,0,0,0,1,1]))) (.s (.s (.l [1,0,0,1,0,1]) (.l [1,0,0,0,1])) (.s (.l [1,0,0,1,1,0,0,0,1]) (.l [1,0,0,1,0,0,0,1])))) rr h0 (mn x1 (x0 + 1)) (sb (x0 + 1) (min x1 (x0 + 1))) (sb x0 x2))
theorem o98 : 0 + 1 ≤ 1 := by decide
theorem o99 {x0 x2 x1 : Nat} (h0 : max 0 x0 + 1 ≤ x2) : x0 - x1 ≤ x2 := by_no (sound [max 0 x0, x0, x2, x0 - x1, x1] [.le (.a v0 n1) v2, .or (.an (.eq v0 n0) (.le v1 n0)) (.an (.eq v0 v1) (.le n0 v1)), .or (.an (.eq v3 n0) (.le v1 v4)) (.eq (.a v3 v4) v1), .no (.le v3 v2)] (.s (.s (.l [1,0,1,0,0,0,1,1]) (.l [1,1,0,1,0,1,1])) (.s (.l [1,0,1]) (.l [1,1,0,0,0,1,1]))) rr h0 (mx 0 x0) (sb x0 x1))
theorem o100 {x2 x1 x0 : Nat} (h0 : max 0 x2 + 1 ≤ x1) (h1 : x0 < x2) : x0 + 1 ≤ x1 := by_no (sound [max 0 x2, x2, x1, x0] [.le (.a v0 n1) v2, .lt v3 v1, .or (.an (.eq v0 n0) (.le v1 n0)) (.an (.eq v0 v1) (.le n0 v1)), .no (.le (.a v3 n1) v2)] (.s (.l [0,1,0,0,1]) (.l [1,0,0,1,1,1])) rr h0 h1 (mx 0 x2))
theorem o101 {x0 x2 x1 : Nat} (h0 : x0 < x2) : x0 - x1 ≤ x2 := by_no (sound [x0, x2, x0 - x1, x1] [.lt v0 v1, .or (.an (.eq v2 n0) (.le v0 v3)) (.eq (.a v2 v3) v0), .no (.le v2 v1)] (.s (.l [1,0,1]) (.l [1,1,0,1])) rr h0 (sb x0 x1))
theorem o102 {x1 x2 x0 : Nat} (h0 : x1 ≤ x2) : x0 + x1 ≤ x0 + x2 := by_no (sound [x1, x2, x0] [.le v0 v1, .no (.le (.a v2 v0) (.a v2 v1))] (.l [1,1]) rr h0)
theorem o103 {x0 x2 x1 : Nat} (h0 : x0 ≤ x2) : x0 - x1 ≤ x2 - 0 := by_no (sound [x0, x2, x0 - x1, x1, x2 - 0] [.le v0 v1, .or (.an (.eq v2 n0) (.le v0 v3)) (.eq (.a v2 v3) v0), .or (.an (.eq v4 n0) (.le v1 n0)) (.eq (.a v4 n0) v1), .no (.le v2 v4)] (.s (.s (.l [1,0,0,1,0,1]) (.l [1,0,0,0,1])) (.s (.l [1,1,0,1,1,0,1]) (.l [1,0,1,1,0,1]))) rr h0 (sb x0 x1) (sb x2 0))
theorem o104 : 0 < 1 := by decide
theorem o105 {x0 x2 x1 : Nat} (h0 : x0 < x2) : x0 - x1 < x2 := by_no (sound [x0, x2, x0 - x1, x1] [.lt v0 v1, .or (.an (.eq v2 n0) (.le v0 v3)) (.eq (.a v2 v3) v0), .no (.lt v2 v1)] (.s (.l [1,0,1,0,1]) (.l [1,1,0,1])) rr h0 (sb x0 x1))
theorem o107 {x0 x1 : Nat} (h0 : ¬x0 ≥ x1) : x0 + (x1 - x0) / 2 + 1 ≤ x1 := by_no (sound [x1, x0, (x1 - x0) / 2, x1 - x0] [.no (.le v0 v1), .or (.an (.eq v3 n0) (.le v0 v1)) (.eq (.a v3 v1) v0), .an (.le (.m 2 v2) v3) (.le v3 (.a (.m 2 v2) n1)), .no (.le (.a (.a v1 v2) n1) v0)] (.s (.l [0,0,0,1,0,0,1]) (.l [2,0,1,1,0,1])) rr h0 (sb x1 x0) (d2 (x1 - x0)))
theorem o108 {x0 x1 x3 x2 : Nat} (h0 : x0 + x1 < x3) (h1 : x1 < x2) : x0 + x1 + 1 ≤ x0 + min x2 (x3 - x0) := by_no (sound [x0, x1, x3, x2, min x2 (x3 - x0), x3 - x0] [.lt (.a v0 v1) v2, .lt v1 v3, .or (.an (.eq v5 n0) (.le v2 v0)) (.eq (.a v5 v0) v2), .or (.an (.eq v4 v3) (.le v3 v5)) (.an (.eq v4 v5) (.le v5 v3)), .no (.le (.a (.a v0 v1) n1) (.a v0 v4))] (.s (.s (.l [0,0,0,0,1,0,0,0,1]) (.l [0,0,0,0,1,0,0,0,1])) (.s (.l [1,0,0,1,0,0,1]) (.l [1,0,0,1,0,1,0,1]))) rr h0 h1 (sb x3 x0) (mn x2 (x3 - x0)))
theorem o109 {x0 x1 x2 : Nat} (h0 : x0 < x1 + x2 + 1) : x0 ≤ x1 + x2 := by_no (sound [x0, x1, x2] [.lt v0 (.a (.a v1 v2) n1), .no (.le v0 (.a v1 v2))] (.l [1,1]) rr h0)
theorem o111 {x2 x1 x0 x3 : Nat} (h0 : x2 ≤ x1) (h1 : x0 ≤ x3) (h2 : x3 < x2) : x0 < x1 := by_no (sound [x2, x1, x0, x3] [.le v0 v1, .le v2 v3, .lt v3 v0, .no (.lt v2 v1)] (.l [1,1,1,1]) rr h0 h1 h2)
theorem o112 {x0 x1 : Nat} (h0 : x0 ≤ x1) (h1 : ¬x0 = x1) : x0 < x1 := by_no (sound [x0, x1] [.le v0 v1, .no (.eq v0 v1), .no (.lt v0 v1)] (.s (.l [1,1]) (.l [0,1,1])) rr h0 h1)
theorem o115 {x0 x1 : Nat} (h0 : x0 + 1 ≤ x1) : x0 ≤ x1 := by_no (sound [x0, x1] [.le (.a v0 n1) v1, .no (.le v0 v1)] (.l [1,1]) rr h0)
theorem o116 {x0 x1 : Nat} (h0 : x0 < x1) : x0 < x1 + 1 := by_no (sound [x0, x1] [.lt v0 v1, .no (.lt v0 (.a v1 n1))] (.l [1,1]) rr h0)
theorem o117 {x1 x0 : Nat} (h0 : x1 + 1 = x0) : x0 ≤ x1 + 1 := by_no (sound [x1, x0] [.eq (.a v0 n1) v1, .no (.le v1 (.a v0 n1))] (.l [1,0,1]) rr h0)
theorem o118 {x0 x3 x1 x2 : Nat} (h0 : x0 + x3 + 1 ≤ x1 + x2) : x0 + 1 ≤ x1 + x2 := by_no (sound [x0, x3, x1, x2] [.le (.a (.a v0 v1) n1) (.a v2 v3), .no (.le (.a v0 n1) (.a v2 v3))] (.l [1,1]) rr h0)
theorem o119 {x0 : Nat} : x0 < x0 + 1 := by_no (sound [x0] [.no (.lt v0 (.a v0 n1))] (.l [1]) rr)
theorem o121 {x1 x2 x0 : Nat} (h0 : x1 ≤ x2 - x0) (h1 : x0 + 1 < x2) : x0 + x1 ≤ x2 := by_no (sound [x1, x2 - x0, x2, x0] [.le v0 v1, .lt (.a v3 n1) v2, .or (.an (.eq v1 n0) (.le v2 v3)) (.eq (.a v1 v3) v2), .no (.le (.a v3 v0) v2)] (.s (.l [0,1,0,0,1]) (.l [1,1,0,0,1])) rr h0 h1 (sb x2 x0))
theorem o122 {x0 x1 x2 : Nat} (h0 : x0 + (x1 + 1) ≤ x2) : x0 + x1 < x2 := by_no (sound [x0, x1, x2] [.le (.a v0 (.a v1 n1)) v2, .no (.lt (.a v0 v1) v2)] (.l [1,1]) rr h0)
theorem o123 {x2 x0 x1 : Nat} (h0 : x2 + x0 < x1) : x0 < x1 - x2 := by_no (sound [x2, x0, x1, x1 - x2] [.lt (.a v0 v1) v2, .or (.an (.eq v3 n0) (.le v2 v0)) (.eq (.a v3 v0) v2), .no (.lt v1 v3)] (.s (.l [0,1,0,0,1]) (.l [1,0,1,1])) rr h0 (sb x1 x2))
theorem o124 {x0 : Nat} (h0 : 0 < x0) : x0 - 1 < x0 := by_no (sound [x0, x0 - 1] [.lt n0 v0, .or (.an (.eq v1 n0) (.le v0 n1)) (.eq (.a v1 n1) v0), .no (.lt v1 v0)] (.s (.l [1,0,1,0,1]) (.l [1,1])) rr h0 (sb x0 1))
theorem o125 {x0 x1 : Nat} : x0 + x1 - x0 = x1 := by_no (sound [x0 + x1 - x0, x0, x1] [.or (.an (.eq v0 n0) (.le (.a v1 v2) v1)) (.eq (.a v0 v1) (.a v1 v2)), .no (.eq v0 v2)] (.s (.s (.l [1,1,0,1]) (.l [1,0,1])) (.s (.l [1,0,1]) (.l [1,1]))) rr (sb (x0 + x1) x0))
theorem o126 {x0 x1 : Nat} (h0 : x0 < x1) (h1 : ¬x0 + 1 = x1) : x0 + 1 < x1 := by_no (sound [x0, x1] [.lt v0 v1, .no (.eq (.a v0 n1) v1), .no (.lt (.a v0 n1) v1)] (.s (.l [1,1]) (.l [0,1,1])) rr h0 h1)
theorem o127 {x1 x2 x0 : Nat} (h0 : x1 < x2 - x0) : x0 + x1 < x2 := by_no (sound [x1, x2 - x0, x2, x0] [.lt v0 v1, .or (.an (.eq v1 n0) (.le v2 v3)) (.eq (.a v1 v3) v2), .no (.lt (.a v3 v0) v2)] (.s (.l [0,0,1,0,1]) (.l [1,1,0,1])) rr h0 (sb x2 x0))
theorem o128 {x1 x3 x0 x2 : Nat} (h0 : x1 + x3 ≤ x0) (h1 : x0 < x2) : x0 - x1 < x2 - x1 := by_no (sound [x1, x3, x0, x2, x0 - x1, x2 - x1] [.le (.a v0 v1) v2, .lt v2 v3, .or (.an (.eq v4 n0) (.le v2 v0)) (.eq (.a v4 v0) v2), .or (.an (.eq v5 n0) (.le v3 v0)) (.eq (.a v5 v0) v3), .no (.lt v4 v5)] (.s (.s (.l [0,1,0,0,0,0,0,1,1]) (.l [1,0,1,0,1,0,1,1])) (.s (.l [0,1,0,0,1,0,1]) (.l [1,0,1,1,0,1]))) rr h0 h1 (sb x0 x1) (sb x2 x1))
theorem o130 {x0 x1 x2 : Nat} (h0 : x0 ≤ x1 + x2) : x0 + 1 ≤ x1 + (x2 + 1) := by_no (sound [x0, x1, x2] [.le v0 (.a v1 v2), .no (.le (.a v0 n1) (.a v1 (.a v2 n1)))] (.l [1,1]) rr h0)
theorem o131 {x0 x3 x1 x2 : Nat} (h0 : x0 + max 0 x3 ≤ x1 + x2) (h1 : 0 < x3) : x0 + 1 ≤ x1 + x2 := by_no (sound [x0, max 0 x3, x3, x1, x2] [.le (.a v0 v1) (.a v3 v4), .lt n0 v2, .or (.an (.eq v1 n0) (.le v2 n0)) (.an (.eq v1 v2) (.le n0 v2)), .no (.le (.a v0 n1) (.a v3 v4))] (.s (.l [0,1,0,0,1]) (.l [1,0,0,1,1,1])) rr h0 h1 (mx 0 x3))
theorem o132 {x1 x2 x0 : Nat} (h0 : x1 ≤ x2 - (x0 + 1)) (h1 : x0 < x2) (h2 : ¬x0 + 1 + x1 = x2) : x0 + 1 + x1 < x2 := by_no (sound [x1, x2 - (x0 + 1), x2, x0] [.le v0 v1, .lt v3 v2, .no (.eq (.a (.a v3 n1) v0) v2), .or (.an (.eq v1 n0) (.le v2 (.a v3 n1))) (.eq (.a v1 (.a v3 n1)) v2), .no (.lt (.a (.a v3 n1) v0) v2)] (.s (.s (.l [1,0,0,0,1]) (.l [1,0,0,1])) (.s (.l [0,0,1,0,1,1,1]) (.l [0,1,0,1,0,1]))) rr h0 h1 h2 (sb x2 (x0 + 1)))
theorem o134 {x0 x1 x2 : Nat} (h0 : x0 ≤ x1 + x2) : x0 ≤ x1 + (x2 + 1) := by_no (sound [x0, x1, x2] [.le v0 (.a v1 v2), .no (.le v0 (.a v1 (.a v2 n1)))] (.l [1,1]) rr h0)
theorem o135 {x0 x1 : Nat} (h0 : x0 + 1 < x1) : x0 + (x1 - x0) ≤ x1 := by_no (sound [x0, x1, x1 - x0] [.lt (.a v0 n1) v1, .or (.an (.eq v2 n0) (.le v1 v0)) (.eq (.a v2 v0) v1), .no (.le (.a v0 v2) v1)] (.s (.l [0,1,0,0,1]) (.l [1,1])) rr h0 (sb x1 x0))
theorem o136 {x1 x0 : Nat} (h0 : x1 < x0) (h1 : ¬x1 + 1 = x0) : 0 < x0 - (x1 + 1) := by_no (sound [x1, x0, x0 - (x1 + 1)] [.lt v0 v1, .no (.eq (.a v0 n1) v1), .or (.an (.eq v2 n0) (.le v1 (.a v0 n1))) (.eq (.a v2 (.a v0 n1)) v1), .no (.lt n0 v2)] (.s (.s (.l [0,1,0,0,1]) (.l [1,0,1,1])) (.s (.l [0,0,0,0,1,1]) (.l [0,0,0,1,1]))) rr h0 h1 (sb x0 (x1 + 1)))
theorem o137 {x0 x1 : Nat} (h0 : x0 + 1 < x1) : x0 < x1 := by_no (sound [x0, x1] [.lt (.a v0 n1) v1, .no (.lt v0 v1)] (.l [1,1]) rr h0)
theorem o138 {x0 x3 x1 x2 : Nat} (h0 : x0 + x3 ≤ x1) (h1 : x1 < x2) : x0 + (x1 - x0) < x2 := by_no (sound [x0, x3, x1, x2, x1 - x0] [.le (.a v0 v1) v2, .lt v2 v3, .or (.an (.eq v4 n0) (.le v2 v0)) (.eq (.a v4 v0) v2), .no (.lt (.a v0 v4) v3)] (.s (.l [1,0,1,0,1,1]) (.l [1,1,0,1])) rr h0 h1 (sb x1 x0))
theorem o139 {x0 x1 : Nat} (h0 : x0 < x1) : x0 + 1 + (x1 - (x0 + 1)) ≤ x1 := by_no (sound [x0, x1, x1 - (x0 + 1)] [.lt v0 v1, .or (.an (.eq v2 n0) (.le v1 (.a v0 n1))) (.eq (.a v2 (.a v0 n1)) v1), .no (.le (.a (.a v0 n1) v2) v1)] (.s (.l [1,0,1,0,1]) (.l [1,1])) rr h0 (sb x1 (x0 + 1)))
theorem o140 {x1 x2 x0 : Nat} (h0 : x1 ≤ x2 - x0) (h1 : x0 + 1 < x2) (h2 : ¬x0 + x1 + 1 = x2) (h3 : ¬x0 + x1 = x2) : x0 + x1 + 1 < x2 := by_no (sound [x1, x2 - x0, x2, x0] [.le v0 v1, .lt (.a v3 n1) v2, .no (.eq (.a (.a v3 v0) n1) v2), .no (.eq (.a v3 v0) v2), .or (.an (.eq v1 n0) (.le v2 v3)) (.eq (.a v1 v3) v2), .no (.lt (.a (.a v3 v0) n1) v2)] (.s (.s (.s (.l [1,0,0,0,0,1]) (.l [1,0,0,0,1])) (.s (.l [0,0,0,0,1,1]) (.l [0,0,0,1,1]))) (.s (.s (.l [0,0,0,0,1,1]) (.l [0,0,0,1,1])) (.s (.l [0,1,0,0,0,0,1]) (.l [0,1,0,1,0,0,1])))) rr h0 h1 h2 h3 (sb x2 x0))
theorem o141 {x0 : Nat} (h0 : ¬x0 > 0) : x0 = 0 := by_no (sound [x0] [.no (.lt n0 v0), .no (.eq v0 n0)] (.s (.l [1]) (.l [1,1])) rr h0)
theorem o144 {x3 x2 x0 x1 : Nat} (h0 : x3 ≤ x2 - x0) (h1 : x1 < x3) : x0 + x1 < x2 := by_no (sound [x3, x2 - x0, x2, x0, x1] [.le v0 v1, .lt v4 v0, .or (.an (.eq v1 n0) (.le v2 v3)) (.eq (.a v1 v3) v2), .no (.lt (.a v3 v4) v2)] (.s (.l [0,0,1,0,1,1]) (.l [1,1,0,1,1])) rr h0 h1 (sb x2 x0))
theorem o145 {x1 x0 : Nat} (h0 : x1 + 1 < x0) : 0 < x0 - x1 := by_no (sound [x1, x0, x0 - x1] [.lt (.a v0 n1) v1, .or (.an (.eq v2 n0) (.le v1 v0)) (.eq (.a v2 v0) v1), .no (.lt n0 v2)] (.s (.l [0,1,0,0,1]) (.l [1,0,1,1])) rr h0 (sb x0 x1))
theorem o146 {x0 x1 x3 x2 : Nat} (h0 : x0 ≤ x1 + x3) : x0 ≤ x1 + x2 + x3 := by_no (sound [x0, x1, x3, x2] [.le v0 (.a v1 v2), .no (.le v0 (.a (.a v1 v3) v2))] (.l [1,1]) rr h0)
theorem o147 {x1 x2 x0 : Nat} (h0 : x1 ≤ x2 - (x0 + 1)) (h1 : x0 < x2) : x0 + 1 + x1 ≤ x2 := by_no (sound [x1, x2 - (x0 + 1), x2, x0] [.le v0 v1, .lt v3 v2, .or (.an (.eq v1 n0) (.le v2 (.a v3 n1))) (.eq (.a v1 (.a v3 n1)) v2), .no (.le (.a (.a v3 n1) v0) v2)] (.s (.l [1,0,1,0,1,1]) (.l [1,1,0,0,1])) rr h0 h1 (sb x2 (x0 + 1)))
theorem o149 {x1 x0 : Nat} (h0 : 0 < x1) : 0 < x0 + x1 := by_no (sound [x1, x0] [.lt n0 v0, .no (.lt n0 (.a v1 v0))] (.l [1,1]) rr h0)
theorem o150 {x0 x1 x2 x3 : Nat} (h0 : x0 ≤ x1 + x2) : x0 ≤ x1 + (x2 + 1 + x3) := by_no (sound [x0, x1, x2, x3] [.le v0 (.a v1 v2), .no (.le v0 (.a v1 (.a (.a v2 n1) v3)))] (.l [1,1]) rr h0)
theorem o151 {x0 x1 x2 : Nat} (h0 : x0 < min x1 x2) : x0 < x1 ∧ x0 < x2 := by_no (sound [x0, min x1 x2, x1, x2] [.lt v0 v1, .or (.an (.eq v1 v2) (.le v2 v3)) (.an (.eq v1 v3) (.le v3 v2)), .no (.an (.lt v0 v2) (.lt v0 v3))] (.s (.s (.l [1,0,1,0,1]) (.l [1,1,1,0,1])) (.s (.l [1,1,1,0,1]) (.l [1,0,1,0,1]))) rr h0 (mn x1 x2))
theorem o152 {x0 x1 x2 : Nat} (h0 : x0 ≤ x1 + x2) : x0 + 1 ≤ x1 + 1 + x2 := by_no (sound [x0, x1, x2] [.le v0 (.a v1 v2), .no (.le (.a v0 n1) (.a (.a v1 n1) v2))] (.l [1,1]) rr h0)
theorem o153 {x2 x1 x3 x0 : Nat} (h0 : max 0 (x2 + x1) + 1 ≤ x3 + x0) (h1 : x3 + 1 < x2) (h2 : x0 < x1) : False := sound [max 0 (x2 + x1), x2, x1, x3, x0] [.le (.a v0 n1) (.a v3 v4), .lt (.a v3 n1) v1, .lt v4 v2, .or (.an (.eq v0 n0) (.le (.a v1 v2) n0)) (.an (.eq v0 (.a v1 v2)) (.le n0 (.a v1 v2)))] (.s (.l [1,0,1,1,1,1]) (.l [0,0,1,1,1,1])) rr h0 h1 h2 (mx 0 (x2 + x1))
theorem o154 {x0 x2 x1 : Nat} (h0 : x0 ≤ x2) (h1 : x2 < x1) : x0 < x1 := by_no (sound [x0, x2, x1] [.le v0 v1, .lt v1 v2, .no (.lt v0 v2)] (.l [1,1,1]) rr h0 h1)
theorem o156 {x0 x1 x2 : Nat} (h0 : x0 + (x1 + 1) ≤ x2) : x0 + x1 ≤ x2 := by_no (sound [x0, x1, x2] [.le (.a v0 (.a v1 n1)) v2, .no (.le (.a v0 v1) v2)] (.l [1,1]) rr h0)
theorem o157 : 1 ≤ 0 + 1 := by decide
theorem o158 {x2 x1 x0 : Nat} (h0 : x2 ≤ x1) (h1 : x0 < x2) : x0 < x1 := by_no (sound [x2, x1, x0] [.le v0 v1, .lt v2 v0, .no (.lt v2 v1)] (.l [1,1,1]) rr h0 h1)
theorem o159 {x0 x1 : Nat} (h0 : x0 + 1 = x1) : x0 < x1 := by_no (sound [x0, x1] [.eq (.a v0 n1) v1, .no (.lt v0 v1)] (.l [1,1]) rr h0)
theorem o160 {x0 x1 : Nat} (h0 : x0 + 1 = x1) : x0 = x1 - 1 := by_no (sound [x0, x1, x1 - 1] [.eq (.a v0 n1) v1, .or (.an (.eq v2 n0) (.le v1 n1)) (.eq (.a v2 n1) v1), .no (.eq v0 v2)] (.s (.s (.l [1,0,1]) (.l [1,1,0,1,1])) (.s (.l [1,1,0,0,1]) (.l [1,0,1,1]))) rr h0 (sb x1 1))
theorem o161 {x0 x1 x2 : Nat} (h0 : x0 ≤ x1 + x2) : x0 ≤ x1 + 1 + x2 := by_no (sound [x0, x1, x2] [.le v0 (.a v1 v2), .no (.le v0 (.a (.a v1 n1) v2))] (.l [1,1]) rr h0)
theorem o162 {x0 x1 : Nat} : x0 < x0 + (x1 + 1) := by_no (sound [x0, x1] [.no (.lt v0 (.a v0 (.a v1 n1)))] (.l [1]) rr)
theorem o163 {x0 x2 x1 : Nat} (h0 : x0 + (x2 + 1) ≤ x1) : x0 < x1 := by_no (sound [x0, x2, x1] [.le (.a v0 (.a v1 n1)) v2, .no (.lt v0 v2)] (.l [1,1]) rr h0)
theorem o164 {x0 : Nat} (h0 : 0 < x0) : x0 = x0 - 1 + 1 := by_no (sound [x0, x0 - 1] [.lt n0 v0, .or (.an (.eq v1 n0) (.le v0 n1)) (.eq (.a v1 n1) v0), .no (.eq v0 (.a v1 n1))] (.s (.s (.l [1,0,1,0,1]) (.l [1,1,0,1])) (.s (.l [1,1]) (.l [1,0,1]))) rr h0 (sb x0 1))
theorem o165 {x0 : Nat} (h0 : 0 < x0) (h1 : ¬x0 = 1) : 1 < x0 := by_no (sound [x0] [.lt n0 v0, .no (.eq v0 n1), .no (.lt n1 v0)] (.s (.l [0,1,1]) (.l [1,1])) rr h0 h1)
theorem o166 {x0 x1 : Nat} (h0 : x0 ≤ x1) : 0 + x0 ≤ x1 := by_no (sound [x0, x1] [.le v0 v1, .no (.le (.a n0 v0) v1)] (.l [1,1]) rr h0)
theorem o167 {x0 x1 x2 x5 x3 x4 : Nat} (h0 : x0 + x1 + (x2 + x5 + 1) ≤ x3 + x4) : x0 + x1 + (x2 + 1) ≤ x3 + x4 := by_no (sound [x0, x1, x2, x5, x3, x4] [.le (.a (.a v0 v1) (.a (.a v2 v3) n1)) (.a v4 v5), .no (.le (.a (.a v0 v1) (.a v2 n1)) (.a v4 v5))] (.l [1,1]) rr h0)
theorem o168 {x0 x1 : Nat} (h0 : x0 + 1 ≤ x1) : x0 < x1 := by_no (sound [x0, x1] [.le (.a v0 n1) v1, .no (.lt v0 v1)] (.l [1,1]) rr h0)
theorem o169 {x0 x1 : Nat} (h0 : x0 < x1 + 1) : x0 ≤ x1 := by_no (sound [x0, x1] [.lt v0 (.a v1 n1), .no (.le v0 v1)] (.l [1,1]) rr h0)
theorem o170 {x0 : Nat} (h0 : ¬x0 = 0) : 0 < x0 := by_no (sound [x0] [.no (.eq v0 n0), .no (.lt n0 v0)] (.s (.l [0,1]) (.l [1,1])) rr h0)
theorem o171 {x0 x1 x2 x3 x4 : Nat} (h0 : x0 + 1 + (x1 + 1) + x2 ≤ x3 + x4) : x0 + 1 + x1 + (x2 + 1) ≤ x3 + x4 := by_no (sound [x0, x1, x2, x3, x4] [.le (.a (.a (.a v0 n1) (.a v1 n1)) v2) (.a v3 v4), .no (.le (.a (.a (.a v0 n1) v1) (.a v2 n1)) (.a v3 v4))] (.l [1,1]) rr h0)
theorem o172 {x0 : Nat} (h0 : 0 < x0) : x0 - 1 + 1 ≤ x0 := by_no (sound [x0, x0 - 1] [.lt n0 v0, .or (.an (.eq v1 n0) (.le v0 n1)) (.eq (.a v1 n1) v0), .no (.le (.a v1 n1) v0)] (.s (.l [1,0,1,0,1]) (.l [1,1])) rr h0 (sb x0 1))
theorem o173 {x0 x1 : Nat} (h0 : x0 ≤ x1) (h1 : 1 < x0) : x0 - 1 < x1 := by_no (sound [x0, x1, x0 - 1] [.le v0 v1, .lt n1 v0, .or (.an (.eq v2 n0) (.le v0 n1)) (.eq (.a v2 n1) v0), .no (.lt v2 v1)] (.s (.l [0,1,0,0,1]) (.l [1,1,0,0,1])) rr h0 h1 (sb x0 1))
theorem o174 {x0 x1 : Nat} (h0 : x0 ≤ x1) (h1 : 0 < x0) : x0 - 1 < x1 := by_no (sound [x0, x1, x0 - 1] [.le v0 v1, .lt n0 v0, .or (.an (.eq v2 n0) (.le v0 n1)) (.eq (.a v2 n1) v0), .no (.lt v2 v1)] (.s (.l [1,0,1,0,1,1]) (.l [1,1,0,0,1])) rr h0 h1 (sb x0 1))
theorem o175 {x0 x1 : Nat} (h0 : x0 < x1) : x0 ≤ x1 - 1 := by_no (sound [x0, x1, x1 - 1] [.lt v0 v1, .or (.an (.eq v2 n0) (.le v1 n1)) (.eq (.a v2 n1) v1), .no (.le v0 v2)] (.s (.l [1,1,0,1,1]) (.l [1,0,1,1])) rr h0 (sb x1 1))
theorem o176 {x0 x1 : Nat} (h0 : 0 < x0) : x0 - 1 + x1 + 1 ≤ x0 + x1 := by_no (sound [x0, x0 - 1, x1] [.lt n0 v0, .or (.an (.eq v1 n0) (.le v0 n1)) (.eq (.a v1 n1) v0), .no (.le (.a (.a v1 v2) n1) (.a v0 v2))] (.s (.l [1,0,1,0,1]) (.l [1,1])) rr h0 (sb x0 1))
theorem o177 {x0 x1 : Nat} : x0 + 1 + x1 = x0 + (x1 + 1) := by_no (sound [x0, x1] [.no (.eq (.a (.a v0 n1) v1) (.a v0 (.a v1 n1)))] (.s (.l [1]) (.l [1])) rr)
theorem o178 {x0 x1 : Nat} (h0 : x0 ≤ x1) (h1 : ¬x1 - x0 > 0) : x0 = x1 := by_no (sound [x0, x1, x1 - x0] [.le v0 v1, .no (.lt n0 v2), .or (.an (.eq v2 n0) (.le v1 v0)) (.eq (.a v2 v0) v1), .no (.eq v0 v1)] (.s (.s (.l [1,1]) (.l [1,0,0,0,0,1])) (.s (.l [1,0,1,1]) (.l [1,0,0,0,1]))) rr h0 h1 (sb x1 x0))
theorem o179 {x0 x1 x2 : Nat} (h0 : x0 < x1 + 1 + x2) : x0 < x1 + (x2 + 1) := by_no (sound [x0, x1, x2] [.lt v0 (.a (.a v1 n1) v2), .no (.lt v0 (.a v1 (.a v2 n1)))] (.l [1,1]) rr h0)
theorem o180 {x0 x1 : Nat} (h0 : x0 < x1) : 0 + x0 < x1 := by_no (sound [x0, x1] [.lt v0 v1, .no (.lt (.a n0 v0) v1)] (.l [1,1]) rr h0)
theorem o181 {x5 x1 x2 x3 x4 x0 : Nat} (h0 : x5 + x1 + x2 ≤ x3 + x4) (h1 : x0 ≤ x5) : x0 + x1 + x2 ≤ x3 + x4 := by_no (sound [x5, x1, x2, x3, x4, x0] [.le (.a (.a v0 v1) v2) (.a v3 v4), .le v5 v0, .no (.le (.a (.a v5 v1) v2) (.a v3 v4))] (.l [1,1,1]) rr h0 h1)
theorem o182 {x0 : Nat} (h0 : 0 < x0) : x0 - 1 + 1 = x0 := by_no (sound [x0, x0 - 1] [.lt n0 v0, .or (.an (.eq v1 n0) (.le v0 n1)) (.eq (.a v1 n1) v0), .no (.eq (.a v1 n1) v0)] (.s (.s (.l [1,1,0,1]) (.l [1,0,1,0,1])) (.s (.l [1,0,1]) (.l [1,1]))) rr h0 (sb x0 1))
theorem o183 {x0 x1 x2 x3 x4 : Nat} (h0 : x0 + 1 + (x1 + 1) + x2 ≤ x3 + x4) : x0 + (x1 + 1) + (x2 + 1) ≤ x3 + x4 := by_no (sound [x0, x1, x2, x3, x4] [.le (.a (.a (.a v0 n1) (.a v1 n1)) v2) (.a v3 v4), .no (.le (.a (.a v0 (.a v1 n1)) (.a v2 n1)) (.a v3 v4))] (.l [1,1]) rr h0)
theorem o184 {x0 : Nat} (h0 : 1 < x0 + 1) : x0 - 1 < x0 := by_no (sound [x0, x0 - 1] [.lt n1 (.a v0 n1), .or (.an (.eq v1 n0) (.le v0 n1)) (.eq (.a v1 n1) v0), .no (.lt v1 v0)] (.s (.l [1,0,1,0,1]) (.l [1,1])) rr h0 (sb x0 1))
theorem o185 {x0 x5 x2 x3 x4 x1 : Nat} (h0 : x0 + (x5 + 1) + x2 ≤ x3 + x4) (h1 : x1 ≤ x5) : x0 + x1 + x2 ≤ x3 + x4 := by_no (sound [x0, x5, x2, x3, x4, x1] [.le (.a (.a v0 (.a v1 n1)) v2) (.a v3 v4), .le v5 v1, .no (.le (.a (.a v0 v5) v2) (.a v3 v4))] (.l [1,1,1]) rr h0 h1)
theorem o186 {x0 x1 x2 x3 : Nat} (h0 : x0 + x1 + (max 0 (x2 + x3) + 1) ≤ x2 + x3) : False := sound [x0, x1, max 0 (x2 + x3), x2, x3] [.le (.a (.a v0 v1) (.a v2 n1)) (.a v3 v4), .or (.an (.eq v2 n0) (.le (.a v3 v4) n0)) (.an (.eq v2 (.a v3 v4)) (.le n0 (.a v3 v4)))] (.s (.l [1,0,1,1]) (.l [0,0,1,1])) rr h0 (mx 0 (x2 + x3))
theorem o187 {x0 x1 x2 x3 x4 : Nat} (h0 : x0 + (x1 + 1) + x2 ≤ x3 + x4) : x0 + x1 + x2 ≤ x3 + x4 := by_no (sound [x0, x1, x2, x3, x4] [.le (.a (.a v0 (.a v1 n1)) v2) (.a v3 v4), .no (.le (.a (.a v0 v1) v2) (.a v3 v4))] (.l [1,1]) rr h0)
theorem o188 {x0 x1 : Nat} (h0 : x0 + 1 ≤ x1) : 0 + x0 ≤ x1 := by_no (sound [x0, x1] [.le (.a v0 n1) v1, .no (.le (.a n0 v0) v1)] (.l [1,1]) rr h0)
theorem o189 {x0 x1 x2 x3 x4 : Nat} (h0 : x0 + 1 + x1 + x2 ≤ x3 + x4) : x0 + x1 + x2 ≤ x3 + x4 := by_no (sound [x0, x1, x2, x3, x4] [.le (.a (.a (.a v0 n1) v1) v2) (.a v3 v4), .no (.le (.a (.a v0 v1) v2) (.a v3 v4))] (.l [1,1]) rr h0)
theorem o190 {x1 x0 : Nat} (h0 : x1 < x0) : x0 - x1 = x0 - (x1 + 1) + 1 := by_no (sound [x1, x0, x0 - x1, x0 - (x1 + 1)] [.lt v0 v1, .or (.an (.eq v2 n0) (.le v1 v0)) (.eq (.a v2 v0) v1), .or (.an (.eq v3 n0) (.le v1 (.a v0 n1))) (.eq (.a v3 (.a v0 n1)) v1), .no (.eq v2 (.a v3 n1))] (.s (.s (.s (.l [0,0,0,0,1,0,0,1]) (.l [0,0,0,0,1,0,0,1])) (.s (.l [0,0,0,1,0,0,1]) (.l [1,0,0,0,1]))) (.s (.s (.l [1,0,1,0,0,1,1]) (.l [1,1,0,1,1])) (.s (.l [1,1,0,0,1]) (.l [1,0,1,1])))) rr h0 (sb x0 x1) (sb x0 (x1 + 1)))
theorem o191 {x0 : Nat} (h0 : 1 < x0 + 1) (h1 : ¬x0 = 1) : 1 < x0 := by_no (sound [x0] [.lt n1 (.a v0 n1), .no (.eq v0 n1), .no (.lt n1 v0)] (.s (.l [0,1,1]) (.l [1,1])) rr h0 h1)
theorem o192 {x2 x1 x0 : Nat} (h0 : x2 ≤ x1) (h1 : x0 < x2 + (x1 - x2)) : x0 < x1 := by_no (sound [x2, x1, x0, x1 - x2] [.le v0 v1, .lt v2 (.a v0 v3), .or (.an (.eq v3 n0) (.le v1 v0)) (.eq (.a v3 v0) v1), .no (.lt v2 v1)] (.s (.l [1,0,1,0,1,1]) (.l [1,1,0,1])) rr h0 h1 (sb x1 x2))
theorem o193 {x0 : Nat} (h0 : 1 < x0) : x0 = x0 - 1 + 1 := by_no (sound [x0, x0 - 1] [.lt n1 v0, .or (.an (.eq v1 n0) (.le v0 n1)) (.eq (.a v1 n1) v0), .no (.eq v0 (.a v1 n1))] (.s (.s (.l [1,0,1,0,1]) (.l [0,1,0,0,1])) (.s (.l [1,1]) (.l [1,0,1]))) rr h0 (sb x0 1))
theorem o194 {x0 x1 x2 x5 x3 x4 : Nat} (h0 : x0 + x1 + (x2 + max 0 x5) ≤ x3 + x4) (h1 : 0 < x5) : x0 + x1 + (x2 + 1) ≤ x3 + x4 := by_no (sound [x0, x1, x2, max 0 x5, x5, x3, x4] [.le (.a (.a v0 v1) (.a v2 v3)) (.a v5 v6), .lt n0 v4, .or (.an (.eq v3 n0) (.le v4 n0)) (.an (.eq v3 v4) (.le n0 v4)), .no (.le (.a (.a v0 v1) (.a v2 n1)) (.a v5 v6))] (.s (.l [0,1,0,0,1]) (.l [1,0,0,1,1,1])) rr h0 h1 (mx 0 x5))
theorem o195 {x0 : Nat} (h0 : ¬x0 = 0) (h1 : ¬x0 = 1) : 1 < x0 := by_no (sound [x0] [.no (.eq v0 n0), .no (.eq v0 n1), .no (.lt n1 v0)] (.s (.s (.l [0,0,1]) (.l [0,1,1])) (.s (.l [0,1,1]) (.l [1,1]))) rr h0 h1)
theorem o197 {x0 x1 x2 x3 : Nat} (h0 : ¬(x0 + (x1 + 1) ≤ x2 ∧ x2 < x0 + (x1 + 1) + x3)) (h1 : ¬x0 + x1 = x2) (h2 : x0 + x1 ≤ x2 ∧ x2 < x0 + x1 + (x3 + 1)) : False := sound [x0, x1, x2, x3] [.no (.an (.le (.a v0 (.a v1 n1)) v2) (.lt v2 (.a (.a v0 (.a v1 n1)) v3))), .no (.eq (.a v0 v1) v2), .an (.le (.a v0 v1) v2) (.lt v2 (.a (.a v0 v1) (.a v3 n1)))] (.s (.s (.l [0,0,1,1]) (.l [0,1,1])) (.s (.l [1,0,0,1]) (.l [1,0,0,1]))) rr h0 h1 h2
theorem o198 {x0 x1 x2 x3 : Nat} (h0 : x0 + x1 + (x2 + 1) ≤ x3) : x0 + (x1 + 1) + x2 ≤ x3 := by_no (sound [x0, x1, x2, x3] [.le (.a (.a v0 v1) (.a v2 n1)) v3, .no (.le (.a (.a v0 (.a v1 n1)) v2) v3)] (.l [1,1]) rr h0)
theorem o200 {x0 : Nat} : x0 + 1 - x0 = 1 := by_no (sound [x0 + 1 - x0, x0] [.or (.an (.eq v0 n0) (.le (.a v1 n1) v1)) (.eq (.a v0 v1) (.a v1 n1)), .no (.eq v0 n1)] (.s (.s (.l [0,1]) (.l [0,1])) (.s (.l [1,0,1]) (.l [1,1]))) rr (sb (x0 + 1) x0))
theorem o201 {x1 x2 x3 x0 : Nat} (h0 : x1 < min x2 x3 - x0) : x0 + x1 < x2 := by_no (sound [x1, min x2 x3 - x0, min x2 x3, x2, x3, x0] [.lt v0 v1, .or (.an (.eq v2 v3) (.le v3 v4)) (.an (.eq v2 v4) (.le v4 v3)), .or (.an (.eq v1 n0) (.le v2 v5)) (.eq (.a v1 v5) v2), .no (.lt (.a v5 v0) v3)] (.s (.s (.l [0,0,1,0,0,0,0,1]) (.l [1,1,0,0,1,0,1])) (.s (.l [0,0,1,0,0,0,0,1]) (.l [1,1,0,1,1,0,1]))) rr h0 (mn x2 x3) (sb (min x2 x3) x0))
theorem o202 {x1 x0 : Nat} (h0 : ¬x1 < x0) : x0 ≤ x1 := by_no (sound [x1, x0] [.no (.lt v0 v1), .no (.le v1 v0)] (.l [1,1]) rr h0)
theorem o203 {x0 x1 x2 : Nat} (h0 : x0 + x1 ≤ x2 ∧ x2 < x0 + x1 + 0) : False := sound [x0, x1, x2] [.an (.le (.a v0 v1) v2) (.lt v2 (.a (.a v0 v1) n0))] (.l [1,1]) rr h0
theorem o204 {x0 x1 x2 : Nat} : x0 + x1 ≤ x0 + x1 ∧ x0 + x1 < x0 + x1 + (x2 + 1) := by_no (sound [x0, x1, x2] [.no (.an (.le (.a v0 v1) (.a v0 v1)) (.lt (.a v0 v1) (.a (.a v0 v1) (.a v2 n1))))] (.s (.l [1]) (.l [1])) rr)
theorem o205 {x0 x4 x1 x2 x3 : Nat} (h0 : x0 + x4 ≤ x1 ∧ x1 + x2 ≤ x3) : x0 ≤ x1 ∧ x1 + x2 ≤ x3 := by_no (sound [x0, x4, x1, x2, x3] [.an (.le (.a v0 v1) v2) (.le (.a v2 v3) v4), .no (.an (.le v0 v2) (.le (.a v2 v3) v4))] (.s (.l [1,0,1]) (.l [1,1])) rr h0)
theorem o206 {x0 x1 x3 x2 : Nat} (h0 : x0 + x1 + (x3 + 1) ≤ x2) : x0 + x1 < x2 := by_no (sound [x0, x1, x3, x2] [.le (.a (.a v0 v1) (.a v2 n1)) v3, .no (.lt (.a v0 v1) v3)] (.l [1,1]) rr h0)
theorem o207 {x0 x3 x1 x2 : Nat} (h0 : x0 + x3 + x1 ≤ x2) (h1 : 1 ≤ x3) : x0 + (x1 + 1) ≤ x2 := by_no (sound [x0, x3, x1, x2] [.le (.a (.a v0 v1) v2) v3, .le n1 v1, .no (.le (.a v0 (.a v2 n1)) v3)] (.l [1,1,1]) rr h0 h1)
theorem o208 {x1 x3 x2 x0 : Nat} (h0 : x1 < min x3 x2 - x0) : x0 + x1 < x2 := by_no (sound [x1, min x3 x2 - x0, min x3 x2, x3, x2, x0] [.lt v0 v1, .or (.an (.eq v2 v3) (.le v3 v4)) (.an (.eq v2 v4) (.le v4 v3)), .or (.an (.eq v1 n0) (.le v2 v5)) (.eq (.a v1 v5) v2), .no (.lt (.a v5 v0) v4)] (.s (.s (.l [0,0,1,0,0,0,0,1]) (.l [1,1,0,1,1,0,1])) (.s (.l [0,0,1,0,0,0,0,1]) (.l [1,1,0,0,1,0,1]))) rr h0 (mn x3 x2) (sb (min x3 x2) x0))
theorem o209 {x1 x0 x2 : Nat} (h0 : x1 = x0 + (x2 + 2)) : x0 + 1 < x1 := by_no (sound [x1, x0, x2] [.eq v0 (.a v1 (.a v2 (.n 2))), .no (.lt (.a v1 n1) v0)] (.l [1,0,1]) rr h0)
theorem o210 {x0 x1 x2 x3 : Nat} (h0 : x0 + (x1 + 1) ≤ x2 ∧ x2 < x0 + (x1 + 1) + x3) : x0 + x1 ≤ x2 ∧ x2 < x0 + x1 + (x3 + 1) := by_no (sound [x0, x1, x2, x3] [.an (.le (.a v0 (.a v1 n1)) v2) (.lt v2 (.a (.a v0 (.a v1 n1)) v3)), .no (.an (.le (.a v0 v1) v2) (.lt v2 (.a (.a v0 v1) (.a v3 n1))))] (.s (.l [1,0,1]) (.l [1,1])) rr h0)
theorem o211 {x1 x0 x2 x4 x3 : Nat} (h0 : x1 = x0) (h1 : x0 + x2 + x4 ≤ x3) : x0 ≤ x1 ∧ x1 + x2 ≤ x3 := by_no (sound [x1, x0, x2, x4, x3] [.eq v0 v1, .le (.a (.a v1 v2) v3) v4, .no (.an (.le v1 v0) (.le (.a v0 v2) v4))] (.s (.l [1,0,0,1]) (.l [1,1,1])) rr h0 h1)
theorem o212 {x1 x2 x0 : Nat} (h0 : x1 < x2) : x0 + x1 ≤ x0 + x2 := by_no (sound [x1, x2, x0] [.lt v0 v1, .no (.le (.a v2 v0) (.a v2 v1))] (.l [1,1]) rr h0)
theorem o213 {x1 x2 x0 x3 : Nat} (h0 : x1 + (x2 + 1) ≤ x0 ∧ x0 < x1 + (x2 + 1) + x3) : x0 - (x1 + x2) = x0 - (x1 + (x2 + 1)) + 1 := by_no (sound [x1, x2, x0, x3, x0 - (x1 + x2), x0 - (x1 + (x2 + 1))] [.an (.le (.a v0 (.a v1 n1)) v2) (.lt v2 (.a (.a v0 (.a v1 n1)) v3)), .or (.an (.eq v4 n0) (.le v2 (.a v0 v1))) (.eq (.a v4 (.a v0 v1)) v2), .or (.an (.eq v5 n0) (.le v2 (.a v0 (.a v1 n1)))) (.eq (.a v5 (.a v0 (.a v1 n1))) v2), .no (.eq v4 (.a v5 n1))] (.s (.s (.s (.l [0,0,0,0,1,0,0,0,1]) (.l [0,0,0,0,1,0,0,0,1])) (.s (.l [0,0,0,1,0,0,0,1]) (.l [1,0,0,0,1]))) (.s (.s (.l [1,0,1,0,0,1,0,1]) (.l [1,1,0,1,1])) (.s (.l [1,1,0,0,1]) (.l [1,0,1,1])))) rr h0 (sb x0 (x1 + x2)) (sb x0 (x1 + (x2 + 1))))
theorem o214 {x0 x4 x1 x2 x3 : Nat} (h0 : x0 ≤ x4) (h1 : x4 ≤ x1) (h2 : x1 < x2 + x3) : x0 ≤ x1 ∧ x1 < x2 + x3 := by_no (sound [x0, x4, x1, x2, x3] [.le v0 v1, .le v1 v2, .lt v2 (.a v3 v4), .no (.an (.le v0 v2) (.lt v2 (.a v3 v4)))] (.s (.l [1,0,1,1]) (.l [1,1])) rr h0 h1 h2)
theorem o215 {x1 x0 x2 : Nat} (h0 : ¬x1 < x0 + x2) (h1 : x0 ≤ x1 ∧ x1 < x0 + x2) : False := sound [x1, x0, x2] [.no (.lt v0 (.a v1 v2)), .an (.le v1 v0) (.lt v0 (.a v1 v2))] (.l [1,0,1]) rr h0 h1
theorem o216 {x1 x2 x0 x3 : Nat} (h0 : x1 = x2) (h1 : x0 + x3 ≤ x2) (h2 : 0 < x3) : x0 - 1 < x1 := by_no (sound [x1, x2, x0, x3, x0 - 1] [.eq v0 v1, .le (.a v2 v3) v1, .lt n0 v3, .or (.an (.eq v4 n0) (.le v2 n1)) (.eq (.a v4 n1) v2), .no (.lt v4 v0)] (.s (.l [1,0,1,0,1,1,0,1]) (.l [1,1,0,1,1,0,1])) rr h0 h1 h2 (sb x0 1))
theorem o217 {x2 x3 x4 x0 x1 : Nat} (h0 : x2 = x3 + x4 - x0) (h1 : ¬(x0 ≤ x1 ∧ x1 < x3 + x4)) (h2 : x0 + 0 ≤ x1 ∧ x1 < x0 + 0 + x2) : False := sound [x2, x3 + x4 - x0, x3, x4, x0, x1] [.eq v0 v1, .no (.an (.le v4 v5) (.lt v5 (.a v2 v3))), .an (.le (.a v4 n0) v5) (.lt v5 (.a (.a v4 n0) v0)), .or (.an (.eq v1 n0) (.le (.a v2 v3) v4)) (.eq (.a v1 v4) (.a v2 v3))] (.s (.s (.l [0,0,0,0,1,1]) (.l [0,0,0,1,1])) (.s (.l [0,1,0,1,1,0,1]) (.l [1,0,1,0,1,1]))) rr h0 h1 h2 (sb (x3 + x4) x0)
theorem o218 {x1 x2 x0 x3 : Nat} (h0 : x1 = x2) (h1 : x0 + x3 ≤ x2) (h2 : 0 < x3) : x0 < x1 := by_no (sound [x1, x2, x0, x3] [.eq v0 v1, .le (.a v2 v3) v1, .lt n0 v3, .no (.lt v2 v0)] (.l [1,1,1,0,1]) rr h0 h1 h2)
theorem o219 {x0 x2 x1 : Nat} (h0 : x0 + x2 ≤ x1) : x0 ≤ x1 := by_no (sound [x0, x2, x1] [.le (.a v0 v1) v2, .no (.le v0 v2)] (.l [1,1]) rr h0)
theorem o220 {x0 x1 x2 x3 : Nat} (h0 : x0 ≤ x1) (h1 : x1 < x2 + x3) : x0 ≤ x1 ∧ x1 < x2 + x3 := by_no (sound [x0, x1, x2, x3] [.le v0 v1, .lt v1 (.a v2 v3), .no (.an (.le v0 v1) (.lt v1 (.a v2 v3)))] (.s (.l [1,0,1]) (.l [1,1])) rr h0 h1)
theorem o221 {x3 x4 x0 x1 x2 : Nat} (h0 : x3 + x4 ≤ x0) : x0 < x1 + x2 ∨ x3 + x4 ≤ x0 := by_no (sound [x3, x4, x0, x1, x2] [.le (.a v0 v1) v2, .no (.or (.lt v2 (.a v3 v4)) (.le (.a v0 v1) v2))] (.l [1,0,1]) rr h0)
theorem o222 {x2 x3 x4 x1 x5 x0 : Nat} (h0 : x2 = x3 + x4 - x1) (h1 : x1 ≤ x5) (h2 : x5 ≤ x0) (h3 : x0 < x3 + x4) : x0 - x1 < x2 := by_no (sound [x2, x3 + x4 - x1, x3, x4, x1, x5, x0, x0 - x1] [.eq v0 v1, .le v4 v5, .le v5 v6, .lt v6 (.a v2 v3), .or (.an (.eq v1 n0) (.le (.a v2 v3) v4)) (.eq (.a v1 v4) (.a v2 v3)), .or (.an (.eq v7 n0) (.le v6 v4)) (.eq (.a v7 v4) v6), .no (.lt v7 v0)] (.s (.s (.l [0,0,0,0,1,0,0,1,1,1]) (.l [0,1,0,1,0,0,1])) (.s (.l [1,0,1,0,0,1,1,1,1,0,1]) (.l [1,1,0,0,1,1,0,0,0,1]))) rr h0 h1 h2 h3 (sb (x3 + x4) x1) (sb x0 x1))
theorem o223 {x1 x3 x2 x0 : Nat} (h0 : x1 + x3 ≤ x2) (h1 : x0 < x1) : x0 < min x1 x2 := by_no (sound [x1, x3, x2, x0, min x1 x2] [.le (.a v0 v1) v2, .lt v3 v0, .or (.an (.eq v4 v0) (.le v0 v2)) (.an (.eq v4 v2) (.le v2 v0)), .no (.lt v3 v4)] (.s (.l [1,0,0,1,1]) (.l [1,0,0,1,1,1])) rr h0 h1 (mn x1 x2))
theorem o224 {x1 x3 x2 x0 : Nat} (h0 : x1 + x3 ≤ x2) (h1 : x0 < x1) : x0 < min x1 x2 + x3 := by_no (sound [x1, x3, x2, x0, min x1 x2] [.le (.a v0 v1) v2, .lt v3 v0, .or (.an (.eq v4 v0) (.le v0 v2)) (.an (.eq v4 v2) (.le v2 v0)), .no (.lt v3 (.a v4 v1))] (.s (.l [1,0,0,1,1]) (.l [1,0,0,1,1,1])) rr h0 h1 (mn x1 x2))
theorem o225 {x3 x2 x0 x1 : Nat} (h0 : x3 ≤ x2) (h1 : x0 < x1 + x3) : x0 < x1 + x2 := by_no (sound [x3, x2, x0, x1] [.le v0 v1, .lt v2 (.a v3 v0), .no (.lt v2 (.a v3 v1))] (.l [1,1,1]) rr h0 h1)
theorem o226 {x0 x1 x2 x3 x4 : Nat} (h0 : x0 < x1 + x2) : x0 < x1 + x2 ∨ x3 + x4 ≤ x0 := by_no (sound [x0, x1, x2, x3, x4] [.lt v0 (.a v1 v2), .no (.or (.lt v0 (.a v1 v2)) (.le (.a v3 v4) v0))] (.l [0,1,1]) rr h0)
theorem o227 {x3 x0 x2 x1 : Nat} (h0 : ¬x3 < x0 + x2) : min x0 x1 + x2 ≤ x3 := by_no (sound [x3, x0, x2, min x0 x1, x1] [.no (.lt v0 (.a v1 v2)), .or (.an (.eq v3 v1) (.le v1 v4)) (.an (.eq v3 v4) (.le v4 v1)), .no (.le (.a v3 v2) v0)] (.s (.l [1,0,1,0,1]) (.l [1,1,1,0,1])) rr h0 (mn x0 x1))
theorem o228 {x2 x3 x4 x1 x0 : Nat} (h0 : x2 = x3 + x4 - x1) (h1 : x1 ≤ x0) (h2 : x0 < x3 + x4) : x0 - x1 < x2 := by_no (sound [x2, x3 + x4 - x1, x3, x4, x1, x0, x0 - x1] [.eq v0 v1, .le v4 v5, .lt v5 (.a v2 v3), .or (.an (.eq v1 n0) (.le (.a v2 v3) v4)) (.eq (.a v1 v4) (.a v2 v3)), .or (.an (.eq v6 n0) (.le v5 v4)) (.eq (.a v6 v4) v5), .no (.lt v6 v0)] (.s (.s (.l [0,0,0,0,1,0,0,1,1]) (.l [0,0,0,1,0,0,1,1])) (.s (.l [1,0,1,0,0,1,1,1,0,1]) (.l [1,1,0,0,1,1,0,0,1]))) rr h0 h1 h2 (sb (x3 + x4) x1) (sb x0 x1))
theorem o229 {x0 x1 x2 : Nat} (h0 : x0 < x1) : x0 ≤ x1 + x2 := by_no (sound [x0, x1, x2] [.lt v0 v1, .no (.le v0 (.a v1 v2))] (.l [1,1]) rr h0)
theorem o230 {x0 x1 x3 x4 x2 : Nat} (h0 : x0 ≤ x1 ∧ x1 < x3 + x4) (h1 : x2 = x3 + x4 - x0) : x0 + 0 ≤ x1 ∧ x1 < x0 + 0 + x2 := by_no (sound [x0, x1, x3, x4, x2, x3 + x4 - x0] [.an (.le v0 v1) (.lt v1 (.a v2 v3)), .eq v4 v5, .or (.an (.eq v5 n0) (.le (.a v2 v3) v0)) (.eq (.a v5 v0) (.a v2 v3)), .no (.an (.le (.a v0 n0) v1) (.lt v1 (.a (.a v0 n0) v4)))] (.s (.s (.l [1,0,0,0,0,0,0,1]) (.l [0,1,0,0,0,0,1,1])) (.s (.l [1,0,0,0,0,0,1]) (.l [1,0,1,0,1,1]))) rr h0 h1 (sb (x3 + x4) x0))
theorem o231 {x2 x3 x0 x1 : Nat} (h0 : x2 = x3) (h1 : x0 + x1 ≤ x3) : min (x0 + x1) x2 - x0 = x1 := by_no (sound [x2, x3, x0, x1, min (x0 + x1) x2 - x0, min (x0 + x1) x2] [.eq v0 v1, .le (.a v2 v3) v1, .or (.an (.eq v5 (.a v2 v3)) (.le (.a v2 v3) v0)) (.an (.eq v5 v0) (.le v0 (.a v2 v3))), .or (.an (.eq v4 n0) (.le v5 v2)) (.eq (.a v4 v2) v5), .no (.eq v4 v3)] (.s (.s (.s (.l [1,1,0,1,0,0,1]) (.l [1,0,1])) (.s (.l [1,0,1,0,0,1]) (.l [1,1,0,0,1]))) (.s (.s (.l [1,1,0,1,0,0,1,1,0,1]) (.l [1,0,1])) (.s (.l [1,0,1,0,0,1,1,0,1]) (.l [1,1,0,1,1])))) rr h0 h1 (mn (x0 + x1) x2) (sb (min (x0 + x1) x2) x0))
theorem o232 {x0 x1 x2 : Nat} (h0 : x0 = x1 - x2) (h1 : x2 < x1) : 0 < x0 := by_no (sound [x0, x1 - x2, x1, x2] [.eq v0 v1, .lt v3 v2, .or (.an (.eq v1 n0) (.le v2 v3)) (.eq (.a v1 v3) v2), .no (.lt n0 v0)] (.s (.l [0,1,0,0,1]) (.l [1,0,1,1,0,1])) rr h0 h1 (sb x1 x2))
theorem o233 {x2 x4 x5 x3 x6 x7 x0 x1 : Nat} (h0 : x2 = x4 + x5) (h1 : x4 + x5 + x3 + x6 ≤ x7) (h2 : x7 ≤ x0) : x0 < x1 ∨ x2 + x3 ≤ x0 := by_no (sound [x2, x4, x5, x3, x6, x7, x0, x1] [.eq v0 (.a v1 v2), .le (.a (.a (.a v1 v2) v3) v4) v5, .le v5 v6, .no (.or (.lt v6 v7) (.le (.a v0 v3) v6))] (.l [1,0,1,1,1]) rr h0 h1 h2)
theorem o234 {x0 x1 : Nat} : max x0 (x0 + x1) = x0 + x1 := by_no (sound [max x0 (x0 + x1), x0, x1] [.or (.an (.eq v0 v1) (.le (.a v1 v2) v1)) (.an (.eq v0 (.a v1 v2)) (.le v1 (.a v1 v2))), .no (.eq v0 (.a v1 v2))] (.s (.s (.l [1,1,0,1]) (.l [1,0,1])) (.s (.l [1,0,0,1]) (.l [1,0,1]))) rr (mx x0 (x0 + x1)))
theorem o235 {x1 x0 : Nat} (h0 : x1 < x0) : x0 - 1 < x0 := by_no (sound [x1, x0, x0 - 1] [.lt v0 v1, .or (.an (.eq v2 n0) (.le v1 n1)) (.eq (.a v2 n1) v1), .no (.lt v2 v1)] (.s (.l [1,0,1,0,1]) (.l [1,1])) rr h0 (sb x0 1))
theorem o236 {x0 x1 x2 : Nat} (h0 : x0 = x1 - x2) (h1 : x2 < x1) : x0 - 1 < x0 := by_no (sound [x0, x1 - x2, x1, x2, x0 - 1] [.eq v0 v1, .lt v3 v2, .or (.an (.eq v1 n0) (.le v2 v3)) (.eq (.a v1 v3) v2), .or (.an (.eq v4 n0) (.le v0 n1)) (.eq (.a v4 n1) v0), .no (.lt v4 v0)] (.s (.s (.l [0,0,0,0,1,0,0,1]) (.l [1,1])) (.s (.l [1,0,1,0,0,1,1,0,1]) (.l [1,1]))) rr h0 h1 (sb x1 x2) (sb x0 1))
theorem o237 {x0 x1 x4 x2 x3 : Nat} (h0 : x0 ≤ x1) (h1 : x1 ≤ x4) (h2 : x4 < x2 + x3) : x0 ≤ x1 ∧ x1 < x2 + x3 := by_no (sound [x0, x1, x4, x2, x3] [.le v0 v1, .le v1 v2, .lt v2 (.a v3 v4), .no (.an (.le v0 v1) (.lt v1 (.a v3 v4)))] (.s (.l [1,0,0,1]) (.l [1,1,1])) rr h0 h1 h2)
theorem o238 {x1 x0 x2 : Nat} (h0 : x1 < x0 + x2) (h1 : ¬x1 < x0) : x0 ≤ x1 ∧ x1 < x0 + x2 := by_no (sound [x1, x0, x2] [.lt v0 (.a v1 v2), .no (.lt v0 v1), .no (.an (.le v1 v0) (.lt v0 (.a v1 v2)))] (.s (.l [1,1]) (.l [1,0,1])) rr h0 h1)
theorem o239 {x0 x1 x2 : Nat} (h0 : x0 ≤ x1) : min x0 x1 - x2 = x0 - x2 := by_no (sound [x0, x1, min x0 x1 - x2, min x0 x1, x2, x0 - x2] [.le v0 v1, .or (.an (.eq v3 v0) (.le v0 v1)) (.an (.eq v3 v1) (.le v1 v0)), .or (.an (.eq v2 n0) (.le v3 v4)) (.eq (.a v2 v4) v3), .or (.an (.eq v5 n0) (.le v0 v4)) (.eq (.a v5 v4) v0), .no (.eq v2 v5)] (.s (.s (.s (.s (.l [1,0,1,0,0,0,1]) (.l [1,0,0,1,0,1])) (.s (.l [1,1,0,1,0,1,0,0,1]) (.l [1,0,0,0,1]))) (.s (.s (.l [1,0,1]) (.l [1,1,0,1,1,0,0,1])) (.s (.l [1,1,0,0,1,0,0,1]) (.l [1,0,1,1,0,0,1])))) (.s (.s (.s (.l [1,0,1,0,0,0,1]) (.l [1,0,0,1,0,1])) (.s (.l [1,1,0,1,0,1,0,0,1,1]) (.l [1,0,0,0,1]))) (.s (.s (.l [1,0,1]) (.l [1,1,0,1,1,0,1,1])) (.s (.l [1,1,0,0,1,0,0,1,1]) (.l [1,0,1,1,0,1,1]))))) rr h0 (mn x0 x1) (sb (min x0 x1) x2) (sb x0 x2))
theorem o240 {x0 x1 x2 x4 x3 x5 x6 : Nat} (h0 : x0 + x1 + (x2 - x1) - 1 = x4 - 1) (h1 : x3 = x5) (h2 : x4 + x6 ≤ x5) (h3 : 0 < x6) : x0 + x1 + (x2 - x1) - 1 < x3 := by_no (sound [x0 + x1 + (x2 - x1) - 1, x0, x1, x2 - x1, x2, x4 - 1, x4, x3, x5, x6] [.eq v0 v5, .eq v7 v8, .le (.a v6 v9) v8, .lt n0 v9, .or (.an (.eq v3 n0) (.le v4 v2)) (.eq (.a v3 v2) v4), .or (.an (.eq v0 n0) (.le (.a (.a v1 v2) v3) n1)) (.eq (.a v0 n1) (.a (.a v1 v2) v3)), .or (.an (.eq v5 n0) (.le v6 n1)) (.eq (.a v5 n1) v6), .no (.lt v0 v7)] (.s (.s (.s (.l [1,0,0,0,0,1,0,0,0,0,1,1,0,1]) (.l [1,1,0,0,0,0,0,0,0,1,1,0,1,1])) (.s (.l [1,0,1,0,0,0,0,0,0,1,1,0,1,1]) (.l [1,1,0,0,0,0,0,0,1,1,0,1,1]))) (.s (.s (.l [1,0,0,0,0,1,0,0,0,1,1,0,1]) (.l [1,1,0,0,0,0,0,0,1,1,0,1,1])) (.s (.l [1,0,1,0,0,0,0,0,1,1,0,1,1]) (.l [1,1,0,0,0,0,0,1,1,0,1,1])))) rr h0 h1 h2 h3 (sb x2 x1) (sb (x0 + x1 + (x2 - x1)) 1) (sb x4 1))
theorem o241 {x0 x1 : Nat} (h0 : x0 = x1) (h1 : 0 < x1) : 0 < x0 := by_no (sound [x0, x1] [.eq v0 v1, .lt n0 v1, .no (.lt n0 v0)] (.l [1,1,0,1]) rr h0 h1)
theorem o242 {x1 x0 x2 x3 : Nat} (h0 : x1 < x0 ∨ x2 + x3 ≤ x1) (h1 : x0 ≤ x1 ∧ x1 < x2 + x3) : False := sound [x1, x0, x2, x3] [.or (.lt v0 v1) (.le (.a v2 v3) v0), .an (.le v1 v0) (.lt v0 (.a v2 v3))] (.s (.l [0,1,1]) (.l [1,0,1])) rr h0 h1
theorem o243 {x2 x3 x0 x1 : Nat} (h0 : x2 = x3) (h1 : x0 + x1 ≤ x3) : x0 + x1 ≤ x2 := by_no (sound [x2, x3, x0, x1] [.eq v0 v1, .le (.a v2 v3) v1, .no (.le (.a v2 v3) v0)] (.l [1,1,0,1]) rr h0 h1)
theorem o244 {x0 x2 x1 : Nat} (h0 : x0 ≤ x2) : x0 - x1 ≤ x2 - x1 := by_no (sound [x0, x2, x0 - x1, x1, x2 - x1] [.le v0 v1, .or (.an (.eq v2 n0) (.le v0 v3)) (.eq (.a v2 v3) v0), .or (.an (.eq v4 n0) (.le v1 v3)) (.eq (.a v4 v3) v1), .no (.le v2 v4)] (.s (.s (.l [1,0,0,1,0,1]) (.l [1,0,0,0,1])) (.s (.l [1,1,0,1,1,0,1]) (.l [1,0,1,1,0,1]))) rr h0 (sb x0 x1) (sb x2 x1))
theorem o245 {x1 x3 x0 x2 : Nat} (h0 : x1 = x3 - x0) (h1 : x0 ≤ x3) (h2 : x3 ≤ x2) : x0 + x1 ≤ x2 := by_no (sound [x1, x3 - x0, x3, x0, x2] [.eq v0 v1, .le v3 v2, .le v2 v4, .or (.an (.eq v1 n0) (.le v2 v3)) (.eq (.a v1 v3) v2), .no (.le (.a v3 v0) v4)] (.s (.l [1,0,1,0,1,1,1]) (.l [1,1,0,1,0,1])) rr h0 h1 h2 (sb x3 x0))
theorem o246 {x1 x3 x4 x2 x0 : Nat} (h0 : x1 + x3 = x4) (h1 : x3 - x2 = 0) (h2 : x0 < x4) : x0 < x1 + x2 := by_no (sound [x1, x3, x4, x3 - x2, x2, x0] [.eq (.a v0 v1) v2, .eq v3 n0, .lt v5 v2, .or (.an (.eq v3 n0) (.le v1 v4)) (.eq (.a v3 v4) v1), .no (.lt v5 (.a v0 v4))] (.s (.l [1,1,0,0,1,0,0,0,1]) (.l [1,0,1,1,1,0,0,1])) rr h0 h1 h2 (sb x3 x2))
theorem o247 {x4 x5 x0 x1 x3 x2 : Nat} (h0 : x4 ≤ x5) (h1 : x0 < x1 ∨ x3 + x5 ≤ x0) : x0 < x1 + x2 ∨ x3 + x4 ≤ x0 := by_no (sound [x4, x5, x0, x1, x3, x2] [.le v0 v1, .or (.lt v2 v3) (.le (.a v4 v1) v2), .no (.or (.lt v2 (.a v3 v5)) (.le (.a v4 v0) v2))] (.s (.l [0,1,1]) (.l [1,0,1,1])) rr h0 h1)
theorem o248 {x0 x2 x3 x1 : Nat} (h0 : x0 + x2 = x3) (h1 : x1 ≤ x2) : x0 + x1 + (x2 - x1) - 1 = x3 - 1 := by_no (sound [x0, x2, x3, x1, x0 + x1 + (x2 - x1) - 1, x2 - x1, x3 - 1] [.eq (.a v0 v1) v2, .le v3 v1, .or (.an (.eq v5 n0) (.le v1 v3)) (.eq (.a v5 v3) v1), .or (.an (.eq v4 n0) (.le (.a (.a v0 v3) v5) n1)) (.eq (.a v4 n1) (.a (.a v0 v3) v5)), .or (.an (.eq v6 n0) (.le v2 n1)) (.eq (.a v6 n1) v2), .no (.eq v4 v6)] (.s (.s (.s (.s (.l [1,0,1,0,0,0,1]) (.l [1,0,0,1,0,1])) (.s (.l [1,1,0,1,0,1,1,0,1,0,0,1]) (.l [1,0,0,0,1]))) (.s (.s (.l [1,0,1]) (.l [1,1,0,1,1,0,0,1,0,1,1])) (.s (.l [1,1,0,0,1,1,0,1,0,0,1]) (.l [1,0,1,1,0,0,1,0,1,1])))) (.s (.s (.s (.l [1,0,1,0,0,0,1]) (.l [1,0,0,1,0,1])) (.s (.l [1,1,0,1,0,1,0,1,0,0,1]) (.l [1,0,0,0,1]))) (.s (.s (.l [1,0,1]) (.l [1,1,0,1,1,0,1,0,0,1])) (.s (.l [1,1,0,0,1,0,1,0,0,1]) (.l [1,0,1,1,0,1,0,0,1]))))) rr h0 h1 (sb x2 x1) (sb (x0 + x1 + (x2 - x1)) 1) (sb x3 1))
theorem o249 {x1 x0 x2 : Nat} (h0 : x1 < x0) : x0 - x1 + x2 = x0 + x2 - x1 := by_no (sound [x1, x0, x0 - x1, x2, x0 + x2 - x1] [.lt v0 v1, .or (.an (.eq v2 n0) (.le v1 v0)) (.eq (.a v2 v0) v1), .or (.an (.eq v4 n0) (.le (.a v1 v3) v0)) (.eq (.a v4 v0) (.a v1 v3)), .no (.eq (.a v2 v3) v4)] (.s (.s (.s (.l [0,0,0,0,1,0,0,1]) (.l [0,0,0,0,1,0,0,1])) (.s (.l [0,0,0,1,0,0,1]) (.l [1,0,1,0,1,0,1]))) (.s (.s (.l [1,0,1]) (.l [1,1,0,1,1])) (.s (.l [1,1,0,0,1]) (.l [1,0,1,1])))) rr h0 (sb x0 x1) (sb (x0 + x2) x1))
theorem o250 {x2 x3 x1 x0 : Nat} (h0 : x2 + x3 ≤ x1) (h1 : x0 < x2 + x3) : x0 ≤ x1 := by_no (sound [x2, x3, x1, x0] [.le (.a v0 v1) v2, .lt v3 (.a v0 v1), .no (.le v3 v2)] (.l [1,1,1]) rr h0 h1)
theorem o251 {x1 x3 x2 x0 : Nat} (h0 : x1 + x3 ≤ x2) (h1 : x0 < x1 + x3) : x0 < min x1 x2 + x3 := by_no (sound [x1, x3, x2, x0, min x1 x2] [.le (.a v0 v1) v2, .lt v3 (.a v0 v1), .or (.an (.eq v4 v0) (.le v0 v2)) (.an (.eq v4 v2) (.le v2 v0)), .no (.lt v3 (.a v4 v1))] (.s (.l [1,0,0,1,1]) (.l [1,0,0,1,1,1])) rr h0 h1 (mn x1 x2))
theorem o252 {x2 x3 x4 x1 x0 : Nat} (h0 : 0 ≤ x2 ∧ x2 + x3 ≤ x4) (h1 : x1 = x4) (h2 : x0 < x2 + x3) : x0 < x1 := by_no (sound [x2, x3, x4, x1, x0] [.an (.le n0 v0) (.le (.a v0 v1) v2), .eq v3 v2, .lt v4 (.a v0 v1), .no (.lt v4 v3)] (.l [1,1,0,1,1]) rr h0 h1 h2)
theorem o253 {x1 x0 x3 x4 x2 : Nat} (h0 : x1 ≤ x0 ∧ x0 < x3 + x4) (h1 : x2 = x3 + x4 - x1) : x0 - x1 < x2 := by_no (sound [x1, x0, x3, x4, x2, x3 + x4 - x1, x0 - x1] [.an (.le v0 v1) (.lt v1 (.a v2 v3)), .eq v4 v5, .or (.an (.eq v5 n0) (.le (.a v2 v3) v0)) (.eq (.a v5 v0) (.a v2 v3)), .or (.an (.eq v6 n0) (.le v1 v0)) (.eq (.a v6 v0) v1), .no (.lt v6 v4)] (.s (.s (.l [0,0,0,0,1,0,0,0,0,1,1]) (.l [0,0,0,1,0,0,0,0,1,1])) (.s (.l [1,0,1,0,0,1,0,1,1,1]) (.l [1,1,0,0,1,0,1,1]))) rr h0 h1 (sb (x3 + x4) x1) (sb x0 x1))
theorem o254 {x1 x0 x2 : Nat} (h0 : x1 = 0) (h1 : x0 ≤ x2) : x0 + x1 ≤ x2 := by_no (sound [x1, x0, x2] [.eq v0 n0, .le v1 v2, .no (.le (.a v1 v0) v2)] (.l [1,1,1]) rr h0 h1)
theorem o255 {x1 x3 x0 x4 x2 : Nat} (h0 : x1 = x3) (h1 : x0 + x4 ≤ x3) : min x0 x1 - x2 = x0 - x2 := by_no (sound [x1, x3, x0, x4, min x0 x1 - x2, min x0 x1, x2, x0 - x2] [.eq v0 v1, .le (.a v2 v3) v1, .or (.an (.eq v5 v2) (.le v2 v0)) (.an (.eq v5 v0) (.le v0 v2)), .or (.an (.eq v4 n0) (.le v5 v6)) (.eq (.a v4 v6) v5), .or (.an (.eq v7 n0) (.le v2 v6)) (.eq (.a v7 v6) v2), .no (.eq v4 v7)] (.s (.s (.s (.s (.l [1,0,1,0,0,0,1]) (.l [1,0,0,1,0,1])) (.s (.l [1,1,0,1,0,1,0,0,1]) (.l [1,0,0,0,1]))) (.s (.s (.l [1,0,1]) (.l [1,1,0,1,1,0,0,1])) (.s (.l [1,1,0,0,1,0,0,1]) (.l [1,0,1,1,0,0,1])))) (.s (.s (.s (.l [1,0,1,0,0,0,1]) (.l [1,0,0,1,0,1])) (.s (.l [1,1,0,1,0,1,0,0,1,1,0,1]) (.l [1,0,0,0,1]))) (.s (.s (.l [1,0,1]) (.l [1,1,0,1,1,0,1,1])) (.s (.l [1,1,0,0,1,0,0,1,1,0,1]) (.l [1,0,1,1,0,1,1]))))) rr h0 h1 (mn x0 x1) (sb (min x0 x1) x2) (sb x0 x2))
theorem o256 {x1 x2 x0 : Nat} (h0 : x1 = x2 - x0) (h1 : x0 + (x1 - 1) < x2) : x0 + (x1 - 1) = x2 - 1 := by_no (sound [x1, x2 - x0, x2, x0, x1 - 1, x2 - 1] [.eq v0 v1, .lt (.a v3 v4) v2, .or (.an (.eq v1 n0) (.le v2 v3)) (.eq (.a v1 v3) v2), .or (.an (.eq v4 n0) (.le v0 n1)) (.eq (.a v4 n1) v0), .or (.an (.eq v5 n0) (.le v2 n1)) (.eq (.a v5 n1) v2), .no (.eq (.a v3 v4) v5)] (.s (.s (.s (.s (.l [0,0,0,0,0,0,1,1,0,0,1]) (.l [1,1,0,1,0,0,0,0,0,0,1])) (.s (.l [1,1,0,0,0,1,1]) (.l [1,0,1,0,0,0,0,0,0,1]))) (.s (.s (.l [0,0,0,0,0,0,1,0,0,1]) (.l [1,1,0,1,0,0,0,0,0,1])) (.s (.l [1,1,0,0,0,1]) (.l [1,0,1,0,0,0,0,0,1])))) (.s (.s (.s (.l [1,0,1,0,0,0,1]) (.l [1,1,0,1,0,0,0,0,0,1])) (.s (.l [1,1,0,1,0,1,0,1,0,0,1]) (.l [1,0,1,0,0,0,0,0,1]))) (.s (.s (.l [1,0,1]) (.l [1,1,0,1,0,0,0,0,1])) (.s (.l [1,1,0,0,1,0,1,0,0,1]) (.l [1,0,1,0,0,0,0,1]))))) rr h0 h1 (sb x2 x0) (sb x1 1) (sb x2 1))
theorem o257 {x1 x3 x2 x0 : Nat} (h0 : x1 + x3 ≤ x2) : x0 - x1 = x0 - min x1 x2 := by_no (sound [x1, x3, x2, x0 - x1, x0, x0 - min x1 x2, min x1 x2] [.le (.a v0 v1) v2, .or (.an (.eq v3 n0) (.le v4 v0)) (.eq (.a v3 v0) v4), .or (.an (.eq v6 v0) (.le v0 v2)) (.an (.eq v6 v2) (.le v2 v0)), .or (.an (.eq v5 n0) (.le v4 v6)) (.eq (.a v5 v6) v4), .no (.eq v3 v5)] (.s (.s (.s (.s (.l [1,0,1,0,0,0,0,0,0,1]) (.l [1,0,0,1,0,0,0,0,1])) (.s (.l [1,1,0,0,0,1,1,0,1]) (.l [1,0,0,0,0,0,0,1]))) (.s (.s (.l [1,0,1,0,0,0,0,0,0,1]) (.l [1,0,0,1,0,0,0,0,1])) (.s (.l [1,1,0,0,0,1,1,0,1,1]) (.l [1,0,0,0,0,0,0,1])))) (.s (.s (.s (.l [1,0,1]) (.l [1,1,0,1,0,1,0,1])) (.s (.l [1,1,0,0,0,1,0,1]) (.l [1,0,1,0,1,0,1]))) (.s (.s (.l [1,0,1]) (.l [1,1,0,1,1,1,0,1])) (.s (.l [1,1,0,0,0,1,0,1,1]) (.l [1,0,1,1,1,0,1]))))) rr h0 (sb x0 x1) (mn x1 x2) (sb x0 (min x1 x2)))
theorem o258 {x1 x0 : Nat} (h0 : 1 ≤ x1) : 1 ≤ x0 + x1 := by_no (sound [x1, x0] [.le n1 v0, .no (.le n1 (.a v1 v0))] (.l [1,1]) rr h0)
theorem o259 {x2 x0 x1 : Nat} (h0 : ¬x2 < x0) : min x0 x1 ≤ x2 := by_no (sound [x2, x0, min x0 x1, x1] [.no (.lt v0 v1), .or (.an (.eq v2 v1) (.le v1 v3)) (.an (.eq v2 v3) (.le v3 v1)), .no (.le v2 v0)] (.s (.l [1,0,1,0,1]) (.l [1,1,1,0,1])) rr h0 (mn x0 x1))
theorem o260 {x0 x1 x3 x2 x4 x5 : Nat} (h0 : x0 + x1 = x3) (h1 : x2 = x4) (h2 : x3 + x5 ≤ x4) : x0 + x1 ≤ x2 := by_no (sound [x0, x1, x3, x2, x4, x5] [.eq (.a v0 v1) v2, .eq v3 v4, .le (.a v2 v5) v4, .no (.le (.a v0 v1) v3)] (.l [1,1,0,1,1]) rr h0 h1 h2)
theorem o261 {x3 x4 x1 x5 x6 x7 x0 x2 : Nat} (h0 : x3 + x4 + x1 ≤ x5 ∧ x5 + x6 ≤ x7) (h1 : x0 = x3 + x4) (h2 : x5 ≤ x2) : x0 + x1 ≤ x2 := by_no (sound [x3, x4, x1, x5, x6, x7, x0, x2] [.an (.le (.a (.a v0 v1) v2) v3) (.le (.a v3 v4) v5), .eq v6 (.a v0 v1), .le v3 v7, .no (.le (.a v6 v2) v7)] (.l [1,1,1,0,0,1]) rr h0 h1 h2)
theorem o262 {x1 x2 x3 x0 : Nat} (h0 : x1 + x2 ≤ x3) (h1 : ¬x0 < x1 + x2) : x0 = x1 + x2 + (x0 - (min x1 x3 + x2)) := by_no (sound [x1, x2, x3, x0, x0 - (min x1 x3 + x2), min x1 x3] [.le (.a v0 v1) v2, .no (.lt v3 (.a v0 v1)), .or (.an (.eq v5 v0) (.le v0 v2)) (.an (.eq v5 v2) (.le v2 v0)), .or (.an (.eq v4 n0) (.le v3 (.a v5 v1))) (.eq (.a v4 (.a v5 v1)) v3), .no (.eq v3 (.a (.a v0 v1) v4))] (.s (.s (.s (.l [1,0,1,0,0,0,0,1]) (.l [1,1,0,1,0,1])) (.s (.l [1,1,0,0,0,1]) (.l [1,0,1,0,1]))) (.s (.s (.l [1,0,1,0,0,0,0,1]) (.l [1,1,0,1,1,1])) (.s (.l [1,1,0,0,0,1,0,1]) (.l [1,0,1,1,1])))) rr h0 h1 (mn x1 x3) (sb x0 (min x1 x3 + x2)))
theorem o263 {x0 x3 x2 x1 : Nat} (h0 : x0 + x3 = x2) (h1 : ¬x3 - x1 = 0) : x0 + x1 < x2 := by_no (sound [x0, x3, x2, x3 - x1, x1] [.eq (.a v0 v1) v2, .no (.eq v3 n0), .or (.an (.eq v3 n0) (.le v1 v4)) (.eq (.a v3 v4) v1), .no (.lt (.a v0 v4) v2)] (.s (.s (.l [0,0,0,1,1]) (.l [0,0,0,1])) (.s (.l [0,0,1,0,1]) (.l [1,1,0,1,1]))) rr h0 h1 (sb x3 x1))
theorem o264 {x1 x3 x4 x0 x2 x5 : Nat} (h0 : x1 = x3 + x4 - x0) (h1 : x2 = x5) (h2 : x3 + x4 ≤ x5) (h3 : x0 < x3) : x0 + 0 + x1 ≤ x2 := by_no (sound [x1, x3 + x4 - x0, x3, x4, x0, x2, x5] [.eq v0 v1, .eq v5 v6, .le (.a v2 v3) v6, .lt v4 v2, .or (.an (.eq v1 n0) (.le (.a v2 v3) v4)) (.eq (.a v1 v4) (.a v2 v3)), .no (.le (.a (.a v4 n0) v0) v5)] (.s (.l [1,0,1,0,1,1,0,1,1]) (.l [1,1,0,0,1,0,1,1])) rr h0 h1 h2 h3 (sb (x3 + x4) x0))
theorem o265 {x0 : Nat} (h0 : 1 ≤ x0) : 0 < x0 := by_no (sound [x0] [.le n1 v0, .no (.lt n0 v0)] (.l [1,1]) rr h0)
theorem o266 {x2 x3 x1 x4 x0 : Nat} (h0 : x2 + x3 = x1) (h1 : x4 ≤ x3) (h2 : x0 < x2 + x4) : x0 < x1 := by_no (sound [x2, x3, x1, x4, x0] [.eq (.a v0 v1) v2, .le v3 v1, .lt v4 (.a v0 v3), .no (.lt v4 v2)] (.l [1,1,1,1]) rr h0 h1 h2)
theorem o268 {x1 x2 x3 x4 x0 : Nat} (h0 : x1 + x2 = x3) (h1 : x1 + x4 ≤ x0) (h2 : x0 < x3) : x0 - x1 < x2 := by_no (sound [x1, x2, x3, x4, x0, x0 - x1] [.eq (.a v0 v1) v2, .le (.a v0 v3) v4, .lt v4 v2, .or (.an (.eq v5 n0) (.le v4 v0)) (.eq (.a v5 v0) v4), .no (.lt v5 v1)] (.s (.l [1,0,1,0,1,1,0,1]) (.l [1,1,0,1,0,0,1])) rr h0 h1 h2 (sb x0 x1))
theorem o269 {x0 x3 x4 x1 x5 x6 x2 : Nat} (h0 : x0 = x3 + x4) (h1 : x3 + x4 + x1 + x5 ≤ x6) (h2 : x6 ≤ x2) : x0 + x1 ≤ x2 := by_no (sound [x0, x3, x4, x1, x5, x6, x2] [.eq v0 (.a v1 v2), .le (.a (.a (.a v1 v2) v3) v4) v5, .le v5 v6, .no (.le (.a v0 v3) v6)] (.l [1,1,1,1]) rr h0 h1 h2)
theorem o270 {x0 : Nat} (h0 : ¬x0 ≤ 1) : x0 - 2 + 1 < x0 := by_no (sound [x0, x0 - 2] [.no (.le v0 n1), .or (.an (.eq v1 n0) (.le v0 (.n 2))) (.eq (.a v1 (.n 2)) v0), .no (.lt (.a v1 n1) v0)] (.s (.l [1,0,1,0,1]) (.l [1,1])) rr h0 (sb x0 2))
theorem o271 {x1 x2 x0 : Nat} (h0 : x1 ≤ x2 - x0) (h1 : ¬x0 ≥ x2) : x0 + x1 ≤ x2 := by_no (sound [x1, x2 - x0, x2, x0] [.le v0 v1, .no (.le v2 v3), .or (.an (.eq v1 n0) (.le v2 v3)) (.eq (.a v1 v3) v2), .no (.le (.a v3 v0) v2)] (.s (.l [0,1,0,0,1]) (.l [1,1,0,0,1])) rr h0 h1 (sb x2 x0))
theorem o272 {x2 x3 x1 x0 : Nat} (h0 : 0 ≤ x2 ∧ x2 + x3 ≤ x1) (h1 : x0 < x2 + x3) : x0 < x1 := by_no (sound [x2, x3, x1, x0] [.an (.le n0 v0) (.le (.a v0 v1) v2), .lt v3 (.a v0 v1), .no (.lt v3 v2)] (.l [1,1,1]) rr h0 h1)
theorem o273 {x1 x2 x3 x0 : Nat} (h0 : x1 + x2 ≤ x3) (h1 : 1 ≤ x2) (h2 : x0 ≤ x1 ∨ x1 = x3) : x0 + 1 ≤ x1 + x2 ∨ x1 + x2 = x3 := by_no (sound [x1, x2, x3, x0] [.le (.a v0 v1) v2, .le n1 v1, .or (.le v3 v0) (.eq v0 v2), .no (.or (.le (.a v3 n1) (.a v0 v1)) (.eq (.a v0 v1) v2))] (.s (.s (.l [0,1,1,1]) (.l [1,0,0,0,1])) (.s (.l [1,0,0,1,1]) (.l [1,0,0,0,0,1]))) rr h0 h1 h2)
theorem o274 {x0 x1 : Nat} (h0 : ¬x0 ≥ x1) : x0 + (x1 - x0) ≤ x1 := by_no (sound [x1, x0, x1 - x0] [.no (.le v0 v1), .or (.an (.eq v2 n0) (.le v0 v1)) (.eq (.a v2 v1) v0), .no (.le (.a v1 v2) v0)] (.s (.l [0,1,0,0,1]) (.l [1,1])) rr h0 (sb x1 x0))
theorem o275 {x3 x0 x1 x2 : Nat} (h0 : x3 ≤ x0 - x1) (h1 : x3 < x2) (h2 : min (x0 - x1) x2 < x3) : False := sound [x3, x0 - x1, x0, x1, x2, min (x0 - x1) x2] [.le v0 v1, .lt v0 v4, .lt v5 v0, .or (.an (.eq v1 n0) (.le v2 v3)) (.eq (.a v1 v3) v2), .or (.an (.eq v5 v1) (.le v1 v4)) (.an (.eq v5 v4) (.le v4 v1))] (.s (.s (.l [0,0,1,0,0,0,1,0,1]) (.l [0,0,1,0,0,0,1,1])) (.s (.l [0,0,1,0,0,1,0,1]) (.l [0,0,1,0,0,1,1]))) rr h0 h1 h2 (sb x0 x1) (mn (x0 - x1) x2)
theorem o276 {x1 x2 x0 : Nat} (h0 : x1 = x2) (h1 : x0 + 1 < x2) : x0 + 1 < x1 := by_no (sound [x1, x2, x0] [.eq v0 v1, .lt (.a v2 n1) v1, .no (.lt (.a v2 n1) v0)] (.l [1,1,0,1]) rr h0 h1)
theorem o277 {x0 : Nat} (h0 : 1 < x0) : x0 - (x0 - 2) = 2 := by_no (sound [x0, x0 - (x0 - 2), x0 - 2] [.lt n1 v0, .or (.an (.eq v2 n0) (.le v0 (.n 2))) (.eq (.a v2 (.n 2)) v0), .or (.an (.eq v1 n0) (.le v0 v2)) (.eq (.a v1 v2) v0), .no (.eq v1 (.n 2))] (.s (.s (.s (.l [0,1,0,0,0,1,0,1]) (.l [1,0,1])) (.s (.l [1,0,1,0,1,0,1]) (.l [1,1,0,1,0,1]))) (.s (.s (.l [0,1,0,0,1]) (.l [1,0,1])) (.s (.l [1,0,1,1]) (.l [1,1,0,0,1])))) rr h0 (sb x0 2) (sb x0 (x0 - 2)))
theorem o278 {x1 x0 : Nat} (h0 : x1 < x0) (h1 : x0 = 0) : False := sound [x1, x0] [.lt v0 v1, .eq v1 n0] (.l [1,0,1]) rr h0 h1
theorem o279 {x0 x1 : Nat} (h0 : 0 + x0 ≤ x1) : x0 ≤ x1 := by_no (sound [x0, x1] [.le (.a n0 v0) v1, .no (.le v0 v1)] (.l [1,1]) rr h0)
theorem o280 {x1 x0 : Nat} (h0 : ¬x1 ≥ x0) : 1 ≤ x0 - x1 := by_no (sound [x0, x1, x0 - x1] [.no (.le v0 v1), .or (.an (.eq v2 n0) (.le v0 v1)) (.eq (.a v2 v1) v0), .no (.le n1 v2)] (.s (.l [0,1,0,0,1]) (.l [1,0,1,1])) rr h0 (sb x0 x1))
theorem o281 {x1 x2 x3 x0 : Nat} (h0 : x1 = x2 + (x3 + 1 + 1)) (h1 : x0 = x2 + (x3 + 1)) : x0 + 1 = x1 := by_no (sound [x1, x2, x3, x0] [.eq v0 (.a v1 (.a (.a v2 n1) n1)), .eq v3 (.a v1 (.a v2 n1)), .no (.eq (.a v3 n1) v0)] (.s (.l [1,0,1,1]) (.l [1,1,0,0,1])) rr h0 h1)
theorem o282 {x0 x3 x1 x2 : Nat} (h0 : x0 + 1 = x3) (h1 : x3 ≤ 1 ∨ x3 + x1 ≤ x2) : x0 ≤ 1 ∨ x0 + (x1 + 1) ≤ x2 := by_no (sound [x0, x3, x1, x2] [.eq (.a v0 n1) v1, .or (.le v1 n1) (.le (.a v1 v2) v3), .no (.or (.le v0 n1) (.le (.a v0 (.a v2 n1)) v3))] (.s (.l [0,1,1,1]) (.l [1,0,1,1])) rr h0 h1)
theorem o283 {x0 x1 : Nat} (h0 : x0 ≤ x1) (h1 : max 0 x1 ≤ x0 ∨ x0 = x1) : x0 = x1 := by_no (sound [x0, x1, max 0 x1] [.le v0 v1, .or (.le v2 v0) (.eq v0 v1), .or (.an (.eq v2 n0) (.le v1 n0)) (.an (.eq v2 v1) (.le n0 v1)), .no (.eq v0 v1)] (.s (.s (.s (.l [1,1]) (.l [1,0,0,0,0,1])) (.s (.l [1,0,0,1,1]) (.l [1,0,0,0,0,1]))) (.s (.s (.l [1,0,0,0,0,1]) (.l [1,0,0,0,1])) (.s (.l [1,0,0,0,0,1]) (.l [1,0,0,0,1])))) rr h0 h1 (mx 0 x1))
theorem o284 {x0 : Nat} (h0 : ¬x0 ≤ 1) : x0 - 2 - 1 + 1 < x0 := by_no (sound [x0, x0 - 2 - 1, x0 - 2] [.no (.le v0 n1), .or (.an (.eq v2 n0) (.le v0 (.n 2))) (.eq (.a v2 (.n 2)) v0), .or (.an (.eq v1 n0) (.le v2 n1)) (.eq (.a v1 n1) v2), .no (.lt (.a v1 n1) v0)] (.s (.s (.l [1,0,1,0,0,0,0,1]) (.l [1,1,0,0,1,0,1])) (.s (.l [1,0,1,0,0,0,1]) (.l [1,1,0,1]))) rr h0 (sb x0 2) (sb (x0 - 2) 1))
theorem o285 {x1 x2 x3 x0 : Nat} (h0 : ¬min (x1 - x2) x3 < x0) : x0 ≤ min (x1 - x2) x3 := by_no (sound [min (x1 - x2) x3, x1 - x2, x1, x2, x3, x0] [.no (.lt v0 v5), .or (.an (.eq v1 n0) (.le v2 v3)) (.eq (.a v1 v3) v2), .or (.an (.eq v0 v1) (.le v1 v4)) (.an (.eq v0 v4) (.le v4 v1)), .no (.le v5 v0)] (.s (.s (.l [1,0,0,0,0,0,0,1]) (.l [1,0,0,0,0,0,0,1])) (.s (.l [1,0,0,0,0,0,1]) (.l [1,0,0,0,0,0,1]))) rr h0 (sb x1 x2) (mn (x1 - x2) x3))
theorem o286 {x0 x1 : Nat} (h0 : x0 + 1 < x1) : x0 = min x0 x1 := by_no (sound [x0, x1, min x0 x1] [.lt (.a v0 n1) v1, .or (.an (.eq v2 v0) (.le v0 v1)) (.an (.eq v2 v1) (.le v1 v0)), .no (.eq v0 v2)] (.s (.s (.l [1,0,1]) (.l [1,0,0,1])) (.s (.l [0,1,0,0,1]) (.l [0,1,0,0,1]))) rr h0 (mn x0 x1))
theorem o287 {x0 : Nat} : min (x0 - 2) x0 = x0 - 2 := by_no (sound [min (x0 - 2) x0, x0 - 2, x0] [.or (.an (.eq v1 n0) (.le v2 (.n 2))) (.eq (.a v1 (.n 2)) v2), .or (.an (.eq v0 v1) (.le v1 v2)) (.an (.eq v0 v2) (.le v2 v1)), .no (.eq v0 v1)] (.s (.s (.s (.l [1,0,0,1]) (.l [1,0,1])) (.s (.l [1,0,0,0,0,1]) (.l [1,1,1]))) (.s (.s (.l [1,0,0,1]) (.l [1,0,1])) (.s (.l [0,1,0,0,1]) (.l [0,1,0,0,1])))) rr (sb x0 2) (mn (x0 - 2) x0))
theorem o288 {x0 x1 x2 : Nat} (h0 : ¬x0 ≥ x1) : x0 + min (x1 - x0) x2 ≤ x1 := by_no (sound [x1, x0, min (x1 - x0) x2, x1 - x0, x2] [.no (.le v0 v1), .or (.an (.eq v3 n0) (.le v0 v1)) (.eq (.a v3 v1) v0), .or (.an (.eq v2 v3) (.le v3 v4)) (.an (.eq v2 v4) (.le v4 v3)), .no (.le (.a v1 v2) v0)] (.s (.s (.l [0,0,0,0,1,0,0,1]) (.l [0,0,0,0,1,0,0,1])) (.s (.l [1,0,1,0,1]) (.l [1,1,1,0,1]))) rr h0 (sb x1 x0) (mn (x1 - x0) x2))
theorem o289 {x0 x1 : Nat} (h0 : x0 ≤ 1 ∨ x0 + max 0 x1 ≤ x1) : x0 ≤ 1 := by_no (sound [x0, max 0 x1, x1] [.or (.le v0 n1) (.le (.a v0 v1) v2), .or (.an (.eq v1 n0) (.le v2 n0)) (.an (.eq v1 v2) (.le n0 v2)), .no (.le v0 n1)] (.s (.s (.l [1,0,0,0,1]) (.l [1,0,0,0,1])) (.s (.l [1,1,0,1,1]) (.l [1,0,0,1,1]))) rr h0 (mx 0 x1))
theorem o290 {x3 x0 x1 x2 : Nat} (h0 : 1 ≤ x3) (h1 : ¬min (x0 - x1) x2 < x3) : 1 ≤ min (x0 - x1) x2 := by_no (sound [x3, min (x0 - x1) x2, x0 - x1, x0, x1, x2] [.le n1 v0, .no (.lt v1 v0), .or (.an (.eq v2 n0) (.le v3 v4)) (.eq (.a v2 v4) v3), .or (.an (.eq v1 v2) (.le v2 v5)) (.an (.eq v1 v5) (.le v5 v2)), .no (.le n1 v1)] (.s (.s (.l [1,0,0,0,0,0,0,1,1]) (.l [1,0,0,0,0,0,0,1,1])) (.s (.l [1,0,0,0,0,0,1,1]) (.l [1,0,0,0,0,0,1,1]))) rr h0 h1 (sb x0 x1) (mn (x0 - x1) x2))
theorem o291 {x1 x0 : Nat} (h0 : x1 ≤ 1) (h1 : x0 + 1 + 1 = x1) : False := sound [x1, x0] [.le v0 n1, .eq (.a (.a v1 n1) n1) v0] (.l [1,0,1]) rr h0 h1
theorem o292 {x0 : Nat} (h0 : x0 ≤ 100000) : x0 ≤ 16777216 + 1 := by_no (sound [x0] [.le v0 (.n 100000), .no (.le v0 (.a (.n 16777216) n1))] (.l [1,1]) rr h0)
theorem o294 : 0 ≤ 16777216 + 1 := by decide
theorem o295 : 0 ≤ 16777216 := by decide
theorem o296 {x0 : Nat} (h0 : x0 ≤ 100000) : x0 ≤ 16777216 := by_no (sound [x0] [.le v0 (.n 100000), .no (.le v0 (.n 16777216))] (.l [1,1]) rr h0)
theorem o297 {x2 x3 x0 x1 : Nat} (h0 : x2 = x3) (h1 : x0 ≤ x1) (h2 : x2 < 2) (h3 : x1 < x3) : x0 = x1 := by_no (sound [x2, x3, x0, x1] [.eq v0 v1, .le v2 v3, .lt v0 (.n 2), .lt v3 v1, .no (.eq v2 v3)] (.s (.l [1,1,1,0,0,1]) (.l [1,0,0,1])) rr h0 h1 h2 h3)
theorem o298 {x0 x2 x3 x1 : Nat} (h0 : x0 = x2 + 1) (h1 : x2 ≤ x3) (h2 : x3 + 1 < x1) : x0 < x1 := by_no (sound [x0, x2, x3, x1] [.eq v0 (.a v1 n1), .le v1 v2, .lt (.a v2 n1) v3, .no (.lt v0 v3)] (.l [1,1,1,1]) rr h0 h1 h2)
theorem o299 {x0 x1 x2 : Nat} (h0 : x0 - x1 = x2 + 1) : x0 - (x1 + 1) = x2 := by_no (sound [x0 - x1, x0, x1, x2, x0 - (x1 + 1)] [.eq v0 (.a v3 n1), .or (.an (.eq v0 n0) (.le v1 v2)) (.eq (.a v0 v2) v1), .or (.an (.eq v4 n0) (.le v1 (.a v2 n1))) (.eq (.a v4 (.a v2 n1)) v1), .no (.eq v4 v3)] (.s (.s (.s (.l [1,0,0,1,0,1,0,0,1]) (.l [1,0,1])) (.s (.l [0,0,0,0,1,0,0,1]) (.l [0,1,0,1]))) (.s (.s (.l [1,1,0,1,1,0,0,1]) (.l [1,0,1])) (.s (.l [1,0,1,1,0,0,1]) (.l [1,1,0,0,1,1])))) rr h0 (sb x0 x1) (sb x0 (x1 + 1)))
theorem o300 {x0 : Nat} : x0 - 0 = x0 - 0 := by_no (sound [x0 - 0, x0] [.or (.an (.eq v0 n0) (.le v1 n0)) (.eq (.a v0 n0) v1), .no (.eq v0 v0)] (.s (.s (.l [1]) (.l [1])) (.s (.l [1]) (.l [1]))) rr (sb x0 0))
theorem o301 {x1 x0 : Nat} (h0 : x1 = x0) : x0 = x1 := by_no (sound [x1, x0] [.eq v0 v1, .no (.eq v1 v0)] (.s (.l [1,1]) (.l [1,0,1])) rr h0)
theorem o302 {x1 x0 : Nat} (h0 : x1 - x0 = 0) (h1 : x0 ≤ x1) : x0 = x1 := by_no (sound [x1 - x0, x1, x0] [.eq v0 n0, .le v2 v1, .or (.an (.eq v0 n0) (.le v1 v2)) (.eq (.a v0 v2) v1), .no (.eq v2 v1)] (.s (.s (.l [1,1]) (.l [1,0,0,0,1])) (.s (.l [1,0,1,0,1]) (.l [1,0,0,1]))) rr h0 h1 (sb x1 x0))
theorem o303 {x1 x0 x2 : Nat} (h0 : x1 - x0 = x2 + 1) : x0 < x1 := by_no (sound [x1 - x0, x1, x0, x2] [.eq v0 (.a v3 n1), .or (.an (.eq v0 n0) (.le v1 v2)) (.eq (.a v0 v2) v1), .no (.lt v2 v1)] (.s (.l [0,0,1,0,0,1]) (.l [1,1,0,0,1])) rr h0 (sb x1 x0))
theorem o304 {x3 x2 x0 x1 : Nat} (h0 : x3 + 1 < x2) (h1 : x0 < x3) : min x0 x1 + 1 < x2 := by_no (sound [x3, x2, x0, min x0 x1, x1] [.lt (.a v0 n1) v1, .lt v2 v0, .or (.an (.eq v3 v2) (.le v2 v4)) (.an (.eq v3 v4) (.le v4 v2)), .no (.lt (.a v3 n1) v1)] (.s (.l [1,0,1,0,1,1]) (.l [1,1,1,0,1,1])) rr h0 h1 (mn x0 x1))
theorem o305 {x1 x0 : Nat} (h0 : x1 + 1 = x0) : 0 < x0 := by_no (sound [x1, x0] [.eq (.a v0 n1) v1, .no (.lt n0 v1)] (.l [1,1]) rr h0)
theorem o306 : 0 + 1 + 1 + 1 + 1 + 1 ≤ 16777216 + 2 := by decide
theorem o307 {x0 : Nat} (h0 : 1 < x0) (h1 : x0 = 0) : False := sound [x0] [.lt n1 v0, .eq v0 n0] (.l [1,0,1]) rr h0 h1
theorem o308 {x0 : Nat} (h0 : 0 ≥ x0) : x0 = 0 := by_no (sound [x0] [.le v0 n0, .no (.eq v0 n0)] (.s (.l [1]) (.l [1,1])) rr h0)
theorem o314 {x0 : Nat} (h0 : x0 ≤ 1) (h1 : 0 < x0) : x0 = 1 := by_no (sound [x0] [.le v0 n1, .lt n0 v0, .no (.eq v0 n1)] (.s (.l [1,1]) (.l [1,0,1])) rr h0 h1)
theorem o315 {x1 x0 : Nat} (h0 : x1 ≤ 1) (h1 : x0 < x1) : x0 = 0 := by_no (sound [x1, x0] [.le v0 n1, .lt v1 v0, .no (.eq v1 n0)] (.s (.l [1]) (.l [1,1,1])) rr h0 h1)
theorem o316 {x0 : Nat} (h0 : x0 = 0) (h1 : 0 < x0) : False := sound [x0] [.eq v0 n0, .lt n0 v0] (.l [1,1]) rr h0 h1
theorem o317 {x1 x0 : Nat} (h0 : x1 = 0) (h1 : x1 = x0) : x0 = 0 := by_no (sound [x1, x0] [.eq v0 n0, .eq v0 v1, .no (.eq v1 n0)] (.s (.l [1]) (.l [1,0,1,1])) rr h0 h1)
theorem o320 {x1 x0 : Nat} (h0 : x1 = 4096) (h1 : x0 < x1) : x0 ≤ 16777216 := by_no (sound [x1, x0] [.eq v0 (.n 4096), .lt v1 v0, .no (.le v1 (.n 16777216))] (.l [1,1,1]) rr h0 h1)
theorem o321 {x0 x1 : Nat} (h0 : x0 ≤ x1) : 1 + x0 ≤ x1 + 1 := by_no (sound [x0, x1] [.le v0 v1, .no (.le (.a n1 v0) (.a v1 n1))] (.l [1,1]) rr h0)
theorem o322 {x0 : Nat} (h0 : ¬(0 : Int) < (x0 : Int)) : (0 : Int) = (x0 : Int) := i_eq (by_no (sound [x0] [.no (.lt n0 v0), .no (.eq n0 v0)] (.s (.l [1,1]) (.l [1])) rr (nlt_i h0)))
theorem o323 {x0 : Nat} (h0 : x0 < 2 ^ 60) : (x0 : Int) < (2 : Int) ^ 62 := i_lt (by_no (sound [x0] [.lt v0 (.n 1152921504606846976), .no (.lt v0 (.n 4611686018427387904))] (.l [1,1]) rr h0))
theorem o324 {x1 x0 : Nat} (h0 : x1 < x0) : x0 - (x1 + 1) < x0 - x1 := by_no (sound [x1, x0, x0 - (x1 + 1), x0 - x1] [.lt v0 v1, .or (.an (.eq v2 n0) (.le v1 (.a v0 n1))) (.eq (.a v2 (.a v0 n1)) v1), .or (.an (.eq v3 n0) (.le v1 v0)) (.eq (.a v3 v0) v1), .no (.lt v2 v3)] (.s (.s (.l [0,1,0,0,0,0,0,1]) (.l [1,0,1,0,1,0,1])) (.s (.l [0,1,0,0,0,0,1]) (.l [1,0,1,1]))) rr h0 (sb x0 (x1 + 1)) (sb x0 x1))
theorem o325 {x0 : Nat} : (0 : Int) + (x0 : Int) * (1 : Int) = (x0 : Int) := (Int.zero_add _).trans (Int.mul_one _)
theorem o326 {x0 : Nat} : (x0 : Int) - (0 : Int) = (x0 : Int) := Int.sub_zero _
theorem o327 : (1 : Int) < (2 : Int) ^ 64 := by decide
theorem o335 {x0 : Nat} (h0 : 1 ≤ x0) (h1 : x0 = 0) : False := sound [x0] [.le n1 v0, .eq v0 n0] (.l [1,0,1]) rr h0 h1
theorem o338 {x1 x0 : Nat} (h0 : x1 ≠ x0) (h1 : x0 = x1) : False := sound [x1, x0] [.no (.eq v0 v1), .eq v1 v0] (.s (.l [1,0,1]) (.l [0,1,1])) rr h0 h1
theorem o352 {x0 : Nat} (h0 : x0 < 32) : (x0 : Int) ≤ (1000000 : Int) := i_le (by_no (sound [x0] [.lt v0 (.n 32), .no (.le v0 (.n 1000000))] (.l [1,1]) rr h0))
theorem o353 {x0 : Nat} : (0 : Int) ≤ (x0 : Int) := i_le (by_no (sound [x0] [.no (.le n0 v0)] (.l [1]) rr))
theorem o354 {x0 : Nat} (h0 : x0 ≤ 255) : x0 < 240 + 16 := by_no (sound [x0] [.le v0 (.n 255), .no (.lt v0 (.a (.n 240) (.n 16)))] (.l [1,1]) rr h0)
theorem o355 {x0 : Nat} (h0 : x0 ≤ 4) (h1 : 4 < x0) : False := sound [x0] [.le v0 (.n 4), .lt (.n 4) v0] (.l [1,1]) rr h0 h1
theorem o356 {x0 x1 : Nat} (h0 : x0 < x1 + 16) : x0 - x1 < 16 := by_no (sound [x0, x1, x0 - x1] [.lt v0 (.a v1 (.n 16)), .or (.an (.eq v2 n0) (.le v0 v1)) (.eq (.a v2 v1) v0), .no (.lt v2 (.n 16))] (.s (.l [1,0,1]) (.l [1,1,0,1])) rr h0 (sb x0 x1))
theorem o357 {x1 x0 : Nat} (h0 : x1 ≤ 1000000) (h1 : x0 < x1) : (x0 : Int) < (2 : Int) ^ 63 - (1 : Int) := Int.lt_of_lt_of_le (i_lt (b := 1000000) (Nat.lt_of_lt_of_le h1 h0)) (by decide)
theorem o358 {x0 x1 : Nat} (h0 : x0 = x1) (h1 : x1 < 4096) : x0 ≤ 100000 := by_no (sound [x0, x1] [.eq v0 v1, .lt v1 (.n 4096), .no (.le v0 (.n 100000))] (.l [1,1,1]) rr h0 h1)
theorem o359 {x0 x1 : Nat} (h0 : x0 ≤ x1) (h1 : x1 + 1 < 4096) : x0 ≤ 16777216 := by_no (sound [x0, x1] [.le v0 v1, .lt (.a v1 n1) (.n 4096), .no (.le v0 (.n 16777216))] (.l [1,1,1]) rr h0 h1)
theorem o360 {x0 : Nat} (h0 : (x0 : Int) < (5 : Int)) : x0 < 5 := by_no (sound [x0] [.lt v0 (.n 5), .no (.lt v0 (.n 5))] (.l [1,1]) rr (lt_i h0))
theorem o361 {x0 : Nat} (h0 : ¬(x0 : Int) < (5 : Int)) (h1 : x0 < 5) : False := sound [x0] [.no (.lt v0 (.n 5)), .lt v0 (.n 5)] (.l [1,1]) rr (nlt_i h0) h1
theorem o362 {x0 : Nat} (h0 : ¬x0 < 5) : 5 ≤ x0 := by_no (sound [x0] [.no (.lt v0 (.n 5)), .no (.le (.n 5) v0)] (.l [1,1]) rr h0)
theorem o363 {x0 x1 : Nat} (h0 : x0 + 2 < x1) : x0 < x1 := by_no (sound [x0, x1] [.lt (.a v0 (.n 2)) v1, .no (.lt v0 v1)] (.l [1,1]) rr h0)
theorem o364 {x0 x1 : Nat} (h0 : x0 ≤ 4) (h1 : x1 ≤ 4) : x0 + x1 ≤ 16777216 := by_no (sound [x0, x1] [.le v0 (.n 4), .le v1 (.n 4), .no (.le (.a v0 v1) (.n 16777216))] (.l [1,1,1]) rr h0 h1)
theorem o365 {x0 x2 x1 x3 : Nat} (h0 : x0 = x2) (h1 : x1 = x3) (h2 : ¬x2 = x3) (h3 : x0 = x1) : False := sound [x0, x2, x1, x3] [.eq v0 v1, .eq v2 v3, .no (.eq v1 v3), .eq v0 v2] (.s (.l [0,1,1,0,1,1]) (.l [1,0,1,1,0,0,1])) rr h0 h1 h2 h3
theorem o366 {x2 x1 x0 : Nat} (h0 : x2 = x1) (h1 : x0 < x2) : x0 < x1 := by_no (sound [x2, x1, x0] [.eq v0 v1, .lt v2 v0, .no (.lt v2 v1)] (.l [1,1,1]) rr h0 h1)
theorem o367 {x0 x2 x1 x3 : Nat} (h0 : x0 = x2) (h1 : x1 = x3) (h2 : x2 = x3) : x0 = x1 := by_no (sound [x0, x2, x1, x3] [.eq v0 v1, .eq v2 v3, .eq v1 v3, .no (.eq v0 v2)] (.s (.l [1,0,1,1,0,0,1]) (.l [1,1,0,0,1,1])) rr h0 h1 h2)
theorem o368 {x2 x0 x1 : Nat} (h0 : x2 = x0) (h1 : x1 ≥ x2) : x0 ≤ x1 := by_no (sound [x2, x0, x1] [.eq v0 v1, .le v0 v2, .no (.le v1 v2)] (.l [1,1,0,1]) rr h0 h1)
theorem o369 : 0 + 1 ≤ 16777216 := by decide
theorem o370 {x2 x3 x0 x1 x5 : Nat} {p4 : Prop} (h0 : x2 + x3 + 1 < 4096 ∧ p4) (h1 : x0 = x2) (h2 : x1 = x5) (h3 : x5 ≤ x3) : x0 + x1 + 1 < 4096 := by_no (sound [x2, x3, x0, x1, x5] [.lt (.a (.a v0 v1) n1) (.n 4096), .eq v2 v0, .eq v3 v4, .le v4 v1, .no (.lt (.a (.a v2 v3) n1) (.n 4096))] (.l [1,1,1,0,1,0,1]) rr (And.left h0) h1 h2 h3)
theorem o371 {x2 x1 x0 : Nat} (h0 : x2 = x1 - 1) (h1 : x0 ≤ x2) (h2 : 0 < x1) : x0 + 1 ≤ x1 := by_no (sound [x2, x1 - 1, x1, x0] [.eq v0 v1, .le v3 v0, .lt n0 v2, .or (.an (.eq v1 n0) (.le v2 n1)) (.eq (.a v1 n1) v2), .no (.le (.a v3 n1) v2)] (.s (.l [1,0,1,0,1,1,1]) (.l [1,1,0,0,1,1])) rr h0 h1 h2 (sb x1 1))
theorem o372 {x0 : Nat} (h0 : x0 < 4) : x0 + (4 - x0) = 4 := by_no (sound [x0, 4 - x0] [.lt v0 (.n 4), .or (.an (.eq v1 n0) (.le (.n 4) v0)) (.eq (.a v1 v0) (.n 4)), .no (.eq (.a v0 v1) (.n 4))] (.s (.s (.l [0,1,0,0,1]) (.l [0,1,0,0,1])) (.s (.l [1,0,1]) (.l [1,1]))) rr h0 (sb 4 x0))
theorem o373 {x2 x3 x0 x1 x5 : Nat} {p4 : Prop} (h0 : x2 + x3 + 1 < 4096 ∧ p4) (h1 : x0 = x2) (h2 : x1 = x5) (h3 : x5 ≤ x3) : x0 + x1 ≤ 16777216 := by_no (sound [x2, x3, x0, x1, x5] [.lt (.a (.a v0 v1) n1) (.n 4096), .eq v2 v0, .eq v3 v4, .le v4 v1, .no (.le (.a v2 v3) (.n 16777216))] (.l [1,1,1,0,1,0,1]) rr (And.left h0) h1 h2 h3)
theorem o374 {x0 x1 : Nat} (h0 : x0 + 3 < x1) : x0 < x1 := by_no (sound [x0, x1] [.lt (.a v0 (.n 3)) v1, .no (.lt v0 v1)] (.l [1,1]) rr h0)
theorem o375 {x1 x0 : Nat} {p2 : Prop} (h0 : x1 + x0 + 1 < 4096 ∧ p2) : x0 + 1 < 4096 := by_no (sound [x1, x0] [.lt (.a (.a v0 v1) n1) (.n 4096), .no (.lt (.a v1 n1) (.n 4096))] (.l [1,1]) rr (And.left h0))
theorem o376 {x0 : Nat} (h0 : 15 < x0) : (15 : Int) < (x0 : Int) := i_lt (by_no (sound [x0] [.lt (.n 15) v0, .no (.lt (.n 15) v0)] (.l [1,1]) rr h0))
theorem o377 {x0 : Nat} (h0 : 15 ≥ x0) (h1 : 15 < x0) : False := sound [x0] [.le v0 (.n 15), .lt (.n 15) v0] (.l [1,1]) rr h0 h1
theorem o378 {x0 : Nat} (h0 : 15 ≥ x0) : x0 < 41 := by_no (sound [x0] [.le v0 (.n 15), .no (.lt v0 (.n 41))] (.l [1,1]) rr h0)
theorem o379 {x0 : Nat} (h0 : x0 ≤ 40) : (x0 : Int) / (16 : Int) < ((16 : Nat) : Int) := i_lt (a := x0 / 16) (b := 16) (Nat.div_lt_of_lt_mul (Nat.lt_of_le_of_lt h0 (by decide)))
theorem o380 {x0 : Nat} (h0 : x0 ≤ 40) : x0 < 41 := by_no (sound [x0] [.le v0 (.n 40), .no (.lt v0 (.n 41))] (.l [1,1]) rr h0)
theorem o381 : (0 : Int) ≤ (16 : Int) := by decide
theorem o382 {x0 : Nat} (h0 : 15 ≥ x0) (h1 : (15 : Int) < (x0 : Int)) : False := sound [x0] [.le v0 (.n 15), .lt (.n 15) v0] (.l [1,1]) rr h0 (lt_i h1)
theorem o383 {x0 : Int} (h0 : x0 ≤ (300 : Int)) (h1 : (63 : Int) < x0 / (64 : Int)) : False := absurd (Int.lt_of_lt_of_le h1 (Int.ediv_le_ediv (by decide) h0)) (by decide)
theorem o384 {x0 : Nat} (h0 : x0 + 2 ≤ 1000) : x0 + 2 ≤ 16777216 := by_no (sound [x0] [.le (.a v0 (.n 2)) (.n 1000), .no (.le (.a v0 (.n 2)) (.n 16777216))] (.l [1,1]) rr h0)
theorem o385 {x1 x0 : Nat} (h0 : x1 + 1 < x0) (h1 : x0 = x1 + 1) : False := sound [x1, x0] [.lt (.a v0 n1) v1, .eq v1 (.a v0 n1)] (.l [1,0,1]) rr h0 h1
theorem o386 {x0 : Nat} (h0 : x0 ≤ 4) : x0 ≤ 16777216 := by_no (sound [x0] [.le v0 (.n 4), .no (.le v0 (.n 16777216))] (.l [1,1]) rr h0)
theorem o387 : 0 + 1 + 1 + 1 + 1 + 1 + 1 + 1 + 1 ≤ 16777216 := by decide
theorem o388 {x0 x3 x1 x2 : Nat} (h0 : x0 ≤ x3) (h1 : x1 ≤ x2) : x0 + x1 ≤ x2 + x3 := by_no (sound [x0, x3, x1, x2] [.le v0 v1, .le v2 v3, .no (.le (.a v0 v2) (.a v3 v1))] (.l [1,1,1]) rr h0 h1)
theorem o389 {x0 : Nat} (h0 : x0 < 8) : (x0 : Int) < (2 : Int) ^ 63 := i_lt (by_no (sound [x0] [.lt v0 (.n 8), .no (.lt v0 (.n 9223372036854775808))] (.l [1,1]) rr h0))
theorem o390 {x0 x1 : Nat} (h0 : x0 + 4 < x1) : x0 < x1 := by_no (sound [x0, x1] [.lt (.a v0 (.n 4)) v1, .no (.lt v0 v1)] (.l [1,1]) rr h0)
theorem o391 {x0 x1 : Nat} (h0 : x0 + 4 < x1) : x0 + 1 + 2 < x1 := by_no (sound [x0, x1] [.lt (.a v0 (.n 4)) v1, .no (.lt (.a (.a v0 n1) (.n 2)) v1)] (.l [1,1]) rr h0)
theorem o392 {x1 x0 : Nat} (h0 : x1 + 1 + 1 ≠ x0) (h1 : x0 = x1 + 1 + 1) : False := sound [x1, x0] [.no (.eq (.a (.a v0 n1) n1) v1), .eq v1 (.a (.a v0 n1) n1)] (.s (.l [1,0,1]) (.l [0,1,1])) rr h0 h1
theorem o393 {x0 : Nat} (h0 : x0 < 1) : x0 = 0 := by_no (sound [x0] [.lt v0 n1, .no (.eq v0 n0)] (.s (.l [1]) (.l [1,1])) rr h0)
theorem o394 {x0 x2 x3 x1 : Nat} (h0 : x0 ≤ 1 + x2 * 4096) (h1 : x3 ≤ 4096) (h2 : x1 ≤ x3) : x0 + x1 ≤ 1 + (x2 + 1) * 4096 := Nat.le_trans (Nat.add_le_add h0 (Nat.le_trans h2 h1)) (Nat.le_of_eq ((Nat.add_assoc 1 _ _).trans (congrArg (1 + ·) (Nat.succ_mul x2 4096).symm)))
theorem o395 {x0 : Nat} (h0 : x0 ≥ 3) (h1 : x0 < 4) : x0 = 3 := by_no (sound [x0] [.le (.n 3) v0, .lt v0 (.n 4), .no (.eq v0 (.n 3))] (.s (.l [1,0,1]) (.l [1,1])) rr h0 h1)
theorem o396 {x0 : Nat} (h0 : x0 < 128) : (x0 : Int) ≤ (1114111 : Int) := i_le (by_no (sound [x0] [.lt v0 (.n 128), .no (.le v0 (.n 1114111))] (.l [1,1]) rr h0))
theorem o397 {x0 : Nat} (h0 : x0 + 1 = x0 + 1 + 1) : False := sound [x0] [.eq (.a v0 n1) (.a (.a v0 n1) n1)] (.l [0,1]) rr h0
theorem o398 {x1 x0 : Nat} (h0 : x1 + 1 + 1 + 1 ≠ x0) (h1 : x0 = x1 + 1 + 1 + 1) : False := sound [x1, x0] [.no (.eq (.a (.a (.a v0 n1) n1) n1) v1), .eq v1 (.a (.a (.a v0 n1) n1) n1)] (.s (.l [1,0,1]) (.l [0,1,1])) rr h0 h1
theorem o399 {x2 x1 x0 x3 : Nat} (h0 : x2 ≤ 4096) (h1 : x1 ≤ 8) (h2 : x0 ≤ x3 * 8) (h3 : x3 ≤ x2) : x0 + x1 ≤ 16777216 := Nat.le_trans (Nat.add_le_add (Nat.le_trans h2 (Nat.mul_le_mul_right 8 (Nat.le_trans h3 h0))) h1) (by decide)
theorem o400 {x1 x0 x2 : Nat} (h0 : x1 ≤ 4096) (h1 : x0 ≤ x2) (h2 : x2 ≤ x1) : x0 ≤ 16777216 := by_no (sound [x1, x0, x2] [.le v0 (.n 4096), .le v1 v2, .le v2 v0, .no (.le v1 (.n 16777216))] (.l [1,1,1,1]) rr h0 h1 h2)
theorem o402 {x1 x0 : Nat} (h0 : x1 ≤ 8) (h1 : x0 ≤ x1) : x0 ≤ 16777216 := by_no (sound [x1, x0] [.le v0 (.n 8), .le v1 v0, .no (.le v1 (.n 16777216))] (.l [1,1,1]) rr h0 h1)
theorem o403 {x0 : Nat} (h0 : x0 ≥ 1) (h1 : x0 < 2) : x0 = 1 := by_no (sound [x0] [.le n1 v0, .lt v0 (.n 2), .no (.eq v0 n1)] (.s (.l [1,0,1]) (.l [1,1])) rr h0 h1)
theorem o404 {x0 : Nat} (h0 : x0 ≥ 2) (h1 : x0 < 3) : x0 = 2 := by_no (sound [x0] [.le (.n 2) v0, .lt v0 (.n 3), .no (.eq v0 (.n 2))] (.s (.l [1,0,1]) (.l [1,1])) rr h0 h1)
theorem o405 {x0 : Nat} (h0 : x0 + 1 ≤ 4) : x0 < 4 := by_no (sound [x0] [.le (.a v0 n1) (.n 4), .no (.lt v0 (.n 4))] (.l [1,1]) rr h0)
theorem o406 {x0 x1 : Nat} (h0 : x0 < x1) : (x0 : Int) < (x1 : Int) := i_lt (by_no (sound [x0, x1] [.lt v0 v1, .no (.lt v0 v1)] (.l [1,1]) rr h0))
theorem o407 {x1 x2 x0 x3 x4 x5 : Nat} (h0 : x1 = x2) (h1 : x0 = x3) (h2 : x3 ≤ 1 + x4 * 4096) (h3 : x5 ≤ 4096) (h4 : x2 ≤ x5) (h5 : x4 < 4) : x0 + x1 ≤ 16777216 := Nat.le_trans (Nat.add_le_add (Nat.le_trans (Nat.le_of_eq h1) (Nat.le_trans h2 (Nat.add_le_add_left (Nat.mul_le_mul_right 4096 (Nat.le_of_lt_succ h5)) 1))) (Nat.le_trans (Nat.le_of_eq h0) (Nat.le_trans h4 h3))) (by decide)
theorem o408 {x0 : Nat} (h0 : x0 + 1 ≤ 4) : x0 ≤ 4 := by_no (sound [x0] [.le (.a v0 n1) (.n 4), .no (.le v0 (.n 4))] (.l [1,1]) rr h0)
theorem o409 {x1 x0 : Nat} (h0 : x1 ≤ 8) (h1 : x0 < x1) : (x0 : Int) < (2 : Int) ^ 63 := i_lt (by_no (sound [x1, x0] [.le v0 (.n 8), .lt v1 v0, .no (.lt v1 (.n 9223372036854775808))] (.l [1,1,1]) rr h0 h1))
theorem o410 {x0 : Nat} (h0 : x0 ≤ 8) : x0 ≤ 16777216 := by_no (sound [x0] [.le v0 (.n 8), .no (.le v0 (.n 16777216))] (.l [1,1]) rr h0)
theorem o411 {x0 : Nat} (h0 : x0 + 1 + 1 + 1 = x0 + 1 + 1) : False := sound [x0] [.eq (.a (.a (.a v0 n1) n1) n1) (.a (.a v0 n1) n1)] (.l [1]) rr h0
theorem o412 {x1 x0 x2 : Nat} (h0 : x1 = 0 + 1) (h1 : x0 = x2 + 1) (h2 : x2 < 4) : x0 + x1 ≤ 16777216 := by_no (sound [x1, x0, x2] [.eq v0 (.a n0 n1), .eq v1 (.a v2 n1), .lt v2 (.n 4), .no (.le (.a v1 v0) (.n 16777216))] (.l [1,1,1,0,1]) rr h0 h1 h2)
theorem o413 {x0 : Nat} (h0 : x0 + 1 = x0 + 1 + 1 + 1) : False := sound [x0] [.eq (.a v0 n1) (.a (.a (.a v0 n1) n1) n1)] (.l [0,1]) rr h0
theorem o414 {x0 : Int} (h0 : (63 : Int) < x0) : (0 : Int) ≤ x0 := Int.le_trans (by decide) (Int.le_of_lt h0)
theorem o415 {x0 x2 x1 : Nat} (h0 : x0 = x2) (h1 : x2 ≤ x1) : x0 ≤ x1 := by_no (sound [x0, x2, x1] [.eq v0 v1, .le v1 v2, .no (.le v0 v2)] (.l [1,1,1]) rr h0 h1)
theorem o416 {x1 x0 : Nat} (h0 : x1 ≤ 100) (h1 : x0 ≤ 2 * x1) : x0 + 1 < 2 ^ 60 := by_no (sound [x1, x0] [.le v0 (.n 100), .le v1 (.m 2 v0), .no (.lt (.a v1 n1) (.n 1152921504606846976))] (.l [1,1,2]) rr h0 h1)
theorem o417 {x1 x0 x2 : Nat} (h0 : 1 ≤ x1 ∧ x1 ≤ 2) (h1 : x0 ≤ x2) : x0 + 1 ≤ x1 + x2 := by_no (sound [x1, x0, x2] [.an (.le n1 v0) (.le v0 (.n 2)), .le v1 v2, .no (.le (.a v1 n1) (.a v0 v2))] (.l [1,1,0,1]) rr h0 h1)
theorem o418 {x0 x1 : Nat} (h0 : x0 + 3 < x1) : x0 + 1 + 1 < x1 := by_no (sound [x0, x1] [.lt (.a v0 (.n 3)) v1, .no (.lt (.a (.a v0 n1) n1) v1)] (.l [1,1]) rr h0)
theorem o419 {x1 x0 : Nat} (h0 : x1 + 1 ≤ x0) (h1 : x0 ≤ x1) : False := sound [x1, x0] [.le (.a v0 n1) v1, .le v1 v0] (.l [1,1]) rr h0 h1
theorem o420 {x1 x0 : Nat} (h0 : x1 ≤ 100) (h1 : x0 ≤ 2 * x1) : x0 < 2 ^ 62 := by_no (sound [x1, x0] [.le v0 (.n 100), .le v1 (.m 2 v0), .no (.lt v1 (.n 4611686018427387904))] (.l [1,1,2]) rr h0 h1)
theorem o421 {x0 : Int} (h0 : x0 ≤ (63 : Int)) (h1 : (63 : Int) < x0) : False := Int.not_le.mpr h1 h0
theorem o422 {x0 x1 x2 : Nat} (h0 : 1 ≤ x0 ∧ x0 ≤ 2) (h1 : x1 ≤ 2 * x2) : x0 + x1 ≤ 2 * (x2 + 1) := by_no (sound [x0, x1, x2] [.an (.le n1 v0) (.le v0 (.n 2)), .le v1 (.m 2 v2), .no (.le (.a v0 v1) (.m 2 (.a v2 n1)))] (.l [1,1,1]) rr h0 h1)
theorem o423 {x1 x0 : Nat} (h0 : x1 ≤ 100) : min x0 x1 ≤ 16777216 := by_no (sound [x1, min x0 x1, x0] [.le v0 (.n 100), .or (.an (.eq v1 v2) (.le v2 v0)) (.an (.eq v1 v0) (.le v0 v2)), .no (.le v1 (.n 16777216))] (.s (.l [1,1,1,0,1]) (.l [1,0,1,0,1])) rr h0 (mn x0 x1))
theorem o424 {x0 x1 : Nat} (h0 : x0 ≥ x1) (h1 : x0 - x1 < 1) : x0 = x1 := by_no (sound [x1, x0, x0 - x1] [.le v0 v1, .lt v2 n1, .or (.an (.eq v2 n0) (.le v1 v0)) (.eq (.a v2 v0) v1), .no (.eq v1 v0)] (.s (.s (.l [1,0,0,0,0,1]) (.l [1,1])) (.s (.l [1,0,0,0,1]) (.l [1,0,1,1]))) rr h0 h1 (sb x0 x1))
theorem o425 : 256 ≤ 256 := by decide
theorem o426 {x0 x1 : Nat} (h0 : x0 - x1 < 1) : x0 - x1 = 0 := by_no (sound [x0 - x1, x0, x1] [.lt v0 n1, .or (.an (.eq v0 n0) (.le v1 v2)) (.eq (.a v0 v2) v1), .no (.eq v0 n0)] (.s (.s (.l [1,0,0,1]) (.l [1,0,1])) (.s (.l [1]) (.l [1,0,0,1]))) rr h0 (sb x0 x1))
theorem o427 : 258 ≤ 258 := by decide
theorem o428 {x0 : Nat} (h0 : x0 ≤ 8) : x0 ≤ 9 := by_no (sound [x0] [.le v0 (.n 8), .no (.le v0 (.n 9))] (.l [1,1]) rr h0)
theorem o429 : 256 ≤ 257 := by decide
theorem o430 : 256 ≤ 258 := by decide
theorem o431 : 257 ≤ 258 := by decide
theorem o432 : 1 ≤ 256 := by decide
theorem o433 : 1 ≤ 257 := by decide
theorem o434 : 1 ≤ 258 := by decide
theorem o435 {x1 x0 : Nat} (h0 : x1 < 2 ^ 20) (h1 : x0 < x1) : x0 ≤ 16777216 := by_no (sound [x1, x0] [.lt v0 (.n 1048576), .lt v1 v0, .no (.le v1 (.n 16777216))] (.l [1,1,1]) rr h0 h1)
theorem o436 {x0 : Nat} (h0 : x0 < 2 ^ 20) : (x0 : Int) < (2 : Int) ^ 62 := i_lt (by_no (sound [x0] [.lt v0 (.n 1048576), .no (.lt v0 (.n 4611686018427387904))] (.l [1,1]) rr h0))
theorem o437 {x0 x1 : Nat} : (x0 : Int) + (x1 : Int) = ((x0 + x1 : Nat) : Int) := i_eq (by_no (sound [x0, x1] [.no (.eq (.a v0 v1) (.a v0 v1))] (.s (.l [1]) (.l [1])) rr))
theorem o438 {x0 : Nat} (h0 : 256 ≤ x0) (h1 : (x0 : Int) < (256 : Int)) : False := sound [x0] [.le (.n 256) v0, .lt v0 (.n 256)] (.l [1,1]) rr h0 (lt_i h1)
theorem o439 {x0 x1 : Nat} (h0 : x0 = x1) (h1 : x1 ≤ 2) : x0 < 2 ^ 62 := by_no (sound [x0, x1] [.eq v0 v1, .le v1 (.n 2), .no (.lt v0 (.n 4611686018427387904))] (.l [1,1,1]) rr h0 h1)
theorem o440 {x0 : Nat} (h0 : 1 ≤ x0) : (0 : Int) ≤ (x0 : Int) - (1 : Int) := Int.sub_nonneg_of_le (i_le h0)
theorem o442 {x0 : Nat} (h0 : x0 ≤ 10) : (x0 : Int) - (1 : Int) ≤ (1000000 : Int) := Int.le_trans (Int.sub_le_self _ (by decide)) (i_le (b := 1000000) (Nat.le_trans h0 (by decide)))
theorem o443 {x0 : Nat} (h0 : x0 ≤ 9) : x0 + 1 ≤ 16777216 := by_no (sound [x0] [.le v0 (.n 9), .no (.le (.a v0 n1) (.n 16777216))] (.l [1,1]) rr h0)
theorem o444 {x0 x1 : Nat} (h0 : (x0 : Int) + (1 : Int) < (x1 : Int)) : x0 + 1 < x1 := by_no (sound [x0, x1] [.lt (.a v0 n1) v1, .no (.lt (.a v0 n1) v1)] (.l [1,1]) rr (lt_i h0))
theorem o445 {x0 : Nat} (h0 : x0 ≤ 8) : (x0 : Int) ≤ (1000000 : Int) := i_le (by_no (sound [x0] [.le v0 (.n 8), .no (.le v0 (.n 1000000))] (.l [1,1]) rr h0))
theorem o446 {x1 x2 x0 : Nat} (h0 : x1 = x2) (h1 : 1 ≤ x0 + x1) : ((x0 + x1 : Nat) : Int) - (1 : Int) = ((x0 + x2 - 1 : Nat) : Int) := h0 ▸ (Int.ofNat_sub h1).symm
theorem o447 {x0 x1 : Nat} (h0 : x0 + 4 < x1) : x0 + 1 + 1 < x1 := by_no (sound [x0, x1] [.lt (.a v0 (.n 4)) v1, .no (.lt (.a (.a v0 n1) n1) v1)] (.l [1,1]) rr h0)
theorem o448 {x0 : Nat} (h0 : x0 ≤ 9) : x0 ≤ 16777216 := by_no (sound [x0] [.le v0 (.n 9), .no (.le v0 (.n 16777216))] (.l [1,1]) rr h0)
theorem o450 {x0 : Nat} (h0 : x0 ≤ 40) : (x0 : Int) < (256 : Int) := i_lt (by_no (sound [x0] [.le v0 (.n 40), .no (.lt v0 (.n 256))] (.l [1,1]) rr h0))
theorem o451 : (2 : Int) < (2 : Int) ^ 64 := by decide
theorem o453 {x1 x2 x0 : Nat} (h0 : x1 = x2) (h1 : x0 < x2) : x0 < x1 := by_no (sound [x1, x2, x0] [.eq v0 v1, .lt v2 v1, .no (.lt v2 v0)] (.l [1,1,0,1]) rr h0 h1)
theorem o454 {x0 x1 : Nat} (h0 : ¬(x0 : Int) + (1 : Int) < (x1 : Int)) (h1 : x0 + 1 < x1) : False := sound [x0, x1] [.no (.lt (.a v0 n1) v1), .lt (.a v0 n1) v1] (.l [1,1]) rr (nlt_i h0) h1
theorem o455 {x0 : Nat} (h0 : x0 ≤ 2) : x0 ≤ 16777216 := by_no (sound [x0] [.le v0 (.n 2), .no (.le v0 (.n 16777216))] (.l [1,1]) rr h0)
theorem o456 {x0 : Nat} (h0 : x0 + 1 + 1 = x0 + 1) : False := sound [x0] [.eq (.a (.a v0 n1) n1) (.a v0 n1)] (.l [1]) rr h0
theorem o458 {x1 x2 x0 : Nat} (h0 : x1 = x2) (h1 : x2 ≤ 2) (h2 : x0 ≤ 8) : x0 + x1 < 2 ^ 62 := by_no (sound [x1, x2, x0] [.eq v0 v1, .le v1 (.n 2), .le v2 (.n 8), .no (.lt (.a v2 v0) (.n 4611686018427387904))] (.l [1,1,1,1]) rr h0 h1 h2)
theorem o459 {x0 x1 : Nat} : (0 : Int) ≤ (x0 : Int) + (x1 : Int) := i_le (by_no (sound [x0, x1] [.no (.le n0 (.a v0 v1))] (.l [1]) rr))
theorem o460 {x0 : Nat} (h0 : x0 ≤ 2) : x0 < 2 ^ 20 := by_no (sound [x0] [.le v0 (.n 2), .no (.lt v0 (.n 1048576))] (.l [1,1]) rr h0)
theorem o461 {x0 x1 : Nat} (h0 : x0 = x1) (h1 : x1 ≤ 2) : x0 ≤ 2 := by_no (sound [x0, x1] [.eq v0 v1, .le v1 (.n 2), .no (.le v0 (.n 2))] (.l [1,1,1]) rr h0 h1)
theorem o463 {x0 : Nat} (h0 : x0 ≤ 8) : x0 < 2 ^ 62 := by_no (sound [x0] [.le v0 (.n 8), .no (.lt v0 (.n 4611686018427387904))] (.l [1,1]) rr h0)
theorem o464 {x0 : Nat} (h0 : 256 ≤ x0) (h1 : x0 ≤ 40) : False := sound [x0] [.le (.n 256) v0, .le v0 (.n 40)] (.l [1,1]) rr h0 h1
theorem o465 {x1 x2 x0 : Nat} (h0 : x1 = x2) (h1 : x2 ≤ 2) (h2 : x0 ≤ 8) : x0 + x1 ≤ 10 := by_no (sound [x1, x2, x0] [.eq v0 v1, .le v1 (.n 2), .le v2 (.n 8), .no (.le (.a v2 v0) (.n 10))] (.l [1,1,1,1]) rr h0 h1 h2)
theorem o467 {x0 : Nat} (h0 : x0 ≤ 8) : x0 + 1 ≤ 16777216 := by_no (sound [x0] [.le v0 (.n 8), .no (.le (.a v0 n1) (.n 16777216))] (.l [1,1]) rr h0)
theorem o468 {x1 x2 x0 : Nat} (h0 : x1 = x2) (h1 : x0 < x2) : (x0 : Int) < (x1 : Int) := i_lt (by_no (sound [x1, x2, x0] [.eq v0 v1, .lt v2 v1, .no (.lt v2 v0)] (.l [1,1,0,1]) rr h0 h1))
theorem o469 {x0 x1 : Nat} (h0 : x0 ≤ x1) (h1 : x0 = x1 + 1) : False := sound [x0, x1] [.le v0 v1, .eq v0 (.a v1 n1)] (.l [0,1,1]) rr h0 h1
theorem o470 : 0 < 2 := by decide
theorem o471 {x0 x1 : Nat} (h0 : 0 < x0) : 0 < x0 + x1 := by_no (sound [x0, x1] [.lt n0 v0, .no (.lt n0 (.a v0 v1))] (.l [1,1]) rr h0)
theorem o472 {x1 x2 x0 : Nat} (h0 : x1 + x2 ≤ x0) (h1 : x0 - x1 < x2) : False := sound [x1, x2, x0, x0 - x1] [.le (.a v0 v1) v2, .lt v3 v1, .or (.an (.eq v3 n0) (.le v2 v0)) (.eq (.a v3 v0) v2)] (.s (.l [1,0,1,1,1]) (.l [0,1,1,1])) rr h0 h1 (sb x0 x1)
theorem o473 {x1 x0 x2 x3 : Nat} (h0 : x1 ≤ x0 ∧ x0 < x1 + x2) : x0 - x1 < x2 + x3 := by_no (sound [x1, x0, x2, x0 - x1, x3] [.an (.le v0 v1) (.lt v1 (.a v0 v2)), .or (.an (.eq v3 n0) (.le v1 v0)) (.eq (.a v3 v0) v1), .no (.lt v3 (.a v2 v4))] (.s (.l [1,0,1,0,1,1]) (.l [1,1,0,1])) rr h0 (sb x0 x1))
theorem o474 {x0 x1 x2 : Nat} (h0 : x0 ≤ x1 ∧ x1 < x0 + x2) : x0 + (x1 - x0) = x1 := by_no (sound [x0, x1, x2, x1 - x0] [.an (.le v0 v1) (.lt v1 (.a v0 v2)), .or (.an (.eq v3 n0) (.le v1 v0)) (.eq (.a v3 v0) v1), .no (.eq (.a v0 v3) v1)] (.s (.s (.l [1,1,0,1]) (.l [1,0,1,0,0,1])) (.s (.l [1,0,1]) (.l [1,1]))) rr h0 (sb x1 x0))
theorem o475 {x2 x0 x1 x3 : Nat} (h0 : x2 < x0 + x1) (h1 : x0 + x1 ≤ x2 ∧ x2 < x0 + x1 + x3) : False := sound [x2, x0, x1, x3] [.lt v0 (.a v1 v2), .an (.le (.a v1 v2) v0) (.lt v0 (.a (.a v1 v2) v3))] (.l [0,1,1]) rr h0 h1
theorem o476 {x0 x1 x2 x3 : Nat} (h0 : x0 ≤ x1 ∧ x1 < x0 + x2) : x0 ≤ x1 ∧ x1 < x0 + (x2 + x3) := by_no (sound [x0, x1, x2, x3] [.an (.le v0 v1) (.lt v1 (.a v0 v2)), .no (.an (.le v0 v1) (.lt v1 (.a v0 (.a v2 v3))))] (.s (.l [1,0,1]) (.l [1,1])) rr h0)
theorem o477 {x1 x0 x3 x2 : Nat} (h0 : x1 = x0 + x3 - 1) (h1 : x3 = x2) (h2 : 0 < x2) : x0 ≤ x1 ∧ x1 < x0 + x2 := by_no (sound [x1, x0 + x3 - 1, x0, x3, x2] [.eq v0 v1, .eq v3 v4, .lt n0 v4, .or (.an (.eq v1 n0) (.le (.a v2 v3) n1)) (.eq (.a v1 n1) (.a v2 v3)), .no (.an (.le v2 v0) (.lt v0 (.a v2 v4)))] (.s (.s (.l [1,1,0,0,1,0,1]) (.l [1,0,1,0,1,0,0,1])) (.s (.l [1,0,1,1,0,1,0,1]) (.l [1,1,0,0,1,0,1]))) rr h0 h1 h2 (sb (x0 + x3) 1))
theorem o478 {x0 : Nat} : x0 ≤ x0 + 1 ∧ x0 + 1 < x0 + 2 := by_no (sound [x0] [.no (.an (.le v0 (.a v0 n1)) (.lt (.a v0 n1) (.a v0 (.n 2))))] (.s (.l [1]) (.l [1])) rr)
theorem o480 {x2 x0 x1 : Nat} (h0 : x2 < x0 + x1) (h1 : x0 + x1 ≤ x2) : False := sound [x2, x0, x1] [.lt v0 (.a v1 v2), .le (.a v1 v2) v0] (.l [1,1]) rr h0 h1
theorem o481 {x0 x1 : Nat} (h0 : x0 = x1 + 2 - 1) (h1 : x0 = x1) : False := sound [x0, x1 + 2 - 1, x1] [.eq v0 v1, .eq v0 v2, .or (.an (.eq v1 n0) (.le (.a v2 (.n 2)) n1)) (.eq (.a v1 n1) (.a v2 (.n 2)))] (.s (.l [1]) (.l [0,1,1,0,0,1])) rr h0 h1 (sb (x1 + 2) 1)
theorem o482 {x0 : Nat} (h0 : ¬15 < x0) (h1 : 15 < x0) : False := sound [x0] [.no (.lt (.n 15) v0), .lt (.n 15) v0] (.l [1,1]) rr h0 h1
theorem o483 {x0 x1 x2 : Nat} (h0 : x0 - x1 < x2) : x0 < x1 + x2 := by_no (sound [x0 - x1, x0, x1, x2] [.lt v0 v3, .or (.an (.eq v0 n0) (.le v1 v2)) (.eq (.a v0 v2) v1), .no (.lt v1 (.a v2 v3))] (.s (.l [1,1,0,1,1]) (.l [1,0,1,1])) rr h0 (sb x0 x1))
theorem o484 {x0 x2 x1 : Nat} (h0 : x0 + x2 ≤ x1) (h1 : x0 ≤ x1 ∧ x1 < x0 + x2) : False := sound [x0, x2, x1] [.le (.a v0 v1) v2, .an (.le v0 v2) (.lt v2 (.a v0 v1))] (.l [1,0,1]) rr h0 h1
theorem o485 {x0 x2 x1 : Nat} (h0 : x0 ≤ x2) (h1 : ¬x2 - x0 < x1) : x0 + x1 ≤ x2 := by_no (sound [x0, x2, x2 - x0, x1] [.le v0 v1, .no (.lt v2 v3), .or (.an (.eq v2 n0) (.le v1 v0)) (.eq (.a v2 v0) v1), .no (.le (.a v0 v3) v1)] (.s (.l [1,0,1,0,1,1]) (.l [1,1,0,1])) rr h0 h1 (sb x2 x0))
theorem o486 {x0 x1 x2 : Nat} (h0 : x0 + 1 ≤ x1 ∧ x1 < x0 + 1 + x2) : x0 ≤ x1 := by_no (sound [x0, x1, x2] [.an (.le (.a v0 n1) v1) (.lt v1 (.a (.a v0 n1) v2)), .no (.le v0 v1)] (.l [1,0,1]) rr h0)
theorem o487 {x1 x0 x2 : Nat} (h0 : x1 + 1 ≤ x0 ∧ x0 < x1 + 1 + x2) : x0 < x1 + (x2 + 1) := by_no (sound [x1, x0, x2] [.an (.le (.a v0 n1) v1) (.lt v1 (.a (.a v0 n1) v2)), .no (.lt v1 (.a v0 (.a v2 n1)))] (.l [1,1]) rr h0)
theorem o488 {x0 x1 x2 : Nat} : x0 - x1 - x2 = x0 - (x1 + x2) := by_no (sound [x0 - x1 - x2, x0 - x1, x0, x1, x2, x0 - (x1 + x2)] [.or (.an (.eq v1 n0) (.le v2 v3)) (.eq (.a v1 v3) v2), .or (.an (.eq v0 n0) (.le v1 v4)) (.eq (.a v0 v4) v1), .or (.an (.eq v5 n0) (.le v2 (.a v3 v4))) (.eq (.a v5 (.a v3 v4)) v2), .no (.eq v0 v5)] (.s (.s (.s (.s (.l [1,0,1,0,0,0,1]) (.l [1,0,0,1,0,1])) (.s (.l [1,1,0,0,0,1,1]) (.l [1,0,0,0,1]))) (.s (.s (.l [1,0,1]) (.l [1,0,0,1,1,0,0,1])) (.s (.l [1,1,0,0,1,1,0,1]) (.l [1,0,0,1,0,0,1])))) (.s (.s (.s (.l [1,0,1,0,0,0,1]) (.l [1,0,0,1,0,1])) (.s (.l [1,1,0,1,0,1,0,1]) (.l [1,0,0,0,1]))) (.s (.s (.l [1,0,1]) (.l [1,1,0,1,1,0,1])) (.s (.l [1,1,0,0,1,0,1]) (.l [1,0,1,1,0,1]))))) rr (sb x0 x1) (sb (x0 - x1) x2) (sb x0 (x1 + x2)))
theorem o489 {x1 x0 x2 : Nat} (h0 : x1 = x0) (h1 : 0 < x2) : x0 ≤ x1 ∧ x1 < x0 + x2 := by_no (sound [x1, x0, x2] [.eq v0 v1, .lt n0 v2, .no (.an (.le v1 v0) (.lt v0 (.a v1 v2)))] (.s (.l [1,0,0,1]) (.l [1,1,1])) rr h0 h1)
theorem o490 {x0 x1 x2 : Nat} : x0 - (x1 + x2) = x0 - x1 - x2 := by_no (sound [x0 - (x1 + x2), x0, x1, x2, x0 - x1 - x2, x0 - x1] [.or (.an (.eq v0 n0) (.le v1 (.a v2 v3))) (.eq (.a v0 (.a v2 v3)) v1), .or (.an (.eq v5 n0) (.le v1 v2)) (.eq (.a v5 v2) v1), .or (.an (.eq v4 n0) (.le v5 v3)) (.eq (.a v4 v3) v5), .no (.eq v0 v4)] (.s (.s (.s (.s (.l [1,0,1,0,0,0,0,0,0,1]) (.l [1,0,0,1,0,0,0,0,1])) (.s (.l [1,1,0,0,1,0,0,0,1]) (.l [1,0,0,0,0,0,0,1]))) (.s (.s (.l [1,0,1,0,0,0,0,0,1]) (.l [1,0,0,1,0,0,0,1])) (.s (.l [1,1,0,1,0,1,0,1]) (.l [1,0,0,0,0,0,1])))) (.s (.s (.s (.l [1,0,1]) (.l [1,0,0,1,1,0,0,1])) (.s (.l [1,1,0,0,1]) (.l [1,0,1,1,0,1,1]))) (.s (.s (.l [1,0,1]) (.l [1,1,0,1,0,1,1])) (.s (.l [1,1,0,1,0,0,1]) (.l [1,0,1,0,1,1]))))) rr (sb x0 (x1 + x2)) (sb x0 x1) (sb (x0 - x1) x2))
theorem o492 {x0 x2 x1 x3 : Nat} (h0 : x0 + x2 ≤ x1 ∧ x1 < x0 + x2 + x3) : x0 ≤ x1 ∧ x1 < x0 + (x2 + x3) := by_no (sound [x0, x2, x1, x3] [.an (.le (.a v0 v1) v2) (.lt v2 (.a (.a v0 v1) v3)), .no (.an (.le v0 v2) (.lt v2 (.a v0 (.a v1 v3))))] (.s (.l [1,0,1]) (.l [1,1])) rr h0)
theorem o493 {x0 x2 x1 : Nat} (h0 : x0 ≤ x2 ∧ x2 < x0 + x1) (h1 : x0 + x1 ≤ x2) : False := sound [x0, x2, x1] [.an (.le v0 v1) (.lt v1 (.a v0 v2)), .le (.a v0 v2) v1] (.l [1,1]) rr h0 h1
theorem o495 {x0 x1 : Nat} (h0 : x0 - x1 = 0) (h1 : x1 ≤ x0) : x0 = x1 := by_no (sound [x0 - x1, x0, x1] [.eq v0 n0, .le v2 v1, .or (.an (.eq v0 n0) (.le v1 v2)) (.eq (.a v0 v2) v1), .no (.eq v1 v2)] (.s (.s (.l [1,0,0,0,1]) (.l [1,1])) (.s (.l [1,0,0,1]) (.l [1,0,1,0,1]))) rr h0 h1 (sb x0 x1))
theorem o496 {x1 x2 x0 : Nat} (h0 : x1 + x2 ≤ x0) (h1 : x0 < x1 + x2) : False := sound [x1, x2, x0] [.le (.a v0 v1) v2, .lt v2 (.a v0 v1)] (.l [1,1]) rr h0 h1
theorem o497 {x0 : Nat} : x0 = x0 + 1 - 1 := by_no (sound [x0, x0 + 1 - 1] [.or (.an (.eq v1 n0) (.le (.a v0 n1) n1)) (.eq (.a v1 n1) (.a v0 n1)), .no (.eq v0 v1)] (.s (.s (.l [1,0,1]) (.l [1,1,0,1])) (.s (.l [1,1]) (.l [1,0,1]))) rr (sb (x0 + 1) 1))
theorem o498 {x1 x0 x2 : Nat} (h0 : x1 ≤ x0 ∧ x0 < x1 + x2) : x0 - x1 < x2 := by_no (sound [x1, x0, x2, x0 - x1] [.an (.le v0 v1) (.lt v1 (.a v0 v2)), .or (.an (.eq v3 n0) (.le v1 v0)) (.eq (.a v3 v0) v1), .no (.lt v3 v2)] (.s (.l [1,0,1,0,1,1]) (.l [1,1,0,1])) rr h0 (sb x0 x1))
theorem o499 {x0 x1 : Nat} : x0 = x1 ↔ x1 = x0 := ⟨Eq.symm, Eq.symm⟩
theorem o500 {x1 x0 : Nat} (h0 : x1 + x0 < 5) : x0 ≤ 4 - x1 := by_no (sound [x1, x0, 4 - x1] [.lt (.a v0 v1) (.n 5), .or (.an (.eq v2 n0) (.le (.n 4) v0)) (.eq (.a v2 v0) (.n 4)), .no (.le v1 v2)] (.s (.l [1,1,0,1,1]) (.l [1,0,1,1])) rr h0 (sb 4 x1))
theorem o501 {x1 x0 x2 : Nat} (h0 : 1 ≤ x1) : x0 + 1 - (x1 + x2) ≤ x0 - x2 := by_no (sound [x1, x0 + 1 - (x1 + x2), x0, x2, x0 - x2] [.le n1 v0, .or (.an (.eq v1 n0) (.le (.a v2 n1) (.a v0 v3))) (.eq (.a v1 (.a v0 v3)) (.a v2 n1)), .or (.an (.eq v4 n0) (.le v2 v3)) (.eq (.a v4 v3) v2), .no (.le v1 v4)] (.s (.s (.l [1,0,0,1,0,1]) (.l [1,0,0,0,1])) (.s (.l [1,1,0,1,1,0,1]) (.l [1,0,1,1,0,1]))) rr h0 (sb (x0 + 1) (x1 + x2)) (sb x0 x2))
theorem o502 {x3 x2 x1 x0 : Nat} (h0 : x3 ≤ 4 * x2) (h1 : x1 ≤ x3) : x0 + x1 ≤ x0 + 4 * x2 := by_no (sound [x3, x2, x1, x0] [.le v0 (.m 4 v1), .le v2 v0, .no (.le (.a v3 v2) (.a v3 (.m 4 v1)))] (.l [1,1,1]) rr h0 h1)
theorem o503 {x1 x2 x3 x0 : Nat} (h0 : x1 ≤ x2 + x3) : x0 + x1 ≤ x2 + (x0 + x3) := by_no (sound [x1, x2, x3, x0] [.le v0 (.a v1 v2), .no (.le (.a v3 v0) (.a v1 (.a v3 v2)))] (.l [1,1]) rr h0)
theorem o504 : 1 ≤ 2 := by decide
theorem o505 : 1 ≤ 1 := by decide
theorem o506 {x0 x2 x1 x3 : Nat} (h0 : x0 ≤ x2) (h1 : x1 ≤ x3) : x0 + x1 ≤ x2 + x3 := by_no (sound [x0, x2, x1, x3] [.le v0 v1, .le v2 v3, .no (.le (.a v0 v2) (.a v1 v3))] (.l [1,1,1]) rr h0 h1)
theorem o507 {x2 x0 x1 : Nat} (h0 : x2 + x0 ≤ x1 + 1) (h1 : 1 ≤ x2) : x0 ≤ x1 := by_no (sound [x2, x0, x1] [.le (.a v0 v1) (.a v2 n1), .le n1 v0, .no (.le v1 v2)] (.l [1,1,1]) rr h0 h1)
theorem o508 {x0 : Nat} : 1 + x0 = x0 + 1 := by_no (sound [x0] [.no (.eq (.a n1 v0) (.a v0 n1))] (.s (.l [1]) (.l [1])) rr)
theorem o509 {x0 : Nat} : 1 ≤ 1 + 4 * x0 := by_no (sound [x0] [.no (.le n1 (.a n1 (.m 4 v0)))] (.l [1]) rr)
theorem o510 {x0 x1 : Nat} (h0 : x0 + 1 ≤ x1 + 1) : x0 ≤ x1 := by_no (sound [x0, x1] [.le (.a v0 n1) (.a v1 n1), .no (.le v0 v1)] (.l [1,1]) rr h0)
theorem o511 {x0 x1 : Nat} (h0 : x0 ≤ x1) : 1 + 4 * x0 ≤ 1 + 4 * x1 := by_no (sound [x0, x1] [.le v0 v1, .no (.le (.a n1 (.m 4 v0)) (.a n1 (.m 4 v1)))] (.l [1,4]) rr h0)
theorem o512 {x0 x1 : Nat} (h0 : 1 ≤ x0) (h1 : x0 + x1 ≤ 0) : False := sound [x0, x1] [.le n1 v0, .le (.a v0 v1) n0] (.l [1,1]) rr h0 h1
theorem o513 {x0 : Nat} (h0 : x0 ≤ 1593) : x0 + 1 < 4096 := by_no (sound [x0] [.le v0 (.n 1593), .no (.lt (.a v0 n1) (.n 4096))] (.l [1,1]) rr h0)
theorem o514 : 2 ≤ 4 := by decide
theorem o515 {x1 x0 : Nat} (h0 : x1 ≤ 4) (h1 : x0 ≤ x1) : x0 + (4 - x0) = 4 := by_no (sound [x1, x0, 4 - x0] [.le v0 (.n 4), .le v1 v0, .or (.an (.eq v2 n0) (.le (.n 4) v1)) (.eq (.a v2 v1) (.n 4)), .no (.eq (.a v1 v2) (.n 4))] (.s (.s (.l [1,1,0,1]) (.l [1,0,1,0,1,1])) (.s (.l [1,0,1]) (.l [1,1]))) rr h0 h1 (sb 4 x0))
theorem o516 {x2 x0 x1 : Nat} (h0 : 1 ≤ x2) (h1 : x0 ≤ x1) : x0 + 1 ≤ x1 + x2 := by_no (sound [x2, x0, x1] [.le n1 v0, .le v1 v2, .no (.le (.a v1 n1) (.a v2 v0))] (.l [1,1,1]) rr h0 h1)
theorem o517 {x1 x0 : Nat} (h0 : x1 + x0 ≤ 4) : x0 ≤ 4 := by_no (sound [x1, x0] [.le (.a v0 v1) (.n 4), .no (.le v1 (.n 4))] (.l [1,1]) rr h0)
theorem o518 {x0 : Nat} (h0 : x0 < 5) : x0 ≤ 4 := by_no (sound [x0] [.lt v0 (.n 5), .no (.le v0 (.n 4))] (.l [1,1]) rr h0)
theorem o519 {x1 x0 : Nat} (h0 : x1 ≤ 1593) (h1 : x0 ≤ 341) : x0 + x1 + 1 < 4096 := by_no (sound [x1, x0] [.le v0 (.n 1593), .le v1 (.n 341), .no (.lt (.a (.a v1 v0) n1) (.n 4096))] (.l [1,1,1]) rr h0 h1)
theorem o521 {x0 x1 : Nat} (h0 : x0 + x1 ≤ 4) : x0 ≤ 4 := by_no (sound [x0, x1] [.le (.a v0 v1) (.n 4), .no (.le v0 (.n 4))] (.l [1,1]) rr h0)
theorem o522 {x1 x2 x3 x0 : Nat} (h0 : x1 = x2 + x3) (h1 : x0 = x3) (h2 : x1 ≤ 4) : x0 ≤ 4 := by_no (sound [x1, x2, x3, x0] [.eq v0 (.a v1 v2), .eq v3 v2, .le v0 (.n 4), .no (.le v3 (.n 4))] (.l [1,1,1,0,0,1]) rr h0 h1 h2)
theorem o523 {x0 : Nat} (h0 : x0 ≤ 4) : x0 < 5 := by_no (sound [x0] [.le v0 (.n 4), .no (.lt v0 (.n 5))] (.l [1,1]) rr h0)
theorem o524 : 1 ≤ 4 := by decide
theorem o525 {x1 x2 x3 x0 : Nat} (h0 : x1 = x2 + x3) (h1 : x0 = x2) (h2 : x1 ≤ 4) : x0 ≤ 4 := by_no (sound [x1, x2, x3, x0] [.eq v0 (.a v1 v2), .eq v3 v1, .le v0 (.n 4), .no (.le v3 (.n 4))] (.l [1,1,1,0,0,1]) rr h0 h1 h2)
theorem o526 {x0 : Int} : (0 : Int) ≤ x0 % (5 : Int) ∧ x0 % (5 : Int) < (5 : Int) := ⟨Int.emod_nonneg _ (by decide), Int.emod_lt_of_pos _ (by decide)⟩
theorem o527 {x1 x0 x2 : Nat} (h0 : 1 ≤ x1) (h1 : x0 ≤ x2) : x0 + 1 ≤ x1 + x2 := by_no (sound [x1, x0, x2] [.le n1 v0, .le v1 v2, .no (.le (.a v1 n1) (.a v0 v2))] (.l [1,1,1]) rr h0 h1)
theorem o528 {x0 x1 : Nat} (h0 : 1 ≤ x0) : 1 ≤ x0 + x1 := by_no (sound [x0, x1] [.le n1 v0, .no (.le n1 (.a v0 v1))] (.l [1,1]) rr h0)
theorem o529 {x0 : Nat} (h0 : x0 = 256) : x0 ≤ 258 := by_no (sound [x0] [.eq v0 (.n 256), .no (.le v0 (.n 258))] (.l [1,1]) rr h0)
theorem o530 {x0 : Nat} (h0 : x0 = 257) : x0 ≤ 258 := by_no (sound [x0] [.eq v0 (.n 257), .no (.le v0 (.n 258))] (.l [1,1]) rr h0)
theorem o531 {x1 x0 : Nat} (h0 : 1 ≤ x1 ∧ x1 ≤ 40) (h1 : x0 = x1) : x0 ≤ 258 := by_no (sound [x1, x0] [.an (.le n1 v0) (.le v0 (.n 40)), .eq v1 v0, .no (.le v1 (.n 258))] (.l [1,1,0,1]) rr h0 h1)
theorem o532 {x0 : Nat} (h0 : x0 = 258) : x0 ≤ 258 := by_no (sound [x0] [.eq v0 (.n 258), .no (.le v0 (.n 258))] (.l [1,1]) rr h0)
theorem o533 {x0 x2 x1 : Nat} (h0 : x0 = x2) : x0 + x1 = x2 + x1 := by_no (sound [x0, x2, x1] [.eq v0 v1, .no (.eq (.a v0 v2) (.a v1 v2))] (.s (.l [1,0,1]) (.l [1,1])) rr h0)
theorem o534 {x1 x0 : Nat} (h0 : x1 ≤ 8) (h1 : x0 < x1) : x0 < 8 := by_no (sound [x1, x0] [.le v0 (.n 8), .lt v1 v0, .no (.lt v1 (.n 8))] (.l [1,1,1]) rr h0 h1)
theorem o535 {x0 x1 : Nat} (h0 : x0 + x1 ≤ 8) : x0 ≤ 8 := by_no (sound [x0, x1] [.le (.a v0 v1) (.n 8), .no (.le v0 (.n 8))] (.l [1,1]) rr h0)
theorem o536 {x2 x1 x3 x0 : Nat} (h0 : x2 ≤ x1 ∧ x1 < x2 + x3) (h1 : x0 = x2) : x0 ≤ x1 := by_no (sound [x2, x1, x3, x0] [.an (.le v0 v1) (.lt v1 (.a v0 v2)), .eq v3 v0, .no (.le v3 v1)] (.l [1,1,0,0,1]) rr h0 h1)
theorem o537 {x1 x0 : Nat} (h0 : 0 ≤ x1 ∧ x1 < 0 + x0) (h1 : x0 ≤ x1) : False := sound [x1, x0] [.an (.le n0 v0) (.lt v0 (.a n0 v1)), .le v1 v0] (.l [1,1]) rr h0 h1
theorem o539 {x0 x1 x2 : Nat} (h0 : x0 ≤ x1 + x2) : x0 + 1 ≤ x1 + 1 + (x2 + 1) := by_no (sound [x0, x1, x2] [.le v0 (.a v1 v2), .no (.le (.a v0 n1) (.a (.a v1 n1) (.a v2 n1)))] (.l [1,1]) rr h0)
theorem o540 {x0 : Nat} (h0 : x0 + 1 ≤ 8) : x0 ≤ 8 := by_no (sound [x0] [.le (.a v0 n1) (.n 8), .no (.le v0 (.n 8))] (.l [1,1]) rr h0)
theorem o541 {x0 x1 x2 : Nat} (h0 : x0 + (x1 + x2) ≤ 8) : x0 + x1 ≤ 8 := by_no (sound [x0, x1, x2] [.le (.a v0 (.a v1 v2)) (.n 8), .no (.le (.a v0 v1) (.n 8))] (.l [1,1]) rr h0)
theorem o542 {x0 : Nat} (h0 : x0 ≥ 8) (h1 : x0 < 8) : False := sound [x0] [.le (.n 8) v0, .lt v0 (.n 8)] (.l [1,1]) rr h0 h1
theorem o543 {x0 : Nat} (h0 : x0 ≤ 4) : x0 ≤ 8 := by_no (sound [x0] [.le v0 (.n 4), .no (.le v0 (.n 8))] (.l [1,1]) rr h0)
theorem o544 {x0 x1 x2 : Nat} (h0 : x0 + (x1 + x2) ≤ 8) : x0 + x1 + x2 ≤ 8 := by_no (sound [x0, x1, x2] [.le (.a v0 (.a v1 v2)) (.n 8), .no (.le (.a (.a v0 v1) v2) (.n 8))] (.l [1,1]) rr h0)
theorem o545 : 2 ≤ 2 * 1 := by decide
theorem o546 {x0 x1 : Nat} : x0 + x1 ≤ x0 + x1 := by_no (sound [x0, x1] [.no (.le (.a v0 v1) (.a v0 v1))] (.l [1]) rr)
theorem o547 {x2 x0 x3 x1 : Nat} (h0 : x2 ≤ x0 ∧ x0 < x2 + x3) (h1 : x2 + x3 ≤ x1) : x0 < x1 := by_no (sound [x2, x0, x3, x1] [.an (.le v0 v1) (.lt v1 (.a v0 v2)), .le (.a v0 v2) v3, .no (.lt v1 v3)] (.l [1,1,1]) rr h0 h1)
theorem o548 {x0 : Nat} (h0 : x0 = x0 + 2 - 1) : False := sound [x0, x0 + 2 - 1] [.eq v0 v1, .or (.an (.eq v1 n0) (.le (.a v0 (.n 2)) n1)) (.eq (.a v1 n1) (.a v0 (.n 2)))] (.s (.l [1]) (.l [0,1,0,1])) rr h0 (sb (x0 + 2) 1)
theorem o549 {x0 x2 x1 : Nat} (h0 : x0 + (x2 + x1) ≤ 8) (h1 : 1 ≤ x2) : x0 + (0 + 1) + x1 ≤ 8 := by_no (sound [x0, x2, x1] [.le (.a v0 (.a v1 v2)) (.n 8), .le n1 v1, .no (.le (.a (.a v0 (.a n0 n1)) v2) (.n 8))] (.l [1,1,1]) rr h0 h1)
theorem o550 {x1 x0 x2 : Nat} (h0 : x1 ≤ x0 ∧ x0 < x1 + x2) (h1 : x1 + x2 ≤ 8) : x0 < 8 := by_no (sound [x1, x0, x2] [.an (.le v0 v1) (.lt v1 (.a v0 v2)), .le (.a v0 v2) (.n 8), .no (.lt v1 (.n 8))] (.l [1,1,1]) rr h0 h1)
theorem o551 {x0 x3 x1 x2 : Nat} (h0 : x0 = x3) : x0 + (x1 + x2) = x3 + x1 + x2 := by_no (sound [x0, x3, x1, x2] [.eq v0 v1, .no (.eq (.a v0 (.a v2 v3)) (.a (.a v1 v2) v3))] (.s (.l [1,0,1]) (.l [1,1])) rr h0)
theorem o552 {x1 x0 : Nat} (h0 : x1 ≤ 4) (h1 : x0 ≤ 2 * x1) : x0 ≤ 8 := by_no (sound [x1, x0] [.le v0 (.n 4), .le v1 (.m 2 v0), .no (.le v1 (.n 8))] (.l [1,1,2]) rr h0 h1)
theorem o553 {x0 x1 x2 : Nat} : x0 + x1 ≤ x0 + x1 + x2 := by_no (sound [x0, x1, x2] [.no (.le (.a v0 v1) (.a (.a v0 v1) v2))] (.l [1]) rr)
theorem o554 : 1 ≤ 2 * 1 := by decide
theorem o555 {x0 x2 x1 x3 : Nat} (h0 : x0 ≤ 2 * x2) (h1 : x1 ≤ 2 * x3) : x0 + x1 ≤ 2 * (x2 + x3) := by_no (sound [x0, x2, x1, x3] [.le v0 (.m 2 v1), .le v2 (.m 2 v3), .no (.le (.a v0 v2) (.m 2 (.a v1 v3)))] (.l [1,1,1]) rr h0 h1)
theorem o556 {x0 : Nat} (h0 : x0 < 2 ^ 8) : x0 ≤ 255 := by_no (sound [x0] [.lt v0 (.n 256), .no (.le v0 (.n 255))] (.l [1,1]) rr h0)
theorem o557 {x0 x1 : Nat} (h0 : 0 ≤ x0 ∧ x0 < 0 + x1) : x0 < x1 := by_no (sound [x0, x1] [.an (.le n0 v0) (.lt v0 (.a n0 v1)), .no (.lt v0 v1)] (.l [1,1]) rr h0)
theorem o558 {x0 : Nat} (h0 : x0 ≤ 4) : max 1 x0 ≤ 4 := by_no (sound [x0, max 1 x0] [.le v0 (.n 4), .or (.an (.eq v1 n1) (.le v0 n1)) (.an (.eq v1 v0) (.le n1 v0)), .no (.le v1 (.n 4))] (.s (.l [1,0,1]) (.l [1,0,1,0,1])) rr h0 (mx 1 x0))
theorem o559 {x0 x1 : Nat} (h0 : 0 ≤ x0 ∧ x0 < 0 + x1) (h1 : x1 ≤ 8) : x0 < 8 := by_no (sound [x0, x1] [.an (.le n0 v0) (.lt v0 (.a n0 v1)), .le v1 (.n 8), .no (.lt v0 (.n 8))] (.l [1,1,1]) rr h0 h1)
theorem o560 {x0 : Nat} (h0 : 1 ≤ x0) : x0 = x0 - 1 + 1 := by_no (sound [x0, x0 - 1] [.le n1 v0, .or (.an (.eq v1 n0) (.le v0 n1)) (.eq (.a v1 n1) v0), .no (.eq v0 (.a v1 n1))] (.s (.s (.l [1,0,1,0,1]) (.l [1,1,0,1])) (.s (.l [1,1]) (.l [1,0,1]))) rr h0 (sb x0 1))
theorem o561 {x0 : Nat} (h0 : x0 ≤ 341) : x0 + 1 < 4096 := by_no (sound [x0] [.le v0 (.n 341), .no (.lt (.a v0 n1) (.n 4096))] (.l [1,1]) rr h0)
theorem o562 {x0 x1 : Nat} (h0 : x0 ≥ x1) (h1 : x0 < x1 + 1) : x0 = x1 := by_no (sound [x1, x0] [.le v0 v1, .lt v1 (.a v0 n1), .no (.eq v1 v0)] (.s (.l [1,0,1]) (.l [1,1])) rr h0 h1)
theorem o563 {x0 x1 : Nat} (h0 : x0 = x1 + 1) (h1 : x1 < 4) : x0 ≤ 4 := by_no (sound [x0, x1] [.eq v0 (.a v1 n1), .lt v1 (.n 4), .no (.le v0 (.n 4))] (.l [1,1,1]) rr h0 h1)
theorem o564 {x0 : Nat} (h0 : x0 ≤ 4) : x0 - 1 < 4 := by_no (sound [x0, x0 - 1] [.le v0 (.n 4), .or (.an (.eq v1 n0) (.le v0 n1)) (.eq (.a v1 n1) v0), .no (.lt v1 (.n 4))] (.s (.l [1,0,1]) (.l [1,1,0,1])) rr h0 (sb x0 1))
theorem o565 {x1 x0 : Nat} (h0 : 1 ≤ x1 ∧ x1 ≤ 40) (h1 : x0 = 65 + x1 / 16 ∨ x0 = 65 + x1 % 16) : x0 < 128 := h1.elim (fun e => e ▸ (Nat.add_lt_add_left (Nat.lt_of_le_of_lt (Nat.div_le_self x1 16) (Nat.lt_of_le_of_lt h0.2 (by decide))) 65 : 65 + x1 / 16 < 65 + 63)) (fun e => e ▸ (Nat.add_lt_add_left (Nat.lt_of_lt_of_le (Nat.mod_lt x1 (by decide)) (by decide)) 65 : 65 + x1 % 16 < 65 + 63))
theorem o566 {x0 x1 : Nat} (h0 : x0 = 65 + x1) (h1 : ¬15 < x1) : x0 < 128 := by_no (sound [x0, x1] [.eq v0 (.a (.n 65) v1), .no (.lt (.n 15) v1), .no (.lt v0 (.n 128))] (.l [1,1,1]) rr h0 h1)
theorem o567 {x0 : Nat} (h0 : x0 + 1 = 1) (h1 : 1 ≤ x0) : False := sound [x0] [.eq (.a v0 n1) n1, .le n1 v0] (.l [1,1]) rr h0 h1
theorem o568 {x2 x1 : Nat} {x0 : Int} (h0 : (x2 : Int) = (1 : Int)) (h1 : x2 = x1) : x0 = (4 : Int) ∨ x1 = 1 ∨ x0 < (2 : Int) := .inr (.inl (h1.symm.trans (eq_i h0)))
theorem o569 {x0 x1 : Nat} (h0 : 0 = x0 - x1) (h1 : x1 < x0 - 1) : False := sound [x0 - x1, x0, x1, x0 - 1] [.eq n0 v0, .lt v2 v3, .or (.an (.eq v0 n0) (.le v1 v2)) (.eq (.a v0 v2) v1), .or (.an (.eq v3 n0) (.le v1 n1)) (.eq (.a v3 n1) v1)] (.s (.s (.l [0,1,0,0,0,0,1]) (.l [1,0,1,0,0,1])) (.s (.l [0,1,0,0,0,1]) (.l [1,0,0,1,1,0,1]))) rr h0 h1 (sb x0 x1) (sb x0 1)
theorem o570 {x2 x0 x3 x1 x4 : Nat} (h0 : 1 ≤ x2 ∧ x2 ≤ 2) (h1 : x0 = x3) (h2 : x1 = x2) (h3 : x4 ≤ 17) (h4 : x3 ≤ 2 * x4) : x0 + x1 ≤ 16777216 := by_no (sound [x2, x0, x3, x1, x4] [.an (.le n1 v0) (.le v0 (.n 2)), .eq v1 v2, .eq v3 v0, .le v4 (.n 17), .le v2 (.m 2 v4), .no (.le (.a v1 v3) (.n 16777216))] (.l [1,1,2,1,0,1,0,1]) rr h0 h1 h2 h3 h4)
theorem o571 {x0 x1 x2 : Nat} (h0 : x0 = x1) (h1 : x1 + (0 + 1) + (0 + 1) ≤ x2) (h2 : x2 ≤ 4) : x0 ≤ 16777216 := by_no (sound [x0, x1, x2] [.eq v0 v1, .le (.a (.a v1 (.a n0 n1)) (.a n0 n1)) v2, .le v2 (.n 4), .no (.le v0 (.n 16777216))] (.l [1,1,1,1]) rr h0 h1 h2)
theorem o573 {x0 : Nat} (h0 : x0 ≤ 16) : x0 ≤ 100 := by_no (sound [x0] [.le v0 (.n 16), .no (.le v0 (.n 100))] (.l [1,1]) rr h0)
theorem o574 {x0 : Nat} : min 6 x0 ≤ 6 := by_no (sound [min 6 x0, x0] [.or (.an (.eq v0 (.n 6)) (.le (.n 6) v1)) (.an (.eq v0 v1) (.le v1 (.n 6))), .no (.le v0 (.n 6))] (.s (.l [1,0,1]) (.l [1,1,1])) rr (mn 6 x0))
theorem o575 {x0 x1 x2 : Nat} (h0 : x0 + x1 + x2 ≤ 4) : x0 + (x1 + x2) ≤ 4 := by_no (sound [x0, x1, x2] [.le (.a (.a v0 v1) v2) (.n 4), .no (.le (.a v0 (.a v1 v2)) (.n 4))] (.l [1,1]) rr h0)
theorem o577 {x1 x2 x0 : Nat} (h0 : x1 = x2) (h1 : x2 ≤ 12) (h2 : x0 < x1) : x0 < 12 := by_no (sound [x1, x2, x0] [.eq v0 v1, .le v1 (.n 12), .lt v2 v0, .no (.lt v2 (.n 12))] (.l [1,1,1,1]) rr h0 h1 h2)
theorem o578 {x0 x1 x2 : Nat} (h0 : x0 = x1) (h1 : x1 ≤ x2) (h2 : x2 < 12) : x0 ≤ 16777216 := by_no (sound [x0, x1, x2] [.eq v0 v1, .le v1 v2, .lt v2 (.n 12), .no (.le v0 (.n 16777216))] (.l [1,1,1,1]) rr h0 h1 h2)
theorem o580 {x0 x1 : Nat} (h0 : x0 = x1) (h1 : 1 ≤ x1) : 0 < x0 := by_no (sound [x0, x1] [.eq v0 v1, .le n1 v1, .no (.lt n0 v0)] (.l [1,1,0,1]) rr h0 h1)
theorem o581 {x0 x1 : Nat} (h0 : x0 ≤ x1) : x0 + (0 + 1) ≤ x1 + 1 := by_no (sound [x0, x1] [.le v0 v1, .no (.le (.a v0 (.a n0 n1)) (.a v1 n1))] (.l [1,1]) rr h0)
theorem o583 {x2 x1 : Nat} {x0 : Int} (h0 : x2 = x1) (h1 : (x2 : Int) ≠ (1 : Int)) (h2 : x0 ≠ (4 : Int)) (h3 : ¬x0 < (2 : Int)) (h4 : x0 = (4 : Int) ∨ x1 = 1 ∨ x0 < (2 : Int)) : False := h4.elim h2 (fun o => o.elim (fun e => h1 (i_eq (h0.trans e))) h3)
theorem o584 {x0 x1 x2 : Nat} (h0 : x0 = x1) (h1 : x1 + (0 + 1) + (0 + 1) ≤ x2) (h2 : x2 ≤ 4) : x0 + 1 ≤ 16777216 := by_no (sound [x0, x1, x2] [.eq v0 v1, .le (.a (.a v1 (.a n0 n1)) (.a n0 n1)) v2, .le v2 (.n 4), .no (.le (.a v0 n1) (.n 16777216))] (.l [1,1,1,1]) rr h0 h1 h2)
theorem o585 {x0 x1 x2 : Nat} (h0 : x0 + (0 + 1) = x1 + (0 + 1) + (0 + 1)) (h1 : x2 = x1 + (0 + 1) + (0 + 1)) (h2 : x2 ≤ 4) : x0 + 1 ≤ 16777216 := by_no (sound [x0, x1, x2] [.eq (.a v0 (.a n0 n1)) (.a (.a v1 (.a n0 n1)) (.a n0 n1)), .eq v2 (.a (.a v1 (.a n0 n1)) (.a n0 n1)), .le v2 (.n 4), .no (.le (.a v0 n1) (.n 16777216))] (.l [1,1,0,1,1]) rr h0 h1 h2)
theorem o586 {x1 x0 : Nat} (h0 : x1 ≤ 4) (h1 : x0 ≤ x1) : x0 ≤ 4 := by_no (sound [x1, x0] [.le v0 (.n 4), .le v1 v0, .no (.le v1 (.n 4))] (.l [1,1,1]) rr h0 h1)
theorem o587 {x1 : Nat} {x0 : Int} (h0 : x0 = (4 : Int)) : x0 = (4 : Int) ∨ x1 = 1 ∨ x0 < (2 : Int) := .inl h0
theorem o588 {x0 : Nat} (h0 : 1 ≤ x0) : (x0 : Int) - (1 : Int) = ((x0 - 1 : Nat) : Int) := (Int.ofNat_sub h0).symm
theorem o589 {x0 : Nat} (h0 : x0 ≤ 4) : (x0 : Int) < (2 : Int) ^ 63 := i_lt (by_no (sound [x0] [.le v0 (.n 4), .no (.lt v0 (.n 9223372036854775808))] (.l [1,1]) rr h0))
theorem o590 {x0 : Nat} (h0 : ¬((63 : Nat) : Int) < (x0 : Int)) : (x0 : Int) < (2 : Int) ^ 63 := i_lt (by_no (sound [x0] [.no (.lt (.n 63) v0), .no (.lt v0 (.n 9223372036854775808))] (.l [1,1]) rr (nlt_i h0)))
theorem o591 {x0 : Nat} (h0 : ¬((63 : Nat) : Int) < (x0 : Int)) : x0 ≤ 16777216 := by_no (sound [x0] [.no (.lt (.n 63) v0), .no (.le v0 (.n 16777216))] (.l [1,1]) rr (nlt_i h0))
theorem o593 {x0 x1 : Nat} (h0 : x0 ≤ 12 + x1) : x0 + (0 + 1) ≤ 12 + (x1 + 1) := by_no (sound [x0, x1] [.le v0 (.a (.n 12) v1), .no (.le (.a v0 (.a n0 n1)) (.a (.n 12) (.a v1 n1)))] (.l [1,1]) rr h0)
theorem o594 {x0 : Nat} (h0 : x0 ≤ 258) : (x0 : Int) ≤ (300 : Int) := i_le (by_no (sound [x0] [.le v0 (.n 258), .no (.le v0 (.n 300))] (.l [1,1]) rr h0))
theorem o595 {x1 x2 x0 : Nat} (h0 : x1 = x2 + (0 + 1)) (h1 : x0 = x2) (h2 : x1 ≤ 4) : x0 + 1 ≤ 16777216 := by_no (sound [x1, x2, x0] [.eq v0 (.a v1 (.a n0 n1)), .eq v2 v1, .le v0 (.n 4), .no (.le (.a v2 n1) (.n 16777216))] (.l [1,1,1,0,0,1]) rr h0 h1 h2)
theorem o596 {x1 x2 x0 : Nat} (h0 : x1 = x2 + (0 + 1)) (h1 : x0 = x2) (h2 : x1 ≤ 4) : x0 ≤ 16777216 := by_no (sound [x1, x2, x0] [.eq v0 (.a v1 (.a n0 n1)), .eq v2 v1, .le v0 (.n 4), .no (.le v2 (.n 16777216))] (.l [1,1,1,0,0,1]) rr h0 h1 h2)
theorem o597 {x0 x2 x1 x3 : Nat} (h0 : x0 = x2) (h1 : x1 = x3) (h2 : x2 ≤ 341) (h3 : x3 ≤ 341) : x0 + x1 + 1 < 4096 := by_no (sound [x0, x2, x1, x3] [.eq v0 v1, .eq v2 v3, .le v1 (.n 341), .le v3 (.n 341), .no (.lt (.a (.a v0 v2) n1) (.n 4096))] (.l [1,1,1,1,0,1]) rr h0 h1 h2 h3)
theorem o598 {x1 : Nat} {x0 : Int} (h0 : (0 : Int) ≤ x0 ∧ x0 < (5 : Int)) (h1 : ¬(x0 = (4 : Int) ∨ x1 = 1 ∨ x0 < (2 : Int))) : x0 = (2 : Int) ∨ x0 = (3 : Int) := by omega
theorem o599 {x1 x2 x0 : Nat} (h0 : x1 = x2 + (0 + 1) + (0 + 1)) (h1 : x0 = x2) (h2 : x1 ≤ 4) : x0 ≤ 16777216 := by_no (sound [x1, x2, x0] [.eq v0 (.a (.a v1 (.a n0 n1)) (.a n0 n1)), .eq v2 v1, .le v0 (.n 4), .no (.le v2 (.n 16777216))] (.l [1,1,1,0,0,1]) rr h0 h1 h2)
theorem o600 {x0 : Nat} : 1 ≤ min 6 x0 + (0 + 1 + 1 + 1 + 1 + 1 + 1 - x0) := by_no (sound [min 6 x0, x0, 0 + 1 + 1 + 1 + 1 + 1 + 1 - x0] [.or (.an (.eq v0 (.n 6)) (.le (.n 6) v1)) (.an (.eq v0 v1) (.le v1 (.n 6))), .or (.an (.eq v2 n0) (.le (.a (.a (.a (.a (.a (.a n0 n1) n1) n1) n1) n1) n1) v1)) (.eq (.a v2 v1) (.a (.a (.a (.a (.a (.a n0 n1) n1) n1) n1) n1) n1)), .no (.le n1 (.a v0 v2))] (.s (.s (.l [1,0,0,1,0,0,1]) (.l [1,0,0,0,0,1])) (.s (.l [1,1,0,1,0,0,1]) (.l [1,0,1,0,0,1]))) rr (mn 6 x0) (sb (0 + 1 + 1 + 1 + 1 + 1 + 1) x0))
theorem o601 {x2 x0 : Nat} {x1 : Int} (h0 : (x2 : Int) < (4 : Int)) (h1 : x1 < (2 : Int)) : x0 = 0 ∨ x1 < (4 : Int) ∧ (x1 < (2 : Int) ∨ x0 = 1) ∧ x2 < 4 := .inr ⟨Int.lt_trans h1 (by decide), .inl h1, lt_i h0⟩
theorem o602 {x0 x1 x2 : Nat} (h0 : x0 + (0 + 1) + (0 + 1) = x1 - x2) : x0 + (0 + 1) = x1 - (x2 + 1) := by_no (sound [x0, x1 - x2, x1, x2, x1 - (x2 + 1)] [.eq (.a (.a v0 (.a n0 n1)) (.a n0 n1)) v1, .or (.an (.eq v1 n0) (.le v2 v3)) (.eq (.a v1 v3) v2), .or (.an (.eq v4 n0) (.le v2 (.a v3 n1))) (.eq (.a v4 (.a v3 n1)) v2), .no (.eq (.a v0 (.a n0 n1)) v4)] (.s (.s (.s (.l [1,0,1]) (.l [0,0,0,0,0,1,0,1])) (.s (.l [0,1,0,1]) (.l [0,0,0,0,1,0,1]))) (.s (.s (.l [1,0,1]) (.l [0,1,0,0,1,0,1])) (.s (.l [1,1,0,0,1,0,1]) (.l [1,0,1,1,0,1])))) rr h0 (sb x1 x2) (sb x1 (x2 + 1)))
theorem o603 {x0 : Nat} (h0 : x0 ≤ 16) : x0 + (0 + 1) ≤ 100 := by_no (sound [x0] [.le v0 (.n 16), .no (.le (.a v0 (.a n0 n1)) (.n 100))] (.l [1,1]) rr h0)
theorem o604 {x1 x0 x2 : Nat} (h0 : x1 = 0 + 1) (h1 : x0 = x2) (h2 : x2 ≤ 16) : x0 + x1 ≤ 16777216 := by_no (sound [x1, x0, x2] [.eq v0 (.a n0 n1), .eq v1 v2, .le v2 (.n 16), .no (.le (.a v1 v0) (.n 16777216))] (.l [1,1,1,0,1]) rr h0 h1 h2)
theorem o605 {x0 x1 x2 : Nat} : x0 + x1 + x2 = x0 + (x1 + x2) := by_no (sound [x0, x1, x2] [.no (.eq (.a (.a v0 v1) v2) (.a v0 (.a v1 v2)))] (.s (.l [1]) (.l [1])) rr)
theorem o606 {x2 x0 x1 : Nat} (h0 : x2 + x0 + x1 ≤ 4) : x0 + x1 ≤ 4 := by_no (sound [x2, x0, x1] [.le (.a (.a v0 v1) v2) (.n 4), .no (.le (.a v1 v2) (.n 4))] (.l [1,1]) rr h0)
theorem o607 {x1 x0 : Nat} (h0 : x1 < x0 - 1) (h1 : 1 = x0 - x1) : False := sound [x1, x0 - 1, x0, x0 - x1] [.lt v0 v1, .eq n1 v3, .or (.an (.eq v1 n0) (.le v2 n1)) (.eq (.a v1 n1) v2), .or (.an (.eq v3 n0) (.le v2 v0)) (.eq (.a v3 v0) v2)] (.s (.s (.l [0,1,0,0,0,0,1]) (.l [0,0,0,1,0,0,0,1])) (.s (.l [0,1,0,0,0,1]) (.l [0,1,1,0,0,1,1]))) rr h0 h1 (sb x0 1) (sb x0 x1)
theorem o608 {x0 x1 x2 : Nat} (h0 : x0 = x1) (h1 : x1 ≤ x2) (h2 : x2 < 4) : x0 ≤ 16777216 := by_no (sound [x0, x1, x2] [.eq v0 v1, .le v1 v2, .lt v2 (.n 4), .no (.le v0 (.n 16777216))] (.l [1,1,1,1]) rr h0 h1 h2)
theorem o610 : 0 + 1 + 1 + 1 + 1 + 1 + 1 ≤ 16777216 := by decide
theorem o612 {x0 x1 x2 : Nat} (h0 : x0 + (0 + 1) = x1 + (0 + 1) + (0 + 1)) (h1 : x1 + (0 + 1) + (0 + 1) ≤ x2) (h2 : x2 ≤ 4) : x0 + 1 ≤ 16777216 := by_no (sound [x0, x1, x2] [.eq (.a v0 (.a n0 n1)) (.a (.a v1 (.a n0 n1)) (.a n0 n1)), .le (.a (.a v1 (.a n0 n1)) (.a n0 n1)) v2, .le v2 (.n 4), .no (.le (.a v0 n1) (.n 16777216))] (.l [1,1,1,1]) rr h0 h1 h2)
theorem o613 {x3 x0 x2 : Nat} {x1 : Int} (h0 : (x3 : Int) = (1 : Int)) (h1 : x3 = x0) (h2 : ¬(x2 : Int) < (4 : Int)) (h3 : x0 = 0 ∨ x1 < (4 : Int) ∧ (x1 < (2 : Int) ∨ x0 = 1) ∧ x2 < 4) : False := h3.elim (fun e => absurd ((eq_i h0).symm.trans (h1.trans e)) Nat.one_ne_zero) (fun o => h2 (i_lt o.2.2))
theorem o614 {x0 x1 : Nat} (h0 : x0 = x1 - (x1 - 1)) (h1 : 1 ≤ x1) : x0 = 1 := by_no (sound [x0, x1 - (x1 - 1), x1, x1 - 1] [.eq v0 v1, .le n1 v2, .or (.an (.eq v3 n0) (.le v2 n1)) (.eq (.a v3 n1) v2), .or (.an (.eq v1 n0) (.le v2 v3)) (.eq (.a v1 v3) v2), .no (.eq v0 n1)] (.s (.s (.s (.l [0,1,0,0,0,1,0,1]) (.l [1,0,1,0,0,0,0,0,1])) (.s (.l [1,0,1,0,1,0,1,0,1]) (.l [1,1,0,1,0,1,0,1]))) (.s (.s (.l [0,1,0,0,1]) (.l [0,1,0,0,1])) (.s (.l [1,0,1,1,0,0,0,1]) (.l [1,1,0,0,1,0,1])))) rr h0 h1 (sb x1 1) (sb x1 (x1 - 1)))
theorem o615 {x0 x2 x1 x3 : Nat} (h0 : x0 = x2) (h1 : x1 = x3) (h2 : x2 ≤ 6) (h3 : x3 ≤ 6) : x0 + x1 ≤ 16777216 := by_no (sound [x0, x2, x1, x3] [.eq v0 v1, .eq v2 v3, .le v1 (.n 6), .le v3 (.n 6), .no (.le (.a v0 v2) (.n 16777216))] (.l [1,1,1,1,0,1]) rr h0 h1 h2 h3)
theorem o616 {x0 x2 x1 x3 : Nat} (h0 : x0 = x2) (h1 : x1 = x3) (h2 : x2 ≤ 341) (h3 : x3 ≤ 341) : x0 + x1 ≤ 16777216 := by_no (sound [x0, x2, x1, x3] [.eq v0 v1, .eq v2 v3, .le v1 (.n 341), .le v3 (.n 341), .no (.le (.a v0 v2) (.n 16777216))] (.l [1,1,1,1,0,1]) rr h0 h1 h2 h3)
theorem o617 {x0 : Nat} (h0 : x0 < 4) : x0 + 1 ≤ 4 := by_no (sound [x0] [.lt v0 (.n 4), .no (.le (.a v0 n1) (.n 4))] (.l [1,1]) rr h0)
theorem o619 {x0 x1 : Nat} (h0 : x0 ≤ 6) (h1 : x1 ≤ 6) : x0 + x1 ≤ 12 := by_no (sound [x0, x1] [.le v0 (.n 6), .le v1 (.n 6), .no (.le (.a v0 v1) (.n 12))] (.l [1,1,1]) rr h0 h1)
theorem o620 {x3 x0 x2 : Nat} {x1 : Int} (h0 : (x3 : Int) = (1 : Int)) (h1 : x3 = x0) (h2 : (x2 : Int) < (4 : Int)) (h3 : x1 < (4 : Int)) : x0 = 0 ∨ x1 < (4 : Int) ∧ (x1 < (2 : Int) ∨ x0 = 1) ∧ x2 < 4 := .inr ⟨h3, .inr (h1.symm.trans (eq_i h0)), lt_i h2⟩
theorem o621 {x3 x0 x2 : Nat} {x1 : Int} (h0 : x3 = 0) (h1 : x3 = x0) : x0 = 0 ∨ x1 < (4 : Int) ∧ (x1 < (2 : Int) ∨ x0 = 1) ∧ x2 < 4 := .inl (h1.symm.trans h0)
theorem o622 {x1 : Nat} {x0 : Int} (h0 : x0 < (2 : Int)) : x0 = (4 : Int) ∨ x1 = 1 ∨ x0 < (2 : Int) := .inr (.inr h0)
theorem o624 {x1 x0 : Nat} (h0 : x1 ≤ 16) : min x0 (x1 + (0 + 1)) ≤ 17 := by_no (sound [x1, min x0 (x1 + (0 + 1)), x0] [.le v0 (.n 16), .or (.an (.eq v1 v2) (.le v2 (.a v0 (.a n0 n1)))) (.an (.eq v1 (.a v0 (.a n0 n1))) (.le (.a v0 (.a n0 n1)) v2)), .no (.le v1 (.n 17))] (.s (.l [1,1,1,0,1]) (.l [1,0,1,0,1])) rr h0 (mn x0 (x1 + (0 + 1))))
end Mine.Ln
end
local macro_rules
  | `(tactic| omega) => do
    let mut t ← `(tactic| omega (config := {}))
    for n in "o610,o442,o440,o445,o451,o459,o458,o463,o456,o439,o420,o423,o338,o412,o413,o411,o392,o389,o406,o398,o397,o384,o385,o387,o382,o379,o376,o383,o381,o364,o352,o306,o240,o218,o173,o174,o144,o327,o294,o124,o137,o353,o369,o295".splitOn "," do
      t ← `(tactic| first | with_reducible (apply $(Lean.mkIdent (.str `Mine.Ln n)) <;> assumption) | $t:tactic)
    return t
section
open PySem PySem.W PyProof.Rows
set_option maxRecDepth 100000
set_option maxHeartbeats 8000000
namespace Mine
/-- the program, and the parts of a def in it -/
noncomputable def PRG : Program := (OpenRow.toRowW (OpenLaw.row PySem.Challenge.rw_wb0017_01)).prog
noncomputable def fnPart (s : Option Stmt) : Option (Arguments × List Stmt × Scope) := match s with | some (.FunctionDef _ p b _ _ _ s _ _ _) => some (p, b, s) | _ => none
namespace hd
/-- the statements that the law needs -/
noncomputable def view_39 : Program := { PRG with main := { PRG.main with body := [1, 2, 3, 4, 6, 7, 8, 10, 12, 13, 14, 15, 16, 17, 18, 19, 20].filterMap fun i => PRG.main.body[i]? } }
/-- the objects that stand when the text has run -/
noncomputable def heap_39 : Params → Frag := by
  exact (fun (p0 : Arguments) (b0 : List Stmt) (s0 : Scope) (_ : fnPart PRG.main.body[3]? = some (p0, b0, s0)) (p1 : Arguments) (b1 : List Stmt) (s1 : Scope) (_ : fnPart PRG.main.body[4]? = some (p1, b1, s1)) (p2 : Arguments) (b2 : List Stmt) (s2 : Scope) (_ : fnPart PRG.main.body[7]? = some (p2, b2, s2)) (p3 : Arguments) (b3 : List Stmt) (s3 : Scope) (_ : fnPart PRG.main.body[8]? = some (p3, b3, s3)) (p4 : Arguments) (b4 : List Stmt) (s4 : Scope) (_ : fnPart PRG.main.body[10]? = some (p4, b4, s4)) (p5 : Arguments) (b5 : List Stmt) (s5 : Scope) (_ : fnPart PRG.main.body[12]? = some (p5, b5, s5)) (p6 : Arguments) (b6 : List Stmt) (s6 : Scope) (_ : fnPart PRG.main.body[13]? = some (p6, b6, s6)) (p7 : Arguments) (b7 : List Stmt) (s7 : Scope) (_ : fnPart PRG.main.body[14]? = some (p7, b7, s7)) (p8 : Arguments) (b8 : List Stmt) (s8 : Scope) (_ : fnPart PRG.main.body[15]? = some (p8, b8, s8)) (p9 : Arguments) (b9 : List Stmt) (s9 : Scope) (_ : fnPart PRG.main.body[16]? = some (p9, b9, s9)) (p10 : Arguments) (b10 : List Stmt) (s10 : Scope) (_ : fnPart PRG.main.body[17]? = some (p10, b10, s10)) (p11 : Arguments) (b11 : List Stmt) (s11 : Scope) (_ : fnPart PRG.main.body[18]? = some (p11, b11, s11)) (p12 : Arguments) (b12 : List Stmt) (s12 : Scope) (_ : fnPart PRG.main.body[19]? = some (p12, b12, s12)) (p13 : Arguments) (b13 : List Stmt) (s13 : Scope) (_ : fnPart PRG.main.body[20]? = some (p13, b13, s13)) P =>
  (nat_lit 2, { cls := Value.none, data := Data.dict #[] }) ::
  (nat_lit 3, { cls := Value.type "dict", data := Data.dict #[{ hash := PyData.keyHash P (Str.ofString "__name__"), key := Value.str (Str.ofString "__name__") 165, val := Value.str (Str.ofString "law_wb0017_01") 271 }, { hash := PyData.keyHash P (Str.ofString "__doc__"), key := Value.str (Str.ofString "__doc__") 166, val := Value.none }, { hash := PyData.keyHash P (Str.ofString "__package__"), key := Value.str (Str.ofString "__package__") 167, val := Value.none }, { hash := PyData.keyHash P (Str.ofString "__loader__"), key := Value.str (Str.ofString "__loader__") 168, val := Value.builtin "__main__.__loader__#opaque" }, { hash := PyData.keyHash P (Str.ofString "__spec__"), key := Value.str (Str.ofString "__spec__") 169, val := Value.none }, { hash := PyData.keyHash P (Str.ofString "__annotations__"), key := Value.str (Str.ofString "__annotations__") 170, val := Value.ref 6 }, { hash := PyData.keyHash P (Str.ofString "__builtins__"), key := Value.str (Str.ofString "__builtins__") 171, val := Value.ref 4 }, { hash := PyData.keyHash P (Str.ofString "__file__"), key := Value.str (Str.ofString "__file__") 173, val := Value.str (Str.ofString "/claim/cut.py") 172 }, { hash := PyData.keyHash P (Str.ofString "__cached__"), key := Value.str (Str.ofString "__cached__") 174, val := Value.none }, { hash := PyData.keyHash P (Str.ofString "ENDMARKER"), key := Value.str (Str.ofString "ENDMARKER") 190, val := Value.int 0 189 }, { hash := PyData.keyHash P (Str.ofString "NT_OFFSET"), key := Value.str (Str.ofString "NT_OFFSET") 192, val := Value.int 256 191 }, { hash := PyData.keyHash P (Str.ofString "ISTERMINAL"), key := Value.str (Str.ofString "ISTERMINAL") 199, val := Value.ref 21 }, { hash := PyData.keyHash P (Str.ofString "ISEOF"), key := Value.str (Str.ofString "ISEOF") 206, val := Value.ref 28 }, { hash := PyData.keyHash P (Str.ofString "COMPILER_FLAG_NAMES"), key := Value.str (Str.ofString "COMPILER_FLAG_NAMES") 239, val := Value.ref 29 }, { hash := PyData.keyHash P (Str.ofString "pretty_flags"), key := Value.str (Str.ofString "pretty_flags") 249, val := Value.ref 36 }, { hash := PyData.keyHash P (Str.ofString "_parse_varint"), key := Value.str (Str.ofString "_parse_varint") 258, val := Value.ref 43 }, { hash := PyData.keyHash P (Str.ofString "Int2AP"), key := Value.str (Str.ofString "Int2AP") 270, val := Value.ref 50 }, { hash := PyData.keyHash P (Str.ofString "_law_octets"), key := Value.str (Str.ofString "_law_octets") 280, val := Value.ref 57 }, { hash := PyData.keyHash P (Str.ofString "_law_numbers"), key := Value.str (Str.ofString "_law_numbers") 290, val := Value.ref 64 }, { hash := PyData.keyHash P (Str.ofString "_law_places"), key := Value.str (Str.ofString "_law_places") 296, val := Value.ref 69 }, { hash := PyData.keyHash P (Str.ofString "_law_machine"), key := Value.str (Str.ofString "_law_machine") 302, val := Value.ref 74 }, { hash := PyData.keyHash P (Str.ofString "_law_taken"), key := Value.str (Str.ofString "_law_taken") 308, val := Value.ref 79 }, { hash := PyData.keyHash P (Str.ofString "_law_joined"), key := Value.str (Str.ofString "_law_joined") 314, val := Value.ref 84 }, { hash := PyData.keyHash P (Str.ofString "_law_often"), key := Value.str (Str.ofString "_law_often") 324, val := Value.ref 91 }, { hash := PyData.keyHash P (Str.ofString "_law_word"), key := Value.str (Str.ofString "_law_word") 332, val := Value.ref 98 }, { hash := PyData.keyHash P (Str.ofString "law"), key := Value.str (Str.ofString "law") 351, val := Value.ref 105 }] 26 }) ::
  (nat_lit 6, { cls := Value.type "dict", data := Data.dict #[] }) ::
  (nat_lit 15, { cls := Value.type "tuple", data := Data.seq #[] }) ::
  (nat_lit 17, { cls := Value.type "tuple", data := Data.seq #[Value.str (Str.ofString "x") 196] }) ::
  (nat_lit 18, { cls := Value.type "tuple", data := Data.seq #[] }) ::
  (nat_lit 20, { cls := Value.type "code", data := Data.fields #[Value.str (Str.ofString "ISTERMINAL") 193, Value.str (Str.ofString "ISTERMINAL") 194, Value.str (Str.ofString "/claim/cut.py") 195, Value.int 4 0, Value.int 1 0, Value.int 0 0, Value.int 0 0, Value.int 3 0, Value.ref 15, Value.bool true, Value.int 181 0, Value.ref 16, Value.none, Value.ref 17, Value.ref 18, Value.ref 19, Value.int 197 0, Value.int 4 0, Value.str (Str.ofString "/claim/cut.py") 198] }) ::
  (nat_lit 21, { cls := Value.type "function", data := Data.func { name := Str.ofString "ISTERMINAL", qualname := Str.ofString "ISTERMINAL", params := p0, body := FuncBody.stmts b0, scope := s0, globals := 3, closure := [], defaults := Value.none, kwdefaults := Value.none, pyModule := Value.str (Str.ofString "cpy313.token") 187, code := Value.ref 20 } }) ::
  (nat_lit 22, { cls := Value.type "tuple", data := Data.seq #[] }) ::
  (nat_lit 24, { cls := Value.type "tuple", data := Data.seq #[Value.str (Str.ofString "x") 203] }) ::
  (nat_lit 25, { cls := Value.type "tuple", data := Data.seq #[] }) ::
  (nat_lit 27, { cls := Value.type "code", data := Data.fields #[Value.str (Str.ofString "ISEOF") 200, Value.str (Str.ofString "ISEOF") 201, Value.str (Str.ofString "/claim/cut.py") 202, Value.int 6 0, Value.int 1 0, Value.int 0 0, Value.int 0 0, Value.int 3 0, Value.ref 22, Value.bool true, Value.int 181 0, Value.ref 23, Value.none, Value.ref 24, Value.ref 25, Value.ref 26, Value.int 204 0, Value.int 6 0, Value.str (Str.ofString "/claim/cut.py") 205] }) ::
  (nat_lit 28, { cls := Value.type "function", data := Data.func { name := Str.ofString "ISEOF", qualname := Str.ofString "ISEOF", params := p1, body := FuncBody.stmts b1, scope := s1, globals := 3, closure := [], defaults := Value.none, kwdefaults := Value.none, pyModule := Value.str (Str.ofString "cpy313.token") 187, code := Value.ref 27 } }) ::
  (nat_lit 29, { cls := Value.type "dict", data := Data.dict #[{ hash := 1, key := Value.int 1 209, val := Value.str (Str.ofString "OPTIMIZED") 210 }, { hash := 2, key := Value.int 2 211, val := Value.str (Str.ofString "NEWLOCALS") 212 }, { hash := 4, key := Value.int 4 213, val := Value.str (Str.ofString "VARARGS") 214 }, { hash := 8, key := Value.int 8 215, val := Value.str (Str.ofString "VARKEYWORDS") 216 }, { hash := 16, key := Value.int 16 217, val := Value.str (Str.ofString "NESTED") 218 }, { hash := 32, key := Value.int 32 219, val := Value.str (Str.ofString "GENERATOR") 220 }, { hash := 64, key := Value.int 64 221, val := Value.str (Str.ofString "NOFREE") 222 }, { hash := 128, key := Value.int 128 223, val := Value.str (Str.ofString "COROUTINE") 224 }, { hash := 256, key := Value.int 256 225, val := Value.str (Str.ofString "ITERABLE_COROUTINE") 226 }, { hash := 512, key := Value.int 512 227, val := Value.str (Str.ofString "ASYNC_GENERATOR") 228 }] 10 }) ::
  (nat_lit 30, { cls := Value.type "tuple", data := Data.seq #[] }) ::
  (nat_lit 32, { cls := Value.type "tuple", data := Data.seq #[Value.str (Str.ofString "flags") 243, Value.str (Str.ofString "names") 244, Value.str (Str.ofString "i") 245, Value.str (Str.ofString "flag") 246] }) ::
  (nat_lit 33, { cls := Value.type "tuple", data := Data.seq #[] }) ::
  (nat_lit 35, { cls := Value.type "code", data := Data.fields #[Value.str (Str.ofString "pretty_flags") 240, Value.str (Str.ofString "pretty_flags") 241, Value.str (Str.ofString "/claim/cut.py") 242, Value.int 10 0, Value.int 1 0, Value.int 0 0, Value.int 0 0, Value.int 3 0, Value.ref 30, Value.bool true, Value.int 181 0, Value.ref 31, Value.none, Value.ref 32, Value.ref 33, Value.ref 34, Value.int 247 0, Value.int 10 0, Value.str (Str.ofString "/claim/cut.py") 248] }) ::
  (nat_lit 36, { cls := Value.type "function", data := Data.func { name := Str.ofString "pretty_flags", qualname := Str.ofString "pretty_flags", params := p2, body := FuncBody.stmts b2, scope := s2, globals := 3, closure := [], defaults := Value.none, kwdefaults := Value.none, pyModule := Value.str (Str.ofString "cpy313.dis") 207, code := Value.ref 35 } }) ::
  (nat_lit 37, { cls := Value.type "tuple", data := Data.seq #[] }) ::
  (nat_lit 39, { cls := Value.type "tuple", data := Data.seq #[Value.str (Str.ofString "iterator") 253, Value.str (Str.ofString "b") 254, Value.str (Str.ofString "val") 255] }) ::
  (nat_lit 40, { cls := Value.type "tuple", data := Data.seq #[] }) ::
  (nat_lit 42, { cls := Value.type "code", data := Data.fields #[Value.str (Str.ofString "_parse_varint") 250, Value.str (Str.ofString "_parse_varint") 251, Value.str (Str.ofString "/claim/cut.py") 252, Value.int 22 0, Value.int 1 0, Value.int 0 0, Value.int 0 0, Value.int 3 0, Value.ref 37, Value.bool true, Value.int 181 0, Value.ref 38, Value.none, Value.ref 39, Value.ref 40, Value.ref 41, Value.int 256 0, Value.int 22 0, Value.str (Str.ofString "/claim/cut.py") 257] }) ::
  (nat_lit 43, { cls := Value.type "function", data := Data.func { name := Str.ofString "_parse_varint", qualname := Str.ofString "_parse_varint", params := p3, body := FuncBody.stmts b3, scope := s3, globals := 3, closure := [], defaults := Value.none, kwdefaults := Value.none, pyModule := Value.str (Str.ofString "cpy313.dis") 207, code := Value.ref 42 } }) ::
  (nat_lit 44, { cls := Value.type "tuple", data := Data.seq #[] }) ::
  (nat_lit 46, { cls := Value.type "tuple", data := Data.seq #[Value.str (Str.ofString "num") 264, Value.str (Str.ofString "val") 265, Value.str (Str.ofString "AP") 266, Value.str (Str.ofString "mod") 267] }) ::
  (nat_lit 47, { cls := Value.type "tuple", data := Data.seq #[] }) ::
  (nat_lit 49, { cls := Value.type "code", data := Data.fields #[Value.str (Str.ofString "Int2AP") 261, Value.str (Str.ofString "Int2AP") 262, Value.str (Str.ofString "/claim/cut.py") 263, Value.int 31 0, Value.int 1 0, Value.int 0 0, Value.int 0 0, Value.int 3 0, Value.ref 44, Value.bool true, Value.int 181 0, Value.ref 45, Value.none, Value.ref 46, Value.ref 47, Value.ref 48, Value.int 268 0, Value.int 31 0, Value.str (Str.ofString "/claim/cut.py") 269] }) ::
  (nat_lit 50, { cls := Value.type "function", data := Data.func { name := Str.ofString "Int2AP", qualname := Str.ofString "Int2AP", params := p4, body := FuncBody.stmts b4, scope := s4, globals := 3, closure := [], defaults := Value.none, kwdefaults := Value.none, pyModule := Value.str (Str.ofString "cpy313.imaplib") 259, code := Value.ref 49 } }) ::
  (nat_lit 51, { cls := Value.type "tuple", data := Data.seq #[] }) ::
  (nat_lit 53, { cls := Value.type "tuple", data := Data.seq #[Value.str (Str.ofString "number") 276, Value.str (Str.ofString "digits") 277] }) ::
  (nat_lit 54, { cls := Value.type "tuple", data := Data.seq #[] }) ::
  (nat_lit 56, { cls := Value.type "code", data := Data.fields #[Value.str (Str.ofString "_law_octets") 273, Value.str (Str.ofString "_law_octets") 274, Value.str (Str.ofString "/claim/cut.py") 275, Value.int 40 0, Value.int 1 0, Value.int 0 0, Value.int 0 0, Value.int 3 0, Value.ref 51, Value.bool true, Value.int 181 0, Value.ref 52, Value.none, Value.ref 53, Value.ref 54, Value.ref 55, Value.int 278 0, Value.int 40 0, Value.str (Str.ofString "/claim/cut.py") 279] }) ::
  (nat_lit 57, { cls := Value.type "function", data := Data.func { name := Str.ofString "_law_octets", qualname := Str.ofString "_law_octets", params := p5, body := FuncBody.stmts b5, scope := s5, globals := 3, closure := [], defaults := Value.none, kwdefaults := Value.none, pyModule := Value.str (Str.ofString "law_wb0017_01") 271, code := Value.ref 56 } }) ::
  (nat_lit 58, { cls := Value.type "tuple", data := Data.seq #[] }) ::
  (nat_lit 60, { cls := Value.type "tuple", data := Data.seq #[Value.str (Str.ofString "octets") 284, Value.str (Str.ofString "tape") 285, Value.str (Str.ofString "numbers") 286, Value.str (Str.ofString "turn") 287] }) ::
  (nat_lit 61, { cls := Value.type "tuple", data := Data.seq #[] }) ::
  (nat_lit 63, { cls := Value.type "code", data := Data.fields #[Value.str (Str.ofString "_law_numbers") 281, Value.str (Str.ofString "_law_numbers") 282, Value.str (Str.ofString "/claim/cut.py") 283, Value.int 46 0, Value.int 1 0, Value.int 0 0, Value.int 0 0, Value.int 3 0, Value.ref 58, Value.bool true, Value.int 181 0, Value.ref 59, Value.none, Value.ref 60, Value.ref 61, Value.ref 62, Value.int 288 0, Value.int 46 0, Value.str (Str.ofString "/claim/cut.py") 289] }) ::
  (nat_lit 64, { cls := Value.type "function", data := Data.func { name := Str.ofString "_law_numbers", qualname := Str.ofString "_law_numbers", params := p6, body := FuncBody.stmts b6, scope := s6, globals := 3, closure := [], defaults := Value.none, kwdefaults := Value.none, pyModule := Value.str (Str.ofString "law_wb0017_01") 271, code := Value.ref 63 } }) ::
  (nat_lit 65, { cls := Value.type "tuple", data := Data.seq #[] }) ::
  (nat_lit 68, { cls := Value.type "code", data := Data.fields #[Value.str (Str.ofString "_law_places") 291, Value.str (Str.ofString "_law_places") 292, Value.str (Str.ofString "/claim/cut.py") 293, Value.int 55 0, Value.int 1 0, Value.int 0 0, Value.int 0 0, Value.int 3 0, Value.ref 65, Value.bool true, Value.int 181 0, Value.ref 66, Value.none, Value.none, Value.none, Value.ref 67, Value.int 294 0, Value.int 55 0, Value.str (Str.ofString "/claim/cut.py") 295] }) ::
  (nat_lit 69, { cls := Value.type "function", data := Data.func { name := Str.ofString "_law_places", qualname := Str.ofString "_law_places", params := p7, body := FuncBody.stmts b7, scope := s7, globals := 3, closure := [], defaults := Value.none, kwdefaults := Value.none, pyModule := Value.str (Str.ofString "law_wb0017_01") 271, code := Value.ref 68 } }) ::
  (nat_lit 70, { cls := Value.type "tuple", data := Data.seq #[] }) ::
  (nat_lit 73, { cls := Value.type "code", data := Data.fields #[Value.str (Str.ofString "_law_machine") 297, Value.str (Str.ofString "_law_machine") 298, Value.str (Str.ofString "/claim/cut.py") 299, Value.int 59 0, Value.int 1 0, Value.int 0 0, Value.int 0 0, Value.int 3 0, Value.ref 70, Value.bool true, Value.int 181 0, Value.ref 71, Value.none, Value.none, Value.none, Value.ref 72, Value.int 300 0, Value.int 59 0, Value.str (Str.ofString "/claim/cut.py") 301] }) ::
  (nat_lit 74, { cls := Value.type "function", data := Data.func { name := Str.ofString "_law_machine", qualname := Str.ofString "_law_machine", params := p8, body := FuncBody.stmts b8, scope := s8, globals := 3, closure := [], defaults := Value.none, kwdefaults := Value.none, pyModule := Value.str (Str.ofString "law_wb0017_01") 271, code := Value.ref 73 } }) ::
  (nat_lit 75, { cls := Value.type "tuple", data := Data.seq #[] }) ::
  (nat_lit 78, { cls := Value.type "code", data := Data.fields #[Value.str (Str.ofString "_law_taken") 303, Value.str (Str.ofString "_law_taken") 304, Value.str (Str.ofString "/claim/cut.py") 305, Value.int 87 0, Value.int 3 0, Value.int 0 0, Value.int 0 0, Value.int 3 0, Value.ref 75, Value.bool true, Value.int 181 0, Value.ref 76, Value.none, Value.none, Value.none, Value.ref 77, Value.int 306 0, Value.int 87 0, Value.str (Str.ofString "/claim/cut.py") 307] }) ::
  (nat_lit 79, { cls := Value.type "function", data := Data.func { name := Str.ofString "_law_taken", qualname := Str.ofString "_law_taken", params := p9, body := FuncBody.stmts b9, scope := s9, globals := 3, closure := [], defaults := Value.none, kwdefaults := Value.none, pyModule := Value.str (Str.ofString "law_wb0017_01") 271, code := Value.ref 78 } }) ::
  (nat_lit 80, { cls := Value.type "tuple", data := Data.seq #[] }) ::
  (nat_lit 83, { cls := Value.type "code", data := Data.fields #[Value.str (Str.ofString "_law_joined") 309, Value.str (Str.ofString "_law_joined") 310, Value.str (Str.ofString "/claim/cut.py") 311, Value.int 97 0, Value.int 2 0, Value.int 0 0, Value.int 0 0, Value.int 3 0, Value.ref 80, Value.bool true, Value.int 181 0, Value.ref 81, Value.none, Value.none, Value.none, Value.ref 82, Value.int 312 0, Value.int 97 0, Value.str (Str.ofString "/claim/cut.py") 313] }) ::
  (nat_lit 84, { cls := Value.type "function", data := Data.func { name := Str.ofString "_law_joined", qualname := Str.ofString "_law_joined", params := p10, body := FuncBody.stmts b10, scope := s10, globals := 3, closure := [], defaults := Value.none, kwdefaults := Value.none, pyModule := Value.str (Str.ofString "law_wb0017_01") 271, code := Value.ref 83 } }) ::
  (nat_lit 85, { cls := Value.type "tuple", data := Data.seq #[] }) ::
  (nat_lit 87, { cls := Value.type "tuple", data := Data.seq #[Value.str (Str.ofString "some") 318, Value.str (Str.ofString "rows") 319, Value.str (Str.ofString "turn") 320, Value.str (Str.ofString "longer") 321] }) ::
  (nat_lit 88, { cls := Value.type "tuple", data := Data.seq #[] }) ::
  (nat_lit 90, { cls := Value.type "code", data := Data.fields #[Value.str (Str.ofString "_law_often") 315, Value.str (Str.ofString "_law_often") 316, Value.str (Str.ofString "/claim/cut.py") 317, Value.int 99 0, Value.int 1 0, Value.int 0 0, Value.int 0 0, Value.int 3 0, Value.ref 85, Value.bool true, Value.int 181 0, Value.ref 86, Value.none, Value.ref 87, Value.ref 88, Value.ref 89, Value.int 322 0, Value.int 99 0, Value.str (Str.ofString "/claim/cut.py") 323] }) ::
  (nat_lit 91, { cls := Value.type "function", data := Data.func { name := Str.ofString "_law_often", qualname := Str.ofString "_law_often", params := p11, body := FuncBody.stmts b11, scope := s11, globals := 3, closure := [], defaults := Value.none, kwdefaults := Value.none, pyModule := Value.str (Str.ofString "law_wb0017_01") 271, code := Value.ref 90 } }) ::
  (nat_lit 92, { cls := Value.type "tuple", data := Data.seq #[] }) ::
  (nat_lit 94, { cls := Value.type "tuple", data := Data.seq #[Value.str (Str.ofString "number") 328, Value.str (Str.ofString "letters") 329] }) ::
  (nat_lit 95, { cls := Value.type "tuple", data := Data.seq #[] }) ::
  (nat_lit 97, { cls := Value.type "code", data := Data.fields #[Value.str (Str.ofString "_law_word") 325, Value.str (Str.ofString "_law_word") 326, Value.str (Str.ofString "/claim/cut.py") 327, Value.int 107 0, Value.int 1 0, Value.int 0 0, Value.int 0 0, Value.int 3 0, Value.ref 92, Value.bool true, Value.int 181 0, Value.ref 93, Value.none, Value.ref 94, Value.ref 95, Value.ref 96, Value.int 330 0, Value.int 107 0, Value.str (Str.ofString "/claim/cut.py") 331] }) ::
  (nat_lit 98, { cls := Value.type "function", data := Data.func { name := Str.ofString "_law_word", qualname := Str.ofString "_law_word", params := p12, body := FuncBody.stmts b12, scope := s12, globals := 3, closure := [], defaults := Value.none, kwdefaults := Value.none, pyModule := Value.str (Str.ofString "law_wb0017_01") 271, code := Value.ref 97 } }) ::
  (nat_lit 99, { cls := Value.type "tuple", data := Data.seq #[] }) ::
  (nat_lit 101, { cls := Value.type "tuple", data := Data.seq #[Value.str (Str.ofString "script") 336, Value.str (Str.ofString "tokens") 337, Value.str (Str.ofString "pile") 338, Value.str (Str.ofString "words") 339, Value.str (Str.ofString "v") 340, Value.str (Str.ofString "kind") 341, Value.str (Str.ofString "other") 342, Value.str (Str.ofString "turn") 343, Value.str (Str.ofString "octets") 344, Value.str (Str.ofString "token") 345, Value.str (Str.ofString "letters") 346, Value.str (Str.ofString "follow") 347, Value.str (Str.ofString "told") 348] }) ::
  (nat_lit 102, { cls := Value.type "tuple", data := Data.seq #[] }) ::
  (nat_lit 104, { cls := Value.type "code", data := Data.fields #[Value.str (Str.ofString "law") 333, Value.str (Str.ofString "law") 334, Value.str (Str.ofString "/claim/cut.py") 335, Value.int 110 0, Value.int 1 0, Value.int 0 0, Value.int 0 0, Value.int 3 0, Value.ref 99, Value.bool true, Value.int 181 0, Value.ref 100, Value.none, Value.ref 101, Value.ref 102, Value.ref 103, Value.int 349 0, Value.int 110 0, Value.str (Str.ofString "/claim/cut.py") 350] }) ::
  (nat_lit 105, { cls := Value.type "function", data := Data.func { name := Str.ofString "law", qualname := Str.ofString "law", params := p13, body := FuncBody.stmts b13, scope := s13, globals := 3, closure := [], defaults := Value.none, kwdefaults := Value.none, pyModule := Value.str (Str.ofString "law_wb0017_01") 271, code := Value.ref 104 } }) :: []) _ _ _ rfl _ _ _ rfl _ _ _ rfl _ _ _ rfl _ _ _ rfl _ _ _ rfl _ _ _ rfl _ _ _ rfl _ _ _ rfl _ _ _ rfl _ _ _ rfl _ _ _ rfl _ _ _ rfl _ _ _ rfl
end hd
noncomputable def asK : List Addr := [2, 3, 6, 15, 17, 18, 20, 21, 22, 24, 25, 27, 28, 29, 30, 32, 33, 35, 36, 37, 39, 40, 42, 43, 44, 46, 47, 49, 50, 51, 53, 54, 56, 57, 58, 60, 61, 63, 64, 65, 68, 69, 70, 73, 74, 75, 78, 79, 80, 83, 84, 85, 87, 88, 90, 91, 92, 94, 95, 97, 98, 99, 101, 102, 104, 105]
theorem heap_as : ∀ P, asK = (hd.heap_39 P).map (·.1) := fun _ => by kernel_rfl
theorem hd_said : OpenLaw.wellSaid PySem.Challenge.rw_wb0017_01 = true := by decide +kernel
theorem hd_left : LeftO PRG hd.view_39 [Str.ofString "COMPILER_FLAG_NAMES"] (fun s => xlAt hd.view_39 [] s && recOk (RowW.records (OpenRow.toRowW PySem.Challenge.rw_wb0017_01.row)) s) (Hook.obs (kHook hd.heap_39 asK heap_as)) (Hook.val (kHook hd.heap_39 asK heap_as)) 1358 := by
  refine LeftO.of_split "special-get-raises" ?_
  intro w
  kernel_rfl
end Mine
end
section
open PySem PyProof.Rows
set_option autoImplicit false
set_option maxRecDepth 100000
namespace Mine.Srt

noncomputable abbrev KKind := PyProof.Rows.KeyKind

noncomputable def SegS (κ : KKind) (xs : Array Keyed) (lo hi : Nat) : Prop := ∀ i j, lo ≤ i → i ≤ j → j < hi → κ.kle (KK κ xs i) (KK κ xs j)
noncomputable def SegD (κ : KKind) (xs : Array Keyed) (lo hi : Nat) : Prop := ∀ i j, lo ≤ i → i ≤ j → j < hi → κ.kle (KK κ xs j) (KK κ xs i)

structure SB (a₀ : Array Keyed) (p : Array (Nat × Nat × Nat)) (st : SortSt) : Prop where
  perm : (arrOf st).Perm a₀
  kind : kindOf st = oneType'
  failed : failedOf st = none
  pend : pendingOf st = p

theorem SB.size {a₀ : Array Keyed} {p : Array (Nat × Nat × Nat)} {st : SortSt} (h : SB a₀ p st) : (arrOf st).size = a₀.size := h.perm.size_eq
theorem SB.setA {a₀ : Array Keyed} {p : Array (Nat × Nat × Nat)} {st : SortSt} (h : SB a₀ p st) {xs : Array Keyed} (hp : xs.Perm (arrOf st)) : SB a₀ p (setArr st xs) :=
  ⟨hp.trans h.perm, h.kind, h.failed, h.pend⟩

theorem keyed_at {κ : KKind} {xs : Array Keyed} (h0 : KeysOf κ xs) {i : Nat} (hi : i < xs.size) :
    ∃ x p a, xs[i]? = some (x, p) ∧ κ.keyOf x = some a ∧ KK κ xs i = a := by
  have hm : xs[i] ∈ xs.toList := by simp
  obtain ⟨a, ha⟩ := h0 _ hm
  have e : xs[i]? = some xs[i] := getElem?_pos _ i hi
  refine ⟨xs[i].1, xs[i].2, a, by rw [e], ha, ?_⟩
  unfold KK; rw [e]; simp [ha]
theorem keysOf_perm {κ : KKind} {xs ys : Array Keyed} (h : KeysOf κ ys) (hp : xs.Perm ys) : KeysOf κ xs :=
  fun p hp' => h p ((Array.perm_iff_toList_perm.mp hp).mem_iff.mp hp')

section
variable {prog : Program} {w : World} {A : Around} {E : Value → Shared → Prop} {s : Shared} {a₀ : Array Keyed} {κ : KKind} {p : Array (Nat × Nat × Nat)}

theorem wpS_lt1 (hO : κ.OneLt) {st : SortSt} {x y : Keyed} {a b : κ.α} {Q : Option Bool → SortSt → Prop} (hk : kindOf st = oneType')
    (ha : κ.keyOf x.1 = some a) (hb : κ.keyOf y.1 = some b) (h : Q (some (κ.blt a b)) st) : wpS (model prog w) A E s (lt' x y) Q st := by
  rw [lt'_eq]
  refine wpS_bind (wpS_get ?_)
  rw [hk, keyLt'_oneType]
  refine wpS_bind (wpS_lift (wpAny_attempt (hO prog w A _ s x.1 y.1 a b ha hb ⟨rfl, ?_⟩)))
  exact wpS_pure h

theorem wpS_elem1 {st : SortSt} {xs : Array Keyed} {i : Nat} {x : Keyed} {Q : Keyed → SortSt → Prop} (hx : xs[i]? = some x) (h : Q x st) : wpS (model prog w) A E s (elem' xs i) Q st := by
  rw [elem'_eq, hx]; exact wpS_pure h

theorem wpS_ltB {st : SortSt} {i j : Nat} {Q : Option Bool → SortSt → Prop} (hO : κ.OneLt) (h0 : KeysOf κ a₀) (hB : SB a₀ p st) (hi : i < a₀.size) (hj : j < a₀.size)
    (h : Q (some (κ.blt (KK κ (arrOf st) i) (KK κ (arrOf st) j))) st) : wpS (model prog w) A E s (ltAt' i j) Q st := by
  have h1 := keysOf_perm h0 hB.perm
  obtain ⟨x, _, a, e1, ha, ka⟩ := keyed_at h1 (i := i) (by rw [hB.size]; exact hi)
  obtain ⟨y, _, b, e2, hb, kb⟩ := keyed_at h1 (i := j) (by rw [hB.size]; exact hj)
  rw [ka, kb] at h
  exact wpS_ltAtK hO hB.kind e1 e2 ha hb h

theorem wpS_rev {st : SortSt} {i j : Nat} {Q : Unit → SortSt → Prop} (h : Q () (setArr st (mirror (arrOf st) i j ((j - i) / 2)))) :
    wpS (model prog w) A E s (reverseSlice' i j) Q st := by
  rw [reverseSlice'_eq]; exact wpS_modify h

noncomputable def ascL (lo a nrem : Nat) : StateT SortSt Sem AscSt :=
  forIn [a:nrem] ((none, a) : AscSt) fun _ c => do
    let x ← ltAt' (lo + c.snd) (lo + c.snd - 1)
    match x with
    | some smaller => if smaller = true then pure (ForInStep.done (none, c.snd)) else pure (ForInStep.yield (none, c.snd + 1))
    | _ => pure (ForInStep.done (some none, c.snd))

noncomputable def tailL (lo n nrem : Nat) : StateT SortSt Sem (Option Nat) := do
  reverseSlice' lo (lo + n)
  let c ← ascL lo n nrem
  match c.fst with
  | some r => pure r
  | none => pure (some c.snd)

noncomputable def descL (lo n nrem : Nat) : StateT SortSt Sem DescSt :=
  forIn [n:nrem] ((none, n, 0) : DescSt) fun _ c => do
    let x ← ltAt' (lo + c.snd.fst) (lo + c.snd.fst - 1)
    match x with
    | some smaller =>
      if smaller = true then
        if c.snd.snd > 0 then do
          reverseSlice' (lo + c.snd.fst - (c.snd.snd + 1)) (lo + c.snd.fst)
          pure (ForInStep.yield (none, c.snd.fst + 1, 0))
        else pure (ForInStep.yield (none, c.snd.fst + 1, 0))
      else do
        let x ← ltAt' (lo + c.snd.fst - 1) (lo + c.snd.fst)
        match x with
        | some larger =>
          if larger = true then pure (ForInStep.done (none, c.snd.fst, c.snd.snd))
          else pure (ForInStep.yield (none, c.snd.fst + 1, c.snd.snd + 1))
        | _ => pure (ForInStep.done (some none, c.snd.fst, c.snd.snd))
    | _ => pure (ForInStep.done (some none, c.snd.fst, c.snd.snd))

noncomputable def descPartL (lo n nrem : Nat) : StateT SortSt Sem (Option Nat) := do
  liftM (rule "list.sort.descending-run")
  let c ← descL lo (n + 1) nrem
  match c.fst with
  | some r => pure r
  | none =>
    if c.snd.snd > 0 then do
      reverseSlice' (lo + c.snd.fst - (c.snd.snd + 1)) (lo + c.snd.fst)
      tailL lo c.snd.fst nrem
    else tailL lo c.snd.fst nrem

theorem countRunL_eq (lo nrem : Nat) : countRun' lo nrem = (do
    let c ← ascL lo 1 nrem
    match c.fst with
    | some r => pure r
    | none =>
      if (c.snd == nrem) = true then pure (some c.snd)
      else if c.snd > 1 then do
        let x ← ltAt' lo (lo + c.snd - 1)
        match x with
        | some rose => if rose = true then pure (some c.snd) else do
            reverseSlice' lo (lo + c.snd)
            descPartL lo c.snd nrem
        | _ => pure none
      else descPartL lo c.snd nrem) := by
  rw [countRun'_eq]
  dsimp only
  unfold descPartL tailL descL ascL
  congr 1
  funext c
  obtain ⟨r, n⟩ := c
  cases r with
  | some r => rfl
  | none =>
    dsimp only
    split
    · rfl
    · split
      · congr 1
        funext x
        cases x with
        | none => rfl
        | some rose =>
          dsimp only
          split
          · rfl
          · congr 1
            funext u0
            (congr 1; funext u1; congr 1; congr 1; funext s2; obtain ⟨r2, n2, q2⟩ := s2; cases r2 with
              | some r2 => rfl
              | none => (dsimp only; split; (congr 1; funext u2; (congr 1; funext u3; congr 1; (funext s3; obtain ⟨r3, n3⟩ := s3; cases r3 <;> rfl))); (congr 1; funext u3; congr 1; (funext s3; obtain ⟨r3, n3⟩ := s3; cases r3 <;> rfl))))
      · (congr 1; funext u1; congr 1; congr 1; funext s2; obtain ⟨r2, n2, q2⟩ := s2; cases r2 with
              | some r2 => rfl
              | none => (dsimp only; split; (congr 1; funext u2; (congr 1; funext u3; congr 1; (funext s3; obtain ⟨r3, n3⟩ := s3; cases r3 <;> rfl))); (congr 1; funext u3; congr 1; (funext s3; obtain ⟨r3, n3⟩ := s3; cases r3 <;> rfl))))

theorem wpS_ascL {st : SortSt} {lo a nrem : Nat} {Q : AscSt → SortSt → Prop} (hO : κ.OneLt) (h0 : KeysOf κ a₀) (hn : lo + nrem ≤ a₀.size) (ha : 1 ≤ a) (han : a ≤ nrem) (hB : SB a₀ p st)
    (hs : SegS κ (arrOf st) lo (lo + a))
    (h : ∀ n, a ≤ n → n ≤ nrem → SegS κ (arrOf st) lo (lo + n) → (n = nrem ∨ κ.klt (KK κ (arrOf st) (lo + n)) (KK κ (arrOf st) (lo + n - 1))) → Q (none, n) st) :
    wpS (model prog w) A E s (ascL lo a nrem) Q st := by
  unfold ascL
  refine wpS_forRange (I := fun x c st' => st' = st ∧ c = (none, x) ∧ SegS κ (arrOf st) lo (lo + x)) ?step ?fin ⟨rfl, rfl, hs⟩
  case fin =>
    rintro c st' ⟨rfl, rfl, hs'⟩
    rw [show max a nrem = nrem by (with_reducible exact Ln.o26 ‹_›)] at hs' ⊢
    exact h nrem han (Nat.le_refl _) hs' (.inl rfl)
  case step =>
    rintro x c st' hax hxn ⟨rfl, rfl, hs'⟩
    dsimp only
    refine wpS_bind (wpS_ltB hO h0 hB (by (with_reducible exact Ln.o11 ‹_› ‹_›)) (by (with_reducible exact Ln.o16 ‹_› ‹_›)) ?_)
    cases hless : κ.blt (KK κ (arrOf st') (lo + x)) (KK κ (arrOf st') (lo + x - 1))
    case true =>
      simp only [if_true]
      exact wpS_pure (h x hax (by (with_reducible exact Ln.o62 ‹_›)) hs' (.inr hless))
    case false =>
      simp only [Bool.false_eq_true, if_false]
      refine wpS_pure ⟨rfl, rfl, fun i j hli hij hj => ?_⟩
      by_cases hjx : j < lo + x
      · exact hs' i j hli hij hjx
      · have hj' : j = lo + x := by (with_reducible exact Ln.o40 ‹_› ‹_›)
        subst hj'
        by_cases hi' : i = lo + x
        · subst hi'; exact KeyOrd.kle_refl _
        · exact KeyOrd.kle_trans (hs' i (lo + x - 1) hli (by (with_reducible exact Ln.o6 ‹_› ‹_›)) (by (with_reducible exact Ln.o21 ‹_› ‹_›))) hless

theorem wpS_tailL {st : SortSt} {lo n nrem : Nat} {Q : Option Nat → SortSt → Prop} (hO : κ.OneLt) (h0 : KeysOf κ a₀) (hn : lo + nrem ≤ a₀.size) (h1 : 1 ≤ n) (hnn : n ≤ nrem) (hB : SB a₀ p st)
    (hs : SegD κ (arrOf st) lo (lo + n))
    (h : ∀ m st', SB a₀ p st' → (∀ k, k < lo → KK κ (arrOf st') k = KK κ (arrOf st) k) → 1 ≤ m → m ≤ nrem → SegS κ (arrOf st') lo (lo + m) → Q (some m) st') :
    wpS (model prog w) A E s (tailL lo n nrem) Q st := by
  unfold tailL
  have hsz : lo + n ≤ (arrOf st).size := by rw [hB.size]; (with_reducible exact Ln.o4 ‹_› ‹_›)
  refine wpS_bind (wpS_rev ?_)
  have hB' : SB a₀ p (setArr st (mirror (arrOf st) lo (lo + n) ((lo + n - lo) / 2))) := hB.setA (mirror_perm _ _ _ _)
  refine wpS_bind (wpS_ascL hO h0 hn h1 hnn hB' ?_ fun m hm1 hm2 hsm _ => wpS_pure (h m _ hB' ?_ (by (with_reducible exact Ln.o43 ‹_› ‹_›)) hm2 hsm))
  · intro i j hli hij hj
    show κ.kle (KK κ (mirror (arrOf st) lo (lo + n) ((lo + n - lo) / 2)) i) (KK κ (mirror (arrOf st) lo (lo + n) ((lo + n - lo) / 2)) j)
    rw [KK_mirror hsz, KK_mirror hsz, if_pos (by (with_reducible exact Ln.o45 ‹_› ‹_› ‹_›)), if_pos (by (with_reducible exact Ln.o66 ‹_› ‹_› ‹_›))]
    exact hs _ _ (by (with_reducible exact Ln.o13 ‹_›)) (by (with_reducible exact Ln.o5 ‹_›)) (by (with_reducible exact Ln.o19 ‹_› ‹_›))
  · intro k hk
    show KK κ (mirror (arrOf st) lo (lo + n) ((lo + n - lo) / 2)) k = _
    rw [KK_mirror hsz, if_neg (by (with_reducible exact Ln.o35 ‹_›))]

theorem wpS_descL {st : SortSt} {lo n nrem : Nat} {Q : DescSt → SortSt → Prop} (hO : κ.OneLt) (h0 : KeysOf κ a₀) (hn : lo + nrem ≤ a₀.size) (h1 : 1 ≤ n) (hnn : n ≤ nrem) (hB : SB a₀ p st)
    (hs : SegD κ (arrOf st) lo (lo + n))
    (h : ∀ m neq st', SB a₀ p st' → (∀ k, k < lo → KK κ (arrOf st') k = KK κ (arrOf st) k) → n ≤ m → m ≤ nrem → SegD κ (arrOf st') lo (lo + m) → neq + 1 ≤ m →
      (∀ i, lo + m - (neq + 1) ≤ i → i < lo + m → KK κ (arrOf st') i = KK κ (arrOf st') (lo + m - 1)) → Q (none, m, neq) st') :
    wpS (model prog w) A E s (descL lo n nrem) Q st := by
  unfold descL
  refine wpS_forRange (I := fun x c st' => ∃ neq, c = (none, x, neq) ∧ SB a₀ p st' ∧ (∀ k, k < lo → KK κ (arrOf st') k = KK κ (arrOf st) k) ∧ SegD κ (arrOf st') lo (lo + x) ∧ neq + 1 ≤ x ∧
      (∀ i, lo + x - (neq + 1) ≤ i → i < lo + x → KK κ (arrOf st') i = KK κ (arrOf st') (lo + x - 1))) ?step ?fin ⟨0, rfl, hB, fun _ _ => rfl, hs, by (with_reducible exact Ln.o49 ‹_›), fun i h1 h2 => by congr 1; (with_reducible exact Ln.o41 ‹_› ‹_›)⟩
  case fin =>
    rintro c st' ⟨neq, rfl, hB', hfr, hs', hq, he⟩
    rw [show max n nrem = nrem by (with_reducible exact Ln.o26 ‹_›)] at hs' hq he ⊢
    exact h nrem neq st' hB' hfr hnn (Nat.le_refl _) hs' hq he
  case step =>
    rintro x c st' hax hxn ⟨neq, rfl, hB', hfr, hs', hq, he⟩
    dsimp only
    have hsz : lo + x ≤ (arrOf st').size := by rw [hB'.size]; (with_reducible exact Ln.o29 ‹_› ‹_›)
    refine wpS_bind (wpS_ltB hO h0 hB' (by (with_reducible exact Ln.o11 ‹_› ‹_›)) (by (with_reducible exact Ln.o16 ‹_› ‹_›)) ?_)
    cases hless : κ.blt (KK κ (arrOf st') (lo + x)) (KK κ (arrOf st') (lo + x - 1))
    case true =>
      simp only [if_true]
      have step1 : ∀ xs : Array Keyed, (∀ k, KK κ xs k = KK κ (arrOf st') k) → SegD κ xs lo (lo + (x + 1)) := by
        intro xs hk i j hli hij hj
        rw [hk, hk]
        by_cases hjx : j < lo + x
        · exact hs' i j hli hij hjx
        · have hj' : j = lo + x := by (with_reducible exact Ln.o40 ‹_› ‹_›)
          subst hj'
          by_cases hi' : i = lo + x
          · subst hi'; exact KeyOrd.kle_refl _
          · exact KeyOrd.kle_trans (KeyOrd.kle_of_klt hless) (hs' i (lo + x - 1) hli (by (with_reducible exact Ln.o6 ‹_› ‹_›)) (by (with_reducible exact Ln.o21 ‹_› ‹_›)))
      by_cases hneq : neq > 0
      · rw [if_pos hneq]
        refine wpS_bind (wpS_rev (wpS_pure ⟨0, rfl, hB'.setA (mirror_perm _ _ _ _), fun k hk => (KK_mirror_equal hsz he k).trans (hfr k hk), step1 _ (KK_mirror_equal hsz he), by (with_reducible exact Ln.o9), fun i h1 h2 => by congr 1; (with_reducible exact Ln.o41 ‹_› ‹_›)⟩))
      · rw [if_neg hneq]
        exact wpS_pure ⟨0, rfl, hB', hfr, step1 _ (fun _ => rfl), by (with_reducible exact Ln.o9), fun i h1 h2 => by congr 1; (with_reducible exact Ln.o41 ‹_› ‹_›)⟩
    case false =>
      simp only [Bool.false_eq_true, if_false]
      refine wpS_bind (wpS_ltB hO h0 hB' (by (with_reducible exact Ln.o16 ‹_› ‹_›)) (by (with_reducible exact Ln.o11 ‹_› ‹_›)) ?_)
      cases hlarger : κ.blt (KK κ (arrOf st') (lo + x - 1)) (KK κ (arrOf st') (lo + x))
      case true =>
        simp only [if_true]
        exact wpS_pure (h x neq st' hB' hfr hax (by (with_reducible exact Ln.o62 ‹_›)) hs' hq he)
      case false =>
        simp only [Bool.false_eq_true, if_false]
        have heqx : KK κ (arrOf st') (lo + x) = KK κ (arrOf st') (lo + x - 1) := KeyOrd.kle_antisymm hlarger hless
        refine wpS_pure ⟨neq + 1, rfl, hB', hfr, fun i j hli hij hj => ?_, by (with_reducible exact Ln.o50 ‹_›), fun i h1 h2 => ?_⟩
        · by_cases hjx : j < lo + x
          · exact hs' i j hli hij hjx
          · have hj' : j = lo + x := by (with_reducible exact Ln.o40 ‹_› ‹_›)
            subst hj'
            by_cases hi' : i = lo + x
            · subst hi'; exact KeyOrd.kle_refl _
            · rw [heqx]; exact hs' i (lo + x - 1) hli (by (with_reducible exact Ln.o6 ‹_› ‹_›)) (by (with_reducible exact Ln.o21 ‹_› ‹_›))
        · rw [show lo + (x + 1) - 1 = lo + x by (with_reducible exact Ln.o69)]
          by_cases hix : i = lo + x
          · subst hix; rfl
          · rw [heqx]; exact he i (by (with_reducible exact Ln.o33 ‹_›)) (by (with_reducible exact Ln.o57 ‹_› ‹_›))

theorem wpS_descPartL {st : SortSt} {lo n nrem : Nat} {Q : Option Nat → SortSt → Prop} (hO : κ.OneLt) (h0 : KeysOf κ a₀) (hn : lo + nrem ≤ a₀.size) (hnn : n + 1 ≤ nrem) (hB : SB a₀ p st)
    (hs : SegD κ (arrOf st) lo (lo + (n + 1)))
    (h : ∀ m st', SB a₀ p st' → (∀ k, k < lo → KK κ (arrOf st') k = KK κ (arrOf st) k) → 1 ≤ m → m ≤ nrem → SegS κ (arrOf st') lo (lo + m) → Q (some m) st') :
    wpS (model prog w) A E s (descPartL lo n nrem) Q st := by
  unfold descPartL
  refine wpS_bind (wpS_lift (wpAny_rule ⟨rfl, ?_⟩))
  refine wpS_bind (wpS_descL hO h0 hn (by (with_reducible exact Ln.o9)) hnn hB hs fun m neq st' hB' hfr hm1 hm2 hs' hq he => ?_)
  dsimp only
  have hsz : lo + m ≤ (arrOf st').size := by rw [hB'.size]; (with_reducible exact Ln.o4 ‹_› ‹_›)
  by_cases hneq : neq > 0
  · rw [if_pos hneq]
    refine wpS_bind (wpS_rev (wpS_tailL hO h0 hn (by (with_reducible exact Ln.o49 ‹_›)) hm2 (hB'.setA (mirror_perm _ _ _ _)) ?_ fun m' st'' hB'' hfr' a b c => h m' st'' hB'' (fun k hk => (hfr' k hk).trans ((KK_mirror_equal hsz he k).trans (hfr k hk))) a b c))
    intro i j hli hij hj
    show κ.kle (KK κ (mirror (arrOf st') _ _ _) j) (KK κ (mirror (arrOf st') _ _ _) i)
    rw [KK_mirror_equal hsz he, KK_mirror_equal hsz he]
    exact hs' i j hli hij hj
  · rw [if_neg hneq]
    exact wpS_tailL hO h0 hn (by (with_reducible exact Ln.o49 ‹_›)) hm2 hB' hs' fun m' st'' hB'' hfr' a b c => h m' st'' hB'' (fun k hk => (hfr' k hk).trans (hfr k hk)) a b c

theorem wpS_countRunL {st : SortSt} {lo nrem : Nat} {Q : Option Nat → SortSt → Prop} (hO : κ.OneLt) (h0 : KeysOf κ a₀) (hn : lo + nrem ≤ a₀.size) (h1 : 1 ≤ nrem) (hB : SB a₀ p st)
    (h : ∀ m st', SB a₀ p st' → (∀ k, k < lo → KK κ (arrOf st') k = KK κ (arrOf st) k) → 1 ≤ m → m ≤ nrem → SegS κ (arrOf st') lo (lo + m) → Q (some m) st') :
    wpS (model prog w) A E s (countRun' lo nrem) Q st := by
  rw [countRunL_eq]
  refine wpS_bind (wpS_ascL hO h0 hn (Nat.le_refl 1) h1 hB (fun i j hli hij hj => by have : i = j := (by (with_reducible exact Ln.o8 ‹_› ‹_› ‹_›)); subst this; exact KeyOrd.kle_refl _) fun n hn1 hn2 hsn hor => ?_)
  dsimp only
  by_cases hnn : n = nrem
  · rw [if_pos (by simpa using hnn)]
    exact wpS_pure (h n st hB (fun _ _ => rfl) hn1 hn2 hsn)
  · rw [if_neg (by simpa using hnn)]
    have hlt : κ.klt (KK κ (arrOf st) (lo + n)) (KK κ (arrOf st) (lo + n - 1)) := hor.resolve_left hnn
    by_cases hgt : n > 1
    · rw [if_pos hgt]
      refine wpS_bind (wpS_ltB hO h0 hB (by (with_reducible exact Ln.o76 ‹_› ‹_›)) (by (with_reducible exact Ln.o74 ‹_› ‹_› ‹_›)) ?_)
      cases hrose : κ.blt (KK κ (arrOf st) lo) (KK κ (arrOf st) (lo + n - 1))
      case true =>
        simp only [if_true]
        exact wpS_pure (h n st hB (fun _ _ => rfl) hn1 hn2 hsn)
      case false =>
        simp only [Bool.false_eq_true, if_false]
        have hsz : lo + n ≤ (arrOf st).size := by rw [hB.size]; (with_reducible exact Ln.o4 ‹_› ‹_›)
        have hall : ∀ k, lo ≤ k → k < lo + n → KK κ (arrOf st) k = KK κ (arrOf st) (lo + n - 1) := by
          intro k hlk hk
          have a1 := hsn lo k (Nat.le_refl _) hlk hk
          have a2 := hsn k (lo + n - 1) hlk (by (with_reducible exact Ln.o17 ‹_›)) (by (with_reducible exact Ln.o28 ‹_›))
          exact KeyOrd.kle_antisymm a2 (KeyOrd.kle_trans hrose a1)
        refine wpS_bind (wpS_rev (wpS_descPartL hO h0 hn (by (with_reducible exact Ln.o80 ‹_› ‹_›)) (hB.setA (mirror_perm _ _ _ _)) ?_ fun m st' hB' hfr a b c => h m st' hB' (fun k hk => (hfr k hk).trans (KK_mirror_equal hsz hall k)) a b c))
        intro i j hli hij hj
        show κ.kle (KK κ (mirror (arrOf st) _ _ _) j) (KK κ (mirror (arrOf st) _ _ _) i)
        rw [KK_mirror_equal hsz hall, KK_mirror_equal hsz hall]
        by_cases hjn : j < lo + n
        · rw [hall i (by omega) (by (with_reducible exact Ln.o24 ‹_› ‹_›)), hall j (by (with_reducible exact Ln.o44 ‹_› ‹_›)) hjn]; exact KeyOrd.kle_refl _
        · have hj' : j = lo + n := by (with_reducible exact Ln.o40 ‹_› ‹_›)
          subst hj'
          by_cases hi' : i = lo + n
          · subst hi'; exact KeyOrd.kle_refl _
          · rw [hall i (by omega) (by (with_reducible exact Ln.o38 ‹_› ‹_›))]; exact KeyOrd.kle_of_klt hlt
    · rw [if_neg hgt]
      have hn1' : n = 1 := by (with_reducible exact Ln.o48 ‹_› ‹_›)
      subst hn1'
      refine wpS_descPartL hO h0 hn (by (with_reducible exact Ln.o51 ‹_› ‹_›)) hB ?_ h
      intro i j hli hij hj
      by_cases hi' : i = j
      · subst hi'; exact KeyOrd.kle_refl _
      · have hi0 : i = lo := by (with_reducible exact Ln.o32 ‹_› ‹_› ‹_› ‹_›)
        have hj1 : j = lo + 1 := by (with_reducible exact Ln.o77 ‹_› ‹_› ‹_› ‹_›)
        subst hi0; subst hj1
        exact KeyOrd.kle_of_klt hlt

theorem wpS_binL {st : SortSt} {lo n ok : Nat} {Q : Bool → SortSt → Prop} (hO : κ.OneLt) (h0 : KeysOf κ a₀) (hn : lo + n ≤ a₀.size) (hok : ok ≤ n) (hB : SB a₀ p st) (hs : SegS κ (arrOf st) lo (lo + ok))
    (h : ∀ st', SB a₀ p st' → (∀ k, k < lo → KK κ (arrOf st') k = KK κ (arrOf st) k) → SegS κ (arrOf st') lo (lo + n) → Q true st') : wpS (model prog w) A E s (binarySort' lo n ok) Q st := by
  rw [binarySort'_eq]
  refine wpS_bind (wpS_mono (wpS_forRange (I := fun k c st' => c = (none, ()) ∧ SB a₀ p st' ∧ (∀ k, k < lo → KK κ (arrOf st') k = KK κ (arrOf st) k) ∧ SegS κ (arrOf st') lo (lo + min k n))
    (Q := fun c st' => c = (none, ()) ∧ SB a₀ p st' ∧ (∀ k, k < lo → KK κ (arrOf st') k = KK κ (arrOf st) k) ∧ SegS κ (arrOf st') lo (lo + n)) ?step ?fin ?init) ?post)
  case post =>
    rintro c st' ⟨rfl, hB', hfr, hs'⟩
    exact wpS_pure (h st' hB' hfr hs')
  case init =>
    refine ⟨rfl, hB, fun _ _ => rfl, fun i j hli hij hj => ?_⟩
    by_cases h1 : ok = 0
    · have : i = j := by (with_reducible exact Ln.o46 ‹_› ‹_› ‹_› ‹_›)
      subst this; exact KeyOrd.kle_refl _
    · exact hs i j hli hij (by (with_reducible exact Ln.o27 ‹_› ‹_›))
  case fin =>
    rintro c st' ⟨hc, hB', hfr, hs'⟩
    refine ⟨hc, hB', hfr, ?_⟩
    rwa [show min (max (max ok 1) n) n = n by (with_reducible exact Ln.o25)] at hs'
  case step =>
    rintro k c st' hak hkn ⟨rfl, hB', hfr, hs'⟩
    rw [show min k n = k by (with_reducible exact Ln.o12 ‹_›)] at hs'
    have hk : lo + k < a₀.size := by (with_reducible exact Ln.o11 ‹_› ‹_›)
    refine wpS_bind (wpS_mono (wpS_forRange (I := fun x c st'' => st'' = st' ∧ ∃ l r, c = (none, l, r) ∧ l ≤ r ∧ r ≤ k ∧ r - l ≤ k - x ∧
        (∀ i, i < l → κ.kle (KK κ (arrOf st') (lo + i)) (KK κ (arrOf st') (lo + k))) ∧ (∀ i, r ≤ i → i < k → κ.klt (KK κ (arrOf st') (lo + k)) (KK κ (arrOf st') (lo + i))))
      (Q := fun c st'' => st'' = st' ∧ ∃ l r, c = (none, l, r) ∧ l ≤ k ∧
        (∀ i, i < l → κ.kle (KK κ (arrOf st') (lo + i)) (KK κ (arrOf st') (lo + k))) ∧ (∀ i, l ≤ i → i < k → κ.klt (KK κ (arrOf st') (lo + k)) (KK κ (arrOf st') (lo + i)))) ?istep ?ifin ?iinit) ?ipost)
    case iinit => exact ⟨rfl, 0, k, rfl, by (with_reducible exact Ln.o75), by (with_reducible exact Ln.o56), by (with_reducible exact Ln.o56), fun i hi => by (with_reducible exact (Ln.o7 ‹_›).elim), fun i h1 h2 => by (with_reducible exact (Ln.o36 ‹_› ‹_›).elim)⟩
    case ifin =>
      rintro c st'' ⟨rfl, l, r, rfl, hlr, hrk, hm, hlo, hhi⟩
      have : l = r := by (with_reducible exact Ln.o22 ‹_› ‹_›)
      subst this
      exact ⟨rfl, l, l, rfl, hrk, hlo, hhi⟩
    case istep =>
      rintro x c st'' _ hxk ⟨rfl, l, r, rfl, hlr, hrk, hm, hlo, hhi⟩
      dsimp only
      by_cases hge : l ≥ r
      · rw [if_pos hge]
        have : l = r := by (with_reducible exact Ln.o31 ‹_› ‹_›)
        subst this
        exact wpS_pure ⟨rfl, l, l, rfl, hrk, hlo, hhi⟩
      · rw [if_neg hge]
        refine wpS_bind (wpS_ltB hO h0 hB' hk (by (with_reducible exact Ln.o59 ‹_› ‹_› ‹_›)) ?_)
        cases hless : κ.blt (KK κ (arrOf st'') (lo + k)) (KK κ (arrOf st'') (lo + (l + r) / 2))
        case true =>
          simp only [if_true]
          refine wpS_pure ⟨rfl, l, (l + r) / 2, rfl, by (with_reducible exact Ln.o68 ‹_›), by (with_reducible exact Ln.o37 ‹_› ‹_›), by (with_reducible exact Ln.o54 ‹_›), hlo, fun i h1 h2 => ?_⟩
          exact KeyOrd.klt_of_klt_of_kle hless (hs' _ _ (by (with_reducible exact Ln.o79)) (by (with_reducible exact Ln.o73 ‹_›)) (by (with_reducible exact Ln.o10 ‹_›)))
        case false =>
          simp only [Bool.false_eq_true, if_false]
          refine wpS_pure ⟨rfl, (l + r) / 2 + 1, r, rfl, by (with_reducible exact Ln.o60 ‹_›), by omega, by (with_reducible exact Ln.o52 ‹_›), fun i h1 => ?_, hhi⟩
          exact KeyOrd.kle_trans (hs' (lo + i) (lo + (l + r) / 2) (by (with_reducible exact Ln.o79)) (by (with_reducible exact Ln.o53 ‹_›)) (by (with_reducible exact Ln.o14 ‹_› ‹_›))) (show κ.kle _ _ from hless)
    case ipost =>
      rintro c st'' ⟨rfl, l, r, rfl, hlk, hlo, hhi⟩
      show wpS _ _ _ _ (do moveDown' (lo + k) (lo + l); pure (ForInStep.yield (none, ()))) _ _
      rw [moveDown'_eq]
      have hks : lo + k < (arrOf st'').size := by rw [hB'.size]; exact hk
      refine wpS_bind (wpS_modify (wpS_pure ⟨rfl, hB'.setA (bubble_perm _ _ _), ?_, ?_⟩))
      · intro k' hk'
        show KK κ (bubble (arrOf st'') (lo + k) (lo + k - (lo + l))) k' = _
        rw [KK_bubble hks (by (with_reducible exact Ln.o47)), if_neg (by (with_reducible exact Ln.o58 ‹_›)), if_neg (by (with_reducible exact Ln.o34 ‹_›))]
        exact hfr k' hk'
      rw [show min (k + 1) n = k + 1 by (with_reducible exact Ln.o2 ‹_›)]
      intro i j hli hij hj
      show κ.kle (KK κ (bubble (arrOf st'') (lo + k) (lo + k - (lo + l))) i) (KK κ (bubble (arrOf st'') (lo + k) (lo + k - (lo + l))) j)
      rw [KK_bubble hks (by (with_reducible exact Ln.o47)), KK_bubble hks (by (with_reducible exact Ln.o47)), show lo + k - (lo + k - (lo + l)) = lo + l by (with_reducible exact Ln.o78 ‹_›)]
      have hlo' : ∀ x, lo ≤ x → x < lo + l → κ.kle (KK κ (arrOf st'') x) (KK κ (arrOf st'') (lo + k)) := fun x h1 h2 => by
        have := hlo (x - lo) (by (with_reducible exact Ln.o42 ‹_› ‹_›)); rwa [show lo + (x - lo) = x by (with_reducible exact Ln.o18 ‹_›)] at this
      have hhi' : ∀ x, lo + l ≤ x → x < lo + k → κ.klt (KK κ (arrOf st'') (lo + k)) (KK κ (arrOf st'') x) := fun x h1 h2 => by
        have := hhi (x - lo) (by (with_reducible exact Ln.o61 ‹_›)) (by (with_reducible exact Ln.o20 ‹_› ‹_›)); rwa [show lo + (x - lo) = x by (with_reducible exact Ln.o65 ‹_›)] at this
      repeat' split
      all_goals first
        | (exfalso; (first | with_reducible exact absurd (Ln.o55 ‹_› ‹_› ‹_› ‹_›) ‹_› | with_reducible exact (Ln.o0 ‹_› ‹_› ‹_›).elim | with_reducible exact absurd (Ln.o1 ‹_› ‹_› ‹_›) ‹_›))
        | exact KeyOrd.kle_refl _
        | exact hlo' _ (by (first | with_reducible exact Ln.o56 | omega)) (by (first | with_reducible exact Ln.o71 ‹_› ‹_› ‹_› | omega))
        | exact KeyOrd.kle_of_klt (hhi' _ (by (with_reducible exact Ln.o72 ‹_›)) (by (with_reducible exact Ln.o64 ‹_›)))
        | exact hs' _ _ (by (first | with_reducible exact Ln.o70 ‹_› | omega)) (by (first | with_reducible exact Ln.o15 ‹_› | with_reducible exact Ln.o67 ‹_› ‹_› ‹_› | omega)) (by (first | with_reducible exact Ln.o64 ‹_› | with_reducible exact Ln.o3 ‹_› ‹_› ‹_› ‹_›))
end
end Mine.Srt
end
section
open PySem PyProof.Rows
set_option autoImplicit false
set_option maxRecDepth 100000
namespace Mine.Srt

noncomputable def gallop' : Bool → Keyed → Array Keyed → Nat → Nat → Nat → StateT SortSt Sem (Option Nat) := sortPriv% PySem.Builtin.gallop
noncomputable def setMinGallop' : Nat → StateT SortSt Sem Unit := sortPriv% PySem.Builtin.setMinGallop

noncomputable def gBey (left : Bool) (key : Keyed) (arr : Array Keyed) (j : Nat) : StateT SortSt Sem (Option Bool) := do
  let x ← elem' arr j
  if left = true then lt' x key else do
    let r ← lt' key x
    pure (r.map (!·))

noncomputable abbrev GSt := Option (Option Nat) × Nat × Nat

noncomputable def gBin (left : Bool) (key : Keyed) (arr : Array Keyed) (base n lo hi : Nat) : StateT SortSt Sem (Option Nat) := do
  let c ← forIn [:n] ((none, lo, hi) : GSt) fun _ c =>
    if c.snd.fst ≥ c.snd.snd then pure (ForInStep.done (none, c.snd.fst, c.snd.snd))
    else do
      let x ← gBey left key arr (base + (c.snd.fst + (c.snd.snd - c.snd.fst) / 2))
      match x with
      | some more => if more = true then pure (ForInStep.yield (none, c.snd.fst + (c.snd.snd - c.snd.fst) / 2 + 1, c.snd.snd)) else pure (ForInStep.yield (none, c.snd.fst, c.snd.fst + (c.snd.snd - c.snd.fst) / 2))
      | _ => pure (ForInStep.done (some none, c.snd.fst, c.snd.snd))
  match c.fst with
  | some r => pure r
  | none => pure (some c.snd.snd)

noncomputable def gRight (left : Bool) (key : Keyed) (arr : Array Keyed) (base n hint : Nat) : StateT SortSt Sem (Option Nat) := do
  let c ← forIn [:n] ((none, 0, 1) : GSt) fun _ c =>
    if c.snd.snd ≥ n - hint then pure (ForInStep.done (none, c.snd.fst, c.snd.snd))
    else do
      let x ← gBey left key arr (base + (hint + c.snd.snd))
      match x with
      | some more => if (!more) = true then pure (ForInStep.done (none, c.snd.fst, c.snd.snd)) else pure (ForInStep.yield (none, c.snd.snd, 2 * c.snd.snd + 1))
      | _ => pure (ForInStep.done (some none, c.snd.fst, c.snd.snd))
  match c.fst with
  | some r => pure r
  | none => gBin left key arr base n (hint + c.snd.fst + 1) (hint + min c.snd.snd (n - hint))

noncomputable def gLeft (left : Bool) (key : Keyed) (arr : Array Keyed) (base n hint : Nat) : StateT SortSt Sem (Option Nat) := do
  let c ← forIn [:n] ((none, 0, 1) : GSt) fun _ c =>
    if c.snd.snd ≥ hint + 1 then pure (ForInStep.done (none, c.snd.fst, c.snd.snd))
    else do
      let x ← gBey left key arr (base + (hint - c.snd.snd))
      match x with
      | some found => if found = true then pure (ForInStep.done (none, c.snd.fst, c.snd.snd)) else pure (ForInStep.yield (none, c.snd.snd, 2 * c.snd.snd + 1))
      | _ => pure (ForInStep.done (some none, c.snd.fst, c.snd.snd))
  match c.fst with
  | some r => pure r
  | none => gBin left key arr base n (hint + 1 - min c.snd.snd (hint + 1)) (hint - c.snd.fst)

theorem bindEq {α β : Type} {m m' : StateT SortSt Sem α} {f f' : α → StateT SortSt Sem β} (h1 : m = m') (h2 : ∀ a, f a = f' a) : (m >>= f) = (m' >>= f') := by
  rw [h1, funext h2]
theorem gallop'_eq (left : Bool) (key : Keyed) (arr : Array Keyed) (base n hint : Nat) : gallop' left key arr base n hint = (do
    let x ← gBey left key arr (base + hint)
    match x with
    | some right => if right = true then gRight left key arr base n hint else gLeft left key arr base n hint
    | _ => pure none) := by
  refine bindEq (m' := gBey left key arr (base + hint)) rfl (fun x => ?_)
  cases x with
  | none => rfl
  | some r =>
    cases r with
    | true =>
      refine bindEq rfl (fun c => ?_)
      obtain ⟨r, l, o⟩ := c
      cases r with
      | some r => rfl
      | none => 
        refine bindEq rfl (fun c => ?_)
        obtain ⟨r, l, o⟩ := c
        cases r with
        | some r => rfl
        | none => rfl
    | false =>
      refine bindEq rfl (fun c => ?_)
      obtain ⟨r, l, o⟩ := c
      cases r with
      | some r => rfl
      | none => 
        refine bindEq rfl (fun c => ?_)
        obtain ⟨r, l, o⟩ := c
        cases r with
        | some r => rfl
        | none => rfl

noncomputable def bey (κ : KKind) (left : Bool) (k x : κ.α) : Bool := if left = true then κ.blt x k else !(κ.blt k x)

section
variable {prog : Program} {w : World} {A : Around} {E : Value → Shared → Prop} {s : Shared} {κ : KKind}

theorem wpS_gBey (hO : κ.OneLt) {st : SortSt} {left : Bool} {key : Keyed} {kk : κ.α} {arr : Array Keyed} {j : Nat} {Q : Option Bool → SortSt → Prop} (hk : kindOf st = oneType')
    (h0 : KeysOf κ arr) (hkey : κ.keyOf key.1 = some kk) (hj : j < arr.size) (h : Q (some (bey κ left kk (KK κ arr j))) st) : wpS (model prog w) A E s (gBey left key arr j) Q st := by
  obtain ⟨x, p, a, e, ha, ka⟩ := keyed_at h0 hj
  unfold gBey
  refine wpS_bind (wpS_elem1 e ?_)
  rw [ka] at h
  cases left with
  | true => exact wpS_lt1 hO hk ha hkey h
  | false => exact wpS_bind (wpS_lt1 hO hk hkey ha (wpS_pure h))

theorem wpS_gBin (hO : κ.OneLt) {st : SortSt} {left : Bool} {key : Keyed} {kk : κ.α} {arr : Array Keyed} {base n lo hi : Nat} {Q : Option Nat → SortSt → Prop} (hk : kindOf st = oneType')
    (h0 : KeysOf κ arr) (hkey : κ.keyOf key.1 = some kk) (hsz : base + n ≤ arr.size)
    (mono : ∀ i j, i ≤ j → j < n → bey κ left kk (KK κ arr (base + j)) = true → bey κ left kk (KK κ arr (base + i)) = true)
    (hlh : lo ≤ hi) (hhn : hi ≤ n) (hlo : ∀ i, i < lo → bey κ left kk (KK κ arr (base + i)) = true) (hhi : ∀ i, hi ≤ i → i < n → bey κ left kk (KK κ arr (base + i)) = false)
    (h : ∀ r, r ≤ n → (∀ i, i < r → bey κ left kk (KK κ arr (base + i)) = true) → (∀ i, r ≤ i → i < n → bey κ left kk (KK κ arr (base + i)) = false) → Q (some r) st) :
    wpS (model prog w) A E s (gBin left key arr base n lo hi) Q st := by
  unfold gBin
  refine wpS_bind (wpS_mono (wpS_forRange (I := fun x c st' => st' = st ∧ ∃ l r, c = (none, l, r) ∧ l ≤ r ∧ r ≤ n ∧ r - l ≤ n - x ∧
      (∀ i, i < l → bey κ left kk (KK κ arr (base + i)) = true) ∧ (∀ i, r ≤ i → i < n → bey κ left kk (KK κ arr (base + i)) = false))
    (Q := fun c st' => st' = st ∧ ∃ r, c = (none, r, r) ∧ r ≤ n ∧ (∀ i, i < r → bey κ left kk (KK κ arr (base + i)) = true) ∧ (∀ i, r ≤ i → i < n → bey κ left kk (KK κ arr (base + i)) = false))
    ?step ?fin ⟨rfl, lo, hi, rfl, hlh, hhn, by (with_reducible exact Ln.o103 ‹_›), hlo, hhi⟩) ?post)
  case post =>
    rintro c st' ⟨rfl, r, rfl, hr, h1, h2⟩
    exact wpS_pure (h r hr h1 h2)
  case fin =>
    rintro c st' ⟨rfl, l, r, rfl, hlr, hrn, hm, h1, h2⟩
    have : l = r := by (with_reducible exact Ln.o22 ‹_› ‹_›)
    subst this
    exact ⟨rfl, l, rfl, hrn, h1, h2⟩
  case step =>
    rintro x c st' _ hx ⟨rfl, l, r, rfl, hlr, hrn, hm, h1, h2⟩
    dsimp only
    by_cases hge : l ≥ r
    · rw [if_pos hge]
      have : l = r := by (with_reducible exact Ln.o31 ‹_› ‹_›)
      subst this
      exact wpS_pure ⟨rfl, l, rfl, hrn, h1, h2⟩
    · rw [if_neg hge]
      refine wpS_bind (wpS_gBey hO hk h0 hkey (by (with_reducible exact Ln.o86 ‹_› ‹_› ‹_›)) ?_)
      cases hb : bey κ left kk (KK κ arr (base + (l + (r - l) / 2)))
      · simp only [Bool.false_eq_true, if_false]
        refine wpS_pure ⟨rfl, l, l + (r - l) / 2, rfl, by (with_reducible exact Ln.o79), by (with_reducible exact Ln.o92 ‹_› ‹_›), by (with_reducible exact Ln.o93 ‹_›), h1, fun i hi1 hi2 => ?_⟩
        cases hc : bey κ left kk (KK κ arr (base + i))
        · rfl
        · have := mono _ _ hi1 hi2 hc
          rw [hb] at this; cases this
      · simp only [if_true]
        exact wpS_pure ⟨rfl, l + (r - l) / 2 + 1, r, rfl, by (with_reducible exact Ln.o107 ‹_›), by omega, by (with_reducible exact Ln.o88 ‹_›), fun i hi => mono i (l + (r - l) / 2) (by (with_reducible exact Ln.o109 ‹_›)) (by (with_reducible exact Ln.o89 ‹_› ‹_›)) hb, h2⟩

theorem wpS_gallop (hO : κ.OneLt) {st : SortSt} {left : Bool} {key : Keyed} {kk : κ.α} {arr : Array Keyed} {base n hint : Nat} {Q : Option Nat → SortSt → Prop} (hk : kindOf st = oneType')
    (h0 : KeysOf κ arr) (hkey : κ.keyOf key.1 = some kk) (hsz : base + n ≤ arr.size) (hhint : hint < n) (hs : SegS κ arr base (base + n))
    (h : ∀ r, r ≤ n → (∀ i, i < r → bey κ left kk (KK κ arr (base + i)) = true) → (∀ i, r ≤ i → i < n → bey κ left kk (KK κ arr (base + i)) = false) → Q (some r) st) :
    wpS (model prog w) A E s (gallop' left key arr base n hint) Q st := by
  have mono : ∀ i j, i ≤ j → j < n → bey κ left kk (KK κ arr (base + j)) = true → bey κ left kk (KK κ arr (base + i)) = true := by
    intro i j hij hj hb
    have hle := hs (base + i) (base + j) (by (with_reducible exact Ln.o79)) (by (with_reducible exact Ln.o102 ‹_›)) (by (with_reducible exact Ln.o10 ‹_›))
    unfold bey at hb ⊢
    cases left with
    | true => exact KeyOrd.klt_of_kle_of_klt hle hb
    | false =>
      simp only [Bool.false_eq_true, if_false, Bool.not_eq_true'] at hb ⊢
      exact KeyOrd.kle_trans hle hb
  have anti : ∀ i j, i ≤ j → j < n → bey κ left kk (KK κ arr (base + i)) = false → bey κ left kk (KK κ arr (base + j)) = false := by
    intro i j hij hj hb
    cases hc : bey κ left kk (KK κ arr (base + j))
    · rfl
    · have := mono i j hij hj hc
      rw [hb] at this; cases this
  rw [gallop'_eq]
  refine wpS_bind (wpS_gBey hO hk h0 hkey (by (with_reducible exact Ln.o11 ‹_› ‹_›)) ?_)
  cases hb : bey κ left kk (KK κ arr (base + hint))
  · simp only [Bool.false_eq_true, if_false]
    unfold gLeft
    refine wpS_bind (wpS_mono (wpS_forRange (I := fun x c st' => st' = st ∧ ∃ l o, c = (none, l, o) ∧ l < o ∧ x + 1 ≤ o ∧ l ≤ hint ∧ bey κ left kk (KK κ arr (base + (hint - l))) = false)
      (Q := fun c st' => st' = st ∧ ∃ l o, c = (none, l, o) ∧ l < o ∧ l ≤ hint ∧ bey κ left kk (KK κ arr (base + (hint - l))) = false ∧ (hint + 1 ≤ o ∨ bey κ left kk (KK κ arr (base + (hint - o))) = true))
      ?lstep ?lfin ⟨rfl, 0, 1, rfl, by (with_reducible exact Ln.o104), by (with_reducible exact Ln.o98), by (with_reducible exact Ln.o75), hb⟩) ?lpost)
    case lfin =>
      rintro c st' ⟨rfl, l, o, rfl, hlo, hx, hl, h1⟩
      exact ⟨rfl, l, o, rfl, hlo, hl, h1, .inl (by (with_reducible exact Ln.o100 ‹_› ‹_›))⟩
    case lstep =>
      rintro x c st' _ hx ⟨rfl, l, o, rfl, hlo, hxo, hl, h1⟩
      dsimp only
      by_cases hge : o ≥ hint + 1
      · rw [if_pos hge]
        exact wpS_pure ⟨rfl, l, o, rfl, hlo, hl, h1, .inl hge⟩
      · rw [if_neg hge]
        refine wpS_bind (wpS_gBey hO hk h0 hkey (by (with_reducible exact Ln.o84 ‹_› ‹_›)) ?_)
        cases hf : bey κ left kk (KK κ arr (base + (hint - o)))
        · simp only [Bool.false_eq_true, if_false]
          exact wpS_pure ⟨rfl, o, 2 * o + 1, rfl, by (with_reducible exact Ln.o85), by (with_reducible exact Ln.o82 ‹_›), by (with_reducible exact Ln.o94 ‹_›), hf⟩
        · simp only [if_true]
          exact wpS_pure ⟨rfl, l, o, rfl, hlo, hl, h1, .inr hf⟩
    case lpost =>
      rintro c st' ⟨rfl, l, o, rfl, hlo, hl, h1, h2⟩
      dsimp only
      refine wpS_gBin hO hk h0 hkey hsz mono (by (with_reducible exact Ln.o97 ‹_›)) (by (with_reducible exact Ln.o101 ‹_›)) (fun i hi => ?_) (fun i hi1 hi2 => anti (hint - l) i hi1 hi2 h1) h
      rcases h2 with h2 | h2
      · (with_reducible exact (Ln.o83 ‹_› ‹_›).elim)
      · exact mono i (hint - o) (by (with_reducible exact Ln.o96 ‹_›)) (by (with_reducible exact Ln.o105 ‹_›)) h2
  · simp only [if_true]
    unfold gRight
    refine wpS_bind (wpS_mono (wpS_forRange (I := fun x c st' => st' = st ∧ ∃ l o, c = (none, l, o) ∧ l < o ∧ x + 1 ≤ o ∧ hint + l < n ∧ bey κ left kk (KK κ arr (base + (hint + l))) = true)
      (Q := fun c st' => st' = st ∧ ∃ l o, c = (none, l, o) ∧ l < o ∧ hint + l < n ∧ bey κ left kk (KK κ arr (base + (hint + l))) = true ∧ (n - hint ≤ o ∨ (hint + o < n ∧ bey κ left kk (KK κ arr (base + (hint + o))) = false)))
      ?rstep ?rfin ⟨rfl, 0, 1, rfl, by (with_reducible exact Ln.o104), by (with_reducible exact Ln.o98), by omega, hb⟩) ?rpost)
    case rfin =>
      rintro c st' ⟨rfl, l, o, rfl, hlo, hx, hl, h1⟩
      exact ⟨rfl, l, o, rfl, hlo, hl, h1, .inl (by (with_reducible exact Ln.o99 ‹_›))⟩
    case rstep =>
      rintro x c st' _ hx ⟨rfl, l, o, rfl, hlo, hxo, hl, h1⟩
      dsimp only
      by_cases hge : o ≥ n - hint
      · rw [if_pos hge]
        exact wpS_pure ⟨rfl, l, o, rfl, hlo, hl, h1, .inl hge⟩
      · rw [if_neg hge]
        refine wpS_bind (wpS_gBey hO hk h0 hkey (by (with_reducible exact Ln.o91 ‹_› ‹_›)) ?_)
        cases hf : bey κ left kk (KK κ arr (base + (hint + o)))
        · simp only [Bool.not_false, if_true]
          exact wpS_pure ⟨rfl, l, o, rfl, hlo, hl, h1, .inr ⟨by (with_reducible exact Ln.o95 ‹_›), hf⟩⟩
        · simp only [Bool.not_true, Bool.false_eq_true, if_false]
          exact wpS_pure ⟨rfl, o, 2 * o + 1, rfl, by (with_reducible exact Ln.o85), by (with_reducible exact Ln.o82 ‹_›), by (with_reducible exact Ln.o95 ‹_›), hf⟩
    case rpost =>
      rintro c st' ⟨rfl, l, o, rfl, hlo, hl, h1, h2⟩
      dsimp only
      refine wpS_gBin hO hk h0 hkey hsz mono (by (with_reducible exact Ln.o108 ‹_› ‹_›)) (by (with_reducible exact Ln.o87 ‹_›)) (fun i hi => mono i (hint + l) (by (with_reducible exact Ln.o109 ‹_›)) (by omega) h1) (fun i hi1 hi2 => ?_) h
      rcases h2 with h2 | ⟨h2, h3⟩
      · (with_reducible exact (Ln.o90 ‹_› ‹_› ‹_›).elim)
      · exact anti (hint + o) i (by (with_reducible exact Ln.o81 ‹_› ‹_›)) hi2 h3
end
end Mine.Srt
end
section
open PySem PyProof.Rows
set_option autoImplicit false
set_option maxRecDepth 100000
namespace Mine.Srt

noncomputable def mergeLo' : Array Keyed → Array Keyed → StateT SortSt Sem (Array Keyed) := sortPriv% PySem.Builtin.mergeLo

noncomputable def loDone (a b out : Array Keyed) (ia ib : Nat) : Array Keyed := out ++ a.extract ia a.size ++ b.extract ib b.size
noncomputable def loLast (a b out : Array Keyed) (ia ib : Nat) : Array Keyed := out ++ b.extract ib b.size ++ a.extract ia a.size

noncomputable abbrev LoA := Option (Array Keyed) × Array Keyed × Nat × Nat × Nat × Nat
noncomputable abbrev LoB := Option (Array Keyed) × Array Keyed × Nat × Nat × Nat × Nat × Nat
noncomputable abbrev LoC := Option (Array Keyed) × Array Keyed × Nat × Nat × Nat

noncomputable def loTurn (a b : Array Keyed) (mg : Nat) (out : Array Keyed) (ia ib ac bc : Nat) : StateT SortSt Sem (ForInStep LoA) := do
  let x ← elem' b ib
  let y ← elem' a ia
  let r ← lt' x y
  match r with
  | some w =>
    if w = true then do
      let z ← elem' b ib
      if (ib + 1 == b.size) = true then pure (ForInStep.done (some (loDone a b (out.push z) ia (ib + 1)), out.push z, ia, ib + 1, 0, bc + 1))
      else if bc + 1 ≥ mg then pure (ForInStep.done (none, out.push z, ia, ib + 1, 0, bc + 1))
      else pure (ForInStep.yield (none, out.push z, ia, ib + 1, 0, bc + 1))
    else do
      let z ← elem' a ia
      if (ia + 1 + 1 == a.size) = true then pure (ForInStep.done (some (loLast a b (out.push z) (ia + 1) ib), out.push z, ia + 1, ib, ac + 1, 0))
      else if ac + 1 ≥ mg then pure (ForInStep.done (none, out.push z, ia + 1, ib, ac + 1, 0))
      else pure (ForInStep.yield (none, out.push z, ia + 1, ib, ac + 1, 0))
  | _ => pure (ForInStep.done (some (loDone a b out ia ib), out, ia, ib, ac, bc))

noncomputable def loOne (a b : Array Keyed) (n mg : Nat) (out : Array Keyed) (ia ib : Nat) : StateT SortSt Sem LoA :=
  forIn [:n] ((none, out, ia, ib, 0, 0) : LoA) fun _ c => loTurn a b mg c.snd.fst c.snd.snd.fst c.snd.snd.snd.fst c.snd.snd.snd.snd.fst c.snd.snd.snd.snd.snd

noncomputable def loG3 (a b : Array Keyed) (g k k1 : Nat) (out : Array Keyed) (ia ib : Nat) : StateT SortSt Sem (ForInStep LoB) := do
  let z ← elem' a ia
  if (ia + 1 + 1 == a.size) = true then pure (ForInStep.done (some (loLast a b (out.push z) (ia + 1) ib), out.push z, ia + 1, ib, g, k, k1))
  else if (decide (k < 7) && decide (k1 < 7)) = true then pure (ForInStep.done (none, out.push z, ia + 1, ib, g, k, k1))
  else pure (ForInStep.yield (none, out.push z, ia + 1, ib, g, k, k1))

noncomputable def loG2 (a b : Array Keyed) (g k : Nat) (out : Array Keyed) (ia ib bc : Nat) : StateT SortSt Sem (ForInStep LoB) := do
  let z ← elem' b ib
  if (ib + 1 == b.size) = true then pure (ForInStep.done (some (loDone a b (out.push z) ia (ib + 1)), out.push z, ia, ib + 1, g, k, bc))
  else do
    let x ← elem' a ia
    let r ← gallop' true x b (ib + 1) (b.size - (ib + 1)) 0
    match r with
    | some k1 =>
      if k1 > 0 then
        if (ib + 1 + k1 == b.size) = true then pure (ForInStep.done (some (loDone a b (out.push z ++ b.extract (ib + 1) (ib + 1 + k1)) ia (ib + 1 + k1)), out.push z ++ b.extract (ib + 1) (ib + 1 + k1), ia, ib + 1 + k1, g, k, k1))
        else loG3 a b g k k1 (out.push z ++ b.extract (ib + 1) (ib + 1 + k1)) ia (ib + 1 + k1)
      else loG3 a b g k k1 (out.push z) ia (ib + 1)
    | _ => pure (ForInStep.done (some (loDone a b (out.push z) ia (ib + 1)), out.push z, ia, ib + 1, g, k, bc))

noncomputable def loG1 (a b : Array Keyed) (g : Nat) (out : Array Keyed) (ia ib ac bc : Nat) : StateT SortSt Sem (ForInStep LoB) := do
  setMinGallop' g
  let x ← elem' b ib
  let r ← gallop' false x a ia (a.size - ia) 0
  match r with
  | some k =>
    if k > 0 then
      if (ia + k + 1 == a.size) = true then pure (ForInStep.done (some (loLast a b (out ++ a.extract ia (ia + k)) (ia + k) ib), out ++ a.extract ia (ia + k), ia + k, ib, g, k, bc))
      else if (ia + k == a.size) = true then pure (ForInStep.done (some (loDone a b (out ++ a.extract ia (ia + k)) (ia + k) ib), out ++ a.extract ia (ia + k), ia + k, ib, g, k, bc))
      else loG2 a b g k (out ++ a.extract ia (ia + k)) (ia + k) ib bc
    else loG2 a b g k out ia ib bc
  | _ => pure (ForInStep.done (some (loDone a b out ia ib), out, ia, ib, g, ac, bc))

noncomputable def loTwo (a b : Array Keyed) (n : Nat) (out : Array Keyed) (ia ib g ac bc : Nat) : StateT SortSt Sem LoB :=
  forIn [:n] ((none, out, ia, ib, g, ac, bc) : LoB) fun _ c =>
    if c.snd.snd.snd.snd.fst > 1 then loG1 a b (c.snd.snd.snd.snd.fst - 1) c.snd.fst c.snd.snd.fst c.snd.snd.snd.fst c.snd.snd.snd.snd.snd.fst c.snd.snd.snd.snd.snd.snd
    else loG1 a b c.snd.snd.snd.snd.fst c.snd.fst c.snd.snd.fst c.snd.snd.snd.fst c.snd.snd.snd.snd.snd.fst c.snd.snd.snd.snd.snd.snd

noncomputable def loOuter (a b : Array Keyed) (n : Nat) (out : Array Keyed) (ia ib mg : Nat) : StateT SortSt Sem (ForInStep LoC) := do
  let d ← loOne a b n mg out ia ib
  match d.fst with
  | some r => pure (ForInStep.done (some r, d.snd.fst, d.snd.snd.fst, d.snd.snd.snd.fst, mg))
  | none => do
    liftM (rule "list.sort.gallop")
    let e ← loTwo a b n d.snd.fst d.snd.snd.fst d.snd.snd.snd.fst (mg + 1) d.snd.snd.snd.snd.fst d.snd.snd.snd.snd.snd
    match e.fst with
    | some r => pure (ForInStep.done (some r, e.snd.fst, e.snd.snd.fst, e.snd.snd.snd.fst, e.snd.snd.snd.snd.fst))
    | none => do
      setMinGallop' (e.snd.snd.snd.snd.fst + 1)
      pure (ForInStep.yield (none, e.snd.fst, e.snd.snd.fst, e.snd.snd.snd.fst, e.snd.snd.snd.snd.fst + 1))

theorem mergeLo'_eq (a b : Array Keyed) : mergeLo' a b = (do
    liftM (rule "list.sort.merge-lo")
    let z ← elem' b 0
    if (1 == b.size) = true then pure (loDone a b #[z] 0 1)
    else if (0 + 1 == a.size) = true then pure (loLast a b #[z] 0 1)
    else do
      let st ← get
      let c ← forIn [:a.size + b.size] ((none, #[z], 0, 1, gallopOf st) : LoC) fun _ c => loOuter a b (a.size + b.size) c.snd.fst c.snd.snd.fst c.snd.snd.snd.fst c.snd.snd.snd.snd
      match c.fst with
      | some r => pure r
      | none => liftM (unsupported "internal:list.sort.merge-bound" : Sem (Array Keyed))) := by
  refine bindEq rfl (fun _ => bindEq rfl (fun z => ?_))
  split
  · rename_i h; exact if_pos h
  rename_i h
  refine (if_neg h).trans ?_
  split
  · rfl
  refine bindEq rfl (fun st => bindEq ?_ (fun c => ?_))
  · congr 1
    funext i c
    refine bindEq rfl (fun d => ?_)
    obtain ⟨r, out, ia, ib, ac, bc⟩ := d
    cases r with
    | some r => rfl
    | none => 
      refine bindEq rfl (fun u => bindEq ?_ (fun e => ?_))
      · congr 1
      · obtain ⟨r, out, ia, ib, mg, ac, bc⟩ := e
        cases r <;> rfl
  · obtain ⟨r, c⟩ := c
    cases r <;> rfl
end Mine.Srt
end
section
open PySem PyProof.Rows
set_option autoImplicit false
set_option maxRecDepth 100000
namespace Mine.Srt

noncomputable def kf (κ : KKind) (p : Keyed) : κ.α := (κ.keyOf p.1).getD κ.dflt
noncomputable def Le (κ : KKind) (p q : Keyed) : Prop := κ.kle (kf κ p) (kf κ q)
theorem Le.refl {κ : KKind} (p : Keyed) : Le κ p p := KeyOrd.kle_refl _
theorem Le.trans {κ : KKind} {p q r : Keyed} (h : Le κ p q) (h' : Le κ q r) : Le κ p r := KeyOrd.kle_trans h h'

theorem KK_kf {κ : KKind} {xs : Array Keyed} {i : Nat} (h : i < xs.size) : KK κ xs i = kf κ xs[i] := by
  unfold KK kf; rw [getElem?_pos xs i h]

theorem keyOf_kf {κ : KKind} {xs : Array Keyed} (h0 : KeysOf κ xs) {i : Nat} (h : i < xs.size) : κ.keyOf xs[i].1 = some (kf κ xs[i]) := by
  obtain ⟨a, ha⟩ := h0 xs[i] (by simp)
  unfold kf; rw [ha]; rfl

noncomputable def Srtd (κ : KKind) (xs : Array Keyed) : Prop := xs.toList.Pairwise (Le κ)
noncomputable def Mrg (κ : KKind) (a b r : Array Keyed) : Prop := r.toList.Perm (a.toList ++ b.toList) ∧ Srtd κ r

theorem srtd_at {κ : KKind} {xs : Array Keyed} (h : Srtd κ xs) {i j : Nat} (hij : i ≤ j) (hj : j < xs.size) : Le κ (xs[i]'(by (with_reducible exact Ln.o154 ‹_› ‹_›))) xs[j] := by
  by_cases e : i = j
  · subst e; exact Le.refl _
  · have := List.pairwise_iff_getElem.mp h i j (by simpa using (by (with_reducible exact Ln.o154 ‹_› ‹_›) : i < xs.size)) (by simpa using hj) (by (with_reducible exact Ln.o112 ‹_› ‹_›))
    simpa using this

structure MI (κ : KKind) (a b out : Array Keyed) (ia ib : Nat) : Prop where
  ha : ia ≤ a.size
  hb : ib ≤ b.size
  perm : out.toList.Perm (a.toList.take ia ++ b.toList.take ib)
  sorted : Srtd κ out
  lowA : ∀ x ∈ out.toList, ∀ y ∈ a.toList.drop ia, Le κ x y
  lowB : ∀ x ∈ out.toList, ∀ y ∈ b.toList.drop ib, Le κ x y

theorem drop_cons {α : Type} {xs : Array α} {i : Nat} (h : i < xs.size) : xs.toList.drop i = xs[i] :: xs.toList.drop (i + 1) := by
  rw [List.drop_eq_getElem_cons (by simpa using h)]; simp
theorem take_snoc {α : Type} {xs : Array α} {i : Nat} (h : i < xs.size) : xs.toList.take (i + 1) = xs.toList.take i ++ [xs[i]] := by
  rw [List.take_succ_eq_append_getElem (by simpa using h)]; simp
theorem mem_drop_at {α : Type} {xs : Array α} {i : Nat} {y : α} (h : y ∈ xs.toList.drop i) : ∃ j, ∃ hj : j < xs.size, i ≤ j ∧ y = xs[j] := by
  obtain ⟨k, hk, rfl⟩ := List.mem_iff_getElem.mp h
  have hk' : i + k < xs.size := by simp at hk; (with_reducible exact Ln.o127 ‹_›)
  exact ⟨i + k, hk', by (with_reducible exact Ln.o79), by simp⟩
theorem mem_take_at {α : Type} {xs : Array α} {i : Nat} {y : α} (h : y ∈ xs.toList.take i) : ∃ j, ∃ hj : j < xs.size, j < i ∧ y = xs[j] := by
  obtain ⟨k, hk, rfl⟩ := List.mem_iff_getElem.mp h
  have hk' : k < i ∧ k < xs.size := by simp at hk; (with_reducible exact Ln.o151 ‹_›)
  exact ⟨k, hk'.2, hk'.1, by simp⟩

section
variable {κ : KKind} {a b out : Array Keyed} {ia ib : Nat}

theorem MI.pushA (h : MI κ a b out ia ib) (hi : ia < a.size) (sa : Srtd κ a) (hle : ∀ y ∈ b.toList.drop ib, Le κ a[ia] y) : MI κ a b (out.push a[ia]) (ia + 1) ib := by
  refine ⟨hi, h.hb, ?_, ?_, ?_, ?_⟩
  · rw [Array.toList_push, take_snoc hi]
    refine (h.perm.append_right _).trans ?_
    rw [List.append_assoc, List.append_assoc]
    exact List.Perm.append_left _ List.perm_append_comm
  · unfold Srtd
    rw [Array.toList_push]
    refine List.pairwise_append.mpr ⟨h.sorted, List.pairwise_singleton _ _, fun x hx y hy => ?_⟩
    rw [List.mem_singleton.mp hy]
    exact h.lowA x hx _ (by rw [drop_cons hi]; exact .head _)
  · intro x hx y hy
    rw [Array.toList_push] at hx
    rcases List.mem_append.mp hx with hx | hx
    · exact h.lowA x hx y (by rw [drop_cons hi]; exact .tail _ hy)
    · rw [List.mem_singleton.mp hx]
      obtain ⟨j, hj, hij, rfl⟩ := mem_drop_at hy
      exact srtd_at sa (by (with_reducible exact Ln.o115 ‹_›)) hj
  · intro x hx y hy
    rw [Array.toList_push] at hx
    rcases List.mem_append.mp hx with hx | hx
    · exact h.lowB x hx y hy
    · rw [List.mem_singleton.mp hx]; exact hle y hy

theorem MI.pushB (h : MI κ a b out ia ib) (hi : ib < b.size) (sb : Srtd κ b) (hle : ∀ y ∈ a.toList.drop ia, Le κ b[ib] y) : MI κ a b (out.push b[ib]) ia (ib + 1) := by
  refine ⟨h.ha, hi, ?_, ?_, ?_, ?_⟩
  · rw [Array.toList_push, take_snoc hi, ← List.append_assoc]
    exact h.perm.append_right _
  · unfold Srtd
    rw [Array.toList_push]
    refine List.pairwise_append.mpr ⟨h.sorted, List.pairwise_singleton _ _, fun x hx y hy => ?_⟩
    rw [List.mem_singleton.mp hy]
    exact h.lowB x hx _ (by rw [drop_cons hi]; exact .head _)
  · intro x hx y hy
    rw [Array.toList_push] at hx
    rcases List.mem_append.mp hx with hx | hx
    · exact h.lowA x hx y hy
    · rw [List.mem_singleton.mp hx]; exact hle y hy
  · intro x hx y hy
    rw [Array.toList_push] at hx
    rcases List.mem_append.mp hx with hx | hx
    · exact h.lowB x hx y (by rw [drop_cons hi]; exact .tail _ hy)
    · rw [List.mem_singleton.mp hx]
      obtain ⟨j, hj, hij, rfl⟩ := mem_drop_at hy
      exact srtd_at sb (by (with_reducible exact Ln.o115 ‹_›)) hj

theorem extract_snoc {α : Type} {xs : Array α} {i k : Nat} (h : i + k < xs.size) : xs.extract i (i + (k + 1)) = (xs.extract i (i + k)).push xs[i + k] := by
  apply Array.toList_inj.mp
  rw [Array.toList_push, Array.toList_extract, Array.toList_extract]
  simp only [List.extract_eq_take_drop]
  rw [show i + (k + 1) - i = k + 1 by (with_reducible exact Ln.o125), show i + k - i = k by (with_reducible exact Ln.o125), List.take_succ_eq_append_getElem (by simp; (with_reducible exact Ln.o123 ‹_›))]
  simp

theorem app_push (xs ys : Array Keyed) (x : Keyed) : xs ++ ys.push x = (xs ++ ys).push x := by
  apply Array.toList_inj.mp; simp

theorem MI.bulkA (h : MI κ a b out ia ib) (sa : Srtd κ a) : ∀ k : Nat, ∀ hk : ia + k ≤ a.size, (∀ i, ∀ hi : i < k, ∀ y ∈ b.toList.drop ib, Le κ (a[ia + i]'(by (with_reducible exact Ln.o11 ‹_› ‹_›))) y) → MI κ a b (out ++ a.extract ia (ia + k)) (ia + k) ib
  | 0, _, _ => by
    have e : out ++ a.extract ia (ia + 0) = out := by simp [Nat.min_le_left]
    rw [e]; exact h
  | k + 1, hk, hle => by
    have ih := MI.bulkA h sa k (by (with_reducible exact Ln.o156 ‹_›)) fun i hi => hle i (by (with_reducible exact Ln.o116 ‹_›))
    have := ih.pushA (by (with_reducible exact Ln.o122 ‹_›)) sa (hle k (by (with_reducible exact Ln.o119)))
    rw [extract_snoc (by (with_reducible exact Ln.o122 ‹_›)), app_push]
    exact this
theorem MI.bulkB (h : MI κ a b out ia ib) (sb : Srtd κ b) : ∀ k : Nat, ∀ hk : ib + k ≤ b.size, (∀ i, ∀ hi : i < k, ∀ y ∈ a.toList.drop ia, Le κ (b[ib + i]'(by (with_reducible exact Ln.o11 ‹_› ‹_›))) y) → MI κ a b (out ++ b.extract ib (ib + k)) ia (ib + k)
  | 0, _, _ => by
    have e : out ++ b.extract ib (ib + 0) = out := by simp [Nat.min_le_left]
    rw [e]; exact h
  | k + 1, hk, hle => by
    have ih := MI.bulkB h sb k (by (with_reducible exact Ln.o156 ‹_›)) fun i hi => hle i (by (with_reducible exact Ln.o116 ‹_›))
    have := ih.pushB (by (with_reducible exact Ln.o122 ‹_›)) sb (hle k (by (with_reducible exact Ln.o119)))
    rw [extract_snoc (by (with_reducible exact Ln.o122 ‹_›)), app_push]
    exact this

theorem extract_drop {α : Type} (xs : Array α) (i : Nat) : (xs.extract i xs.size).toList = xs.toList.drop i := by
  rw [Array.toList_extract]
  simp only [List.extract_eq_take_drop]
  exact List.take_of_length_le (by simp)

theorem MI.all (h : MI κ a b out ia ib) : (out.toList ++ (a.toList.drop ia ++ b.toList.drop ib)).Perm (a.toList ++ b.toList) := by
  have h1 := h.perm.append_right (a.toList.drop ia ++ b.toList.drop ib)
  refine h1.trans ?_
  have e : a.toList ++ b.toList = (a.toList.take ia ++ a.toList.drop ia) ++ (b.toList.take ib ++ b.toList.drop ib) := by rw [List.take_append_drop, List.take_append_drop]
  rw [e, List.append_assoc, List.append_assoc]
  refine List.Perm.append_left _ ?_
  rw [← List.append_assoc, ← List.append_assoc]
  exact List.Perm.append_right _ List.perm_append_comm

theorem srtd_drop {xs : Array Keyed} (h : Srtd κ xs) (i : Nat) : (xs.toList.drop i).Pairwise (Le κ) := h.sublist (List.drop_sublist _ _)
theorem srtd_take {xs : Array Keyed} (h : Srtd κ xs) (i : Nat) : (xs.toList.take i).Pairwise (Le κ) := h.sublist (List.take_sublist _ _)

theorem MI.done (h : MI κ a b out ia ib) (sa : Srtd κ a) (sb : Srtd κ b) (he : ia = a.size ∨ ib = b.size) : Mrg κ a b (loDone a b out ia ib) := by
  unfold Mrg Srtd loDone
  rw [Array.toList_append, Array.toList_append, extract_drop, extract_drop, List.append_assoc]
  refine ⟨h.all, List.pairwise_append.mpr ⟨h.sorted, ?_, fun x hx y hy => (List.mem_append.mp hy).elim (h.lowA x hx y) (h.lowB x hx y)⟩⟩
  rcases he with e | e
  · have : a.toList.drop ia = [] := List.drop_of_length_le (by simp [e])
    rw [this]; exact srtd_drop sb ib
  · have : b.toList.drop ib = [] := List.drop_of_length_le (by simp [e])
    rw [this, List.append_nil]; exact srtd_drop sa ia
theorem MI.last (h : MI κ a b out ia ib) (sb : Srtd κ b) (he : ia + 1 = a.size) (hl : ∀ y ∈ b.toList, Le κ y (a[ia]'(by (with_reducible exact Ln.o159 ‹_›)))) : Mrg κ a b (loLast a b out ia ib) := by
  unfold Mrg Srtd loLast
  have e1 : a.toList.drop ia = [a[ia]'(by (with_reducible exact Ln.o159 ‹_›))] := by
    rw [drop_cons (by (with_reducible exact Ln.o159 ‹_›))]
    rw [List.drop_of_length_le (by simp; (with_reducible exact Ln.o117 ‹_›))]
  rw [Array.toList_append, Array.toList_append, extract_drop, extract_drop, List.append_assoc]
  refine ⟨(List.Perm.append_left _ List.perm_append_comm).trans h.all, List.pairwise_append.mpr ⟨h.sorted, ?_, fun x hx y hy => (List.mem_append.mp hy).elim (h.lowB x hx y) (h.lowA x hx y)⟩⟩
  refine List.pairwise_append.mpr ⟨srtd_drop sb ib, by rw [e1]; exact List.pairwise_singleton _ _, fun x hx y hy => ?_⟩
  rw [e1, List.mem_singleton] at hy
  subst hy
  exact hl x (List.mem_of_mem_drop hx)
end

structure SameSt (st st' : SortSt) : Prop where
  kind : kindOf st' = kindOf st
  arr : arrOf st' = arrOf st
  pend : pendingOf st' = pendingOf st
  failed : failedOf st' = failedOf st
theorem SameSt.refl (st : SortSt) : SameSt st st := ⟨rfl, rfl, rfl, rfl⟩
theorem SameSt.trans {x y z : SortSt} (h : SameSt x y) (h' : SameSt y z) : SameSt x z := ⟨h'.kind.trans h.kind, h'.arr.trans h.arr, h'.pend.trans h.pend, h'.failed.trans h.failed⟩

theorem setMinGallop'_eq (g : Nat) : setMinGallop' g = modify (fun st => SortSt.mk' (kindOf st) (arrOf st) (pendingOf st) g (failedOf st)) := rfl

section
variable {prog : Program} {w : World} {A : Around} {E : Value → Shared → Prop} {s : Shared} {κ : KKind} {a b : Array Keyed}

theorem wpS_setMG {st : SortSt} {g : Nat} {Q : Unit → SortSt → Prop} (h : ∀ st', SameSt st st' → Q () st') : wpS (model prog w) A E s (setMinGallop' g) Q st := by
  rw [setMinGallop'_eq]; exact wpS_modify (h _ ⟨rfl, rfl, rfl, rfl⟩)
theorem wpS_same {α : Type} {m : StateT SortSt Sem α} {st st₀ : SortSt} {P : α → Prop} (h0 : SameSt st₀ st) (h : wpS (model prog w) A E s m (fun x st' => SameSt st st' ∧ P x) st) :
    wpS (model prog w) A E s m (fun x st' => SameSt st₀ st' ∧ P x) st := wpS_mono h fun _ _ q => ⟨h0.trans q.1, q.2⟩

structure LoHyp (κ : KKind) (a b : Array Keyed) : Prop where
  hO : κ.OneLt
  ka : KeysOf κ a
  kb : KeysOf κ b
  sa : Srtd κ a
  sb : Srtd κ b
  na : 0 < a.size
  nb : 0 < b.size
  first : ∀ y ∈ a.toList, Le κ b[0] y
  last : ∀ y ∈ b.toList, Le κ y a[a.size - 1]

structure LoAt (κ : KKind) (a b out : Array Keyed) (ia ib m : Nat) : Prop extends MI κ a b out ia ib where
  ja : ia + 1 < a.size
  jb : ib < b.size
  hm : m ≤ ia + ib

noncomputable def LoFinA (κ : KKind) (a b : Array Keyed) (c : LoA) : Prop := ∃ r, c.fst = some r ∧ Mrg κ a b r
noncomputable def LoGoA (κ : KKind) (a b : Array Keyed) (m : Nat) (c : LoA) : Prop := c.fst = none ∧ LoAt κ a b c.snd.fst c.snd.snd.fst c.snd.snd.snd.fst m
noncomputable def LoFinB (κ : KKind) (a b : Array Keyed) (c : LoB) : Prop := ∃ r, c.fst = some r ∧ Mrg κ a b r
noncomputable def LoGoB (κ : KKind) (a b : Array Keyed) (m : Nat) (c : LoB) : Prop := c.fst = none ∧ LoAt κ a b c.snd.fst c.snd.snd.fst c.snd.snd.snd.fst m

noncomputable def stepA (κ : KKind) (a b : Array Keyed) (m : Nat) : ForInStep LoA → Prop
  | .done c => LoFinA κ a b c ∨ LoGoA κ a b m c
  | .yield c => LoGoA κ a b m c
noncomputable def stepB (κ : KKind) (a b : Array Keyed) (m : Nat) : ForInStep LoB → Prop
  | .done c => LoFinB κ a b c ∨ LoGoB κ a b m c
  | .yield c => LoGoB κ a b m c

theorem wpS_elemAt {st : SortSt} {xs : Array Keyed} {i : Nat} {Q : Keyed → SortSt → Prop} (hi : i < xs.size) (h : Q xs[i] st) : wpS (model prog w) A E s (elem' xs i) Q st :=
  wpS_elem1 (getElem?_pos xs i hi) h

theorem LoHyp.lastAt (H : LoHyp κ a b) {ia : Nat} (h : ia + 1 = a.size) : ∀ y ∈ b.toList, Le κ y (a[ia]'(by (with_reducible exact Ln.o159 ‹_›))) := by
  have : ia = a.size - 1 := by (with_reducible exact Ln.o160 ‹_›)
  subst this
  exact H.last

theorem wpS_loTurn (H : LoHyp κ a b) {st : SortSt} {mg m : Nat} {out : Array Keyed} {ia ib ac bc : Nat} (hk : kindOf st = oneType') (h : LoAt κ a b out ia ib m) :
    wpS (model prog w) A E s (loTurn a b mg out ia ib ac bc) (fun r st' => SameSt st st' ∧ stepA κ a b (m + 1) r) st := by
  have ja := h.ja
  have jb := h.jb
  have hm := h.hm
  unfold loTurn
  refine wpS_bind (wpS_elemAt h.jb (wpS_bind (wpS_elemAt (by (with_reducible exact Ln.o137 ‹_›) : ia < a.size) (wpS_bind (wpS_lt1 H.hO hk (keyOf_kf H.kb h.jb) (keyOf_kf H.ka _) ?_)))))
  cases hb : κ.blt (kf κ b[ib]) (kf κ a[ia])
  · simp only [Bool.false_eq_true, if_false]
    refine wpS_bind (wpS_elemAt (by (with_reducible exact Ln.o137 ‹_›) : ia < a.size) ?_)
    have h' := h.toMI.pushA (by (with_reducible exact Ln.o137 ‹_›)) H.sa (fun y hy => by
      obtain ⟨j, hj, hij, rfl⟩ := mem_drop_at hy
      exact Le.trans (show Le κ a[ia] b[ib] from hb) (srtd_at H.sb hij hj))
    split
    · rename_i e
      exact wpS_pure ⟨SameSt.refl _, .inl ⟨_, rfl, h'.last H.sb (by simpa using e) (H.lastAt (by simpa using e))⟩⟩
    · rename_i e
      have ne : ¬ ia + 1 + 1 = a.size := by simpa using e
      have go : LoAt κ a b (out.push a[ia]) (ia + 1) ib (m + 1) := ⟨h', by (with_reducible exact Ln.o126 ‹_› ‹_›), by omega, by (with_reducible exact Ln.o152 ‹_›)⟩
      split
      · exact wpS_pure ⟨SameSt.refl _, .inr ⟨rfl, go⟩⟩
      · exact wpS_pure ⟨SameSt.refl _, ⟨rfl, go⟩⟩
  · simp only [if_true]
    refine wpS_bind (wpS_elemAt h.jb ?_)
    have h' := h.toMI.pushB h.jb H.sb (fun y hy => by
      obtain ⟨j, hj, hij, rfl⟩ := mem_drop_at hy
      exact Le.trans (show Le κ b[ib] a[ia] from KeyOrd.kle_of_klt hb) (srtd_at H.sa hij hj))
    split
    · rename_i e
      exact wpS_pure ⟨SameSt.refl _, .inl ⟨_, rfl, h'.done H.sa H.sb (.inr (by simpa using e))⟩⟩
    · rename_i e
      have ne : ¬ ib + 1 = b.size := by simpa using e
      have go : LoAt κ a b (out.push b[ib]) ia (ib + 1) (m + 1) := ⟨h', by omega, by (with_reducible exact Ln.o126 ‹_› ‹_›), by (with_reducible exact Ln.o130 ‹_›)⟩
      split
      · exact wpS_pure ⟨SameSt.refl _, .inr ⟨rfl, go⟩⟩
      · exact wpS_pure ⟨SameSt.refl _, ⟨rfl, go⟩⟩

theorem wpS_loOne (H : LoHyp κ a b) {st : SortSt} {n mg m : Nat} {out : Array Keyed} {ia ib : Nat} (hk : kindOf st = oneType') (hn : 0 < n) (h : LoAt κ a b out ia ib m) :
    wpS (model prog w) A E s (loOne a b n mg out ia ib) (fun c st' => SameSt st st' ∧ (LoFinA κ a b c ∨ LoGoA κ a b (m + 1) c)) st := by
  unfold loOne
  refine wpS_forRange (I := fun x c st' => SameSt st st' ∧ LoGoA κ a b (m + x) c) ?_ ?_ ⟨SameSt.refl _, rfl, h⟩
  · rintro x c st' _ hx ⟨hs, hc, hg⟩
    refine wpS_mono (wpS_loTurn H (hs.kind.trans hk) hg) fun r st'' hr => ?_
    obtain ⟨hs', hr⟩ := hr
    cases r with
    | done c' =>
      refine ⟨hs.trans hs', hr.imp id fun ⟨e, g⟩ => ⟨e, g.toMI, g.ja, g.jb, ?_⟩⟩
      have := g.hm; (with_reducible exact Ln.o118 ‹_›)
    | yield c' => exact ⟨hs.trans hs', hr⟩
  · rintro c st' ⟨hs, e, g⟩
    exact ⟨hs, .inr ⟨e, g.toMI, g.ja, g.jb, by have := g.hm; (with_reducible exact Ln.o131 ‹_› ‹_›)⟩⟩

theorem bey_false {κ : KKind} {k x : κ.α} (h : bey κ false k x = true) : κ.kle x k := by unfold bey at h; simp at h; exact h
theorem bey_false' {κ : KKind} {k x : κ.α} (h : bey κ false k x = false) : κ.klt k x := by unfold bey at h; simp at h; exact h
theorem bey_true {κ : KKind} {k x : κ.α} (h : bey κ true k x = true) : κ.klt x k := by unfold bey at h; simp at h; exact h
theorem bey_true' {κ : KKind} {k x : κ.α} (h : bey κ true k x = false) : κ.kle k x := by unfold bey at h; simp at h; exact h

theorem segS_of {xs : Array Keyed} (h : Srtd κ xs) {lo hi : Nat} (hh : hi ≤ xs.size) : SegS κ xs lo hi := fun i j _ hij hj => by
  rw [KK_kf (by (with_reducible exact Ln.o111 ‹_› ‹_› ‹_›)), KK_kf (by (with_reducible exact Ln.o158 ‹_› ‹_›))]
  exact srtd_at h hij (by (with_reducible exact Ln.o158 ‹_› ‹_›))

theorem wpS_loG3 (H : LoHyp κ a b) {st : SortSt} {g k k1 m : Nat} {out : Array Keyed} {ia ib : Nat} (h : MI κ a b out ia ib) (ja : ia + 1 < a.size) (jb : ib < b.size) (hm : m ≤ ia + ib)
    (hle : ∀ y ∈ b.toList.drop ib, Le κ a[ia] y) :
    wpS (model prog w) A E s (loG3 a b g k k1 out ia ib) (fun r st' => SameSt st st' ∧ stepB κ a b m r) st := by
  unfold loG3
  refine wpS_bind (wpS_elemAt (by (with_reducible exact Ln.o137 ‹_›) : ia < a.size) ?_)
  have h' := h.pushA (by (with_reducible exact Ln.o137 ‹_›)) H.sa hle
  split
  · rename_i e
    exact wpS_pure ⟨SameSt.refl _, .inl ⟨_, rfl, h'.last H.sb (by simpa using e) (H.lastAt (by simpa using e))⟩⟩
  · rename_i e
    have ne : ¬ ia + 1 + 1 = a.size := by simpa using e
    have go : LoAt κ a b (out.push a[ia]) (ia + 1) ib m := ⟨h', by (with_reducible exact Ln.o126 ‹_› ‹_›), by omega, by (with_reducible exact Ln.o161 ‹_›)⟩
    split
    · exact wpS_pure ⟨SameSt.refl _, .inr ⟨rfl, go⟩⟩
    · exact wpS_pure ⟨SameSt.refl _, ⟨rfl, go⟩⟩

theorem wpS_loG2 (H : LoHyp κ a b) {st : SortSt} {g k m : Nat} {out : Array Keyed} {ia ib bc : Nat} (hk : kindOf st = oneType') (h : MI κ a b out ia ib) (ja : ia + 1 < a.size) (jb : ib < b.size) (hm : m ≤ ia + ib)
    (hle : ∀ y ∈ a.toList.drop ia, Le κ b[ib] y) :
    wpS (model prog w) A E s (loG2 a b g k out ia ib bc) (fun r st' => SameSt st st' ∧ stepB κ a b m r) st := by
  unfold loG2
  refine wpS_bind (wpS_elemAt jb ?_)
  have h' := h.pushB jb H.sb hle
  split
  · rename_i e
    exact wpS_pure ⟨SameSt.refl _, .inl ⟨_, rfl, h'.done H.sa H.sb (.inr (by simpa using e))⟩⟩
  · rename_i e
    have ne : ¬ ib + 1 = b.size := by simpa using e
    refine wpS_bind (wpS_elemAt (by (with_reducible exact Ln.o137 ‹_›) : ia < a.size) (wpS_bind (wpS_gallop H.hO hk H.kb (keyOf_kf H.ka _) (by (with_reducible exact Ln.o139 ‹_›)) (by (with_reducible exact Ln.o136 ‹_› ‹_›)) (segS_of H.sb (by (with_reducible exact Ln.o139 ‹_›))) fun k1 hk1 h1 h2 => ?_)))
    dsimp only
    have low : ∀ i, ∀ hi : i < k1, ∀ y ∈ a.toList.drop ia, Le κ (b[ib + 1 + i]'(by (with_reducible exact Ln.o144 ‹_› ‹_›))) y := fun i hi y hy => by
      obtain ⟨j, hj, hij, rfl⟩ := mem_drop_at hy
      have := bey_true (h1 i hi)
      rw [KK_kf (by (with_reducible exact Ln.o144 ‹_› ‹_›))] at this
      exact Le.trans (show Le κ b[ib + 1 + i] a[ia] from KeyOrd.kle_of_klt this) (srtd_at H.sa hij hj)
    have h'' := h'.bulkB H.sb k1 (by (with_reducible exact Ln.o147 ‹_› ‹_›)) low
    have high : ∀ y ∈ b.toList.drop (ib + 1 + k1), Le κ a[ia] y := fun y hy => by
      obtain ⟨j, hj, hij, rfl⟩ := mem_drop_at hy
      have := bey_true' (h2 (j - (ib + 1)) (by (with_reducible exact Ln.o61 ‹_›)) (by (with_reducible exact Ln.o128 ‹_› ‹_›)))
      rw [KK_kf (by (with_reducible exact Ln.o138 ‹_› ‹_›))] at this
      have e : ib + 1 + (j - (ib + 1)) = j := by (with_reducible exact Ln.o65 ‹_›)
      simp only [e] at this
      exact this
    split
    · split
      · rename_i e2
        exact wpS_pure ⟨SameSt.refl _, .inl ⟨_, rfl, h''.done H.sa H.sb (.inr (by simpa using e2))⟩⟩
      · rename_i e2
        have ne2 : ¬ ib + 1 + k1 = b.size := by simpa using e2
        exact wpS_loG3 H h'' ja (by (with_reducible exact Ln.o132 ‹_› ‹_› ‹_›)) (by (with_reducible exact Ln.o150 ‹_›)) high
    · rename_i hz
      have hz' : k1 = 0 := by (with_reducible exact Ln.o141 ‹_›)
      subst hz'
      exact wpS_loG3 H h' ja (by (with_reducible exact Ln.o126 ‹_› ‹_›)) (by (with_reducible exact Ln.o134 ‹_›)) high

theorem wpS_loG1 (H : LoHyp κ a b) {st : SortSt} {g m : Nat} {out : Array Keyed} {ia ib ac bc : Nat} (hk : kindOf st = oneType') (h : LoAt κ a b out ia ib m) :
    wpS (model prog w) A E s (loG1 a b g out ia ib ac bc) (fun r st' => SameSt st st' ∧ stepB κ a b m r) st := by
  have ja := h.ja
  have jb := h.jb
  have hm := h.hm
  unfold loG1
  refine wpS_bind (wpS_setMG fun st1 hs1 => wpS_bind (wpS_elemAt h.jb (wpS_bind (wpS_gallop H.hO (hs1.kind.trans hk) H.ka (keyOf_kf H.kb _) (by (with_reducible exact Ln.o135 ‹_›)) (by (with_reducible exact Ln.o145 ‹_›)) (segS_of H.sa (by (with_reducible exact Ln.o135 ‹_›))) fun k hk1 h1 h2 => ?_))))
  dsimp only
  refine wpS_same hs1 ?_
  have low : ∀ i, ∀ hi : i < k, ∀ y ∈ b.toList.drop ib, Le κ (a[ia + i]'(by (with_reducible exact Ln.o144 ‹_› ‹_›))) y := fun i hi y hy => by
    obtain ⟨j, hj, hij, rfl⟩ := mem_drop_at hy
    have := bey_false (h1 i hi)
    rw [KK_kf (by (with_reducible exact Ln.o144 ‹_› ‹_›))] at this
    exact Le.trans (show Le κ a[ia + i] b[ib] from this) (srtd_at H.sb hij hj)
  have h'' := h.toMI.bulkA H.sa k (by (with_reducible exact Ln.o121 ‹_› ‹_›)) low
  have high : ∀ y ∈ a.toList.drop (ia + k), Le κ b[ib] y := fun y hy => by
    obtain ⟨j, hj, hij, rfl⟩ := mem_drop_at hy
    have := bey_false' (h2 (j - ia) (by (with_reducible exact Ln.o61 ‹_›)) (by (with_reducible exact Ln.o128 ‹_› ‹_›)))
    rw [KK_kf (by (with_reducible exact Ln.o138 ‹_› ‹_›))] at this
    have e : ia + (j - ia) = j := by (with_reducible exact Ln.o65 ‹_›)
    simp only [e] at this
    exact KeyOrd.kle_of_klt this
  split
  · split
    · rename_i e2
      exact wpS_pure ⟨SameSt.refl _, .inl ⟨_, rfl, h''.last H.sb (by simpa using e2) (H.lastAt (by simpa using e2))⟩⟩
    · rename_i e2
      have ne2 : ¬ ia + k + 1 = a.size := by simpa using e2
      split
      · rename_i e3
        exact wpS_pure ⟨SameSt.refl _, .inl ⟨_, rfl, h''.done H.sa H.sb (.inl (by simpa using e3))⟩⟩
      · rename_i e3
        have ne3 : ¬ ia + k = a.size := by simpa using e3
        exact wpS_loG2 H (hs1.kind.trans hk) h'' (by (with_reducible exact Ln.o140 ‹_› ‹_› ‹_› ‹_›)) jb (by (with_reducible exact Ln.o146 ‹_›)) high
  · rename_i hz
    have hz' : k = 0 := by (with_reducible exact Ln.o141 ‹_›)
    subst hz'
    exact wpS_loG2 H (hs1.kind.trans hk) h.toMI ja jb (by omega) high

theorem wpS_loTwo (H : LoHyp κ a b) {st : SortSt} {n m : Nat} {out : Array Keyed} {ia ib g ac bc : Nat} (hk : kindOf st = oneType') (h : LoAt κ a b out ia ib m) :
    wpS (model prog w) A E s (loTwo a b n out ia ib g ac bc) (fun c st' => SameSt st st' ∧ (LoFinB κ a b c ∨ LoGoB κ a b m c)) st := by
  unfold loTwo
  refine wpS_forRange (I := fun _ c st' => SameSt st st' ∧ LoGoB κ a b m c) ?_ ?_ ⟨SameSt.refl _, rfl, h⟩
  · rintro x c st' _ hx ⟨hs, hc, hg⟩
    have key : ∀ g', wpS (model prog w) A E s (loG1 a b g' c.snd.fst c.snd.snd.fst c.snd.snd.snd.fst c.snd.snd.snd.snd.snd.fst c.snd.snd.snd.snd.snd.snd)
        (fun r st'' => match r with | .done c' => SameSt st st'' ∧ (LoFinB κ a b c' ∨ LoGoB κ a b m c') | .yield c' => SameSt st st'' ∧ LoGoB κ a b m c') st' := fun g' =>
      wpS_mono (wpS_loG1 H (hs.kind.trans hk) hg) fun r st'' hr => by
        obtain ⟨hs', hr⟩ := hr
        cases r with
        | done c' => exact ⟨hs.trans hs', hr⟩
        | yield c' => exact ⟨hs.trans hs', hr⟩
    split
    · exact wpS_mono (key _) fun r st'' hr => by cases r <;> exact hr
    · exact wpS_mono (key _) fun r st'' hr => by cases r <;> exact hr
  · rintro c st' ⟨hs, g⟩
    exact ⟨hs, .inr g⟩

theorem wpS_mergeLo (H : LoHyp κ a b) {st : SortSt} (hk : kindOf st = oneType') :
    wpS (model prog w) A E s (mergeLo' a b) (fun r st' => SameSt st st' ∧ Mrg κ a b r) st := by
  have na := H.na
  have nb := H.nb
  rw [mergeLo'_eq]
  refine wpS_bind (wpS_lift (wpAny_rule ⟨rfl, wpS_bind (wpS_elemAt nb ?_)⟩))
  have m0 : MI κ a b #[] 0 0 := ⟨by (with_reducible exact Ln.o75), by (with_reducible exact Ln.o75), by simp, by unfold Srtd; simp, by simp, by simp⟩
  have m1 : MI κ a b #[b[0]] 0 1 := m0.pushB nb H.sb (fun y hy => H.first y (by simpa using hy))
  split
  · rename_i e
    exact wpS_pure ⟨SameSt.refl _, m1.done H.sa H.sb (.inr (by simpa using e))⟩
  · rename_i e
    have ne : ¬ 1 = b.size := by simpa using e
    split
    · rename_i e2
      exact wpS_pure ⟨SameSt.refl _, m1.last H.sb (by simpa using e2) (H.lastAt (by simpa using e2))⟩
    · rename_i e2
      have ne2 : ¬ 1 = a.size := by simpa using e2
      refine wpS_bind (wpS_get (wpS_bind (wpS_mono (wpS_forRange
        (I := fun x c st' => SameSt st st' ∧ c.fst = none ∧ LoAt κ a b c.snd.fst c.snd.snd.fst c.snd.snd.snd.fst (x + 1))
        (Q := fun c st' => SameSt st st' ∧ ∃ r, c.fst = some r ∧ Mrg κ a b r) ?step ?fin ⟨SameSt.refl _, rfl, (⟨m1, by (with_reducible exact Ln.o126 ‹_› ‹_›), by (with_reducible exact Ln.o126 ‹_› ‹_›), by (with_reducible exact Ln.o157)⟩ : LoAt κ a b #[b[0]] 0 1 1)⟩) ?post)))
      case fin =>
        rintro c st' ⟨hs, hc, hg⟩
        have h1 := hg.hm
        have h2 := hg.ja
        have h3 := hg.jb
        (with_reducible exact (Ln.o153 ‹_› ‹_› ‹_›).elim)
      case post =>
        rintro c st' ⟨hs, r, hr, hM⟩
        rw [hr]
        exact wpS_pure ⟨hs, hM⟩
      case step =>
        rintro x c st' _ hx ⟨hs, hc, hg⟩
        unfold loOuter
        refine wpS_bind (wpS_mono (wpS_loOne H (hs.kind.trans hk) (by (with_reducible exact Ln.o149 ‹_›)) hg) fun d st1 hd => ?_)
        obtain ⟨hs1, hd⟩ := hd
        rcases hd with ⟨r, er, hM⟩ | ⟨en, hg1⟩
        · rw [er]
          exact wpS_pure ⟨hs.trans hs1, r, rfl, hM⟩
        · rw [en]
          refine wpS_bind (wpS_lift (wpAny_rule ⟨rfl, wpS_bind (wpS_mono (wpS_loTwo H ((hs.trans hs1).kind.trans hk) hg1) fun e st2 he => ?_)⟩))
          obtain ⟨hs2, he⟩ := he
          rcases he with ⟨r, er, hM⟩ | ⟨en2, hg2⟩
          · rw [er]
            exact wpS_pure ⟨(hs.trans hs1).trans hs2, r, rfl, hM⟩
          · rw [en2]
            exact wpS_bind (wpS_setMG fun st3 hs3 => wpS_pure ⟨((hs.trans hs1).trans hs2).trans hs3, rfl, hg2⟩)
end
end Mine.Srt
end
section
open PySem PyProof.Rows
set_option autoImplicit false
set_option maxRecDepth 100000
namespace Mine.Srt

noncomputable def mergeHi' : Array Keyed → Array Keyed → StateT SortSt Sem (Array Keyed) := sortPriv% PySem.Builtin.mergeHi

noncomputable def hiDone (a b out : Array Keyed) (na nb : Nat) : Array Keyed := a.extract 0 na ++ b.extract 0 nb ++ out.reverse
noncomputable def hiFirst (a b out : Array Keyed) (na nb : Nat) : Array Keyed := b.extract 0 nb ++ a.extract 0 na ++ out.reverse

noncomputable abbrev HiA := Option (Array Keyed) × Nat × Nat × Array Keyed × Nat × Nat
noncomputable abbrev HiB := Option (Array Keyed) × Nat × Nat × Array Keyed × Nat × Nat × Nat
noncomputable abbrev HiC := Option (Array Keyed) × Nat × Nat × Array Keyed × Nat

noncomputable def hiTurn (a b : Array Keyed) (mg : Nat) (na nb : Nat) (out : Array Keyed) (ac bc : Nat) : StateT SortSt Sem (ForInStep HiA) := do
  let x ← elem' b (nb - 1)
  let y ← elem' a (na - 1)
  let r ← lt' x y
  match r with
  | some w =>
    if w = true then do
      let z ← elem' a (na - 1)
      if (na - 1 == 0) = true then pure (ForInStep.done (some (hiDone a b (out.push z) (na - 1) nb), na - 1, nb, out.push z, ac + 1, 0))
      else if ac + 1 ≥ mg then pure (ForInStep.done (none, na - 1, nb, out.push z, ac + 1, 0))
      else pure (ForInStep.yield (none, na - 1, nb, out.push z, ac + 1, 0))
    else do
      let z ← elem' b (nb - 1)
      if (nb - 1 == 1) = true then pure (ForInStep.done (some (hiFirst a b (out.push z) na (nb - 1)), na, nb - 1, out.push z, 0, bc + 1))
      else if bc + 1 ≥ mg then pure (ForInStep.done (none, na, nb - 1, out.push z, 0, bc + 1))
      else pure (ForInStep.yield (none, na, nb - 1, out.push z, 0, bc + 1))
  | _ => pure (ForInStep.done (some (hiDone a b out na nb), na, nb, out, ac, bc))

noncomputable def hiOne (a b : Array Keyed) (n mg : Nat) (na nb : Nat) (out : Array Keyed) : StateT SortSt Sem HiA :=
  forIn [:n] ((none, na, nb, out, 0, 0) : HiA) fun _ c => hiTurn a b mg c.snd.fst c.snd.snd.fst c.snd.snd.snd.fst c.snd.snd.snd.snd.fst c.snd.snd.snd.snd.snd

noncomputable def hiG3 (a b : Array Keyed) (g k k1 : Nat) (na nb : Nat) (out : Array Keyed) : StateT SortSt Sem (ForInStep HiB) := do
  let z ← elem' a (na - 1)
  if (na - 1 == 0) = true then pure (ForInStep.done (some (hiDone a b (out.push z) (na - 1) nb), na - 1, nb, out.push z, g, k, k1))
  else if (decide (k < 7) && decide (k1 < 7)) = true then pure (ForInStep.done (none, na - 1, nb, out.push z, g, k, k1))
  else pure (ForInStep.yield (none, na - 1, nb, out.push z, g, k, k1))

noncomputable def hiG2 (a b : Array Keyed) (g k : Nat) (na nb : Nat) (out : Array Keyed) (bc : Nat) : StateT SortSt Sem (ForInStep HiB) := do
  let z ← elem' b (nb - 1)
  if (nb - 1 == 1) = true then pure (ForInStep.done (some (hiFirst a b (out.push z) na (nb - 1)), na, nb - 1, out.push z, g, k, bc))
  else do
    let x ← elem' a (na - 1)
    let r ← gallop' true x b 0 (nb - 1) (nb - 1 - 1)
    match r with
    | some at1 =>
      if nb - 1 - at1 > 0 then
        if (at1 == 1) = true then pure (ForInStep.done (some (hiFirst a b (out.push z ++ (b.extract at1 (nb - 1)).reverse) na at1), na, at1, out.push z ++ (b.extract at1 (nb - 1)).reverse, g, k, nb - 1 - at1))
        else if (at1 == 0) = true then pure (ForInStep.done (some (hiDone a b (out.push z ++ (b.extract at1 (nb - 1)).reverse) na at1), na, at1, out.push z ++ (b.extract at1 (nb - 1)).reverse, g, k, nb - 1 - at1))
        else hiG3 a b g k (nb - 1 - at1) na at1 (out.push z ++ (b.extract at1 (nb - 1)).reverse)
      else hiG3 a b g k (nb - 1 - at1) na (nb - 1) (out.push z)
    | _ => pure (ForInStep.done (some (hiDone a b (out.push z) na (nb - 1)), na, nb - 1, out.push z, g, k, bc))

noncomputable def hiG1 (a b : Array Keyed) (g : Nat) (na nb : Nat) (out : Array Keyed) (ac bc : Nat) : StateT SortSt Sem (ForInStep HiB) := do
  setMinGallop' g
  let x ← elem' b (nb - 1)
  let r ← gallop' false x a 0 na (na - 1)
  match r with
  | some at0 =>
    if na - at0 > 0 then
      if (at0 == 0) = true then pure (ForInStep.done (some (hiDone a b (out ++ (a.extract at0 na).reverse) at0 nb), at0, nb, out ++ (a.extract at0 na).reverse, g, na - at0, bc))
      else hiG2 a b g (na - at0) at0 nb (out ++ (a.extract at0 na).reverse) bc
    else hiG2 a b g (na - at0) na nb out bc
  | _ => pure (ForInStep.done (some (hiDone a b out na nb), na, nb, out, g, ac, bc))

noncomputable def hiTwo (a b : Array Keyed) (n : Nat) (na nb : Nat) (out : Array Keyed) (g ac bc : Nat) : StateT SortSt Sem HiB :=
  forIn [:n] ((none, na, nb, out, g, ac, bc) : HiB) fun _ c =>
    if c.snd.snd.snd.snd.fst > 1 then hiG1 a b (c.snd.snd.snd.snd.fst - 1) c.snd.fst c.snd.snd.fst c.snd.snd.snd.fst c.snd.snd.snd.snd.snd.fst c.snd.snd.snd.snd.snd.snd
    else hiG1 a b c.snd.snd.snd.snd.fst c.snd.fst c.snd.snd.fst c.snd.snd.snd.fst c.snd.snd.snd.snd.snd.fst c.snd.snd.snd.snd.snd.snd

noncomputable def hiOuter (a b : Array Keyed) (n : Nat) (na nb : Nat) (out : Array Keyed) (mg : Nat) : StateT SortSt Sem (ForInStep HiC) := do
  let d ← hiOne a b n mg na nb out
  match d.fst with
  | some r => pure (ForInStep.done (some r, d.snd.fst, d.snd.snd.fst, d.snd.snd.snd.fst, mg))
  | none => do
    liftM (rule "list.sort.gallop")
    let e ← hiTwo a b n d.snd.fst d.snd.snd.fst d.snd.snd.snd.fst (mg + 1) d.snd.snd.snd.snd.fst d.snd.snd.snd.snd.snd
    match e.fst with
    | some r => pure (ForInStep.done (some r, e.snd.fst, e.snd.snd.fst, e.snd.snd.snd.fst, e.snd.snd.snd.snd.fst))
    | none => do
      setMinGallop' (e.snd.snd.snd.snd.fst + 1)
      pure (ForInStep.yield (none, e.snd.fst, e.snd.snd.fst, e.snd.snd.snd.fst, e.snd.snd.snd.snd.fst + 1))

theorem mergeHi'_eq (a b : Array Keyed) : mergeHi' a b = (do
    liftM (rule "list.sort.merge-hi")
    let z ← elem' a (a.size - 1)
    if (a.size - 1 == 0) = true then pure (hiDone a b #[z] (a.size - 1) b.size)
    else if (b.size == 1) = true then pure (hiFirst a b #[z] (a.size - 1) b.size)
    else do
      let st ← get
      let c ← forIn [:a.size + b.size] ((none, a.size - 1, b.size, #[z], gallopOf st) : HiC) fun _ c => hiOuter a b (a.size + b.size) c.snd.fst c.snd.snd.fst c.snd.snd.snd.fst c.snd.snd.snd.snd
      match c.fst with
      | some r => pure r
      | none => liftM (unsupported "internal:list.sort.merge-bound" : Sem (Array Keyed))) := by
  refine bindEq rfl (fun _ => bindEq rfl (fun z => ?_))
  split
  · rfl
  by_cases h2 : (b.size == 1) = true
  · exact (if_pos h2).trans (if_pos h2).symm
  refine (if_neg h2).trans (Eq.trans ?_ (if_neg h2).symm)
  refine bindEq rfl (fun st => bindEq ?_ (fun c => ?_))
  · congr 1
    funext i c
    refine bindEq rfl (fun d => ?_)
    obtain ⟨r, na, nb, out, ac, bc⟩ := d
    cases r with
    | some r => rfl
    | none =>
      refine bindEq rfl (fun u => bindEq ?_ (fun e => ?_))
      · congr 1
      · obtain ⟨r, na, nb, out, mg, ac, bc⟩ := e
        cases r <;> rfl
  · obtain ⟨r, c⟩ := c
    cases r <;> rfl

structure MH (κ : KKind) (a b out : Array Keyed) (na nb : Nat) : Prop where
  ha : na ≤ a.size
  hb : nb ≤ b.size
  perm : out.toList.Perm (a.toList.drop na ++ b.toList.drop nb)
  sorted : out.toList.Pairwise (fun x y => Le κ y x)
  highA : ∀ x ∈ out.toList, ∀ y ∈ a.toList.take na, Le κ y x
  highB : ∀ x ∈ out.toList, ∀ y ∈ b.toList.take nb, Le κ y x

section
variable {κ : KKind} {a b out : Array Keyed} {na nb : Nat}

theorem MH.pushA (h : MH κ a b out (na + 1) nb) (hi : na < a.size) (sa : Srtd κ a) (hle : ∀ y ∈ b.toList.take nb, Le κ y a[na]) : MH κ a b (out.push a[na]) na nb := by
  refine ⟨by (with_reducible exact Ln.o62 ‹_›), h.hb, ?_, ?_, ?_, ?_⟩
  · rw [Array.toList_push, drop_cons hi]
    refine List.perm_append_comm.trans ?_
    exact (List.Perm.cons _ h.perm)
  · rw [Array.toList_push]
    refine List.pairwise_append.mpr ⟨h.sorted, List.pairwise_singleton _ _, fun x hx y hy => ?_⟩
    rw [List.mem_singleton.mp hy]
    exact h.highA x hx _ (by rw [take_snoc hi]; simp)
  · intro x hx y hy
    rw [Array.toList_push] at hx
    rcases List.mem_append.mp hx with hx | hx
    · exact h.highA x hx y (by rw [take_snoc hi]; exact List.mem_append_left _ hy)
    · rw [List.mem_singleton.mp hx]
      obtain ⟨j, hj, hij, rfl⟩ := mem_take_at hy
      exact srtd_at sa (by (with_reducible exact Ln.o62 ‹_›)) hi
  · intro x hx y hy
    rw [Array.toList_push] at hx
    rcases List.mem_append.mp hx with hx | hx
    · exact h.highB x hx y hy
    · rw [List.mem_singleton.mp hx]; exact hle y hy

theorem MH.pushB (h : MH κ a b out na (nb + 1)) (hi : nb < b.size) (sb : Srtd κ b) (hle : ∀ y ∈ a.toList.take na, Le κ y b[nb]) : MH κ a b (out.push b[nb]) na nb := by
  refine ⟨h.ha, by (with_reducible exact Ln.o62 ‹_›), ?_, ?_, ?_, ?_⟩
  · rw [Array.toList_push, drop_cons hi]
    refine List.perm_append_comm.trans ?_
    refine (List.Perm.cons _ h.perm).trans ?_
    exact List.perm_middle.symm
  · rw [Array.toList_push]
    refine List.pairwise_append.mpr ⟨h.sorted, List.pairwise_singleton _ _, fun x hx y hy => ?_⟩
    rw [List.mem_singleton.mp hy]
    exact h.highB x hx _ (by rw [take_snoc hi]; simp)
  · intro x hx y hy
    rw [Array.toList_push] at hx
    rcases List.mem_append.mp hx with hx | hx
    · exact h.highA x hx y hy
    · rw [List.mem_singleton.mp hx]; exact hle y hy
  · intro x hx y hy
    rw [Array.toList_push] at hx
    rcases List.mem_append.mp hx with hx | hx
    · exact h.highB x hx y (by rw [take_snoc hi]; exact List.mem_append_left _ hy)
    · rw [List.mem_singleton.mp hx]
      obtain ⟨j, hj, hij, rfl⟩ := mem_take_at hy
      exact srtd_at sb (by (with_reducible exact Ln.o62 ‹_›)) hi

theorem rev_push {xs : Array Keyed} {i n : Nat} (out : Array Keyed) (hi : i < n) (hn : n ≤ xs.size) : out ++ (xs.extract i n).reverse = (out ++ (xs.extract (i + 1) n).reverse).push (xs[i]'(by (with_reducible exact Ln.o158 ‹_› ‹_›))) := by
  apply Array.toList_inj.mp
  rw [Array.toList_push, Array.toList_append, Array.toList_append, Array.toList_reverse, Array.toList_reverse, Array.toList_extract, Array.toList_extract]
  simp only [List.extract_eq_take_drop]
  rw [drop_cons (by (with_reducible exact Ln.o158 ‹_› ‹_›) : i < xs.size), show n - i = (n - (i + 1)) + 1 by (with_reducible exact Ln.o190 ‹_›), List.take_succ_cons, List.reverse_cons, List.append_assoc]

theorem MH.bulkA (sa : Srtd κ a) : ∀ (k : Nat) (lo : Nat), MH κ a b out (lo + k) nb → (∀ i, ∀ hi : i < a.size, lo ≤ i → i < lo + k → ∀ y ∈ b.toList.take nb, Le κ y a[i]) → MH κ a b (out ++ (a.extract lo (lo + k)).reverse) lo nb
  | 0, lo, h, _ => by
    have e : out ++ (a.extract lo (lo + 0)).reverse = out := by simp [Nat.min_le_left]
    rw [e]; exact h
  | k + 1, lo, h, hle => by
    have hsz := h.ha
    have ih := MH.bulkA sa k (lo + 1) (by rw [show lo + 1 + k = lo + (k + 1) by (with_reducible exact Ln.o177)]; exact h) (fun i hi h1 h2 => hle i hi (by (with_reducible exact Ln.o115 ‹_›)) (by (with_reducible exact Ln.o179 ‹_›)))
    have := ih.pushA (by (with_reducible exact Ln.o163 ‹_›)) sa (hle lo (by (with_reducible exact Ln.o163 ‹_›)) (Nat.le_refl _) (by (with_reducible exact Ln.o162)))
    rw [rev_push out (by (with_reducible exact Ln.o162)) hsz]
    rw [show lo + 1 + k = lo + (k + 1) by (with_reducible exact Ln.o177)] at this
    exact this
theorem MH.bulkB (sb : Srtd κ b) : ∀ (k : Nat) (lo : Nat), MH κ a b out na (lo + k) → (∀ i, ∀ hi : i < b.size, lo ≤ i → i < lo + k → ∀ y ∈ a.toList.take na, Le κ y b[i]) → MH κ a b (out ++ (b.extract lo (lo + k)).reverse) na lo
  | 0, lo, h, _ => by
    have e : out ++ (b.extract lo (lo + 0)).reverse = out := by simp [Nat.min_le_left]
    rw [e]; exact h
  | k + 1, lo, h, hle => by
    have hsz := h.hb
    have ih := MH.bulkB sb k (lo + 1) (by rw [show lo + 1 + k = lo + (k + 1) by (with_reducible exact Ln.o177)]; exact h) (fun i hi h1 h2 => hle i hi (by (with_reducible exact Ln.o115 ‹_›)) (by (with_reducible exact Ln.o179 ‹_›)))
    have := ih.pushB (by (with_reducible exact Ln.o163 ‹_›)) sb (hle lo (by (with_reducible exact Ln.o163 ‹_›)) (Nat.le_refl _) (by (with_reducible exact Ln.o162)))
    rw [rev_push out (by (with_reducible exact Ln.o162)) hsz]
    rw [show lo + 1 + k = lo + (k + 1) by (with_reducible exact Ln.o177)] at this
    exact this

theorem extract_take {α : Type} (xs : Array α) (i : Nat) : (xs.extract 0 i).toList = xs.toList.take i := by
  rw [Array.toList_extract]
  simp only [List.extract_eq_take_drop, Nat.sub_zero, List.drop_zero]

theorem MH.all (h : MH κ a b out na nb) : ((a.toList.take na ++ b.toList.take nb) ++ out.toList.reverse).Perm (a.toList ++ b.toList) := by
  have h1 := ((List.reverse_perm out.toList).trans h.perm).append_left (a.toList.take na ++ b.toList.take nb)
  refine h1.trans ?_
  have e : a.toList ++ b.toList = (a.toList.take na ++ a.toList.drop na) ++ (b.toList.take nb ++ b.toList.drop nb) := by rw [List.take_append_drop, List.take_append_drop]
  rw [e, List.append_assoc, List.append_assoc]
  refine List.Perm.append_left _ ?_
  rw [← List.append_assoc, ← List.append_assoc]
  exact List.Perm.append_right _ List.perm_append_comm

theorem MH.done (h : MH κ a b out na nb) (sa : Srtd κ a) (sb : Srtd κ b) (he : na = 0 ∨ nb = 0) : Mrg κ a b (hiDone a b out na nb) := by
  unfold Mrg Srtd hiDone
  rw [Array.toList_append, Array.toList_append, extract_take, extract_take, Array.toList_reverse]
  refine ⟨h.all, List.pairwise_append.mpr ⟨?_, List.pairwise_reverse.mpr h.sorted, fun x hx y hy => (List.mem_append.mp hx).elim (h.highA y (List.mem_reverse.mp hy) x) (h.highB y (List.mem_reverse.mp hy) x)⟩⟩
  rcases he with rfl | rfl
  · rw [List.take_zero, List.nil_append]; exact srtd_take sb nb
  · rw [List.take_zero, List.append_nil]; exact srtd_take sa na
theorem MH.first (h : MH κ a b out na nb) (sa : Srtd κ a) (nb0 : 0 < b.size) (he : nb = 1) (hl : ∀ y ∈ a.toList, Le κ b[0] y) : Mrg κ a b (hiFirst a b out na nb) := by
  subst he
  unfold Mrg Srtd hiFirst
  have e1 : b.toList.take 1 = [b[0]] := by
    have := take_snoc (xs := b) (i := 0) nb0
    simpa using this
  rw [Array.toList_append, Array.toList_append, extract_take, extract_take, Array.toList_reverse]
  refine ⟨(List.Perm.append_right _ List.perm_append_comm).trans h.all, List.pairwise_append.mpr ⟨?_, List.pairwise_reverse.mpr h.sorted, fun x hx y hy => (List.mem_append.mp hx).elim (h.highB y (List.mem_reverse.mp hy) x) (h.highA y (List.mem_reverse.mp hy) x)⟩⟩
  refine List.pairwise_append.mpr ⟨by rw [e1]; exact List.pairwise_singleton _ _, srtd_take sa na, fun x hx y hy => ?_⟩
  rw [e1, List.mem_singleton] at hx
  subst hx
  exact hl y (List.mem_of_mem_take hy)
end

section
variable {prog : Program} {w : World} {A : Around} {E : Value → Shared → Prop} {s : Shared} {κ : KKind} {a b : Array Keyed}

structure HiAt (κ : KKind) (a b out : Array Keyed) (na nb m : Nat) : Prop extends MH κ a b out na nb where
  ja : 0 < na
  jb : 1 < nb
  hm : na + nb + m ≤ a.size + b.size

noncomputable def HiFinA (κ : KKind) (a b : Array Keyed) (c : HiA) : Prop := ∃ r, c.fst = some r ∧ Mrg κ a b r
noncomputable def HiGoA (κ : KKind) (a b : Array Keyed) (m : Nat) (c : HiA) : Prop := c.fst = none ∧ HiAt κ a b c.snd.snd.snd.fst c.snd.fst c.snd.snd.fst m
noncomputable def HiFinB (κ : KKind) (a b : Array Keyed) (c : HiB) : Prop := ∃ r, c.fst = some r ∧ Mrg κ a b r
noncomputable def HiGoB (κ : KKind) (a b : Array Keyed) (m : Nat) (c : HiB) : Prop := c.fst = none ∧ HiAt κ a b c.snd.snd.snd.fst c.snd.fst c.snd.snd.fst m
noncomputable def hstepA (κ : KKind) (a b : Array Keyed) (m : Nat) : ForInStep HiA → Prop
  | .done c => HiFinA κ a b c ∨ HiGoA κ a b m c
  | .yield c => HiGoA κ a b m c
noncomputable def hstepB (κ : KKind) (a b : Array Keyed) (m : Nat) : ForInStep HiB → Prop
  | .done c => HiFinB κ a b c ∨ HiGoB κ a b m c
  | .yield c => HiGoB κ a b m c

theorem wpS_hiTurn (H : LoHyp κ a b) {st : SortSt} {mg m : Nat} {out : Array Keyed} {na nb ac bc : Nat} (hk : kindOf st = oneType') (h : HiAt κ a b out na nb m) :
    wpS (model prog w) A E s (hiTurn a b mg na nb out ac bc) (fun r st' => SameSt st st' ∧ hstepA κ a b (m + 1) r) st := by
  have ja := h.ja
  have jb := h.jb
  have hm := h.hm
  have za := h.ha
  have zb := h.hb
  obtain ⟨na, rfl⟩ : ∃ k, na = k + 1 := ⟨na - 1, by (with_reducible exact Ln.o164 ‹_›)⟩
  obtain ⟨nb, rfl⟩ : ∃ k, nb = k + 1 := ⟨nb - 1, by (with_reducible exact Ln.o193 ‹_›)⟩
  unfold hiTurn
  simp only [Nat.add_sub_cancel]
  refine wpS_bind (wpS_elemAt (by (with_reducible exact Ln.o168 ‹_›) : nb < b.size) (wpS_bind (wpS_elemAt (by (with_reducible exact Ln.o168 ‹_›) : na < a.size) (wpS_bind (wpS_lt1 H.hO hk (keyOf_kf H.kb _) (keyOf_kf H.ka _) ?_)))))
  cases hb : κ.blt (kf κ b[nb]) (kf κ a[na])
  · simp only [Bool.false_eq_true, if_false]
    refine wpS_bind (wpS_elemAt (by (with_reducible exact Ln.o168 ‹_›) : nb < b.size) ?_)
    have h' := h.toMH.pushB (by (with_reducible exact Ln.o168 ‹_›)) H.sb (fun y hy => by
      obtain ⟨j, hj, hij, rfl⟩ := mem_take_at hy
      exact Le.trans (srtd_at H.sa (by (with_reducible exact Ln.o169 ‹_›)) (by (with_reducible exact Ln.o168 ‹_›))) (show Le κ a[na] b[nb] from hb))
    split
    · rename_i e
      exact wpS_pure ⟨SameSt.refl _, .inl ⟨_, rfl, h'.first H.sa H.nb (by simpa using e) H.first⟩⟩
    · rename_i e
      have ne : ¬ nb = 1 := by simpa using e
      have go : HiAt κ a b (out.push b[nb]) (na + 1) nb (m + 1) := ⟨h', by (with_reducible exact Ln.o179 ‹_›), by (with_reducible exact Ln.o191 ‹_› ‹_›), by (with_reducible exact Ln.o171 ‹_›)⟩
      split
      · exact wpS_pure ⟨SameSt.refl _, .inr ⟨rfl, go⟩⟩
      · exact wpS_pure ⟨SameSt.refl _, ⟨rfl, go⟩⟩
  · simp only [if_true]
    refine wpS_bind (wpS_elemAt (by (with_reducible exact Ln.o168 ‹_›) : na < a.size) ?_)
    have h' := h.toMH.pushA (by (with_reducible exact Ln.o168 ‹_›)) H.sa (fun y hy => by
      obtain ⟨j, hj, hij, rfl⟩ := mem_take_at hy
      exact Le.trans (srtd_at H.sb (by (with_reducible exact Ln.o169 ‹_›)) (by (with_reducible exact Ln.o168 ‹_›))) (show Le κ b[nb] a[na] from KeyOrd.kle_of_klt hb))
    split
    · rename_i e
      exact wpS_pure ⟨SameSt.refl _, .inl ⟨_, rfl, h'.done H.sa H.sb (.inl (by simpa using e))⟩⟩
    · rename_i e
      have ne : ¬ na = 0 := by simpa using e
      have go : HiAt κ a b (out.push a[na]) na (nb + 1) (m + 1) := ⟨h', by (with_reducible exact Ln.o170 ‹_›), by (with_reducible exact Ln.o180 ‹_›), by (with_reducible exact Ln.o183 ‹_›)⟩
      split
      · exact wpS_pure ⟨SameSt.refl _, .inr ⟨rfl, go⟩⟩
      · exact wpS_pure ⟨SameSt.refl _, ⟨rfl, go⟩⟩

theorem wpS_hiOne (H : LoHyp κ a b) {st : SortSt} {n mg m : Nat} {out : Array Keyed} {na nb : Nat} (hk : kindOf st = oneType') (hn : 0 < n) (h : HiAt κ a b out na nb m) :
    wpS (model prog w) A E s (hiOne a b n mg na nb out) (fun c st' => SameSt st st' ∧ (HiFinA κ a b c ∨ HiGoA κ a b (m + 1) c)) st := by
  unfold hiOne
  refine wpS_forRange (I := fun x c st' => SameSt st st' ∧ HiGoA κ a b (m + x) c) ?_ ?_ ⟨SameSt.refl _, rfl, h⟩
  · rintro x c st' _ hx ⟨hs, hc, hg⟩
    refine wpS_mono (wpS_hiTurn H (hs.kind.trans hk) hg) fun r st'' hr => ?_
    obtain ⟨hs', hr⟩ := hr
    cases r with
    | done c' =>
      refine ⟨hs.trans hs', hr.imp id fun ⟨e, g⟩ => ⟨e, g.toMH, g.ja, g.jb, ?_⟩⟩
      have := g.hm; (with_reducible exact Ln.o167 ‹_›)
    | yield c' => exact ⟨hs.trans hs', hr⟩
  · rintro c st' ⟨hs, e, g⟩
    exact ⟨hs, .inr ⟨e, g.toMH, g.ja, g.jb, by have := g.hm; (with_reducible exact Ln.o194 ‹_› ‹_›)⟩⟩

theorem wpS_hiG3 (H : LoHyp κ a b) {st : SortSt} {g k k1 m : Nat} {out : Array Keyed} {na nb : Nat} (h : MH κ a b out na nb) (ja : 0 < na) (jb : 1 < nb) (hm : na + nb + m ≤ a.size + b.size)
    (hle : ∀ y ∈ b.toList.take nb, Le κ y (a[na - 1]'(by have := h.ha; (with_reducible exact Ln.o174 ‹_› ‹_›)))) :
    wpS (model prog w) A E s (hiG3 a b g k k1 na nb out) (fun r st' => SameSt st st' ∧ hstepB κ a b m r) st := by
  have za := h.ha
  obtain ⟨na, rfl⟩ : ∃ k, na = k + 1 := ⟨na - 1, by (with_reducible exact Ln.o164 ‹_›)⟩
  unfold hiG3
  simp only [Nat.add_sub_cancel] at hle ⊢
  refine wpS_bind (wpS_elemAt (by (with_reducible exact Ln.o168 ‹_›) : na < a.size) ?_)
  have h' := h.pushA (by (with_reducible exact Ln.o168 ‹_›)) H.sa hle
  split
  · rename_i e
    exact wpS_pure ⟨SameSt.refl _, .inl ⟨_, rfl, h'.done H.sa H.sb (.inl (by simpa using e))⟩⟩
  · rename_i e
    have ne : ¬ na = 0 := by simpa using e
    have go : HiAt κ a b (out.push a[na]) na nb m := ⟨h', by (with_reducible exact Ln.o170 ‹_›), by omega, by (with_reducible exact Ln.o189 ‹_›)⟩
    split
    · exact wpS_pure ⟨SameSt.refl _, .inr ⟨rfl, go⟩⟩
    · exact wpS_pure ⟨SameSt.refl _, ⟨rfl, go⟩⟩

theorem wpS_hiG2 (H : LoHyp κ a b) {st : SortSt} {g k m : Nat} {out : Array Keyed} {na nb bc : Nat} (hk : kindOf st = oneType') (h : MH κ a b out na nb) (ja : 0 < na) (jb : 1 < nb) (hm : na + nb + m ≤ a.size + b.size)
    (hle : ∀ y ∈ a.toList.take na, Le κ y (b[nb - 1]'(by have := h.hb; (with_reducible exact Ln.o173 ‹_› ‹_›)))) :
    wpS (model prog w) A E s (hiG2 a b g k na nb out bc) (fun r st' => SameSt st st' ∧ hstepB κ a b m r) st := by
  have za := h.ha
  have zb := h.hb
  obtain ⟨nb, rfl⟩ : ∃ k, nb = k + 1 := ⟨nb - 1, by (with_reducible exact Ln.o193 ‹_›)⟩
  unfold hiG2
  simp only [Nat.add_sub_cancel] at hle ⊢
  refine wpS_bind (wpS_elemAt (by (with_reducible exact Ln.o168 ‹_›) : nb < b.size) ?_)
  have h' := h.pushB (by (with_reducible exact Ln.o168 ‹_›)) H.sb hle
  split
  · rename_i e
    exact wpS_pure ⟨SameSt.refl _, .inl ⟨_, rfl, h'.first H.sa H.nb (by simpa using e) H.first⟩⟩
  · rename_i e
    have ne : ¬ nb = 1 := by simpa using e
    refine wpS_bind (wpS_elemAt (by (with_reducible exact Ln.o174 ‹_› ‹_›) : na - 1 < a.size) (wpS_bind (wpS_gallop H.hO hk H.kb (keyOf_kf H.ka _) (by (with_reducible exact Ln.o188 ‹_›)) (by (with_reducible exact Ln.o184 ‹_›)) (segS_of H.sb (by (with_reducible exact Ln.o188 ‹_›))) fun at1 hk1 h1 h2 => ?_)))
    dsimp only
    have high : ∀ i, ∀ hi : i < b.size, at1 ≤ i → i < at1 + (nb - at1) → ∀ y ∈ a.toList.take na, Le κ y b[i] := fun i hi g1 g2 y hy => by
      obtain ⟨j, hj, hij, rfl⟩ := mem_take_at hy
      have := bey_true' (h2 i g1 (by (with_reducible exact Ln.o192 ‹_› ‹_›)))
      rw [KK_kf (by (with_reducible exact Ln.o180 ‹_›))] at this
      simp only [Nat.zero_add] at this
      exact Le.trans (srtd_at H.sa (by (with_reducible exact Ln.o175 ‹_›)) (by (with_reducible exact Ln.o174 ‹_› ‹_›))) (show Le κ a[na - 1] b[i] from this)
    have h'' := MH.bulkB H.sb (nb - at1) at1 (by rw [show at1 + (nb - at1) = nb by (with_reducible exact Ln.o18 ‹_›)]; exact h') high
    rw [show at1 + (nb - at1) = nb by (with_reducible exact Ln.o18 ‹_›)] at h''
    have low : ∀ y ∈ b.toList.take at1, Le κ y (a[na - 1]'(by (with_reducible exact Ln.o174 ‹_› ‹_›))) := fun y hy => by
      obtain ⟨j, hj, hij, rfl⟩ := mem_take_at hy
      have := bey_true (h1 j hij)
      rw [KK_kf (by (with_reducible exact Ln.o180 ‹_›))] at this
      simp only [Nat.zero_add] at this
      exact KeyOrd.kle_of_klt this
    split
    · split
      · rename_i e2
        exact wpS_pure ⟨SameSt.refl _, .inl ⟨_, rfl, h''.first H.sa H.nb (by simpa using e2) H.first⟩⟩
      · rename_i e2
        have ne2 : ¬ at1 = 1 := by simpa using e2
        split
        · rename_i e3
          exact wpS_pure ⟨SameSt.refl _, .inl ⟨_, rfl, h''.done H.sa H.sb (.inr (by simpa using e3))⟩⟩
        · rename_i e3
          have ne3 : ¬ at1 = 0 := by simpa using e3
          exact wpS_hiG3 H h'' ja (by (with_reducible exact Ln.o195 ‹_› ‹_›)) (by (with_reducible exact Ln.o185 ‹_› ‹_›)) low
    · rename_i hz
      have hz' : at1 = nb := by (with_reducible exact Ln.o178 ‹_› ‹_›)
      subst hz'
      exact wpS_hiG3 H h' ja (by (with_reducible exact Ln.o191 ‹_› ‹_›)) (by (with_reducible exact Ln.o187 ‹_›)) low

theorem wpS_hiG1 (H : LoHyp κ a b) {st : SortSt} {g m : Nat} {out : Array Keyed} {na nb ac bc : Nat} (hk : kindOf st = oneType') (h : HiAt κ a b out na nb m) :
    wpS (model prog w) A E s (hiG1 a b g na nb out ac bc) (fun r st' => SameSt st st' ∧ hstepB κ a b m r) st := by
  have ja := h.ja
  have jb := h.jb
  have hm := h.hm
  have za := h.ha
  have zb := h.hb
  unfold hiG1
  refine wpS_bind (wpS_setMG fun st1 hs1 => wpS_bind (wpS_elemAt (by (with_reducible exact Ln.o173 ‹_› ‹_›) : nb - 1 < b.size) (wpS_bind (wpS_gallop H.hO (hs1.kind.trans hk) H.ka (keyOf_kf H.kb _) (by (with_reducible exact Ln.o166 ‹_›)) (by (with_reducible exact Ln.o124 ‹_›)) (segS_of H.sa (by (with_reducible exact Ln.o166 ‹_›))) fun at0 hk1 h1 h2 => ?_))))
  dsimp only
  refine wpS_same hs1 ?_
  have high : ∀ i, ∀ hi : i < a.size, at0 ≤ i → i < at0 + (na - at0) → ∀ y ∈ b.toList.take nb, Le κ y a[i] := fun i hi g1 g2 y hy => by
    obtain ⟨j, hj, hij, rfl⟩ := mem_take_at hy
    have := bey_false' (h2 i g1 (by (with_reducible exact Ln.o192 ‹_› ‹_›)))
    rw [KK_kf (by (with_reducible exact Ln.o180 ‹_›))] at this
    simp only [Nat.zero_add] at this
    exact Le.trans (srtd_at H.sb (by (with_reducible exact Ln.o175 ‹_›)) (by (with_reducible exact Ln.o173 ‹_› ‹_›))) (show Le κ b[nb - 1] a[i] from KeyOrd.kle_of_klt this)
  have h'' := MH.bulkA H.sa (na - at0) at0 (by rw [show at0 + (na - at0) = na by (with_reducible exact Ln.o18 ‹_›)]; exact h.toMH) high
  rw [show at0 + (na - at0) = na by (with_reducible exact Ln.o18 ‹_›)] at h''
  have low : ∀ y ∈ a.toList.take at0, Le κ y (b[nb - 1]'(by (with_reducible exact Ln.o173 ‹_› ‹_›))) := fun y hy => by
    obtain ⟨j, hj, hij, rfl⟩ := mem_take_at hy
    have := bey_false (h1 j hij)
    rw [KK_kf (by (with_reducible exact Ln.o180 ‹_›))] at this
    simp only [Nat.zero_add] at this
    exact this
  split
  · split
    · rename_i e3
      exact wpS_pure ⟨SameSt.refl _, .inl ⟨_, rfl, h''.done H.sa H.sb (.inl (by simpa using e3))⟩⟩
    · rename_i e3
      have ne3 : ¬ at0 = 0 := by simpa using e3
      exact wpS_hiG2 H (hs1.kind.trans hk) h'' (by (with_reducible exact Ln.o170 ‹_›)) jb (by (with_reducible exact Ln.o181 ‹_› ‹_›)) low
  · rename_i hz
    have hz' : at0 = na := by (with_reducible exact Ln.o178 ‹_› ‹_›)
    subst hz'
    exact wpS_hiG2 H (hs1.kind.trans hk) h.toMH ja jb (by (with_reducible exact Ln.o181 ‹_› ‹_›)) low

theorem wpS_hiTwo (H : LoHyp κ a b) {st : SortSt} {n m : Nat} {out : Array Keyed} {na nb g ac bc : Nat} (hk : kindOf st = oneType') (h : HiAt κ a b out na nb m) :
    wpS (model prog w) A E s (hiTwo a b n na nb out g ac bc) (fun c st' => SameSt st st' ∧ (HiFinB κ a b c ∨ HiGoB κ a b m c)) st := by
  unfold hiTwo
  refine wpS_forRange (I := fun _ c st' => SameSt st st' ∧ HiGoB κ a b m c) ?_ ?_ ⟨SameSt.refl _, rfl, h⟩
  · rintro x c st' _ hx ⟨hs, hc, hg⟩
    have key : ∀ g', wpS (model prog w) A E s (hiG1 a b g' c.snd.fst c.snd.snd.fst c.snd.snd.snd.fst c.snd.snd.snd.snd.snd.fst c.snd.snd.snd.snd.snd.snd)
        (fun r st'' => match r with | .done c' => SameSt st st'' ∧ (HiFinB κ a b c' ∨ HiGoB κ a b m c') | .yield c' => SameSt st st'' ∧ HiGoB κ a b m c') st' := fun g' =>
      wpS_mono (wpS_hiG1 H (hs.kind.trans hk) hg) fun r st'' hr => by
        obtain ⟨hs', hr⟩ := hr
        cases r with
        | done c' => exact ⟨hs.trans hs', hr⟩
        | yield c' => exact ⟨hs.trans hs', hr⟩
    split
    · exact wpS_mono (key _) fun r st'' hr => by cases r <;> exact hr
    · exact wpS_mono (key _) fun r st'' hr => by cases r <;> exact hr
  · rintro c st' ⟨hs, g⟩
    exact ⟨hs, .inr g⟩

theorem wpS_mergeHi (H : LoHyp κ a b) {st : SortSt} (hk : kindOf st = oneType') :
    wpS (model prog w) A E s (mergeHi' a b) (fun r st' => SameSt st st' ∧ Mrg κ a b r) st := by
  have na := H.na
  have nb := H.nb
  rw [mergeHi'_eq]
  refine wpS_bind (wpS_lift (wpAny_rule ⟨rfl, wpS_bind (wpS_elemAt (by (with_reducible exact Ln.o124 ‹_›) : a.size - 1 < a.size) ?_)⟩))
  have m0 : MH κ a b #[] (a.size - 1 + 1) b.size := by
    refine ⟨by (with_reducible exact Ln.o172 ‹_›), by (with_reducible exact Ln.o56), ?_, by simp, by simp, by simp⟩
    rw [show a.size - 1 + 1 = a.size by (with_reducible exact Ln.o182 ‹_›), List.drop_of_length_le (by simp), List.drop_of_length_le (by simp)]
    exact List.Perm.nil
  have m1 : MH κ a b #[a[a.size - 1]] (a.size - 1) b.size := m0.pushA (by (with_reducible exact Ln.o124 ‹_›)) H.sa (fun y hy => H.last y (List.mem_of_mem_take hy))
  split
  · rename_i e
    exact wpS_pure ⟨SameSt.refl _, m1.done H.sa H.sb (.inl (by simpa using e))⟩
  · rename_i e
    have ne : ¬ a.size - 1 = 0 := by simpa using e
    split
    · rename_i e2
      exact wpS_pure ⟨SameSt.refl _, m1.first H.sa H.nb (by simpa using e2) H.first⟩
    · rename_i e2
      have ne2 : ¬ b.size = 1 := by simpa using e2
      refine wpS_bind (wpS_get (wpS_bind (wpS_mono (wpS_forRange
        (I := fun x c st' => SameSt st st' ∧ c.fst = none ∧ HiAt κ a b c.snd.snd.snd.fst c.snd.fst c.snd.snd.fst (x + 1))
        (Q := fun c st' => SameSt st st' ∧ ∃ r, c.fst = some r ∧ Mrg κ a b r) ?step ?fin ⟨SameSt.refl _, rfl, (⟨m1, by (with_reducible exact Ln.o170 ‹_›), by (with_reducible exact Ln.o165 ‹_› ‹_›), by (with_reducible exact Ln.o176 ‹_›)⟩ : HiAt κ a b #[a[a.size - 1]] (a.size - 1) b.size 1)⟩) ?post)))
      case fin =>
        rintro c st' ⟨hs, hc, hg⟩
        have h1 := hg.hm
        have h2 := hg.ja
        have h3 := hg.jb
        (with_reducible exact (Ln.o186 ‹_›).elim)
      case post =>
        rintro c st' ⟨hs, r, hr, hM⟩
        rw [hr]
        exact wpS_pure ⟨hs, hM⟩
      case step =>
        rintro x c st' _ hx ⟨hs, hc, hg⟩
        unfold hiOuter
        refine wpS_bind (wpS_mono (wpS_hiOne H (hs.kind.trans hk) (by (with_reducible exact Ln.o149 ‹_›)) hg) fun d st1 hd => ?_)
        obtain ⟨hs1, hd⟩ := hd
        rcases hd with ⟨r, er, hM⟩ | ⟨en, hg1⟩
        · rw [er]
          exact wpS_pure ⟨hs.trans hs1, r, rfl, hM⟩
        · rw [en]
          refine wpS_bind (wpS_lift (wpAny_rule ⟨rfl, wpS_bind (wpS_mono (wpS_hiTwo H ((hs.trans hs1).kind.trans hk) hg1) fun e st2 he => ?_)⟩))
          obtain ⟨hs2, he⟩ := he
          rcases he with ⟨r, er, hM⟩ | ⟨en2, hg2⟩
          · rw [er]
            exact wpS_pure ⟨(hs.trans hs1).trans hs2, r, rfl, hM⟩
          · rw [en2]
            exact wpS_bind (wpS_setMG fun st3 hs3 => wpS_pure ⟨((hs.trans hs1).trans hs2).trans hs3, rfl, hg2⟩)
end
end Mine.Srt
end
section
open PySem PyProof.Rows
set_option autoImplicit false
set_option maxRecDepth 100000
namespace Mine.Srt

section over
variable {α : Type}
noncomputable def over (l : List α) (k lo : Nat) (arr : Array α) : Array α := (l.zipIdx k).foldl (fun a (x : α × Nat) => match x with | (p, j) => a.setIfInBounds (lo + j) p) arr
theorem over_nil (k lo : Nat) (arr : Array α) : over [] k lo arr = arr := rfl
theorem over_cons (x : α) (l : List α) (k lo : Nat) (arr : Array α) : over (x :: l) k lo arr = over l (k + 1) lo (arr.setIfInBounds (lo + k) x) := rfl
theorem over_get : ∀ (l : List α) (k lo : Nat) (arr : Array α), lo + k + l.length ≤ arr.size → ∀ i : Nat,
    (over l k lo arr)[i]? = if lo + k ≤ i ∧ i < lo + k + l.length then l[i - (lo + k)]? else arr[i]?
  | [], k, lo, arr, _, i => by rw [over_nil, if_neg (by simp only [List.length_nil]; (with_reducible exact Ln.o203))]
  | x :: l, k, lo, arr, h, i => by
    simp only [List.length_cons] at h ⊢
    rw [over_cons, over_get l (k + 1) lo _ (by rw [Array.size_setIfInBounds]; (with_reducible exact Ln.o198 ‹_›))]
    by_cases h1 : lo + (k + 1) ≤ i ∧ i < lo + (k + 1) + l.length
    · rw [if_pos h1, if_pos (by (with_reducible exact Ln.o210 ‹_›))]
      rw [show i - (lo + k) = (i - (lo + (k + 1))) + 1 by (with_reducible exact Ln.o213 ‹_›)]
      rfl
    · rw [if_neg h1, Array.getElem?_setIfInBounds]
      by_cases h2 : lo + k = i
      · subst h2
        rw [if_pos rfl, if_pos (by (with_reducible exact Ln.o206 ‹_›)), if_pos (by (with_reducible exact Ln.o204)), Nat.sub_self]
        rfl
      · rw [if_neg h2, if_neg (by (with_reducible exact Ln.o197 ‹_› ‹_›))]
end over

noncomputable def Chain : List (Nat × Nat) → Nat → Nat → Prop
  | [], a, b => a = b
  | t :: r, a, b => t.1 = a ∧ 1 ≤ t.2 ∧ Chain r (a + t.2) b
noncomputable def RunsOK (κ : KKind) (xs : Array Keyed) (l : List (Nat × Nat)) : Prop := ∀ t ∈ l, SegS κ xs t.1 (t.1 + t.2)
noncomputable def pr (p : Array (Nat × Nat × Nat)) : List (Nat × Nat) := p.toList.map fun t => (t.1, t.2.1)

theorem Chain.append : ∀ {l l' : List (Nat × Nat)} {a b : Nat}, Chain (l ++ l') a b ↔ ∃ c, Chain l a c ∧ Chain l' c b
  | [], l', a, b => ⟨fun h => ⟨a, rfl, h⟩, fun ⟨c, h, h'⟩ => by cases h; exact h'⟩
  | t :: l, l', a, b => by
    constructor
    · rintro ⟨h1, h2, h3⟩
      obtain ⟨c, h4, h5⟩ := Chain.append.mp h3
      exact ⟨c, ⟨h1, h2, h4⟩, h5⟩
    · rintro ⟨c, ⟨h1, h2, h4⟩, h5⟩
      exact ⟨h1, h2, Chain.append.mpr ⟨c, h4, h5⟩⟩
theorem Chain.le : ∀ {l : List (Nat × Nat)} {a b : Nat}, Chain l a b → a + l.length ≤ b
  | [], a, b, h => by cases h; simp
  | t :: l, a, b, ⟨_, h2, h3⟩ => by have := h3.le; simp only [List.length_cons]; (with_reducible exact Ln.o207 ‹_› ‹_›)
theorem Chain.mem : ∀ {l : List (Nat × Nat)} {a b : Nat}, Chain l a b → ∀ t ∈ l, a ≤ t.1 ∧ t.1 + t.2 ≤ b
  | t :: l, a, b, ⟨h1, h2, h3⟩, u, hu => by
    rcases List.mem_cons.mp hu with rfl | hu
    · have := h3.le; (with_reducible exact Ln.o211 ‹_› ‹_›)
    · have := h3.mem u hu; (with_reducible exact Ln.o205 ‹_›)

theorem pr_modify (p : Array (Nat × Nat × Nat)) (i pw : Nat) : pr (p.modify i fun (x : Nat × Nat × Nat) => match x with | (st, len, _) => (st, len, pw)) = pr p := by
  unfold pr
  apply List.ext_getElem?
  intro j
  simp only [List.getElem?_map, Array.getElem?_toList, Array.getElem?_modify]
  split
  · cases p[j]? <;> rfl
  · rfl
theorem pr_push (p : Array (Nat × Nat × Nat)) (x : Nat × Nat × Nat) : pr (p.push x) = pr p ++ [(x.1, x.2.1)] := by unfold pr; simp
theorem pr_len (p : Array (Nat × Nat × Nat)) : (pr p).length = p.size := by unfold pr; simp
theorem pr_at {p : Array (Nat × Nat × Nat)} {pre post : List (Nat × Nat)} {x y : Nat × Nat} (h : pr p = pre ++ x :: y :: post) :
    ∃ pw pw', p[pre.length]? = some (x.1, x.2, pw) ∧ p[pre.length + 1]? = some (y.1, y.2, pw') := by
  have h1 : (pr p)[pre.length]? = some x := by rw [h]; simp
  have h2 : (pr p)[pre.length + 1]? = some y := by rw [h]; simp
  unfold pr at h1 h2
  rw [List.getElem?_map, Array.getElem?_toList] at h1 h2
  obtain ⟨t, ht, e1⟩ := Option.map_eq_some_iff.mp h1
  obtain ⟨u, hu, e2⟩ := Option.map_eq_some_iff.mp h2
  subst e1 e2
  exact ⟨t.2.2, u.2.2, ht, hu⟩
theorem pr_merge {p : Array (Nat × Nat × Nat)} {pre post : List (Nat × Nat)} {x y : Nat × Nat} (pw : Nat) (n : Nat) (h : pr p = pre ++ x :: y :: post) :
    pr ((p.setIfInBounds pre.length (x.1, n, pw)).eraseIdxIfInBounds (pre.length + 1)) = pre ++ (x.1, n) :: post := by
  have hl : p.size = pre.length + (post.length + 2) := by rw [← pr_len, h]; simp
  unfold pr
  have e1 : ((p.setIfInBounds pre.length (x.1, n, pw)).eraseIdxIfInBounds (pre.length + 1)).toList = (p.toList.set pre.length (x.1, n, pw)).eraseIdx (pre.length + 1) := by
    rw [Array.eraseIdxIfInBounds]
    rw [dif_pos (by rw [Array.size_setIfInBounds]; (with_reducible exact Ln.o209 ‹_›))]
    simp
  rw [e1]
  have e2 : ∀ l : List (Nat × Nat × Nat), (l.eraseIdx (pre.length + 1)).map (fun t => (t.1, t.2.1)) = (l.map (fun t => (t.1, t.2.1))).eraseIdx (pre.length + 1) := fun l => by
    apply List.ext_getElem?
    intro j
    simp only [List.getElem?_map, List.getElem?_eraseIdx]
    split <;> rfl
  rw [e2, List.map_set]
  have h' : p.toList.map (fun t => (t.1, t.2.1)) = pre ++ x :: y :: post := h
  rw [h', List.set_append_right _ _ (Nat.le_refl _), Nat.sub_self]
  rw [List.eraseIdx_append_of_length_le (by (with_reducible exact Ln.o79))]
  rw [show pre.length + 1 - pre.length = 1 by (with_reducible exact Ln.o200)]
  rfl

theorem seg_join {κ : KKind} {xs : Array Keyed} {lo mid hi : Nat} (h1 : SegS κ xs lo mid) (h2 : SegS κ xs mid hi) (h : ∀ i j, lo ≤ i → i < mid → mid ≤ j → j < hi → κ.kle (KK κ xs i) (KK κ xs j)) : SegS κ xs lo hi := by
  intro i j hli hij hj
  by_cases a : j < mid
  · exact h1 i j hli hij a
  · by_cases b : i < mid
    · exact h i j hli b (by (with_reducible exact Ln.o202 ‹_›)) hj
    · exact h2 i j (by (with_reducible exact Ln.o202 ‹_›)) hij hj
theorem seg_congr {κ : KKind} {xs ys : Array Keyed} {lo hi : Nat} (h : SegS κ xs lo hi) (e : ∀ i, lo ≤ i → i < hi → KK κ ys i = KK κ xs i) : SegS κ ys lo hi := by
  intro i j hli hij hj
  rw [e i hli (by (with_reducible exact Ln.o154 ‹_› ‹_›)), e j (by (with_reducible exact Ln.o44 ‹_› ‹_›)) hj]
  exact h i j hli hij hj

theorem extract_at {α : Type} {xs : Array α} {lo hi i : Nat} (h : i < (xs.extract lo hi).size) : ∃ hq : lo + i < xs.size, lo + i < hi ∧ (xs.extract lo hi)[i] = xs[lo + i] := by
  have h' : i < min hi xs.size - lo := by rw [Array.size_extract] at h; exact h
  exact ⟨by (with_reducible exact Ln.o208 ‹_›), by (with_reducible exact Ln.o201 ‹_›), by simp⟩
theorem mem_extract {α : Type} {xs : Array α} {lo hi : Nat} {y : α} (h : y ∈ (xs.extract lo hi).toList) : ∃ q, ∃ hq : q < xs.size, lo ≤ q ∧ q < hi ∧ y = xs[q] := by
  obtain ⟨i, hi', rfl⟩ := List.mem_iff_getElem.mp h
  have hi'' : i < (xs.extract lo hi).size := by rw [← Array.length_toList]; exact hi'
  obtain ⟨h1, h2, h3⟩ := extract_at hi''
  exact ⟨lo + i, h1, by (with_reducible exact Ln.o79), h2, by rw [← h3]; simp⟩
theorem srtd_extract {κ : KKind} {xs : Array Keyed} {lo hi : Nat} (hs : SegS κ xs lo hi) : Srtd κ (xs.extract lo hi) := by
  unfold Srtd
  rw [List.pairwise_iff_getElem]
  intro i j hi' hj' hij
  have a1 : i < (xs.extract lo hi).size := by rw [← Array.length_toList]; exact hi'
  have a2 : j < (xs.extract lo hi).size := by rw [← Array.length_toList]; exact hj'
  obtain ⟨h1, h2, h3⟩ := extract_at a1
  obtain ⟨h4, h5, h6⟩ := extract_at a2
  rw [Array.getElem_toList, Array.getElem_toList, h3, h6]
  have := hs (lo + i) (lo + j) (by (with_reducible exact Ln.o79)) (by (with_reducible exact Ln.o212 ‹_›)) h5
  rw [KK_kf h1, KK_kf h4] at this
  exact this

theorem iteEq {α : Type} {c : Prop} [Decidable c] {a a' b b' : α} (h : a = a') (h' : b = b') : (if c then a else b) = if c then a' else b' := by rw [h, h']

noncomputable def mergeTail (arr : Array Keyed) (sa na sb nb : Nat) : StateT SortSt Sem Bool := do
  let merged ← if na ≤ nb then mergeLo' (arr.extract sa sb) (arr.extract sb (sb + nb)) else mergeHi' (arr.extract sa sb) (arr.extract sb (sb + nb))
  modify fun st => setArr st (over merged.toList 0 sa (arrOf st))
  let st ← get
  pure (failedOf st).isNone

noncomputable def mergeMid (arr : Array Keyed) (sa na sb nb : Nat) : StateT SortSt Sem Bool :=
  if (na == 0) = true then pure true
  else do
    let z ← elem' arr (sa + na - 1)
    let r ← gallop' true z arr sb nb (nb - 1)
    match r with
    | some nb' => if (nb' == 0) = true then pure true else mergeTail arr sa na sb nb'
    | _ => pure false

noncomputable def mergeBody (arr : Array Keyed) (sa na sb nb : Nat) : StateT SortSt Sem Bool := do
  let z ← elem' arr sb
  let r ← gallop' false z arr sa na 0
  match r with
  | some k => mergeMid arr (sa + k) (na - k) sb nb
  | _ => pure false

theorem mergeAt'_eq (i : Nat) : mergeAt' i = (do
    let st ← get
    match ((pendingOf st)[i]?, (pendingOf st)[i + 1]?) with
    | (some (sa, na, power), some (sb, nb, _)) => do
      set (SortSt.mk' (kindOf st) (arrOf st) (((pendingOf st).setIfInBounds i (sa, na + nb, power)).eraseIdxIfInBounds (i + 1)) (gallopOf st) (failedOf st))
      mergeBody (arrOf st) sa na sb nb
    | _ => liftM (unsupported "internal:list.sort.pending" : Sem Bool)) := by
  refine bindEq rfl (fun st => ?_)
  generalize h1 : (pendingOf st)[i]? = u
  generalize h2 : (pendingOf st)[i + 1]? = v
  cases u with
  | none => rfl
  | some u =>
    cases v with
    | none => rfl
    | some v =>
      obtain ⟨sa, na, pw⟩ := u
      obtain ⟨sb, nb, pw'⟩ := v
      refine bindEq rfl (fun _ => bindEq rfl (fun z => bindEq rfl (fun r => ?_)))
      cases r with
      | none => rfl
      | some k =>
        show _ = mergeMid _ _ _ _ _
        unfold mergeMid
        refine iteEq rfl (bindEq rfl (fun z => bindEq rfl (fun r => ?_)))
        cases r with
        | none => rfl
        | some nb' =>
          show _ = (if (nb' == 0) = true then pure true else mergeTail _ _ _ _ _)
          refine iteEq rfl ?_
          unfold mergeTail
          dsimp only
          split <;> rfl
end Mine.Srt
end
section
open PySem PyProof.Rows
set_option autoImplicit false
set_option maxRecDepth 100000
namespace Mine.Srt

theorem over_toList {α : Type} {l : List α} {lo : Nat} {arr : Array α} (h : lo + l.length ≤ arr.size) : (over l 0 lo arr).toList = arr.toList.take lo ++ l ++ arr.toList.drop (lo + l.length) := by
  apply List.ext_getElem?
  intro i
  rw [Array.getElem?_toList, over_get l 0 lo arr (by omega)]
  simp only [Nat.add_zero]
  by_cases h1 : i < lo
  · rw [if_neg (by (with_reducible exact Ln.o35 ‹_›)), List.getElem?_append_left (by simp; (with_reducible exact Ln.o224 ‹_› ‹_›)), List.getElem?_append_left (by simp; (with_reducible exact Ln.o223 ‹_› ‹_›)), List.getElem?_take_of_lt h1, Array.getElem?_toList]
  · by_cases h2 : i < lo + l.length
    · rw [if_pos (by (with_reducible exact Ln.o238 ‹_› ‹_›)), List.getElem?_append_left (by simp; (with_reducible exact Ln.o251 ‹_› ‹_›)), List.getElem?_append_right (by simp; (with_reducible exact Ln.o259 ‹_›))]
      congr 1
      simp; (with_reducible exact Ln.o257 ‹_›)
    · rw [if_neg (by (with_reducible exact Ln.o215 ‹_›)), List.getElem?_append_right (by simp; (with_reducible exact Ln.o227 ‹_›)), List.getElem?_drop, Array.getElem?_toList]
      congr 1
      simp; (with_reducible exact Ln.o262 ‹_› ‹_›)

theorem over_perm {α : Type} {l : List α} {lo hi : Nat} {arr : Array α} (hlo : lo ≤ hi) (hhi : hi ≤ arr.size) (hp : l.Perm (arr.extract lo hi).toList) : (over l 0 lo arr).Perm arr := by
  have hlen : l.length = hi - lo := by rw [hp.length_eq, Array.length_toList, Array.size_extract]; (with_reducible exact Ln.o239 ‹_›)
  apply Array.perm_iff_toList_perm.mpr
  rw [over_toList (by (with_reducible exact Ln.o245 ‹_› ‹_› ‹_›))]
  have e : arr.toList = arr.toList.take lo ++ (arr.extract lo hi).toList ++ arr.toList.drop (lo + l.length) := by
    rw [hlen, Array.toList_extract]
    simp only [List.extract_eq_take_drop]
    rw [List.append_assoc]
    have := List.take_append_drop (hi - lo) (arr.toList.drop lo)
    rw [List.drop_drop] at this
    rw [this, List.take_append_drop]
  have h2 : (arr.toList.take lo ++ l ++ arr.toList.drop (lo + l.length)).Perm (arr.toList.take lo ++ (arr.extract lo hi).toList ++ arr.toList.drop (lo + l.length)) :=
    List.Perm.append_right _ (List.Perm.append_left _ hp)
  rw [← e] at h2
  exact h2

section
variable {prog : Program} {w : World} {A : Around} {E : Value → Shared → Prop} {s : Shared} {κ : KKind} {a₀ : Array Keyed} {p : Array (Nat × Nat × Nat)}

noncomputable def Mixed (κ : KKind) (st st' : SortSt) (lo hi : Nat) : Prop := ∀ i, lo ≤ i → i < hi → ∃ q, lo ≤ q ∧ q < hi ∧ KK κ (arrOf st') i = KK κ (arrOf st) q
noncomputable def Outside (κ : KKind) (st st' : SortSt) (lo hi : Nat) : Prop := ∀ i, i < lo ∨ hi ≤ i → KK κ (arrOf st') i = KK κ (arrOf st) i

theorem keysOf_extract {xs : Array Keyed} {lo hi : Nat} (h : KeysOf κ xs) : KeysOf κ (xs.extract lo hi) := fun p hp => by
  obtain ⟨q, hq, _, _, rfl⟩ := mem_extract hp
  exact h _ (by simp)

theorem wpS_mergeTail (hO : κ.OneLt) (h0 : KeysOf κ a₀) {st : SortSt} {sa na sb nb : Nat} {Q : Bool → SortSt → Prop} (hB : SB a₀ p st) (hab : sa < sb) (hn : 0 < nb) (hsz : sb + nb ≤ a₀.size)
    (hA : SegS κ (arrOf st) sa sb) (hBs : SegS κ (arrOf st) sb (sb + nb)) (first : ∀ i, sa ≤ i → i < sb → κ.kle (KK κ (arrOf st) sb) (KK κ (arrOf st) i))
    (last : ∀ j, sb ≤ j → j < sb + nb → κ.kle (KK κ (arrOf st) j) (KK κ (arrOf st) (sb - 1)))
    (h : ∀ st', SB a₀ p st' → Outside κ st st' sa (sb + nb) → SegS κ (arrOf st') sa (sb + nb) → Mixed κ st st' sa (sb + nb) → Q true st') :
    wpS (model prog w) A E s (mergeTail (arrOf st) sa na sb nb) Q st := by
  have hz := hB.size
  have hK := keysOf_perm h0 hB.perm
  have sx : ((arrOf st).extract sa sb).size = sb - sa := by rw [Array.size_extract]; (with_reducible exact Ln.o255 ‹_› ‹_›)
  have sy : ((arrOf st).extract sb (sb + nb)).size = nb := by rw [Array.size_extract]; (with_reducible exact Ln.o231 ‹_› ‹_›)
  have H : LoHyp κ ((arrOf st).extract sa sb) ((arrOf st).extract sb (sb + nb)) := by
    refine ⟨hO, keysOf_extract hK, keysOf_extract hK, srtd_extract hA, srtd_extract hBs, by (with_reducible exact Ln.o232 ‹_› ‹_›), by (with_reducible exact Ln.o241 ‹_› ‹_›), fun y hy => ?_, fun y hy => ?_⟩
    · obtain ⟨q, hq, h1, h2, rfl⟩ := mem_extract hy
      obtain ⟨h3, _, h4⟩ := extract_at (xs := arrOf st) (lo := sb) (hi := sb + nb) (i := 0) (by (with_reducible exact Ln.o241 ‹_› ‹_›))
      have := first q h1 h2
      rw [KK_kf hq, KK_kf (by (with_reducible exact Ln.o218 ‹_› ‹_› ‹_›))] at this
      show κ.kle (kf κ _) (kf κ _)
      rw [h4]
      exact this
    · obtain ⟨q, hq, h1, h2, rfl⟩ := mem_extract hy
      obtain ⟨h3, _, h4⟩ := extract_at (xs := arrOf st) (lo := sa) (hi := sb) (i := ((arrOf st).extract sa sb).size - 1) (by (with_reducible exact Ln.o236 ‹_› ‹_›))
      have := last q h1 h2
      rw [KK_kf hq, KK_kf (by (with_reducible exact Ln.o216 ‹_› ‹_› ‹_›))] at this
      show κ.kle (kf κ _) (kf κ _)
      rw [h4]
      have e : sa + (((arrOf st).extract sa sb).size - 1) = sb - 1 := by (with_reducible exact Ln.o256 ‹_› ‹_›)
      simp only [e]
      exact this
  have key : ∀ merged : Array Keyed, ∀ st1 : SortSt, SameSt st st1 → Mrg κ ((arrOf st).extract sa sb) ((arrOf st).extract sb (sb + nb)) merged →
      wpS (model prog w) A E s (do modify (fun st => setArr st (over merged.toList 0 sa (arrOf st))); let st ← get; pure (failedOf st).isNone) Q st1 := by
    intro merged st1 hs hM
    have ml : merged.toList.length = sb + nb - sa := by
      rw [hM.1.length_eq, List.length_append, Array.length_toList, Array.length_toList, sx, sy]; (with_reducible exact Ln.o249 ‹_›)
    refine wpS_bind (wpS_modify (wpS_bind (wpS_get (wpS_pure ?_))))
    have hf : failedOf (setArr st1 (over merged.toList 0 sa (arrOf st1))) = none := hs.failed.trans hB.failed
    rw [hf]
    have e1 : (arrOf st).extract sa sb ++ (arrOf st).extract sb (sb + nb) = (arrOf st).extract sa (sb + nb) := by
      rw [Array.extract_append_extract]
      congr 1 <;> (first | with_reducible exact Ln.o12 ‹_› | with_reducible exact Ln.o234)
    have pm : merged.toList.Perm ((arrOf st).extract sa (sb + nb)).toList := by
      rw [← e1, Array.toList_append]; exact hM.1
    have ov : (over merged.toList 0 sa (arrOf st)).Perm (arrOf st) := over_perm (by (with_reducible exact Ln.o229 ‹_›)) (by (with_reducible exact Ln.o243 ‹_› ‹_›)) pm
    have get : ∀ i, KK κ (over merged.toList 0 sa (arrOf st)) i = if h : sa ≤ i ∧ i < sb + nb then kf κ (merged[i - sa]'(by rw [← Array.length_toList]; (with_reducible exact Ln.o253 ‹_› ‹_›))) else KK κ (arrOf st) i := by
      intro i
      have e2 := over_get merged.toList 0 sa (arrOf st) (by (with_reducible exact Ln.o264 ‹_› ‹_› ‹_› ‹_›)) i
      split
      · rename_i hi
        have hi2 : i - sa < merged.size := by rw [← Array.length_toList]; (with_reducible exact Ln.o253 ‹_› ‹_›)
        rw [if_pos (by (with_reducible exact Ln.o230 ‹_› ‹_›)), Array.getElem?_toList, Nat.add_zero, getElem?_pos merged (i - sa) hi2] at e2
        unfold KK
        rw [e2]
        rfl
      · rename_i hi
        rw [if_neg (by (with_reducible exact Ln.o217 ‹_› ‹_›))] at e2
        exact KK_congr e2
    refine h _ ⟨?_, hs.kind.trans hB.kind, hf, hs.pend.trans hB.pend⟩ ?_ ?_ ?_
    · show (over merged.toList 0 sa (arrOf st1)).Perm a₀
      rw [hs.arr]; exact ov.trans hB.perm
    · intro i hi
      show KK κ (over merged.toList 0 sa (arrOf st1)) i = _
      rw [hs.arr, get i, dif_neg (by (with_reducible exact Ln.o242 ‹_›))]
    · intro i j hli hij hj
      show κ.kle (KK κ (over merged.toList 0 sa (arrOf st1)) i) (KK κ (over merged.toList 0 sa (arrOf st1)) j)
      rw [hs.arr, get i, get j, dif_pos (by (with_reducible exact Ln.o237 ‹_› ‹_› ‹_›)), dif_pos (by (with_reducible exact Ln.o214 ‹_› ‹_› ‹_›))]
      exact srtd_at hM.2 (by (with_reducible exact Ln.o244 ‹_›)) (by rw [← Array.length_toList]; (with_reducible exact Ln.o222 ‹_› ‹_› ‹_› ‹_›))
    · intro i h1 h2
      have hi2 : i - sa < merged.size := by rw [← Array.length_toList]; (with_reducible exact Ln.o228 ‹_› ‹_› ‹_›)
      have hm : merged[i - sa] ∈ ((arrOf st).extract sa (sb + nb)).toList := pm.mem_iff.mp (by simp)
      obtain ⟨q, hq, h3, h4, h5⟩ := mem_extract hm
      refine ⟨q, h3, h4, ?_⟩
      show KK κ (over merged.toList 0 sa (arrOf st1)) i = _
      rw [hs.arr, get i, dif_pos (by (with_reducible exact Ln.o220 ‹_› ‹_›)), KK_kf hq, h5]
  unfold mergeTail
  dsimp only
  split
  · exact wpS_bind (wpS_mono (wpS_mergeLo H hB.kind) fun r st1 hr => key r st1 hr.1 hr.2)
  · exact wpS_bind (wpS_mono (wpS_mergeHi H hB.kind) fun r st1 hr => key r st1 hr.1 hr.2)

theorem wpS_mergeBody (hO : κ.OneLt) (h0 : KeysOf κ a₀) {st : SortSt} {sa na sb nb : Nat} {Q : Bool → SortSt → Prop} (hB : SB a₀ p st) (hna : 0 < na) (hab : sa + na = sb) (hn : 0 < nb) (hsz : sb + nb ≤ a₀.size)
    (hA : SegS κ (arrOf st) sa sb) (hBs : SegS κ (arrOf st) sb (sb + nb))
    (h : ∀ st', SB a₀ p st' → Outside κ st st' sa (sb + nb) → SegS κ (arrOf st') sa (sb + nb) → Q true st') :
    wpS (model prog w) A E s (mergeBody (arrOf st) sa na sb nb) Q st := by
  have hz := hB.size
  have hK := keysOf_perm h0 hB.perm
  unfold mergeBody
  refine wpS_bind (wpS_elemAt (by (with_reducible exact Ln.o218 ‹_› ‹_› ‹_›) : sb < (arrOf st).size) (wpS_bind (wpS_gallop hO hB.kind hK (keyOf_kf hK _) (by (with_reducible exact Ln.o260 ‹_› ‹_› ‹_›)) (by omega) (by rw [hab]; exact hA) fun k hk h1 h2 => ?_)))
  have ksb : kf κ (arrOf st)[sb] = KK κ (arrOf st) sb := (KK_kf _).symm
  rw [ksb] at h1 h2
  have low : ∀ i, sa ≤ i → i < sa + k → κ.kle (KK κ (arrOf st) i) (KK κ (arrOf st) sb) := fun i g1 g2 => by
    have := bey_false (h1 (i - sa) (by (with_reducible exact Ln.o42 ‹_› ‹_›)))
    rwa [show sa + (i - sa) = i by (with_reducible exact Ln.o18 ‹_›)] at this
  have high : ∀ i, sa + k ≤ i → i < sb → κ.kle (KK κ (arrOf st) sb) (KK κ (arrOf st) i) := fun i g1 g2 => by
    have := bey_false' (h2 (i - sa) (by (with_reducible exact Ln.o61 ‹_›)) (by (with_reducible exact Ln.o268 ‹_› ‹_› ‹_›)))
    rw [show sa + (i - sa) = i by (with_reducible exact Ln.o65 ‹_›)] at this
    exact KeyOrd.kle_of_klt this
  unfold mergeMid
  dsimp only
  split
  · rename_i e
    have e' : na - k = 0 := by simpa using e
    refine wpS_pure (h st hB (fun _ _ => rfl) (seg_join hA hBs fun i j g1 g2 g3 g4 => ?_))
    exact KeyOrd.kle_trans (low i g1 (by (with_reducible exact Ln.o246 ‹_› ‹_› ‹_›))) (hBs sb j (Nat.le_refl _) g3 g4)
  · rename_i e
    have e' : ¬ na - k = 0 := by simpa using e
    have es : sa + k + (na - k) - 1 = sb - 1 := by (with_reducible exact Ln.o248 ‹_› ‹_›)
    refine wpS_bind (wpS_elemAt (by (with_reducible exact Ln.o240 ‹_› ‹_› ‹_› ‹_›) : sa + k + (na - k) - 1 < (arrOf st).size) (wpS_bind (wpS_gallop hO hB.kind hK (keyOf_kf hK _) (by (with_reducible exact Ln.o243 ‹_› ‹_›)) (by (with_reducible exact Ln.o235 ‹_›)) hBs fun nb' hnb h3 h4 => ?_)))
    have kla : kf κ (arrOf st)[sa + k + (na - k) - 1] = KK κ (arrOf st) (sb - 1) := by rw [← KK_kf, es]
    rw [kla] at h3 h4
    have low2 : ∀ j, sb ≤ j → j < sb + nb' → κ.kle (KK κ (arrOf st) j) (KK κ (arrOf st) (sb - 1)) := fun j g1 g2 => by
      have := bey_true (h3 (j - sb) (by (with_reducible exact Ln.o42 ‹_› ‹_›)))
      rw [show sb + (j - sb) = j by (with_reducible exact Ln.o18 ‹_›)] at this
      exact KeyOrd.kle_of_klt this
    have high2 : ∀ j, sb + nb' ≤ j → j < sb + nb → κ.kle (KK κ (arrOf st) (sb - 1)) (KK κ (arrOf st) j) := fun j g1 g2 => by
      have := bey_true' (h4 (j - sb) (by (with_reducible exact Ln.o61 ‹_›)) (by (with_reducible exact Ln.o20 ‹_› ‹_›)))
      rwa [show sb + (j - sb) = j by (with_reducible exact Ln.o65 ‹_›)] at this
    dsimp only
    split
    · rename_i e2
      have e2' : nb' = 0 := by simpa using e2
      refine wpS_pure (h st hB (fun _ _ => rfl) (seg_join hA hBs fun i j g1 g2 g3 g4 => ?_))
      exact KeyOrd.kle_trans (hA i (sb - 1) g1 (by (with_reducible exact Ln.o175 ‹_›)) (by (with_reducible exact Ln.o235 ‹_›))) (high2 j (by (with_reducible exact Ln.o254 ‹_› ‹_›)) g4)
    · rename_i e2
      have e2' : ¬ nb' = 0 := by simpa using e2
      refine wpS_mergeTail hO h0 hB (by (with_reducible exact Ln.o263 ‹_› ‹_›)) (by (with_reducible exact Ln.o170 ‹_›)) (by (with_reducible exact Ln.o4 ‹_› ‹_›)) (fun i j g1 g2 g3 => hA i j (by (with_reducible exact Ln.o219 ‹_›)) g2 g3) (fun i j g1 g2 g3 => hBs i j g1 g2 (by (with_reducible exact Ln.o225 ‹_› ‹_›))) (fun i g1 g2 => high i g1 g2) low2 fun st' hB' ho hs hm => ?_
      refine h st' hB' (fun i hi => ho i (by (with_reducible exact Ln.o247 ‹_› ‹_›))) ?_
      have l1 : SegS κ (arrOf st') sa (sa + k) := seg_congr (fun i j g1 g2 g3 => hA i j g1 g2 (by (with_reducible exact Ln.o266 ‹_› ‹_› ‹_›))) fun i g1 g2 => ho i (by (with_reducible exact Ln.o226 ‹_›))
      have l3 : SegS κ (arrOf st') (sb + nb') (sb + nb) := seg_congr (fun i j g1 g2 g3 => hBs i j (by (with_reducible exact Ln.o219 ‹_›)) g2 g3) fun i g1 g2 => ho i (by (with_reducible exact Ln.o221 ‹_›))
      have l12 : SegS κ (arrOf st') sa (sb + nb') := seg_join l1 hs fun i j g1 g2 g3 g4 => by
        obtain ⟨q, q1, q2, q3⟩ := hm j g3 g4
        rw [ho i (by (with_reducible exact Ln.o226 ‹_›)), q3]
        by_cases hq : q < sb
        · exact hA i q g1 (by (with_reducible exact Ln.o250 ‹_› ‹_›)) hq
        · exact KeyOrd.kle_trans (low i g1 (by omega)) (hBs sb q (Nat.le_refl _) (by (with_reducible exact Ln.o202 ‹_›)) (by (with_reducible exact Ln.o225 ‹_› ‹_›)))
      refine seg_join l12 l3 fun i j g1 g2 g3 g4 => ?_
      rw [ho j (by (with_reducible exact Ln.o221 ‹_›))]
      by_cases hi : i < sa + k
      · rw [ho i (by (with_reducible exact Ln.o226 ‹_›))]
        exact KeyOrd.kle_trans (low i g1 hi) (hBs sb j (Nat.le_refl _) (by (with_reducible exact Ln.o219 ‹_›)) g4)
      · obtain ⟨q, q1, q2, q3⟩ := hm i (by (with_reducible exact Ln.o202 ‹_›)) g2
        rw [q3]
        by_cases hq : q < sb
        · exact KeyOrd.kle_trans (hA q (sb - 1) (by (with_reducible exact Ln.o219 ‹_›)) (by (with_reducible exact Ln.o175 ‹_›)) (by (with_reducible exact Ln.o235 ‹_›))) (high2 j (by omega) g4)
        · exact hBs q j (by (with_reducible exact Ln.o202 ‹_›)) (by (with_reducible exact Ln.o250 ‹_› ‹_›)) g4

theorem wpS_mergeAt (hO : κ.OneLt) (h0 : KeysOf κ a₀) {st : SortSt} {pre post : List (Nat × Nat)} {x y : Nat × Nat} {lo i : Nat} {Q : Bool → SortSt → Prop} (hB : SB a₀ p st) (hp : pr p = pre ++ x :: y :: post) (hi : i = pre.length)
    (hc : Chain (pr p) 0 lo) (hlo : lo ≤ a₀.size) (hr : RunsOK κ (arrOf st) (pr p))
    (h : ∀ p' st', SB a₀ p' st' → pr p' = pre ++ (x.1, x.2 + y.2) :: post → Chain (pr p') 0 lo → RunsOK κ (arrOf st') (pr p') → (∀ k, lo ≤ k → KK κ (arrOf st') k = KK κ (arrOf st) k) → Q true st') :
    wpS (model prog w) A E s (mergeAt' i) Q st := by
  subst hi
  obtain ⟨pw, pw', e1, e2⟩ := pr_at hp
  rw [hp] at hc
  obtain ⟨c, hc1, hx, hx1, hy, hy1, hc2⟩ := Chain.append.mp hc
  have hle := hc2.le
  rw [mergeAt'_eq]
  refine wpS_bind (wpS_get ?_)
  rw [hB.pend, e1, e2]
  dsimp only
  have hset : ∀ (st' : SortSt) (Q' : PUnit → SortSt → Prop), Q' ⟨⟩ st' → wpS (model prog w) A E s (set st' : StateT SortSt Sem PUnit) Q' st := fun st' Q' hq => by
    unfold wpS
    rw [StateT.run_set]
    exact wpAny_pure ⟨rfl, hq⟩
  refine wpS_bind (hset _ _ ?_)
  have hB1 : SB a₀ ((p.setIfInBounds pre.length (x.1, x.2 + y.2, pw)).eraseIdxIfInBounds (pre.length + 1)) (SortSt.mk' (kindOf st) (arrOf st) ((p.setIfInBounds pre.length (x.1, x.2 + y.2, pw)).eraseIdxIfInBounds (pre.length + 1)) (gallopOf st) (failedOf st)) :=
    ⟨hB.perm, hB.kind, hB.failed, rfl⟩
  have hpm := pr_merge pw (x.2 + y.2) hp
  have rx := hr x (by rw [hp]; simp)
  have ry := hr y (by rw [hp]; simp)
  have hab : x.1 + x.2 = y.1 := by rw [hy, hx]
  refine wpS_mergeBody hO h0 (st := SortSt.mk' (kindOf st) (arrOf st) ((p.setIfInBounds pre.length (x.1, x.2 + y.2, pw)).eraseIdxIfInBounds (pre.length + 1)) (gallopOf st) (failedOf st)) hB1 (by (with_reducible exact Ln.o265 ‹_›)) hab (by (with_reducible exact Ln.o265 ‹_›)) (by (with_reducible exact Ln.o269 ‹_› ‹_› ‹_›))
    (by rw [← hab]; exact rx) ry fun st' hB' ho hs => ?_
  refine h _ st' hB' hpm ?_ ?_ fun k hk => ho k (by (with_reducible exact Ln.o233 ‹_› ‹_› ‹_›))
  · rw [hpm]
    exact Chain.append.mpr ⟨c, hc1, hx, by show 1 ≤ x.2 + y.2; (with_reducible exact Ln.o258 ‹_›), by show Chain post (c + (x.2 + y.2)) lo; rw [← Nat.add_assoc]; exact hc2⟩
  · rw [hpm]
    intro t ht
    rcases List.mem_append.mp ht with ht | ht
    · have := hc1.mem t ht
      exact seg_congr (hr t (by rw [hp]; exact List.mem_append_left _ ht)) fun i g1 g2 => ho i (.inl (by (with_reducible exact Ln.o252 ‹_› ‹_› ‹_›)))
    · rcases List.mem_cons.mp ht with rfl | ht
      · show SegS κ (arrOf st') x.1 (x.1 + (x.2 + y.2))
        rw [← Nat.add_assoc, hab]; exact hs
      · have := hc2.mem t ht
        exact seg_congr (hr t (by rw [hp]; exact List.mem_append_right _ (.tail _ (.tail _ ht)))) fun i g1 g2 => ho i (.inr (by (with_reducible exact Ln.o261 ‹_› ‹_› ‹_›)))
end
end Mine.Srt
end
section
open PySem PyProof.Rows
set_option autoImplicit false
set_option maxRecDepth 100000
namespace Mine.Srt

section
variable {prog : Program} {w : World} {A : Around} {E : Value → Shared → Prop} {s : Shared} {κ : KKind} {a₀ : Array Keyed}

structure RI (κ : KKind) (a₀ : Array Keyed) (lo : Nat) (st : SortSt) : Prop where
  base : SB a₀ (pendingOf st) st
  chain : Chain (pr (pendingOf st)) 0 lo
  runs : RunsOK κ (arrOf st) (pr (pendingOf st))

theorem list_snoc2 {α : Type} {l : List α} (h : 1 < l.length) : ∃ pre x y, l = pre ++ [x, y] ∧ pre.length = l.length - 2 := by
  have h1 : l = l.take (l.length - 2) ++ l.drop (l.length - 2) := (List.take_append_drop _ _).symm
  have h2 : (l.drop (l.length - 2)).length = 2 := by rw [List.length_drop]; (with_reducible exact Ln.o277 ‹_›)
  match hd : l.drop (l.length - 2), h2 with
  | [x, y], _ => exact ⟨l.take (l.length - 2), x, y, by rw [← hd]; exact h1, by rw [List.length_take]; (with_reducible exact Ln.o287)⟩

theorem list_at2 {α : Type} {l : List α} {i : Nat} (h : i + 1 < l.length) : ∃ pre x y post, l = pre ++ x :: y :: post ∧ i = pre.length := by
  refine ⟨l.take i, l[i], l[i + 1], l.drop (i + 2), ?_, ?_⟩
  · rw [← List.drop_eq_getElem_cons (by omega), ← List.drop_eq_getElem_cons (by (with_reducible exact Ln.o137 ‹_›)), List.take_append_drop]
  · rw [List.length_take]; (with_reducible exact Ln.o286 ‹_›)

theorem wpS_collapse (hO : κ.OneLt) (h0 : KeysOf κ a₀) {st : SortSt} {lo n pw size : Nat} {Q : Option Unit × Unit → SortSt → Prop} (hR : RI κ a₀ lo st) (hlo : lo + n ≤ a₀.size) (hs : SegS κ (arrOf st) lo (lo + n))
    (body : Unit → Nat → Option Unit × Unit → StateT SortSt Sem (ForInStep (Option Unit × Unit)))
    (hbody : ∀ u i c, body u i c = (do
        let st ← get
        match (if (pendingOf st).size > 1 then (pendingOf st)[(pendingOf st).size - 2]? else none) with
        | some (_, _, older) => if older ≤ pw then pure (ForInStep.done (none, ())) else do
            let r ← mergeAt' ((pendingOf st).size - 2)
            if (!r) = true then pure (ForInStep.done (some (), ())) else pure (ForInStep.yield (none, ()))
        | _ => pure (ForInStep.done (none, ()))))
    (h : ∀ st', RI κ a₀ lo st' → SegS κ (arrOf st') lo (lo + n) → Q (none, ()) st') :
    wpS (model prog w) A E s (forIn [:size] ((none, ()) : Option Unit × Unit) fun i c => body () i c) Q st := by
  refine wpS_forRange (I := fun _ c st' => c = (none, ()) ∧ RI κ a₀ lo st' ∧ SegS κ (arrOf st') lo (lo + n)) ?_ ?_ ⟨rfl, hR, hs⟩
  · rintro i c st' _ hi ⟨rfl, hR', hs'⟩
    rw [hbody]
    refine wpS_bind (wpS_get ?_)
    by_cases hsz : (pendingOf st').size > 1
    · rw [if_pos hsz]
      obtain ⟨pre, x, y, hl, hpre⟩ := list_snoc2 (l := pr (pendingOf st')) (by rw [pr_len]; exact hsz)
      rw [pr_len] at hpre
      obtain ⟨pw1, pw2, e1, e2⟩ := pr_at (post := []) hl
      rw [hpre] at e1
      rw [e1]
      dsimp only
      split
      · exact wpS_pure (h st' hR' hs')
      · refine wpS_bind (wpS_mergeAt hO h0 (i := (pendingOf st').size - 2) (post := []) hR'.base hl hpre.symm hR'.chain (by (with_reducible exact Ln.o219 ‹_›)) hR'.runs fun p' st2 hB2 hp2 hc2 hr2 hk2 => ?_)
        simp only [Bool.not_true, Bool.false_eq_true, if_false]
        refine wpS_pure ⟨rfl, ⟨?_, ?_, ?_⟩, seg_congr hs' fun k g1 g2 => hk2 k g1⟩
        · rw [hB2.pend]; exact hB2
        · rw [hB2.pend]; exact hc2
        · rw [hB2.pend]; exact hr2
    · rw [if_neg hsz]
      exact wpS_pure (h st' hR' hs')
  · rintro c st' ⟨rfl, hR', hs'⟩
    exact h st' hR' hs'

theorem RI.push {lo n : Nat} {st : SortSt} {q : Array (Nat × Nat × Nat)} (hR : RI κ a₀ lo st) (hn : 1 ≤ n) (hs : SegS κ (arrOf st) lo (lo + n)) (hq : pr q = pr (pendingOf st)) : RI κ a₀ (lo + n) (setPending st (q.push (lo, n, 0))) := by
  refine ⟨⟨hR.base.perm, hR.base.kind, hR.base.failed, rfl⟩, ?_, ?_⟩
  · show Chain (pr (q.push (lo, n, 0))) 0 (lo + n)
    rw [pr_push, hq]
    exact Chain.append.mpr ⟨lo, hR.chain, rfl, hn, rfl⟩
  · show RunsOK κ (arrOf st) (pr (q.push (lo, n, 0)))
    rw [pr_push, hq]
    intro t ht
    rcases List.mem_append.mp ht with ht | ht
    · exact hR.runs t ht
    · rw [List.mem_singleton.mp ht]; exact hs

theorem RI.keep {lo : Nat} {st st' : SortSt} (hR : RI κ a₀ lo st) (hB : SB a₀ (pendingOf st) st') (hk : ∀ k, k < lo → KK κ (arrOf st') k = KK κ (arrOf st) k) : RI κ a₀ lo st' := by
  refine ⟨by rw [hB.pend]; exact hB, by rw [hB.pend]; exact hR.chain, ?_⟩
  rw [hB.pend]
  intro t ht
  refine seg_congr (hR.runs t ht) fun i g1 g2 => hk i ?_
  have := hR.chain.mem t ht
  (with_reducible exact Ln.o272 ‹_› ‹_›)

theorem wpS_of_eq {α : Type} {m m' : StateT SortSt Sem α} {Q : α → SortSt → Prop} {st : SortSt} (h : m = m') (hw : wpS (model prog w) A E s m' Q st) : wpS (model prog w) A E s m Q st := by
  rw [h]; exact hw

theorem wpS_sortRunsAny {st : SortSt} {Q : Unit → SortSt → Prop} (hO : κ.OneLt) (h0 : KeysOf κ a₀) (hB : SB a₀ #[] st)
    (h : ∀ st', (arrOf st').Perm a₀ → failedOf st' = none → SegS κ (arrOf st') 0 a₀.size → Q () st') : wpS (model prog w) A E s sortRuns' Q st := by
  rw [sortRuns'_eq]
  refine wpS_bind (wpS_get ?_)
  dsimp only
  have hsz : (arrOf st).size = a₀.size := hB.size
  rw [hsz]
  generalize minRun' a₀.size a₀.size 0 = mr
  have start : RI κ a₀ 0 st := ⟨by rw [hB.pend]; exact hB, by rw [hB.pend]; rfl, by rw [hB.pend]; intro t ht; cases ht⟩
  refine wpS_bind (wpS_mono (wpS_forRange
    (I := fun x c st' => ∃ lo, c = (none, lo) ∧ RI κ a₀ lo st' ∧ lo ≤ a₀.size ∧ (x ≤ lo ∨ lo = a₀.size))
    (Q := fun c st' => c = (none, a₀.size) ∧ RI κ a₀ a₀.size st') ?step ?fin ⟨0, rfl, start, Nat.zero_le _, .inl (Nat.zero_le _)⟩) ?post)
  case fin =>
    rintro c st' ⟨lo, rfl, hR, h1, h2⟩
    have : lo = a₀.size := by (with_reducible exact Ln.o283 ‹_› ‹_›)
    subst this
    exact ⟨rfl, hR⟩
  case step =>
    rintro x c st' _ hx ⟨lo, rfl, hR, h1, h2⟩
    dsimp only
    by_cases hge : lo ≥ a₀.size
    · rw [if_pos hge]
      have : lo = a₀.size := by (with_reducible exact Ln.o31 ‹_› ‹_›)
      subst this
      exact wpS_pure ⟨rfl, hR⟩
    · rw [if_neg hge]
      refine wpS_bind (wpS_countRunL hO h0 (lo := lo) (nrem := a₀.size - lo) (by (with_reducible exact Ln.o274 ‹_›)) (by (with_reducible exact Ln.o280 ‹_›)) hR.base fun m st2 hB2 hk2 hm1 hm2 hs2 => ?_)
      dsimp only
      have hR2 : RI κ a₀ lo st2 := hR.keep hB2 hk2
      have tail : ∀ (n : Nat) (st3 : SortSt), RI κ a₀ lo st3 → 1 ≤ n → lo + n ≤ a₀.size → SegS κ (arrOf st3) lo (lo + n) →
          wpS (model prog w) A E s (do
            let st ← get
            match (pendingOf st).back? with
            | some (s1, n1, _) => do
              let c ← forIn [:a₀.size] ((none, ()) : Option Unit × Unit) fun _ _ => do
                let st ← get
                match (if (pendingOf st).size > 1 then (pendingOf st)[(pendingOf st).size - 2]? else none) with
                | some (_, _, older) => if older ≤ power' a₀.size (2 * s1 + n1) (2 * s1 + n1 + n1 + n) a₀.size then pure (ForInStep.done (none, ())) else do
                    let r ← mergeAt' ((pendingOf st).size - 2)
                    if (!r) = true then pure (ForInStep.done (some (), ())) else pure (ForInStep.yield (none, ()))
                | _ => pure (ForInStep.done (none, ()))
              match c.fst with
              | some r => pure (ForInStep.done (some r, lo))
              | none => do
                modify fun s => setPending s ((pendingOf s).modify ((pendingOf s).size - 1) fun x => (x.fst, x.2.fst, power' a₀.size (2 * s1 + n1) (2 * s1 + n1 + n1 + n) a₀.size))
                modify fun s => setPending s ((pendingOf s).push (lo, n, 0))
                pure (ForInStep.yield (none, lo + n))
            | none => do
              modify fun s => setPending s ((pendingOf s).push (lo, n, 0))
              pure (ForInStep.yield (none, lo + n)))
            (fun r st' => match r with | .done c' => c' = (none, a₀.size) ∧ RI κ a₀ a₀.size st' | .yield c' => ∃ lo, c' = (none, lo) ∧ RI κ a₀ lo st' ∧ lo ≤ a₀.size ∧ (x + 1 ≤ lo ∨ lo = a₀.size)) st3 := by
        intro n st3 hR3 hn hln hs3
        refine wpS_bind (wpS_get ?_)
        cases hb : (pendingOf st3).back? with
        | none =>
          refine wpS_bind (wpS_modify (wpS_pure ⟨lo + n, rfl, hR3.push hn hs3 rfl, hln, ?_⟩))
          (with_reducible exact Ln.o273 ‹_› ‹_› ‹_›)
        | some t =>
          obtain ⟨s1, n1, pw1⟩ := t
          refine wpS_bind (wpS_collapse hO h0 (size := a₀.size) hR3 hln hs3 (fun _ _ _ => _) (fun _ _ _ => rfl) fun st4 hR4 hs4 => ?_)
          refine wpS_bind (wpS_modify (wpS_bind (wpS_modify (wpS_pure ⟨lo + n, rfl, ?_, hln, ?_⟩))))
          · exact hR4.push hn hs4 (pr_modify _ _ _)
          · (with_reducible exact Ln.o273 ‹_› ‹_› ‹_›)
      by_cases hlt : m < mr
      · rw [if_pos hlt]
        refine wpS_bind (wpS_lift (wpAny_rule ⟨rfl, ?_⟩))
        by_cases hmin : min (a₀.size - lo) mr < m
        · exfalso; (with_reducible exact (Ln.o275 ‹_› ‹_› ‹_›).elim)
        refine wpS_bind (wpS_binL hO h0 (lo := lo) (n := min (a₀.size - lo) mr) (by (with_reducible exact Ln.o288 ‹_›)) (by (with_reducible exact Ln.o285 ‹_›)) hR2.base hs2 fun st3 hB3 hk3 hs3 => ?_)
        simp only [Bool.not_true, Bool.false_eq_true, if_false]
        refine wpS_mono (wpS_of_eq ?_ (tail _ st3 (hR2.keep hB3 hk3) (by (with_reducible exact Ln.o290 ‹_› ‹_›)) (by (with_reducible exact Ln.o288 ‹_›)) hs3)) (fun r _ hr => by cases r <;> exact hr)
        refine bindEq rfl (fun st => ?_)
        generalize (pendingOf st).back? = o
        cases o with
        | none => rfl
        | some t =>
          refine bindEq ?_ (fun c => ?_)
          · congr 1
          · obtain ⟨r, u⟩ := c
            cases r <;> rfl
      · rw [if_neg hlt]
        refine wpS_mono (wpS_of_eq ?_ (tail m st2 hR2 hm1 (by (with_reducible exact Ln.o271 ‹_› ‹_›)) hs2)) (fun r _ hr => by cases r <;> exact hr)
        refine bindEq rfl (fun st => ?_)
        generalize (pendingOf st).back? = o
        cases o with
        | none => rfl
        | some t =>
          refine bindEq ?_ (fun c => ?_)
          · congr 1
          · obtain ⟨r, u⟩ := c
            cases r <;> rfl
  case post =>
    rintro c st' ⟨rfl, hR⟩
    dsimp only
    have hlen : (pendingOf st').size ≤ a₀.size := by
      have := hR.chain.le
      rw [pr_len] at this; (with_reducible exact Ln.o279 ‹_›)
    refine wpS_bind (wpS_mono (wpS_forRange (I := fun x c st'' => c = (none, ()) ∧ RI κ a₀ a₀.size st'' ∧ ((pendingOf st'').size ≤ 1 ∨ (pendingOf st'').size + x ≤ a₀.size))
      (Q := fun c st'' => c = (none, ()) ∧ RI κ a₀ a₀.size st'' ∧ (pendingOf st'').size ≤ 1) ?s2 ?f2 ⟨rfl, hR, .inr (by omega)⟩) ?p2)
    case f2 =>
      rintro c st'' ⟨rfl, hR2, hz⟩
      exact ⟨rfl, hR2, by (with_reducible exact Ln.o289 ‹_›)⟩
    case p2 =>
      rintro c st'' ⟨rfl, hR2, hz⟩
      refine wpS_pure (h st'' hR2.base.perm hR2.base.failed ?_)
      have hc := hR2.chain
      have hr := hR2.runs
      have hl := pr_len (pendingOf st'')
      match hp : pr (pendingOf st''), hl with
      | [], _ =>
        rw [hp] at hc
        intro i j _ _ hj
        have : a₀.size = 0 := hc.symm
        (with_reducible exact (Ln.o278 ‹_› ‹_›).elim)
      | [t], _ =>
        rw [hp] at hc hr
        obtain ⟨h1, h2, h3⟩ := hc
        have := hr t (.head _)
        have h3' : 0 + t.2 = a₀.size := h3
        rw [h1] at this
        rw [← h3']
        exact this
      | _ :: _ :: _, hl => simp at hl; (with_reducible exact (Ln.o291 ‹_› ‹_›).elim)
    case s2 =>
      rintro x c st'' _ hx ⟨rfl, hR2, hz⟩
      refine wpS_bind (wpS_get ?_)
      by_cases hle : (pendingOf st'').size ≤ 1
      · rw [if_pos hle]
        exact wpS_pure ⟨rfl, hR2, hle⟩
      · rw [if_neg hle]
        have merge : ∀ i, i + 1 < (pendingOf st'').size → wpS (model prog w) A E s (do let r ← mergeAt' i; if (!r) = true then pure (ForInStep.done (some (), ())) else pure (ForInStep.yield (none, ())))
            (fun r st' => match r with | .done c' => c' = (none, ()) ∧ RI κ a₀ a₀.size st' ∧ (pendingOf st').size ≤ 1 | .yield c' => c' = (none, ()) ∧ RI κ a₀ a₀.size st' ∧ ((pendingOf st').size ≤ 1 ∨ (pendingOf st').size + (x + 1) ≤ a₀.size)) st'' := by
          intro i hi
          have hlen : (pr (pendingOf st'')).length = (pendingOf st'').size := pr_len _
          obtain ⟨pre, x1, y1, post, e, hpre⟩ := list_at2 (l := pr (pendingOf st'')) (i := i) (by (with_reducible exact Ln.o276 ‹_› ‹_›))
          refine wpS_bind (wpS_mergeAt hO h0 (i := i) hR2.base e hpre hR2.chain (Nat.le_refl _) hR2.runs fun p' st3 hB3 hp3 hc3 hr3 hk3 => ?_)
          simp only [Bool.not_true, Bool.false_eq_true, if_false]
          have l3 : (pendingOf st3).size + 1 = (pendingOf st'').size := by
            have h1 := congrArg List.length hp3
            have h2 := congrArg List.length e
            rw [pr_len] at h1 h2
            rw [hB3.pend]
            simp only [List.length_append, List.length_cons] at h1 h2
            (with_reducible exact Ln.o281 ‹_› ‹_›)
          refine wpS_pure ⟨rfl, ⟨?_, ?_, ?_⟩, ?_⟩
          · rw [hB3.pend]; exact hB3
          · rw [hB3.pend]; exact hc3
          · rw [hB3.pend]; exact hr3
          · (with_reducible exact Ln.o282 ‹_› ‹_›)
        refine wpS_mono (merge _ ?_) fun r _ hr => by cases r <;> exact hr
        repeat' split
        all_goals (first | with_reducible exact Ln.o284 ‹_› | with_reducible exact Ln.o270 ‹_›)
end
end Mine.Srt
end
section
open PySem PyProof.Rows PySem.Spec
set_option autoImplicit false
set_option maxRecDepth 100000
namespace Mine.Srt

section
variable {prog : Program} {w : World} {A : Around} {E : Value → Shared → Prop} {s : Shared}

theorem list_sort_any {κ : KKind} (hO : κ.OneLt) {a : Addr} {vs : List Value} {n : Nat} {P : Fin → Shared → Prop} (ho : s.heap.get? a = some (seqObj "list" vs.toArray n))
    (h0 : PyProof.Rows.KeysOf κ (pairsOf vs)) (hkk : ∀ v₁ v₂ rest, vs = v₁ :: v₂ :: rest → keyKind' (v₁ :: v₂ :: rest).toArray = pure oneType') (hmost : vs.length ≤ 100000)
    (h : ∀ st' : SortSt, (arrOf st').Perm (pairsOf vs) → SortedToK κ (arrOf st') (pairsOf vs).size → P (.done (.ret .none)) { s with heap := sortedHeap s.heap a vs ((arrOf st').map (·.2)) }) :
    wpAny (model prog w) A (Builtin.«list.sort» ⟨[.ref a], []⟩) P E s := by
  rw [list_sort_plain]
  have ha : a < s.heap.objs.size := Heap.lt_size ho
  have hl16 : vs.toArray.size ≤ sizeLine := by rw [List.size_toArray, sizeLine_eq]; (with_reducible exact Ln.o296 ‹_›)
  refine wpAny_bind (listItems_at ho rfl ?_)
  refine wpAny_bind (listUpdate_at ho rfl ?_ hl16)
  obtain ⟨e1, ho1⟩ : ∃ e1, (s.heap.update a (Obj.mapSeq fun _ => #[])).get? a = some (seqObj "list" #[] e1) := ⟨_, get?_update_seq ho (fun _ => #[])⟩
  refine wpAny_bind (seqEpoch_at ho1 rfl ?_)
  refine wpAny_bind (wpAny_newTuple ?_ (by simpa using hl16))
  refine wpAny_bind (wpAny_newList ?_)
  refine wpAny_holding ?_
  have ho6 : (((s.heap.update a (Obj.mapSeq fun _ => #[])).push (seqObj "tuple" vs.toArray 0)).push (seqObj "list" #[] 0)).get? a = some (seqObj "list" #[] e1) := by
    rw [Heap.get?_push_ne _ _ _ (by rw [size_push', Heap.size_update]; exact Nat.ne_of_lt (Nat.lt_succ_of_lt ha)), Heap.get?_push_ne _ _ _ (by rw [Heap.size_update]; exact Nat.ne_of_lt ha)]
    exact ho1
  show wpAny (model prog w) A _ P E { s with heap := ((s.heap.update a (Obj.mapSeq fun _ => #[])).push (seqObj "tuple" vs.toArray 0)).push (seqObj "list" #[] 0) }
  dsimp only
  have hsz : vs.toArray.size = vs.length := by simp
  have fin := h
  by_cases h2 : vs.toArray.size < 2
  · rw [if_pos h2, if_pos h2]
    refine wpAny_bind (wpAny_pure ?_)
    rw [StateT.run_pure]
    refine wpAny_bind (wpAny_pure ?_)
    dsimp only
    refine wpAny_bind (seqEpoch_at ho6 rfl ?_)
    refine wpAny_bind (listUpdate_at ho6 rfl ?_ (hsz2 := by rw [Array.size_map]; show (pairsOf vs).size ≤ _; rw [pairsOf_size, sizeLine_eq]; (with_reducible exact Ln.o292 ‹_›)))
    simp only [bne_self_eq_false, Bool.false_eq_true, if_false]
    refine wpAny_pure (fin (SortSt.mk' general' (vs.toArray.zip vs.toArray) #[] 7 none) (Array.Perm.refl _) ?_)
    intro i j hij hj
    have : i = j := by rw [pairsOf_size] at hj; (with_reducible exact Ln.o297 ‹_› ‹_› ‹_› ‹_›)
    subst this; exact KeyOrd.kle_refl _
  · rw [if_neg h2, if_neg h2]
    obtain ⟨v₁, v₂, rest, rfl⟩ : ∃ v₁ v₂ rest, vs = v₁ :: v₂ :: rest := by
      match vs, hsz, h2 with
      | [], _, h2 => simp at h2
      | [_], _, h2 => simp at h2
      | v₁ :: v₂ :: rest, _, _ => exact ⟨v₁, v₂, rest, rfl⟩
    rw [hkk _ _ _ rfl]
    refine wpAny_bind (wpAny_pure ?_)
    refine wpAny_bind (wpAny_mono (wpS_sortRunsAny (κ := κ) hO (a₀ := pairsOf (v₁ :: v₂ :: rest)) (st := SortSt.mk' oneType' ((v₁ :: v₂ :: rest).toArray.zip (v₁ :: v₂ :: rest).toArray) #[] 7 none)
      (Q := fun _ st' => (arrOf st').Perm (pairsOf (v₁ :: v₂ :: rest)) ∧ failedOf st' = none ∧ SegS κ (arrOf st') 0 (pairsOf (v₁ :: v₂ :: rest)).size)
      h0 ⟨Array.Perm.refl _, rfl, rfl, rfl⟩ fun st' a1 a2 a3 => ⟨a1, a2, a3⟩) ?_ fun _ _ e => e)
    rintro ⟨⟨⟩, st'⟩ s' ⟨rfl, hp, hf, hs⟩
    dsimp only
    refine wpAny_bind (seqEpoch_at ho6 rfl ?_)
    refine wpAny_bind (listUpdate_at ho6 rfl ?_ (hsz2 := by refine Nat.le_trans (Nat.le_of_eq ((Array.size_map ..).trans (hp.size_eq.trans (pairsOf_size _)))) ?_; rw [sizeLine_eq]; (with_reducible exact Ln.o292 ‹_›)))
    rw [hf]
    simp only [bne_self_eq_false, Bool.false_eq_true, if_false]
    exact wpAny_pure (fin st' hp fun i j hij hj => hs i j (Nat.zero_le _) hij hj)

/-- «sorted(v)» where v is collected to texts -/
theorem sorted_any {v : Value} {Q : Value → Shared → Prop}
    (h : wpAny (model prog w) A.in1 (collect v) (fun vs s₁ => ∃ ss, StrsAre vs ss ∧ vs.length ≤ 100000 ∧
      ∀ (h' : Heap) (vs' : List Value) (ss' : List Str) (e : Nat), (∀ b o, s₁.heap.get? b = some o → h'.get? b = some o) → h'.get? s₁.heap.objs.size = some (seqObj "list" vs'.toArray e) →
        StrsAre vs' ss' → ss'.Perm ss → sortedS ss' = true → Q (.ref s₁.heap.objs.size) { s₁ with heap := h' }) E s) :
    wpAny (model prog w) A (call (.builtin "sorted") [v]) Q E s := by
  refine Calls.call_function_entry kind_sorted plain_sorted entry_sorted (args_sorted1 _) ?_
  unfold Builtin.«sorted»
  refine wpAny_bind (m := checkCount "sorted" 1 1 _) (wpAny_pure ?_)
  refine wpAny_bind (wpAny_mono h (fun vs s₁ h₁ => ?_) fun _ _ e => e)
  obtain ⟨ss, hS, hl, hq⟩ := h₁
  have hl16 : vs.length ≤ sizeLine := by rw [sizeLine_eq]; (with_reducible exact Ln.o296 ‹_›)
  refine wpAny_bind (wpAny_newList ?_ hl16)
  have hoL : (s₁.heap.push (seqObj "list" vs.toArray 0)).get? s₁.heap.objs.size = some (seqObj "list" vs.toArray 0) := Heap.get?_push_size _ rfl
  refine wpAny_bind (wpAny_holding (wpAny_call_entry slot_list_sort ⟨_, hoL, rfl⟩ entry_list_sort (list_sort_any (κ := strKind) strKind_oneLt hoL hS.keysOf (fun v₁ v₂ rest e => keyKind_strs (by rw [← e]; exact hS)) hl fun st' hp hs => ⟨_, rfl, ?_⟩) (args_list_sort _)))
  obtain ⟨ss', h1, h2, h3⟩ := sorted_out_str hS hp hs
  obtain ⟨e, he⟩ := sortedHeap_at (out := (arrOf st').map (·.2)) hoL
  refine wpAny_pure ⟨_, rfl, hq _ ((arrOf st').map (·.2)).toList ss' e (fun b o ho => ?_) he h1 h2 h3⟩
  have hlt := Heap.lt_size ho
  rw [sortedHeap_old (Nat.ne_of_lt hlt) (by rw [size_push']; exact Nat.lt_succ_of_lt hlt)]
  exact Heap.get?_push_of_some _ ho
end
end Mine.Srt
end
section
open PySem PyProof.Rows PySem.Spec
set_option autoImplicit false
set_option maxRecDepth 100000
namespace Mine.St

theorem layNew_flags (t : SetTable) (es : Array (Int × Value)) (h : Int) (x : Value) : (layNew t es h x).2.1.led = t.led ∧ (layNew t es h x).2.1.plain = false ∨ (layNew t es h x).2.1.led = t.led ∧ (layNew t es h x).2.1.plain = t.plain := by
  unfold layNew
  split
  · dsimp only [SetTable.put, SetTable.orStandIn]
    repeat' split
    all_goals first
      | exact .inr ⟨rfl, rfl⟩
      | exact .inl ⟨rfl, rfl⟩
  · exact .inl ⟨rfl, rfl⟩

theorem nodup_len {α : Type} [DecidableEq α] : ∀ {l m : List α}, l.Nodup → (∀ x ∈ l, x ∈ m) → l.length ≤ m.length
  | [], m, _, _ => Nat.zero_le _
  | x :: l, m, hn, hs => by
    obtain ⟨m1, m2, rfl⟩ := List.append_of_mem (hs x (.head _))
    have hn' := List.nodup_cons.mp hn
    have ih := nodup_len (m := m1 ++ m2) hn'.2 fun y hy => by
      have hne : y ≠ x := fun e => hn'.1 (e ▸ hy)
      have := hs y (.tail _ hy)
      rw [List.mem_append, List.mem_cons] at this
      rcases this with h | h | h
      · exact List.mem_append_left _ h
      · exact absurd h hne
      · exact List.mem_append_right _ h
    simp only [List.length_append, List.length_cons] at ih ⊢
    (with_reducible exact Ln.o130 ‹_›)

theorem relayAll_flags (t : SetTable) (es : Array (Int × Value)) (n : Nat) (hp : t.plain = false) : (relayAll t es n).2.1.led = t.led ∧ (relayAll t es n).2.1.plain = false := by
  unfold relayAll
  split
  · rename_i t' order he
    have ht : t'.led = t.led ∧ t'.plain = t.plain := by
      unfold SetTable.relaid SetTable.laid at he
      cases hc : SetTable.layClean (SetTable.sizeAbove n - 1) (es.map (·.1)) with
      | none => rw [hc] at he; cases he
      | some owner =>
        rw [hc] at he
        cases he
        exact ⟨rfl, rfl⟩
    dsimp only
    split
    · exact ⟨ht.1, ht.2.trans hp⟩
    · exact ⟨rfl, rfl⟩
  · exact ⟨rfl, rfl⟩

section
variable {prog : Program} {w : World}

noncomputable abbrev byText (w : World) : Bool := w.params.followText "set-order"

noncomputable def skey (e : Int × Value) : Str := strOf e.2

structure SetD (prog : Program) (w : World) (es : Array (Int × Value)) (t : SetTable) (xs : List Str) : Prop where
  el : ElemsOf (PySem.strKind prog w) es.toList
  nodup : (es.toList.map skey).Nodup
  mem : ∀ k, k ∈ xs ↔ k ∈ es.toList.map skey
  fits : t.fits es.size = true
  led : t.led = !byText w
  plain : es.size ≠ 0 → t.plain = false

noncomputable def SetS (prog : Program) (w : World) (h : Heap) (a : Addr) (xs : List Str) : Prop :=
  ∃ es ep t, h.get? a = some { cls := .type "set", dict := none, data := .set es ep t, slots := #[] } ∧ SetD prog w es t xs ∧ es.size < scanBound

theorem SetS.at {h h' : Heap} {a : Addr} {xs : List Str} (S : SetS prog w h a xs) (e : ∀ o, h.get? a = some o → h'.get? a = some o) : SetS prog w h' a xs :=
  let ⟨es, ep, t, ho, r⟩ := S; ⟨es, ep, t, e _ ho, r⟩

theorem is_str {k : Str} {v : Value} (h : (PySem.strKind prog w).is k v = true) : ∃ t, v = .str k t := Value.isStrOf_shape h
theorem el_str {es : List (Int × Value)} (h : ElemsOf (PySem.strKind prog w) es) {e : Int × Value} (he : e ∈ es) : ∃ t, e.2 = .str (skey e) t := by
  obtain ⟨⟨k, hk, _⟩, _⟩ := h e he
  obtain ⟨t, ht⟩ := is_str hk
  exact ⟨t, by unfold skey; rw [ht]; rfl⟩
theorem is_skey {es : List (Int × Value)} (h : ElemsOf (PySem.strKind prog w) es) {e : Int × Value} (he : e ∈ es) (k : Str) : (PySem.strKind prog w).is k e.2 = true ↔ skey e = k := by
  obtain ⟨t, ht⟩ := el_str h he
  rw [ht]
  constructor
  · intro hk
    obtain ⟨t', e'⟩ := is_str hk
    injection e'
  · rintro rfl
    exact strKind_is prog w _ t

variable {A : Around} {E : Value → Shared → Prop} {s : Shared}

theorem wpAny_setAdd_str {a : Addr} {xs : List Str} {x : Str} {tk : Tok} {Q : Bool → Shared → Prop} (S : SetS prog w s.heap a xs) (hroom : xs.length + 1 < scanBound)
    (h : ∀ h' tk' b, Heap.SameBut a s.heap h' → SetS prog w h' a (xs ++ [x]) → Q b { s with heap := h', toks := tk' }) :
    wpAny (model prog w) A (setAdd a (.str x tk)) Q E s := by
  obtain ⟨es, ep, t, ho, D, hb⟩ := S
  have hkey := strKind_is prog w x tk
  have hsize : es.size ≤ xs.length := by
    have h1 : (es.toList.map skey).length = es.size := by simp
    rw [← h1]
    have hsub : (es.toList.map skey) ⊆ xs := fun k hk => (D.mem k).mpr hk
    exact nodup_len D.nodup hsub
  unfold setAdd
  refine wpAny_holding (wpAny_bind ((PySem.strKind prog w).pyHash hkey ?_))
  unfold setAddHashed setAddHashedIn
  refine wpAny_holding (wpAny_bind (wpAny_setState_of (s := { s with toks := s.toks + 1 }) ho rfl D.fits ?_))
  dsimp only
  rw [byScan_of (x := .str x tk) rfl hb D.el]
  simp only [↓reduceIte]
  unfold setAddByScan
  refine wpAny_bind ?_
  refine wpAny_bind (wpAny_rule ?_)
  refine wpAny_bind (wpAny_setScan_of hkey ho rfl D.fits D.el ?_)
  cases hr : List.findIdx? (fun e => (PySem.strKind prog w).is x e.2) es.toList with
  | some j =>
    dsimp only
    obtain ⟨hj, hpj, _⟩ := List.findIdx?_eq_some_iff_getElem.mp hr
    have hx : x ∈ es.toList.map skey := List.mem_map.mpr ⟨es.toList[j], List.getElem_mem hj, (is_skey D.el (List.getElem_mem hj) x).mp hpj⟩
    refine wpAny_pure (wpAny_pure (h s.heap _ false (Heap.SameBut.refl a s.heap) ⟨es, ep, t, ho, ⟨D.el, D.nodup, fun k => ?_, D.fits, D.led, D.plain⟩, hb⟩))
    rw [List.mem_append, D.mem k, List.mem_singleton]
    exact ⟨fun q => q.elim id fun e => e ▸ hx, .inl⟩
  | none =>
    dsimp only
    have hnx : x ∉ es.toList.map skey := fun hx => by
      obtain ⟨e, he, hk⟩ := List.mem_map.mp hx
      have := List.findIdx?_eq_none_iff.mp hr e he
      rw [(is_skey D.el he x).mpr hk] at this
      cases this
    have hgw : ∀ (b : Bool) {s₁ : Shared} {Q' : Unit → Shared → Prop}, Q' () s₁ → wpAny (model prog w) A (match b with | true => rule "set.scan.the-table-gave-way" | false => pure ()) Q' E s₁ :=
      fun b s₁ Q' hq => by cases b <;> first | exact wpAny_pure hq | exact wpAny_rule hq
    have hperm := layNew_perm t es ((PySem.strKind prog w).hash x) (.str x tk)
    have hfits := layNew_fits t es ((PySem.strKind prog w).hash x) (.str x tk)
    have hflag := layNew_flags t es ((PySem.strKind prog w).hash x) (.str x tk)
    generalize hL : layNew t es ((PySem.strKind prog w).hash x) (.str x tk) = L at hperm hfits hflag ⊢
    obtain ⟨es1, t1, wasDummy, gave⟩ := L
    dsimp only at hperm hfits hflag ⊢
    rw [Array.toList_push] at hperm
    have hel1 : ElemsOf (PySem.strKind prog w) es1.toList := (D.el.push hkey rfl).perm hperm
    have hkeys : (es1.toList.map skey).Perm (es.toList.map skey ++ [x]) := by
      have := hperm.map skey
      rw [List.map_append] at this
      exact this
    have hsz1 : es1.size = es.size + 1 := by rw [← Array.length_toList, hperm.length_eq, List.length_append, Array.length_toList]; rfl
    have hb1 : es1.size < scanBound := by (with_reducible exact Ln.o298 ‹_› ‹_› ‹_›)
    have hnd1 : (es1.toList.map skey).Nodup := hkeys.nodup_iff.mpr (List.nodup_append.mpr ⟨D.nodup, by simp, fun a ha b hb' e => hnx (by rw [List.mem_singleton.mp hb'] at e; rw [← e]; exact ha)⟩)
    have hmem1 : ∀ k, k ∈ xs ++ [x] ↔ k ∈ es1.toList.map skey := fun k => by
      rw [hkeys.mem_iff, List.mem_append, List.mem_append, D.mem k]
    refine wpAny_bind (hgw _ ?_)
    have tail : ∀ (t2 : SetTable), t2.fits es1.size = true → t2.led = t.led → t2.plain = false → ∀ (ep' : Nat) (s₁ : Shared) (R : Option Bool → Shared → Prop), s₁.heap.get? a = some { cls := .type "set", dict := none, data := .set es ep' t, slots := #[] } →
        (∀ h', Heap.SameBut a s₁.heap h' → SetS prog w h' a (xs ++ [x]) → R (some true) { s₁ with heap := h' }) →
        ∀ {g : Bool → Sem Unit}, (∀ (b : Bool) (s₂ : Shared) (Q' : Unit → Shared → Prop), Q' () s₂ → wpAny (model prog w) A (g b) Q' E s₂) →
        wpAny (model prog w) A (do
          storeSet a es1 t2
          if (!wasDummy && t2.tooFull) = true then do
              g (relayAll t2 es1 (SetTable.grown es1.size)).2.2
              storeSet a (relayAll t2 es1 (SetTable.grown es1.size)).1 (relayAll t2 es1 (SetTable.grown es1.size)).2.1
              pure (some true)
            else pure (some true)) R E s₁ := by
      intro t2 hf2 hl2 hp2 ep' s₁ R ho1 hR g hg
      refine wpAny_bind (wpAny_storeSet_of ho1 rfl ?_ (fits_of_scanBound hb1))
      have hg1 : (s₁.heap.update a (Obj.putSet es1 t2)).get? a = some { cls := .type "set", dict := none, data := .set es1 (ep' + 1) t2, slots := #[] } := Heap.get?_update_self (Obj.putSet es1 t2) ho1 rfl
      have hsb1 := Heap.SameBut.update s₁.heap a (Obj.putSet es1 t2)
      split
      · have hp := relayAll_perm t2 es1 (SetTable.grown es1.size)
        have hfr := relayAll_fits t2 es1 (SetTable.grown es1.size)
        have hfl := relayAll_flags t2 es1 (SetTable.grown es1.size) hp2
        generalize hRl : relayAll t2 es1 (SetTable.grown es1.size) = Rl at hp hfr hfl ⊢
        obtain ⟨es2, t3, gave2⟩ := Rl
        dsimp only at hp hfr hfl ⊢
        have hsz : es2.size = es1.size := by rw [← Array.length_toList, hp.length_eq, Array.length_toList]
        have hb2 : es2.size < scanBound := by rw [hsz]; exact hb1
        refine wpAny_bind (hg _ _ _ ?_)
        refine wpAny_bind (wpAny_storeSet_of hg1 rfl ?_ (fits_of_scanBound hb2))
        have hk2 := hp.map skey
        refine wpAny_pure (hR _ (hsb1.trans (Heap.SameBut.update _ a _)) ⟨es2, ep' + 2, t3, Heap.get?_update_self (Obj.putSet es2 t3) hg1 rfl, ⟨hel1.perm hp, hk2.nodup_iff.mpr hnd1, fun k => (hmem1 k).trans hk2.mem_iff.symm, hfr, ?_, fun _ => hfl.2⟩, hb2⟩)
        rw [hfl.1, hl2, D.led]
      · exact wpAny_pure (hR _ hsb1 ⟨es1, ep' + 1, t2, hg1, ⟨hel1, hnd1, hmem1, hf2, by rw [hl2, D.led], fun _ => hp2⟩, hb1⟩)
    split
    · refine wpAny_bind ?_
      rw [hashByValue_scannable 8 (x := .str x tk) rfl]
      refine wpAny_pure ?_
      refine tail _ ?_ ?_ ?_ ep { s with toks := s.toks + 1 } _ ho ?_ ?_
      · split
        · exact hfits
        · exact SetTable.fits_plain_off hfits
      · show (if plainKind (.str x tk) = true then t1 else { t1 with plain := false }).led = t.led
        exact hflag.elim (·.1) (·.1)
      · rfl
      · intro h' hsb hS'
        dsimp only; exact wpAny_pure (h h' _ true hsb hS')
      · intro b s₁ Q' hq
        cases b <;> first | exact wpAny_pure hq | exact wpAny_rule hq
    · rename_i hnp
      refine wpAny_bind (wpAny_pure ?_)
      simp only [↓reduceIte]
      refine tail _ hfits (hflag.elim (·.1) (·.1)) (by simpa using hnp) ep { s with toks := s.toks + 1 } _ ho ?_ ?_
      · intro h' hsb hS'
        dsimp only; exact wpAny_pure (h h' _ true hsb hS')
      · intro b s₁ Q' hq
        cases b <;> first | exact wpAny_pure hq | exact wpAny_rule hq
end
end Mine.St
end
section
open PySem PyProof.Rows PySem.Spec
set_option autoImplicit false
set_option maxRecDepth 100000
namespace Mine.St

section
variable {prog : Program} {w : World} {A : Around} {R : Result → Shared → Prop} {I : Addr} {fp wr : List Addr} {n : Nat} {P : Nat → Value → Prop} {St : Nat → Heap → Prop}

theorem codeAny_set_update_str (W : Walks prog w A.in1 I fp wr n P St) (S : Addr) (hSf : S ∉ fp) (ss : List Str) (hn : ss.length = n)
    (hval : ∀ i v, P i v → ∃ x t, ss[i]? = some x ∧ v = .str x t) (hb : n + 1 < scanBound) :
    ∀ (k i : Nat) (s : Shared), n - i = k → i ≤ n → St i s.heap → SetS prog w s.heap S (ss.take i) →
      (∀ h' tk, (∀ b o, b ∉ S :: wr → s.heap.get? b = some o → h'.get? b = some o) → SetS prog w h' S ss → R (.ok (.ret .none)) { s with heap := h', toks := tk }) →
      codeAny (model prog w) A (.builtin "set.update.loop" ⟨[.ref S, .ref I], []⟩) R s := by
  have hSw : S ∉ wr := fun h => hSf (W.sub _ h)
  intro k
  induction k with
  | zero =>
    intro i s hk hi hst hS hR
    have hin : i = n := by (with_reducible exact Ln.o302 ‹_› ‹_›)
    subst hin
    refine codeAny_builtin F.entry_set_update_loop ?_
    rw [Around.under_plainId F.plain_set_update_loop _]
    show wpAny _ A.in1 (pyNext (.ref I) >>= _) _ _ s
    refine wpAny_bind (W.done s _ _ hst fun h' tk hm => ?_)
    show wpAny _ A.in1 (ret Value.none) _ _ _
    rw [← hn, List.take_length] at hS
    exact wpAny_pure (hR h' tk (fun b o hb e => hm b o (fun h => hb (List.mem_cons_of_mem _ h)) e) (hS.at fun o e => hm S o hSw e))
  | succ k ih =>
    intro i s hk hi hst hS hR
    have hlt : i < n := by (with_reducible exact Ln.o303 ‹_›)
    refine codeAny_builtin F.entry_set_update_loop ?_
    rw [Around.under_plainId F.plain_set_update_loop _]
    show wpAny _ A.in1 (pyNext (.ref I) >>= _) _ _ s
    refine wpAny_bind (W.item i s _ _ hlt hst fun v h₁ tk₁ hP hst' hm => ?_)
    obtain ⟨x, t, hx, rfl⟩ := hval i v hP
    have hS' : SetS prog w h₁ S (ss.take i) := hS.at fun o e => hm S o hSw e
    show wpAny _ A.in1 (holding [Value.str x t] (setAdd S (.str x t)) >>= _) _ _ _
    refine wpAny_bind (wpAny_holding (wpAny_setAdd_str (s := { s with heap := h₁, toks := tk₁ }) hS' (by rw [List.length_take]; (with_reducible exact Ln.o304 ‹_› ‹_›)) fun h' tk' b hsb hS2 => ?_))
    have hSi : SetS prog w h' S (ss.take (i + 1)) := by
      rw [List.take_add_one, hx]; exact hS2
    refine wpAny_pure ⟨plainId_quiet F.plain_set_update_loop _, ih (i + 1) _ (by (with_reducible exact Ln.o299 ‹_›)) hlt (W.frame _ _ h' hst' fun b hb o e => ?_) hSi fun h'' tk'' hm'' hS'' => ?_⟩
    · rw [hsb.2 b (fun h : b = S => hSf (by rw [← h]; exact hb))]; exact e
    · refine hR h'' tk'' (fun b o hb e => hm'' b o hb ?_) hS''
      rw [hsb.2 b (fun h : b = S => hb (by rw [h]; exact List.mem_cons_self))]
      exact hm b o (fun h => hb (List.mem_cons_of_mem _ h)) e
end

theorem StrsAre.at? {vs : List Value} {ss : List Str} (h : StrsAre vs ss) : ∀ (i : Nat) (v : Value), vs[i]? = some v → ∃ x t, ss[i]? = some x ∧ v = .str x t := by
  induction h with
  | nil => intro i v h; simp at h
  | cons x t h ih =>
    intro i v hv
    cases i with
    | zero => simp at hv; exact ⟨x, t, rfl, hv.symm⟩
    | succ i => simp only [List.getElem?_cons_succ] at hv ⊢; exact ih i v hv

section
variable {prog : Program} {w : World} {A : Around} {E : Value → Shared → Prop} {s : Shared}

theorem code_set_new_led (a : Value) {Q₁ : Value → Shared → Prop}
    (h : Q₁ (.ref s.heap.objs.size) { s with heap := s.heap.push { cls := .type "set", dict := none, data := .set #[] 0 (.fresh 0 0 (!byText w)) } }) :
    codeAny (model prog w) A (.call (.builtin "set.__new__") ⟨[.type "set", a], []⟩) (wants Q₁ E) s := by
  refine codeAny_of_tree ?_
  show wpAny _ A.in1 (do checkBuiltinCall "set.__new__" ⟨[.type "set", a], []⟩; again (.builtin "set.__new__" ⟨[.type "set", a], []⟩)) _ _ s
  refine wpAny_bind (wpAny_of_eq (F.newCall_set_1 a) (wpAny_pure ⟨plainId_quiet F.plain_set_new _, codeAny_builtin F.entry_set_new ?_⟩))
  rw [Around.under_plainId F.plain_set_new _]
  unfold Builtin.«set.__new__» Builtin.Frozenset.newClass
  have hsub := sub_set_self
  obtain ⟨hp, g, d, tk, os⟩ := s
  dsimp only
  wp_walk
  refine wpAny_askSetting (wpAny_pure ?_)
  dsimp only
  simp only [newObj]
  refine wpAny_bind (wpAny_alloc (wpAny_pure ?_))
  exact wpAny_pure h

theorem setS_fresh {h : Heap} {a : Addr} (ho : h.get? a = some { cls := .type "set", dict := none, data := .set #[] 0 (.fresh 0 0 (!byText w)), slots := #[] }) : SetS prog w h a [] :=
  ⟨#[], 0, _, ho, ⟨fun e he => by simp at he, by simp, fun k => by simp, by rfl, rfl, fun h => absurd rfl h⟩, by unfold scanBound; simp⟩

set_option maxHeartbeats 3200000 in
theorem call_set_strs {l : Addr} {items : Array Value} {ss : List Str} {Q : Value → Shared → Prop}
    (hh : A.handled = none) (hl : s.heap.IsList l items) (hi : StrsAre items.toList ss) (hb : items.size + 1 < scanBound)
    (h : ∀ (h' : Heap) (tk : Nat), SetS prog w h' s.heap.objs.size ss →
      (∀ b o, b < s.heap.objs.size → s.heap.get? b = some o → h'.get? b = some o) → Q (.ref s.heap.objs.size) { s with heap := h', toks := tk }) :
    wpAny (model prog w) A (call (.type "set") [.ref l]) Q E s := by
  obtain ⟨c, tl, hmro⟩ := F.called_set.mro
  have hmade := F.called_set.made
  have hsub := F.called_set.sub
  refine wpAny_call (codeAny_of_tree ?_)
  show wpAny _ _ (callAny (.type "set") _) _ _ _
  refine wpAny_pure ⟨Code.quiet_builtin _ (by decide +kernel), codeAny_builtin F.entry_type_call ?_⟩
  rw [Around.under_plain (weight_type_call_type "set" [.ref l] []) rfl]
  have h1 := F.called_set.notType
  have h2 := F.called_set.canCreate
  have hct := F.typeCall_set_1 (.ref l)
  repeat (any_goals (first | assumption | wp_step))
  refine codeAny_mono (code_set_new_led (.ref l) (E := E) (Q₁ := fun obj s₁ => obj = .ref s.heap.objs.size ∧ s₁ = { s with heap := s.heap.push { cls := .type "set", dict := none, data := .set #[] 0 (.fresh 0 0 (!byText w)) } }) ⟨rfl, rfl⟩) fun r s₁ hr => ?_
  cases r with
  | error e => exact hr
  | ok fl =>
    cases fl with
    | ret obj =>
      obtain ⟨rfl, rfl⟩ := hr
      have hS : (s.heap.push { cls := .type "set", dict := none, data := .set #[] 0 (.fresh 0 0 (!byText w)) }).get? s.heap.objs.size = some { cls := .type "set", dict := none, data := .set #[] 0 (.fresh 0 0 (!byText w)) } := Heap.get?_push_size _ rfl
      have hT : Shared.TypeIs { s with heap := s.heap.push { cls := .type "set", dict := none, data := .set #[] 0 (.fresh 0 0 (!byText w)) } } (.ref s.heap.objs.size) "set" := ⟨_, hS, rfl⟩
      have hli := F.called_set.init.lookup
      have hbi := F.called_set.init.bind (.ref s.heap.objs.size)
      repeat (any_goals (first | assumption | wp_step))
      refine codeAny_mono (codeAny_call_builtin (R := wants (fun r s₂ => r = .none ∧ ∃ h' tk, s₂ = { s with heap := h', toks := tk } ∧
          SetS prog w h' s.heap.objs.size ss ∧
          (∀ b o, b < s.heap.objs.size → s.heap.get? b = some o → h'.get? b = some o)) E) F.called_set.init.plain F.entry_set_init (check_set_init_1 hT ?_)) fun r₂ s₂ hr₂ => ?_
      · obtain ⟨ol, hol, hcl, nl, hdl⟩ := hl
        obtain ⟨ocls, odict, odata, oslots⟩ := ol
        simp only at hcl hdl
        subst hcl; subst hdl
        have hol' : (s.heap.push { cls := .type "set", dict := none, data := .set #[] 0 (.fresh 0 0 (!byText w)) }).get? l = some { cls := .type "list", dict := odict, data := .seq items nl, slots := oslots } := Heap.get?_push_of_some _ hol
        have hsls := F.sub_list_set
        have hslf := F.sub_list_frozenset
        have hne : (Value.type "list" == Value.type "dict") = false := by decide
        have hl1 : (s.heap.push { cls := .type "set", dict := none, data := .set #[] 0 (.fresh 0 0 (!byText w)) }).IsList l items := ⟨_, hol', rfl, nl, rfl⟩
        unfold Builtin.«set.__init__» noKeywords Builtin.Frozenset.updateFrom
        generalize hPI : pyIter = PI
        wp_walk
        subst hPI
        refine wpAny_pyIter_list hl1 ?_
        refine wpAny_bind (wpAny_runValue ?_)
        have hlS : l < s.heap.objs.size := Heap.lt_size hol
        have hh3 : A.in1.in1.in1.handled = none := by simp [hh]
        have hneI : l ≠ (s.heap.push { cls := .type "set", dict := none, data := .set #[] 0 (.fresh 0 0 (!byText w)) }).objs.size := by
          rw [Heap.size_push]; exact Nat.ne_of_lt (Nat.lt_succ_of_lt hlS)
        have hSf : s.heap.objs.size ∉ [(s.heap.push { cls := .type "set", dict := none, data := .set #[] 0 (.fresh 0 0 (!byText w)) }).objs.size, l] := by
          rw [Heap.size_push]; simp only [List.mem_cons, List.mem_singleton, List.not_mem_nil, or_false, not_or]
          exact ⟨Nat.ne_of_lt (Nat.lt_succ_self _), Nat.ne_of_gt hlS⟩
        have hlen : ss.length = items.size := by
          have := StrsAre.length hi
          rw [← Array.length_toList]; (with_reducible exact Ln.o301 ‹_›)
        have hval : ∀ (i : Nat) (v : Value), items[i]? = some v → ∃ x t, ss[i]? = some x ∧ v = .str x t := fun i v hv =>
          StrsAre.at? hi i v (by rw [Array.getElem?_toList]; exact hv)
        refine codeAny_set_update_str (Walks.list hh3 _ l hneI items) s.heap.objs.size
          hSf ss hlen hval hb (items.size - 0) 0 _ (by (with_reducible exact Ln.o300)) (Nat.zero_le _)
          ⟨⟨_, Heap.get?_push_size _ rfl, rfl, rfl⟩, (hl1.push _)⟩ ?hS0 ?hR
        case hS0 =>
          exact setS_fresh (Heap.get?_push_of_some _ hS)
        case hR =>
          intro h' tk' hm hS'
          show wpAny _ _ _ _ _ _
          refine wpAny_pure ?_
          show wpAny _ _ (ret Value.none) _ _ _
          refine wpAny_pure ⟨rfl, h', tk', rfl, hS', fun b o hb e => ?_⟩
          have hb1 : b ≠ s.heap.objs.size := Nat.ne_of_lt hb
          have hb2 : b ≠ (s.heap.push { cls := .type "set", dict := none, data := .set #[] 0 (.fresh 0 0 (!byText w)) }).objs.size := by
            rw [Heap.size_push]; exact Nat.ne_of_lt (Nat.lt_succ_of_lt hb)
          exact hm b o (by simp only [List.mem_cons, List.mem_singleton, List.not_mem_nil, or_false, not_or]; exact ⟨hb1, hb2⟩) (Heap.get?_push_of_some _ (Heap.get?_push_of_some _ e))
      · cases r₂ with
        | error e => exact hr₂
        | ok fl₂ =>
          cases fl₂ with
          | ret r =>
            obtain ⟨rfl, h', tk, rfl, hS', hk'⟩ := hr₂
            repeat (any_goals (first | assumption | wp_step))
            exact h _ _ hS' hk'
          | _ => exact hr₂.elim
    | _ => exact hr.elim
end
end Mine.St
end
section
open PySem PyProof.Rows PySem.Spec
set_option autoImplicit false
set_option maxRecDepth 100000
namespace Mine.St

theorem owner_set_iterator : Manifest.owners.lookup (String.ofList ['r', 'o', 't', 'a', 'r', 'e', 't', 'i', '_', 't', 'e', 's'].reverse) = some Manifest.sig_set_iterator := by kernel_rfl
theorem slot_set_iterator_next : Slot "set_iterator" "__next__" "set_iterator.__next__" :=
  .of (owner := "set_iterator") (n := "__next__") (by rw [typeLookup_type, builtinLookup_eq_fast]; kernel_rfl) (by decide +kernel) (by decide +kernel) (by decide +kernel)
    (by first | exact .inl (by decide +kernel) | exact .inr (by decide +kernel)) (by rw [isSubtype_type]; kernel_rfl)
theorem entry_set_iterator_next : entryFor table "set_iterator.__next__" = some Builtin.«set_iterator.__next__» := entryFor_of_tree (by kernel_rfl)
theorem args_set_iterator_next_1 (a : Value) : argsOk "set_iterator.__next__" ⟨[a], []⟩ := by
  unfold argsOk; rw [signature?_of (id := "set_iterator.__next__") (n := ['_', '_', 't', 'x', 'e', 'n', '_', '_']) (o := ['r', 'o', 't', 'a', 'r', 'e', 't', 'i', '_', 't', 'e', 's']) (by kernel_rfl) owner_set_iterator]; kernel_rfl
theorem entry_set_iter : entryFor table "set.__iter__" = some Builtin.«frozenset.__iter__» :=
  entryFor_alias (id' := "frozenset.__iter__") (by rw [fastTable_eq_tree]; kernel_rfl) (by first | rfl | decide +kernel) (by decide +kernel) (by rw [fastTable_eq_tree]; kernel_rfl)

section
variable {M : Model} {A : Around} {E : Value → Shared → Prop}

theorem erase_perm {α : Type} : ∀ {xs : List α} {i : Nat} {x : α}, xs[i]? = some x → (x :: xs.eraseIdx i).Perm xs
  | y :: r, 0, x, h => by
    simp only [List.getElem?_cons_zero, Option.some.injEq] at h
    subst h
    exact .refl _
  | y :: r, i + 1, x, h => by
    simp only [List.getElem?_cons_succ] at h
    rw [List.eraseIdx_cons_succ]
    exact (List.Perm.swap y x _).trans (List.Perm.cons y (erase_perm h))

theorem wpAny_choose {src : Source} {n : Nat} {Q : Nat → Shared → Prop} {s : Shared} (hn : n ≠ 0) (h : ∀ i d, i < n → Q i { s with drawn := d }) : wpAny M A (choose src n) Q E s := fun Γ p _ => by
  unfold choose
  rw [Sem.wp_choose]
  exact ⟨hn, by rw [Sem.wp]; exact h _ _ (Nat.mod_lt _ (Nat.pos_of_ne_zero hn))⟩

theorem wpAny_drawOrder {α : Type} (n : Nat) : ∀ (xs : List α) {Q : List α → Shared → Prop} (s : Shared), xs.length = n → (∀ ys d, ys.Perm xs → Q ys { s with drawn := d }) → wpAny M A (drawOrder n xs) Q E s := by
  induction n with
  | zero =>
    intro xs Q s hl h
    have hx : xs = [] := List.length_eq_zero_iff.mp hl
    subst hx
    exact wpAny_pure (h [] s.drawn (.refl _))
  | succ n ih =>
    intro xs Q s hl h
    obtain ⟨x, r, rfl⟩ : ∃ x r, xs = x :: r := List.exists_cons_of_length_eq_add_one hl
    refine wpAny_bind (m := choose .order (x :: r).length) (wpAny_choose (Nat.succ_ne_zero _) fun i d hi => ?_)
    have hi' : (x :: r)[i]? = some (x :: r)[i] := getElem?_pos (x :: r) i hi
    rw [hi']
    dsimp only
    refine wpAny_bind (ih _ _ ?_ fun ys d' hp => wpAny_pure (h _ d' ?_))
    · rw [List.length_eraseIdx, if_pos hi, hl]; rfl
    · exact (List.Perm.cons _ hp).trans (erase_perm hi')
end

theorem pickGo_perm {α : Type} (next : Nat → Nat) : ∀ (fuel k : Nat) (left : List α) (out : Array α), fuel = left.length → (pickOrder.go next fuel k left out).toList.Perm (out.toList ++ left)
  | 0, k, left, out, h => by
    have : left = [] := List.length_eq_zero_iff.mp h.symm
    subst this
    exact .of_eq (List.append_nil _).symm
  | fuel + 1, k, left, out, h => by
    have hlt : next k % left.length < left.length := Nat.mod_lt _ (by (with_reducible exact Ln.o305 ‹_›))
    have e : left[next k % left.length]? = some left[next k % left.length] := getElem?_pos left (next k % left.length) hlt
    rw [show pickOrder.go next (fuel + 1) k left out = pickOrder.go next fuel (k + 1) (left.eraseIdx (next k % left.length)) (out.push left[next k % left.length]) by
      show (match left[next k % left.length]? with | some x => _ | none => _) = _
      rw [e]]
    refine (pickGo_perm next fuel (k + 1) _ _ ?_).trans ?_
    · rw [List.length_eraseIdx, if_pos hlt]; (with_reducible exact Ln.o160 ‹_›)
    · rw [Array.toList_push, List.append_assoc]
      exact List.Perm.append_left _ (erase_perm e)
theorem pickOrder_perm {α : Type} (next : Nat → Nat) (xs : Array α) : (pickOrder next xs).toList.Perm xs.toList := by
  exact pickGo_perm next xs.size 0 xs.toList #[] rfl

inductive Road (prog : Program) (w : World) (h : Heap) (S : Addr) (es : Array (Int × Value)) (ep : Nat) (t : SetTable) : Value → List Value → Prop
  | drawn (T : Addr) (ps : List Nat) (hT : h.get? T = some { cls := .type "tuple", dict := none, data := .seq (ps.map fun i => rawInt (i : Nat)).toArray, slots := #[] }) (hp : ps.Perm (List.range es.size)) :
      Road prog w h S es ep t (.ref T) (ps.filterMap fun i => (es[i]?).map (·.2))
  | text (hb : byText w = true) : Road prog w h S es ep t (.int 0 0) ((pickOrder (w.params.setOrder S ep) es).toList.map (·.2))
  | plain (hb : byText w = false) (hs : es.size ≤ 1) : Road prog w h S es ep t (.int 0 0) (es.toList.map (·.2))

theorem Road.perm {prog : Program} {w : World} {h : Heap} {S : Addr} {es : Array (Int × Value)} {ep : Nat} {t : SetTable} {f : Value} {L : List Value} (r : Road prog w h S es ep t f L) : L.Perm (es.toList.map (·.2)) := by
  cases r with
  | drawn T ps hT hp =>
    have h1 := hp.filterMap fun i => (es[i]?).map (·.2)
    refine h1.trans ?_
    have e : (List.range es.size).filterMap (fun i => (es[i]?).map (·.2)) = es.toList.map (·.2) := by
      have := filterMap_getElem?_range es
      rw [← this, List.map_filterMap]
    rw [e]
  | text hb => exact (pickOrder_perm _ _).map _
  | plain hb hs => exact .refl _
end Mine.St
end
section
open PySem PyProof.Rows PySem.Spec
set_option autoImplicit false
set_option maxRecDepth 100000
namespace Mine.St

noncomputable abbrev iterObj (f : Value) (i : Nat) (S : Addr) (n ep : Nat) : Obj := { cls := .type "set_iterator", dict := none, data := .fields #[f, .int i 0, .ref S, .int n 0, .int ep 0], slots := #[] }

section
variable {prog : Program} {w : World} {A : Around} {E : Value → Shared → Prop} {s : Shared}

theorem wpAny_pyIter_set {S : Addr} {xs : List Str} {Q : Value → Shared → Prop} (hS : SetS prog w s.heap S xs)
    (h : ∀ es ep t f L h₁ I dr, s.heap.get? S = some { cls := .type "set", dict := none, data := .set es ep t, slots := #[] } → SetD prog w es t xs → es.size < scanBound → (∀ b o, s.heap.get? b = some o → h₁.get? b = some o) →
      h₁.get? I = some (iterObj f 0 S es.size ep) → s.heap.get? I = none → Road prog w h₁ S es ep t f L → (∀ T, f = .ref T → T ≠ I) → Q (.ref I) { s with heap := h₁, drawn := dr }) :
    wpAny (model prog w) A (pyIter (.ref S)) Q E s := by
  obtain ⟨es, ep, t, ho, D, hb⟩ := hS
  have hT : s.TypeIs (.ref S) "set" := ⟨_, ho, rfl⟩
  refine wpAny_pyIter_slot hT F.slot_set_iter (wpAny_call_entry F.slot_set_iter hT entry_set_iter ?_ (F.args_set_iter_1 _))
  unfold Builtin.«frozenset.__iter__» Builtin.Frozenset.slot0 slotArgs
  simp only [List.isEmpty_nil, Bool.not_true, Bool.false_eq_true, ↓reduceIte, bind_assoc, List.length_nil, bne_self_eq_false]
  unfold Builtin.Frozenset.addrOf Builtin.Frozenset.sizeOf
  refine wpAny_bind (wpAny_pure ?_)
  try dsimp only
  refine wpAny_bind (wpAny_pure ?_)
  refine wpAny_bind (wpAny_bind (wpAny_setEntries_of ho rfl D.fits (wpAny_pure ?_)))
  unfold setDrawn setsByText
  refine wpAny_bind (wpAny_bind (wpAny_setState_of ho rfl D.fits ?_))
  refine wpAny_bind (wpAny_bind (wpAny_askSetting (wpAny_pure ?_)))
  refine wpAny_pure ?_
  have fresh : ∀ (hp : Heap) (a : Addr), hp.objs.size ≤ a → hp.get? a = none := fun hp a ha => by
    cases e : hp.get? a with
    | none => rfl
    | some o' => exact absurd (Heap.lt_size e) (Nat.not_lt.mpr ha)
  split
  · rename_i hc
    have hc' : (!byText w && (!t.plain && decide (es.size > 1))) = true := hc
    refine wpAny_bind (wpAny_drawOrder es.size (List.range es.size) s (by simp) fun ps d hp => ?_)
    have hl : ps.length = es.size := by rw [hp.length_eq, List.length_range]
    refine wpAny_bind (wpAny_newTuple ?_ (by rw [List.length_map, hl]; exact fits_of_scanBound hb))
    have ho1 : (s.heap.push { cls := .type "tuple", dict := none, data := .seq (ps.map fun i => rawInt (i : Nat)).toArray, slots := #[] }).get? S = some { cls := .type "set", dict := none, data := .set es ep t, slots := #[] } := Heap.get?_push_of_some _ ho
    refine wpAny_bind (wpAny_setEpoch_of (s := { s with heap := s.heap.push { cls := .type "tuple", dict := none, data := .seq (ps.map fun i => rawInt (i : Nat)).toArray, slots := #[] }, drawn := d }) ho1 rfl D.fits ?_)
    refine wpAny_bind (wpAny_newObj_type (wpAny_pure ⟨_, rfl, "set_iterator", _, ⟨_, Heap.get?_push_size _ rfl, rfl⟩, slot_set_iterator_next.lookup, ?_⟩))
    refine h es ep t (.ref s.heap.objs.size) _ _ _ d ho D hb (fun b o e => Heap.get?_push_of_some _ (Heap.get?_push_of_some _ e)) (Heap.get?_push_size _ rfl) ?_
      (.drawn s.heap.objs.size ps (Heap.get?_push_of_some _ (Heap.get?_push_size _ rfl)) hp) ?_
    · exact fresh _ _ (by rw [Heap.size_push]; exact Nat.le_succ _)
    · rintro T e
      injection e with e
      rw [← e, Heap.size_push]
      exact Nat.ne_of_lt (Nat.lt_succ_self _)
  · rename_i hc
    have hc' : ¬ (!byText w && (!t.plain && decide (es.size > 1))) = true := hc
    refine wpAny_bind (wpAny_pure ?_)
    refine wpAny_bind (wpAny_setEpoch_of ho rfl D.fits ?_)
    refine wpAny_bind (wpAny_newObj_type (wpAny_pure ⟨_, rfl, "set_iterator", _, ⟨_, Heap.get?_push_size _ rfl, rfl⟩, slot_set_iterator_next.lookup, ?_⟩))
    have road : ∃ L, Road prog w (s.heap.push (iterObj (.int 0 0) 0 S es.size ep)) S es ep t (.int 0 0) L := by
      cases hbt : byText w with
      | true => exact ⟨_, .text hbt⟩
      | false =>
        refine ⟨_, .plain hbt ?_⟩
        rcases Nat.lt_or_ge 1 es.size with hgt | hle
        · exfalso
          have hpl := D.plain (by (with_reducible exact Ln.o307 ‹_›))
          rw [hbt, hpl] at hc'
          exact hc' (by simpa using hgt)
        · exact hle
    obtain ⟨L, road⟩ := road
    exact h es ep t (.int 0 0) L _ _ s.drawn ho D hb (fun b o e => Heap.get?_push_of_some _ e) (Heap.get?_push_size _ rfl) (fresh _ _ (Nat.le_refl _)) road (fun T e => by cases e)

/-- the iterator at its i-th place -/
noncomputable def SetIt (prog : Program) (w : World) (I S : Addr) (es : Array (Int × Value)) (ep : Nat) (t : SetTable) (f : Value) (L : List Value) (i : Nat) (h : Heap) : Prop :=
  ∃ f', h.get? I = some (iterObj f' i S es.size ep) ∧ ((f' = f ∧ (f = .int 0 0 → byText w = false → i = 0)) ∨ (byText w = false ∧ es.size ≤ 1 ∧ f = .int 0 0 ∧ i = 1 ∧ ∃ j, t.place[0]? = some j ∧ f' = .int ((j + 1 : Nat) : Int) 0)) ∧
    h.get? S = some { cls := .type "set", dict := none, data := .set es ep t, slots := #[] } ∧ Road prog w h S es ep t f L
end
end Mine.St
end
section
open PySem PyProof.Rows PySem.Spec
set_option autoImplicit false
set_option maxRecDepth 100000
namespace Mine.St

theorem filterMap_total {α β : Type} {f : α → Option β} : ∀ {l : List α}, (∀ x ∈ l, (f x).isSome = true) → ∀ i : Nat, (l.filterMap f)[i]? = l[i]?.bind f
  | [], _, i => by simp
  | x :: r, h, i => by
    obtain ⟨y, hy⟩ := Option.isSome_iff_exists.mp (h x (.head _))
    rw [List.filterMap_cons_some hy]
    cases i with
    | zero => simp [hy]
    | succ i =>
      simp only [List.getElem?_cons_succ]
      exact filterMap_total (fun z hz => h z (.tail _ hz)) i

theorem below0 {xs : Array Nat} (h : xs.size ≤ 1) : SetTable.below xs 0 = 0 := by
  unfold SetTable.below
  rcases Nat.lt_or_ge 0 xs.size with h1 | h1
  · have : xs.size = 1 := by (with_reducible exact Ln.o314 ‹_› ‹_›)
    rw [this]
    exact (if_pos Nat.one_pos).trans (if_neg (Nat.not_lt_zero _))
  · have : xs.size = 0 := by (with_reducible exact Ln.o308 ‹_›)
    rw [this]; rfl
theorem below1 {xs : Array Nat} {j : Nat} (h : xs.size = 1) (hj : xs[0]? = some j) : SetTable.below xs (j + 1) = 1 := by
  unfold SetTable.below
  rw [h]
  have e : xs.getD 0 (j + 1) = j := by
    rw [Array.getD_eq_getD_getElem?, hj]; rfl
  exact (if_pos Nat.one_pos).trans (if_pos (Nat.lt_succ_of_le (Nat.le_of_eq e)))

section
variable {prog : Program} {w : World} {A : Around} {E : Value → Shared → Prop} {s : Shared}

theorem setWalk_text {S : Addr} {es : Array (Int × Value)} {ep : Nat} {t : SetTable} {xs : List Str} {Q : Array (Int × Value) → Shared → Prop} (hb : byText w = true)
    (hS : s.heap.get? S = some { cls := .type "set", dict := none, data := .set es ep t, slots := #[] }) (D : SetD prog w es t xs) (h : Q (pickOrder (w.params.setOrder S ep) es) s) :
    wpAny (model prog w) A (setWalk S) Q E s := by
  unfold setWalk setsByText
  refine wpAny_bind (wpAny_setState_of hS rfl D.fits ?_)
  dsimp only
  refine wpAny_bind (wpAny_bind (wpAny_askSetting (wpAny_pure ?_)))
  split
  · exact wpAny_bind (wpAny_askSetting (wpAny_pure h))
  · rename_i hn
    exact absurd hb hn

theorem setNext_text {S : Addr} {es : Array (Int × Value)} {ep : Nat} {t : SetTable} {xs : List Str} {slot i : Nat} {Q : Option (Value × Nat) → Shared → Prop} (hb : byText w = true)
    (hS : s.heap.get? S = some { cls := .type "set", dict := none, data := .set es ep t, slots := #[] }) (D : SetD prog w es t xs) (h : Q (((pickOrder (w.params.setOrder S ep) es)[i]?).map fun e => (e.2, slot)) s) :
    wpAny (model prog w) A (setNext S slot i ep) Q E s := by
  unfold setNext setsByText
  refine wpAny_bind (wpAny_setState_of hS rfl D.fits ?_)
  dsimp only
  refine wpAny_bind (wpAny_bind (wpAny_askSetting (wpAny_pure ?_)))
  split
  · rw [if_neg (by simp)]
    exact wpAny_bind (setWalk_text hb hS D (wpAny_pure h))
  · rename_i hn
    exact absurd hb hn

theorem setNext_plain {S : Addr} {es : Array (Int × Value)} {ep : Nat} {t : SetTable} {xs : List Str} {slot i : Nat} {Q : Option (Value × Nat) → Shared → Prop} (hb : byText w = false) (hs : es.size ≤ 1)
    (hS : s.heap.get? S = some { cls := .type "set", dict := none, data := .set es ep t, slots := #[] }) (D : SetD prog w es t xs)
    (h : Q (match es[SetTable.below t.place slot]?, t.place[SetTable.below t.place slot]? with | some (_, x), some j => some (x, j + 1) | _, _ => none) s) :
    wpAny (model prog w) A (setNext S slot i ep) Q E s := by
  unfold setNext setsByText
  refine wpAny_bind (wpAny_setState_of hS rfl D.fits ?_)
  dsimp only
  refine wpAny_bind (wpAny_bind (wpAny_askSetting (wpAny_pure ?_)))
  split
  · rename_i hp
    have : byText w = true := hp
    rw [hb] at this; cases this
  · split
    · rename_i hd
      have hd' : (!t.plain && decide (es.size > 1)) = true := hd
      simp at hd'
      omega
    · have hl : t.led = true := by rw [D.led, hb]; rfl
      refine wpAny_bind (wpAny_of_eq (a := ()) ?_ (wpAny_pure h))
      show (if (!t.led && !es.isEmpty) = true then unsupported "set:maker-not-led" else pure ()) = pure ()
      rw [hl]; rfl

theorem set_next_item {I S : Addr} {es : Array (Int × Value)} {ep : Nat} {t : SetTable} {f : Value} {L : List Value} {xs : List Str} {i : Nat} {x : Value} {Q : Fin → Shared → Prop}
    (D : SetD prog w es t xs) (hIS : I ≠ S) (hIT : ∀ T, f = .ref T → T ≠ I) (hst : SetIt prog w I S es ep t f L i s.heap) (hx : L[i]? = some x)
    (hQ : ∀ h', SetIt prog w I S es ep t f L (i + 1) h' → Heap.SameBut I s.heap h' → Q (.done (.ret x)) { s with heap := h' }) :
    wpAny (model prog w) A (Builtin.«set_iterator.__next__» ⟨[.ref I], []⟩) Q E s := by
  obtain ⟨f', hI, hf', hS, road⟩ := hst
  refine wpAny_bind (m := slotArgs "__next__" 0 ⟨[.ref I], []⟩) (wpAny_of_eq (a := (.ref I, [])) rfl ?_)
  refine wpAny_bind (wpAny_fieldsOf hI rfl ?_)
  dsimp only
  refine wpAny_bind (wpAny_setEntries_of hS rfl D.fits ?_)
  rw [if_neg (by simp)]
  have keepS : ∀ h' : Heap, Heap.SameBut I s.heap h' → h'.get? S = some { cls := .type "set", dict := none, data := .set es ep t, slots := #[] } := fun h' hsb => (hsb.2 S (Ne.symm hIS)).trans hS
  cases road with
  | drawn T ps hT hp =>
    have hf : f' = .ref T := by
      rcases hf' with ⟨h, _⟩ | ⟨_, _, h, _⟩
      · exact h
      · cases h
    subst hf
    have hTI : T ≠ I := hIT T rfl
    dsimp only
    refine wpAny_bind (wpAny_seqItems hT rfl ?_)
    dsimp only
    have hlt : ∀ p ∈ ps, p < es.size := fun p hpp => List.mem_range.mp (hp.mem_iff.mp hpp)
    rw [filterMap_total (fun p hpp => by rw [Option.isSome_map, getElem?_pos es p (hlt p hpp)]; rfl)] at hx
    cases hpi : ps[i]? with
    | none => rw [hpi] at hx; cases hx
    | some p =>
      rw [hpi] at hx
      have hp' := hlt p (List.mem_of_getElem? hpi)
      have hxe : (es[p]?).map (·.2) = some x := hx
      have e1 : (ps.map fun i => rawInt (i : Nat)).toArray[((i : Nat) : Int).toNat]? = some (.int (p : Int) 0) := by
        rw [Int.toNat_natCast, List.getElem?_toArray, List.getElem?_map, hpi]; rfl
      rw [e1]
      dsimp only
      unfold setNextDrawn
      refine wpAny_bind (wpAny_bind (wpAny_setState_of hS rfl D.fits ?_))
      dsimp only
      rw [if_neg (by simp), Int.toNat_natCast, getElem?_pos es p hp']
      rw [getElem?_pos es p hp'] at hxe
      dsimp only
      have hxv : es[p].2 = x := Option.some.inj hxe
      refine wpAny_pure ?_
      refine wpAny_bind (wpAny_setField_rec (k := 1) hI (by simp) fun h' hI' hsb => ?_)
      rw [hxv]
      refine wpAny_pure (hQ h' ⟨.ref T, ?_, .inl ⟨rfl, fun e => by cases e⟩, keepS h' hsb, .drawn T ps ((hsb.2 T hTI).trans hT) hp⟩ hsb)
      rw [hI']; rfl
  | text hb =>
    have hf : f' = .int 0 0 := by
      rcases hf' with ⟨h, _⟩ | ⟨h, _⟩
      · exact h
      · rw [hb] at h; cases h
    subst hf
    dsimp only
    refine wpAny_bind (setNext_text hb hS D ?_)
    rw [List.getElem?_map, Array.getElem?_toList] at hx
    obtain ⟨e, he, rfl⟩ := Option.map_eq_some_iff.mp hx
    rw [Int.toNat_natCast i, Int.toNat_natCast ep, he]
    dsimp only [Option.map]
    refine wpAny_bind (wpAny_setField_rec (k := 0) hI (by simp) fun h1 hI1 hsb1 => ?_)
    refine wpAny_bind (wpAny_setField_rec (s := { s with heap := h1 }) (k := 1) hI1 (by simp) fun h' hI' hsb => ?_)
    have hsb' := hsb1.trans hsb
    refine wpAny_pure (hQ h' ⟨.int 0 0, ?_, .inl ⟨rfl, fun _ e => by rw [hb] at e; cases e⟩, keepS h' hsb', .text hb⟩ hsb')
    rw [hI']; rfl
  | plain hb hs =>
    have hi : i < es.size := by
      have := (List.getElem?_eq_some_iff.mp hx).1
      simpa using this
    have hi0 : i = 0 := by (with_reducible exact Ln.o315 ‹_› ‹_›)
    subst hi0
    have hsz : es.size = 1 := by (with_reducible exact Ln.o314 ‹_› ‹_›)
    have hf : f' = .int 0 0 := by
      rcases hf' with ⟨h, _⟩ | ⟨_, _, _, h, _⟩
      · exact h
      · cases h
    subst hf
    dsimp only
    have hfit := D.fits
    unfold SetTable.fits at hfit
    simp only [Bool.and_eq_true, beq_iff_eq] at hfit
    have hpl : t.place.size = 1 := by omega
    obtain ⟨j, hj⟩ : ∃ j, t.place[0]? = some j := ⟨t.place[0], getElem?_pos t.place 0 (by omega)⟩
    refine wpAny_bind (setNext_plain hb hs hS D ?_)
    rw [show (0 : Int).toNat = 0 from rfl, below0 (by omega), hj, getElem?_pos es 0 (by omega)]
    rw [List.getElem?_map, Array.getElem?_toList, getElem?_pos es 0 (by omega)] at hx
    have hxv : es[0].2 = x := Option.some.inj hx
    dsimp only
    refine wpAny_bind (wpAny_setField_rec (k := 0) hI (by simp) fun h1 hI1 hsb1 => ?_)
    refine wpAny_bind (wpAny_setField_rec (s := { s with heap := h1 }) (k := 1) hI1 (by simp) fun h' hI' hsb => ?_)
    have hsb' := hsb1.trans hsb
    rw [hxv]
    refine wpAny_pure (hQ h' ⟨.int ((j + 1 : Nat) : Int) 0, ?_, .inr ⟨hb, hs, rfl, rfl, j, hj, rfl⟩, keepS h' hsb', .plain hb hs⟩ hsb')
    rw [hI']; rfl

theorem raise_stop {I : Addr} {Q : Fin → Shared → Prop} (hh : A.handled = none)
    (hQ : ∀ e h', Heap.ExtBut I s.heap h' → Shared.TypeIs { s with heap := h' } (.ref e) "StopIteration" → E (.ref e) { s with heap := h' }) :
    wpAny (model prog w) A (do let e ← newExc (.type "StopIteration") []; raiseNew e : Sem Fin) Q E s := by
  refine wpAny_bind ?_
  refine wpAny_bind (wpAny_newObj_type ?_ (by size_fits))
  refine wpAny_bind (m := firstArgMember _ _) (wpAny_of_eq (a := Value.none) (by first | rfl | (simp only [firstArgMember]; rfl)) ?_)
  refine wpAny_newObj_type ?_ (by size_fits)
  refine wpAny_bind (wpAny_handled ?_)
  rw [hh]
  refine wpAny_bind (wpAny_pure (wpAny_throw ?_))
  exact hQ _ _ (((Heap.SameBut.refl I s.heap).extBut.push _).push _) ⟨_, Heap.get?_push_size _ rfl, rfl⟩

theorem set_next_end {I S : Addr} {es : Array (Int × Value)} {ep : Nat} {t : SetTable} {f : Value} {L : List Value} {xs : List Str} {Q : Fin → Shared → Prop} (hh : A.handled = none)
    (D : SetD prog w es t xs) (hst : SetIt prog w I S es ep t f L L.length s.heap)
    (hQ : ∀ e h', Heap.ExtBut I s.heap h' → Shared.TypeIs { s with heap := h' } (.ref e) "StopIteration" → E (.ref e) { s with heap := h' }) :
    wpAny (model prog w) A (Builtin.«set_iterator.__next__» ⟨[.ref I], []⟩) Q E s := by
  obtain ⟨f', hI, hf', hS, road⟩ := hst
  have hL : L.length = es.size := by rw [road.perm.length_eq]; simp
  refine wpAny_bind (m := slotArgs "__next__" 0 ⟨[.ref I], []⟩) (wpAny_of_eq (a := (.ref I, [])) rfl ?_)
  refine wpAny_bind (wpAny_fieldsOf hI rfl ?_)
  dsimp only
  refine wpAny_bind (wpAny_setEntries_of hS rfl D.fits ?_)
  rw [if_neg (by simp)]
  have fin : ∀ h1 : Heap, Heap.SameBut I s.heap h1 → wpAny (model prog w) A (do let e ← newExc (.type "StopIteration") []; raiseNew e : Sem Fin) Q E { s with heap := h1 } := by
    rintro h1 hsb1
    exact raise_stop (I := I) (s := { s with heap := h1 }) hh fun e h' he ht => hQ e h' (hsb1.extBut.trans he) ht
  cases road with
  | drawn T ps hT hp =>
    have hf : f' = .ref T := by
      rcases hf' with ⟨h, _⟩ | ⟨_, _, h, _⟩
      · exact h
      · cases h
    subst hf
    dsimp only
    refine wpAny_bind (wpAny_seqItems hT rfl ?_)
    dsimp only
    have e1 : (ps.map fun i => rawInt (i : Nat)).toArray[((List.filterMap (fun i => Option.map (fun x => x.snd) es[i]?) ps).length : Int).toNat]? = none := by
      rw [Int.toNat_natCast, List.getElem?_toArray, List.getElem?_eq_none]
      rw [List.length_map, hp.length_eq, List.length_range, hL]
      exact Nat.le_refl _
    rw [e1]
    dsimp only
    refine wpAny_bind (wpAny_setField_rec (k := 0) hI (by simp) fun h1 hI1 hsb1 => ?_)
    refine wpAny_bind (wpAny_setField_rec (s := { s with heap := h1 }) (k := 2) hI1 (by simp) fun h2 hI2 hsb2 => ?_)
    exact fin h2 (hsb1.trans hsb2)
  | text hb =>
    have hf : f' = .int 0 0 := by
      rcases hf' with ⟨h, _⟩ | ⟨h, _⟩
      · exact h
      · rw [hb] at h; cases h
    subst hf
    dsimp only
    refine wpAny_bind (setNext_text hb hS D ?_)
    rw [Int.toNat_natCast, getElem?_neg _ _ (by simp)]
    dsimp only [Option.map]
    refine wpAny_bind (wpAny_setField_rec (k := 2) hI (by simp) fun h1 hI1 hsb1 => ?_)
    exact fin h1 hsb1
  | plain hb hs =>
    have hfit := D.fits
    unfold SetTable.fits at hfit
    simp only [Bool.and_eq_true, beq_iff_eq] at hfit
    have stop : ∀ sl : Int, f' = .int sl 0 → es[SetTable.below t.place sl.toNat]? = none →
        wpAny (model prog w) A (do
          let r ← setNext S sl.toNat (((es.toList.map (·.2)).length : Nat) : Int).toNat ((ep : Nat) : Int).toNat
          match r with
          | some (x, next) => do
            setField (.ref I) 0 (rawInt next)
            setField (.ref I) 1 (rawInt ((((es.toList.map (·.2)).length : Nat) : Int) + 1))
            ret x
          | none => do setField (.ref I) 2 .none; let e ← newExc (.type "StopIteration") []; raiseNew e : Sem Fin) Q E s := by
      intro sl hsl hn
      refine wpAny_bind (setNext_plain hb hs hS D ?_)
      rw [hn]
      dsimp only
      refine wpAny_bind (wpAny_setField_rec (k := 2) hI (by simp) fun h1 hI1 hsb1 => ?_)
      exact fin h1 hsb1
    rcases hf' with ⟨rfl, h0⟩ | ⟨_, _, _, h1, j, hj, rfl⟩
    · have hz : es.size = 0 := by
        have := h0 rfl hb
        (with_reducible exact Ln.o317 ‹_› ‹_›)
      exact stop 0 rfl (by rw [show (0 : Int).toNat = 0 from rfl, below0 (by omega)]; exact getElem?_neg es 0 (by (with_reducible exact Ln.o316 ‹_›)))
    · refine stop _ rfl ?_
      have hsz : es.size = 1 := by rw [hL] at h1; exact h1
      rw [Int.toNat_natCast, below1 (by omega) hj]
      exact getElem?_neg es 1 (by omega)
end
end Mine.St
end
section
open PySem PyProof.Rows PySem.Spec
set_option autoImplicit false
set_option maxRecDepth 100000
namespace Mine.St

theorem slot_set_iterator_iter : Slot "set_iterator" "__iter__" "set_iterator.__iter__" :=
  .of (owner := "set_iterator") (n := "__iter__") (by rw [typeLookup_type, builtinLookup_eq_fast]; kernel_rfl) (by decide +kernel) (by decide +kernel) (by decide +kernel)
    (by first | exact .inl (by decide +kernel) | exact .inr (by decide +kernel)) (by rw [isSubtype_type]; kernel_rfl)
theorem entry_set_iterator_iter : entryFor table "set_iterator.__iter__" = some Builtin.«dict_keyiterator.__iter__» :=
  entryFor_alias (id' := "dict_keyiterator.__iter__") (by rw [fastTable_eq_tree]; kernel_rfl) (by first | rfl | decide +kernel) (by decide +kernel) (by rw [fastTable_eq_tree]; kernel_rfl)
theorem args_set_iterator_iter_1 (a : Value) : argsOk "set_iterator.__iter__" ⟨[a], []⟩ := by
  unfold argsOk; rw [signature?_of (id := "set_iterator.__iter__") (n := ['_', '_', 'r', 'e', 't', 'i', '_', '_']) (o := ['r', 'o', 't', 'a', 'r', 'e', 't', 'i', '_', 't', 'e', 's']) (by kernel_rfl) owner_set_iterator]; kernel_rfl

theorem SetIt.at {prog : Program} {w : World} {I S : Addr} {es : Array (Int × Value)} {ep : Nat} {t : SetTable} {f : Value} {L : List Value} {i : Nat} {h h' : Heap}
    (st : SetIt prog w I S es ep t f L i h) (k : ∀ b, (b = I ∨ b = S ∨ f = .ref b) → ∀ o, h.get? b = some o → h'.get? b = some o) : SetIt prog w I S es ep t f L i h' := by
  obtain ⟨f', hI, hf', hS, road⟩ := st
  refine ⟨f', k I (.inl rfl) _ hI, hf', k S (.inr (.inl rfl)) _ hS, ?_⟩
  cases road with
  | drawn T ps hT hp => exact .drawn T ps (k T (.inr (.inr rfl)) _ hT) hp
  | text hb => exact .text hb
  | plain hb hs => exact .plain hb hs

section
variable {prog : Program} {w : World} {A : Around} {E : Value → Shared → Prop} {s : Shared}

theorem hint_set {S : Addr} {Q : Bool → Shared → Prop} (hT : s.TypeIs (.ref S) "set") (h : Q false s) : wpAny (model prog w) A (Builtin.List.listLengthHint (.ref S)) Q E s := by
  unfold Builtin.List.listLengthHint
  refine wpAny_bind (wpAny_specialOf hT PySem.F.slot_set_len.lookup ?_)
  generalize hid : ("set.__len__" : String) = id0
  wp_delta
  rw [show splitId id0 = some ("set", "__len__") from by subst hid; decide +kernel]
  subst hid
  refine wpAny_bind (wpAny_isInstance (T := "set") (b := true) hT (by rw [isSubtype_type]; kernel_rfl) ?_)
  refine wpAny_ite_split (fun hab => absurd hab (by decide)) (fun _ => ?_)
  refine wpAny_ite_split (fun _ => ?_) (fun hab => absurd (by decide +kernel) hab)
  refine wpAny_bind (wpAny_typeOf hT ?_)
  exact wpAny_pure h

noncomputable def fpOf (I S : Addr) : Value → List Addr
  | .ref T => [I, S, T]
  | _ => [I, S]
theorem mem_fpOf {I S b : Addr} {f : Value} : b ∈ fpOf I S f ↔ (b = I ∨ b = S ∨ f = .ref b) := by
  unfold fpOf
  split
  · rename_i T
    simp only [List.mem_cons, List.not_mem_nil, or_false, Value.ref.injEq]
    exact ⟨fun h => h.imp id (fun h => h.imp id Eq.symm), fun h => h.imp id (fun h => h.imp id Eq.symm)⟩
  · rename_i hn
    simp only [List.mem_cons, List.not_mem_nil, or_false]
    exact ⟨fun h => h.imp id .inl, fun h => h.imp id (fun h => h.elim id fun h => absurd h (hn b))⟩

theorem Walks.set (hh : A.handled = none) {I S : Addr} {es : Array (Int × Value)} {ep : Nat} {t : SetTable} {f : Value} {L : List Value} {xs : List Str}
    (D : SetD prog w es t xs) (hIS : I ≠ S) (hIT : ∀ T, f = .ref T → T ≠ I) :
    Walks prog w A I (fpOf I S f) [I] L.length (fun i v => L[i]? = some v) (fun i h => SetIt prog w I S es ep t f L i h) where
  sub := fun b hb => by rw [List.mem_singleton.mp hb]; exact mem_fpOf.mpr (.inl rfl)
  frame := fun _ _ _ st hk => st.at fun b hb o e => hk b (mem_fpOf.mpr hb) o e
  item := fun i s Q E hi st hQ => by
    unfold pyNext
    have hTI : s.TypeIs (.ref I) "set_iterator" := by obtain ⟨f', hI, _⟩ := st; exact ⟨_, hI, rfl⟩
    refine wpAny_bind (wpAny_attempt (wpAny_callSpecial?_slot (name := Str.ofString "__next__") hTI slot_set_iterator_next
      (wpAny_call_entry slot_set_iterator_next hTI entry_set_iterator_next ?_ (args_set_iterator_next_1 _))))
    refine set_next_item D hIS hIT st (x := L[i]) (by simp [hi]) fun h' st' hsb => ?_
    refine ⟨_, rfl, ?_⟩
    exact wpAny_pure (hQ _ h' s.toks (by simp [hi]) st' fun b o hb e => hsb.extBut b o (fun h => hb (by simp [h])) e)
  done := fun s Q E st hQ => by
    unfold pyNext
    have hTI : s.TypeIs (.ref I) "set_iterator" := by obtain ⟨f', hI, _⟩ := st; exact ⟨_, hI, rfl⟩
    refine wpAny_bind (wpAny_attempt (wpAny_callSpecial?_slot (name := Str.ofString "__next__") hTI slot_set_iterator_next
      (wpAny_call_entry slot_set_iterator_next hTI entry_set_iterator_next ?_ (args_set_iterator_next_1 _))))
    refine set_next_end hh D st fun e h' he ht => ?_
    refine wpAny_bind (wpAny_isInstance (T := "StopIteration") (b := true) ht isSubtype_stop ?_)
    exact wpAny_pure (hQ h' s.toks fun b o hb e => he b o (fun h => hb (by simp [h])) e)
  self := fun _ s Q E st hQ => by
    have hTI : s.TypeIs (.ref I) "set_iterator" := by obtain ⟨f', hI, _⟩ := st; exact ⟨_, hI, rfl⟩
    refine wpAny_pyIter_slot hTI slot_set_iterator_iter (wpAny_call_entry slot_set_iterator_iter hTI entry_set_iterator_iter ?_ (args_set_iterator_iter_1 _))
    show wpAny _ _ (ret (.ref I)) _ _ s
    exact wpAny_pure ⟨_, rfl, "set_iterator", _, hTI, slot_set_iterator_next.lookup, hQ⟩

theorem list_eq_of_items {L : List Value} {acc : Array Value} (h : ItemsOf (fun i v => L[i]? = some v) acc L.length) : acc.toList = L := by
  refine List.ext_getElem? fun i => ?_
  rw [Array.getElem?_toList]
  rcases Nat.lt_or_ge i L.length with hi | hi
  · have : i < acc.size := by rw [h.1]; exact hi
    rw [h.2 i acc[i] (by simp [this]), getElem?_pos acc i this]
  · rw [List.getElem?_eq_none hi, Array.getElem?_eq_none (by rw [h.1]; exact hi)]



end
end Mine.St
end
section
open PySem PyProof.Rows PySem.Spec
set_option autoImplicit false
set_option maxRecDepth 100000
namespace Mine.St

section
variable {prog : Program} {w : World} {A : Around} {E : Value → Shared → Prop} {s : Shared}

theorem collect_set (hh : A.handled = none) {S : Addr} {xs : List Str} {Q : List Value → Shared → Prop} (hS : SetS prog w s.heap S xs)
    (hQ : ∀ L h' tk dr es t, SetD prog w es t xs → es.size < scanBound → L.Perm (es.toList.map (·.2)) → (∀ b o, s.heap.get? b = some o → h'.get? b = some o) → Q L { s with heap := h', toks := tk, drawn := dr }) :
    wpAny (model prog w) A (collect (.ref S)) Q E s := by
  unfold collect
  have hSlt : S < s.heap.objs.size := by obtain ⟨es, ep, t, ho, _⟩ := hS; exact Heap.lt_size ho
  have hBS : s.heap.objs.size ≠ S := Nat.ne_of_gt hSlt
  refine wpAny_bind (wpAny_runValue (codeAny_builtin F.entry_proto_collect ?_))
  rw [Around.under_plainId F.plain_proto_collect _]
  show wpAny _ A.in1 (newList [] >>= fun l => again (.builtin "list.__iadd__" ⟨[l, .ref S], []⟩)) _ _ s
  refine wpAny_bind (wpAny_newObj_type ?_)
  refine wpAny_pure ⟨plainId_quiet F.plain_list_iadd _, codeAny_builtin F.entry_list_iadd ?_⟩
  rw [Around.under_plainId F.plain_list_iadd _]
  show wpAny _ A.in1 (Builtin.List.listExtendWith (.ref s.heap.objs.size) (.ref S) (.ref s.heap.objs.size)) _ _ _
  unfold Builtin.List.listExtendWith
  have hS0 : SetS prog w (s.heap.push { cls := .type "list", data := .seq ([] : List Value).toArray }) S xs := hS.at fun o e => Heap.get?_push_of_some _ e
  have hB0 : (s.heap.push { cls := .type "list", data := .seq ([] : List Value).toArray }).get? s.heap.objs.size = some { cls := .type "list", data := .seq ([] : List Value).toArray } := Heap.get?_push_size _ rfl
  refine wpAny_bind (wpAny_typeOf (T := "set") (by obtain ⟨es, ep, t, ho, _⟩ := hS0; exact ⟨_, ho, rfl⟩) ?_)
  have h1 : Builtin.List.listSameRef (.ref s.heap.objs.size) (.ref S) = false := by simp [Builtin.List.listSameRef, hBS]
  have h2 : (Value.type "set" == Value.type "list") = false := by decide
  have h3 : (Value.type "set" == Value.type "tuple") = false := by decide
  rw [if_neg (by rw [h1, h2, h3]; decide)]
  refine wpAny_bind (wpAny_pyIter_set (s := { s with heap := s.heap.push { cls := .type "list", data := .seq ([] : List Value).toArray } }) hS0 fun es ep t f L h₁ I dr hg D hb hk hI hIn road hTI => ?_)
  have hIS : I ≠ S := fun e => by subst e; rw [hIn] at hg; cases hg
  have hBI : s.heap.objs.size ≠ I := fun e => by rw [← e] at hIn; exact absurd (hIn.symm.trans hB0) (by simp)
  have hB1 := hk _ _ hB0
  have hg1 := hk _ _ hg
  have hTB : ∀ T, f = .ref T → T ≠ s.heap.objs.size := by
    rintro T rfl rfl
    cases road with
    | drawn T ps hT hp => rw [hB1] at hT; injection hT with hT; exact absurd (show Value.type "list" = Value.type "tuple" from congrArg Obj.cls hT) (by decide)
  have hSf : s.heap.objs.size ∉ fpOf I S f := fun hm => by
    rcases mem_fpOf.mp hm with h | h | h
    · exact hBI h
    · exact hBS h
    · exact hTB _ h rfl
  have st : SetIt prog w I S es ep t f L 0 h₁ := ⟨f, hI, .inl ⟨rfl, fun _ _ => rfl⟩, hg1, road⟩
  have W : Walks prog w A.in1 I (fpOf I S f) [I] L.length (fun i v => L[i]? = some v) (fun i h => SetIt prog w I S es ep t f L i h) := Walks.set (A := A.in1) (L := L) (ep := ep) hh D hIS hTI
  have hLs : L.length = es.size := by rw [road.perm.length_eq]; simp
  have hn : L.length ≤ sizeLine := by rw [hLs, sizeLine_eq]; have : scanBound = 4096 := rfl; (with_reducible exact Ln.o320 ‹_› ‹_›)
  refine wpAny_bind (wpAny_holding (hint_set ⟨_, hg1, rfl⟩ ?_))
  have key : ∀ (R : Result → Shared → Prop) (h : Heap) (c₁ tk : Nat), SetIt prog w I S es ep t f L 0 h → (∀ b o, b ≠ s.heap.objs.size → h₁.get? b = some o → h.get? b = some o) →
      h.get? s.heap.objs.size = some { cls := .type "list", data := .seq #[] c₁ } →
      (∀ h' tk' c', (∀ b o, s.heap.get? b = some o → h'.get? b = some o) → h'.get? s.heap.objs.size = some { cls := .type "list", dict := none, data := .seq L.toArray c', slots := #[] } →
        R (.ok (.ret (.ref s.heap.objs.size))) { s with heap := h', toks := tk', drawn := dr }) →
      codeAny (model prog w) A (.builtin "list.extend.loop" ⟨[.ref s.heap.objs.size, .ref I, .ref s.heap.objs.size], []⟩) R { s with heap := h, toks := tk, drawn := dr } := by
    intro R h c₁ tk hst hkk hS₁ hR
    refine codeAny_extend_loopS W.toS hn _ hSf _ L.length 0 ({ s with heap := h, toks := tk, drawn := dr } : Shared) #[] c₁ rfl (Nat.zero_le _) hst hS₁ (ItemsOf.nil _) fun s' acc' c' hm hS' hacc => ?_
    rw [Moved.eq_with hm]
    refine hR s'.heap s'.toks c' (fun b o e => ?_) ?_
    · have hbs := Heap.lt_size e
      refine hm.heap b o (fun hmem => ?_) (hkk b o (Nat.ne_of_lt hbs) (hk b o (Heap.get?_push_of_some _ e)))
      rcases List.mem_cons.mp hmem with e' | hmem
      · exact absurd e' (Nat.ne_of_lt hbs)
      · rw [List.mem_singleton.mp hmem] at e
        exact absurd ((Heap.get?_push_of_some _ e).symm.trans hIn) (by simp)
    · have := list_eq_of_items hacc
      rw [hS', ← this, Array.toArray_toList]
  refine wpAny_bind (wpAny_rule ?_)
  refine wpAny_bind ?_
  show wpAny _ A.in1 (updateSeq s.heap.objs.size (·.push .none) >>= fun _ => updateSeq s.heap.objs.size (·.pop)) _ _ _
  refine wpAny_bind (wpAny_updateSeq hB1 rfl ?_)
  have hS₂ := Heap.get?_update_self (Obj.mapSeq (·.push Value.none)) hB1 rfl
  refine wpAny_updateSeq hS₂ rfl ?_
  have hS₃ := Heap.get?_update_self (Obj.mapSeq (·.pop)) hS₂ rfl
  have oth : ∀ b o, b ≠ s.heap.objs.size → h₁.get? b = some o →
      ((h₁.update s.heap.objs.size (Obj.mapSeq (·.push Value.none))).update s.heap.objs.size (Obj.mapSeq (·.pop))).get? b = some o :=
    fun b o hb e => (Heap.get?_update_other _ _ (Ne.symm hb)).trans ((Heap.get?_update_other _ _ (Ne.symm hb)).trans e)
  refine wpAny_pure ⟨plainId_quiet F.plain_extend_loop _, key _ _ _ s.toks (st.at fun b hb o e => oth b o (fun h => hSf (h ▸ mem_fpOf.mpr hb)) e) oth hS₃ fun h' tk' c' hk' hB' => ?_⟩
  show wpAny _ A (load s.heap.objs.size >>= _) _ _ _
  refine wpAny_bind (wpAny_load hB' ?_)
  refine wpAny_pure (hQ L h' tk' dr es t D hb road.perm hk')
end
end Mine.St
end
section
open PySem PySem.W PyProof.Rows PySem.Spec PySem.Calls
set_option maxRecDepth 100000
namespace Mine
noncomputable abbrev PG : Program := PySem.Challenge.rw_wb0017_01.row.prog
noncomputable abbrev VW : Program := hd.view_39
noncomputable abbrev LS : List Str := looseW hd.view_39 [Str.ofString "COMPILER_FLAG_NAMES"]
noncomputable abbrev AR (dp un : Nat) (gd : Option (List Code)) (fr : Option (List Env)) : Around := { handled := none, depth := dp, frames := fr, guards := gd, units := un }

theorem enterP {K : Frag} {w : World} {s : Shared} {dp un : Nat} {gd : Option (List Code)} {fr : Option (List Env)} {Q E : Value → Shared → Prop} {p : Program} {loose : List Str} {mean : ExcName → Option Value} {mg mb : Str → Option Value}
    {name qual : Str} {params : Arguments} {body : List Stmt} {scope : Scope} {dV kV doc pm cdv ct oc : Value} {an od : Option Addr} {osl : Array (Option Value)} {f : Addr} {pos : List Value} {binds : List (Str × Value)}
    (X₀ : K.In s.heap) (T : Top p loose mean mg mb s.heap)
    (ho : K.lookup f = some ⟨oc, od, .func (fnOf name qual params body scope dV kV doc pm an cdv ct), osl⟩) (hcd : codeIn K cdv qual = true) (hroom : dp < recursionLimit)
    (hbind : BindsTo s (fnOf name qual params body scope dV kV doc pm an cdv ct) ⟨pos, []⟩ binds) (hloc : ∀ y ∈ binds, scope.names.lookup y.1 = some .local)
    (h : ∀ h₁, Fr s.heap s.heap.objs.size h₁ (fun y => binds.reverse.lookup y) → News s.heap s.heap.objs.size h₁ [] →
      wpAny (model PG w) ((AR dp un gd fr).deeper (envOf qual scope s.heap.objs.size f cdv)) (execs body (envOf qual scope s.heap.objs.size f cdv))
        (fun fl s' => Q (match fl with | .ret v => v | _ => .none) s') (fun _ _ => False)
        { s with heap := h₁, toks := s.toks + binds.length })
    (hco : scope.isCoroutine = false) (hgen : scope.isGenerator = false) (hk : scope.kind = .function)
    (hcell : ∀ x ∈ scope.names, x.2 ≠ .cell) : wpAny (model PG w) (AR dp un gd fr) (call (.ref f) pos) Q E s := by
  refine wpAny_call ?_
  refine codeAny_call_def (A := AR dp un gd fr) (fd := fnOf name qual params body scope dV kV doc pm an cdv ct) hroom (X₀ _ _ ho) rfl T.nolimit (codeRec_of X₀ hcd) rfl hbind hcell hloc (fun h₁ hns hk₁ => ?_) hco hgen hk
  refine wpAny_mono (h h₁ ⟨hns, hk₁, Nat.le_refl _⟩ .nil) (fun _ _ x => x) (fun _ _ x => x.elim)

end Mine
end
section
open PySem PySem.W PyProof.Rows PySem.Spec PySem.Calls
set_option maxRecDepth 100000
namespace Mine
section
variable {prog : Program} {w : World} {A : Around} {E : Value → Shared → Prop} {s : Shared} {h₀ : Heap} {L D : Addr} {m : Str → Option Value} {news news' : List (Addr × Obj)}

theorem insert0_K {its : Array Value} {n : Nat} {x : Value} {u : Tok} {Q : Value → Shared → Prop} (F : Fr h₀ L s.heap m) (N : News h₀ L s.heap news) (U : Upd D (listOf its n) (listOf (#[x] ++ its) (n + 1)) news news')
    (h : ∀ h', Fr h₀ L h' m → News h₀ L h' news' → Q .none { s with heap := h' }) (hsz : its.size ≤ sizeLine := by size_fits) : wpAny (model prog w) A (call (.builtin "list.insert") [.ref D, .int 0 u, x]) Q E s := by
  obtain ⟨pre, post, rfl, rfl, a, b⟩ := U.split
  have z := N (D, listOf its n) (List.mem_append.mpr (.inr (.head _)))
  refine wpAny_call_entry PySem.F.slot_list_insert ⟨_, z.1, rfl⟩ PySem.F.entry_list_insert ?_ (PySem.F.args_list_insert_3 _ _ _)
  show wpAny _ _ (updateSeq D _ >>= fun _ => ret .none) _ _ s
  refine wpAny_bind ?_
  have hz' : ((its.extract 0 (if (0 : Int) < 0 then ((0 : Int) + its.size).toNat else min (0 : Int).toNat its.size)).push x ++ its.extract (if (0 : Int) < 0 then ((0 : Int) + its.size).toNat else min (0 : Int).toNat its.size) its.size).size ≤ sizeLine + 1 := by
    simp; (with_reducible exact Ln.o321 ‹_›)
  refine wpAny_updateSeq z.1 rfl (wpAny_pure ⟨.none, rfl, ?_⟩) (hz := hsz) (_hz' := hz')
  have sb : Heap.SameBut D s.heap (s.heap.update D (Obj.mapSeq (fun xs => (xs.extract 0 (if (0 : Int) < 0 then ((0 : Int) + xs.size).toNat else min (0 : Int).toNat xs.size)).push x ++ xs.extract (if (0 : Int) < 0 then ((0 : Int) + xs.size).toNat else min (0 : Int).toNat xs.size) xs.size))) := Heap.SameBut.update ..
  refine h _ (F.change sb z.2.1 z.2.2) (news_set N a b sb ?_)
  rw [Heap.get?_update_self _ z.1 (by simp [Obj.mapSeq, W.listOf]; rfl)]
  simp [Obj.mapSeq, W.listOf]
end
end Mine
end
section
open PySem PySem.W PyProof.Rows PySem.Spec PySem.Calls
set_option maxRecDepth 100000
namespace Mine
section
variable {prog : Program} {w : World} {A : Around} {E : Value → Shared → Prop} {s : Shared} {h₀ : Heap} {L : Addr}

inductive ForOk (h₀ : Heap) (L I : Addr) (oI : Obj) (J : (Str → Option Value) → List (Addr × Obj) → Prop) (sg : Array GenState) (so : OsState) (s₃ : Shared) : Prop
  | mk (h' : Heap) (tk' : Nat) (dr' : Drawn) (m' : Str → Option Value) (newsAll : List (Addr × Obj)) (news' : List (Addr × Obj))
    (c1 : s₃ = { heap := h', gens := sg, drawn := dr', toks := tk', os := so })
    (c2 : Fr h₀ L h' m')
    (c3 : News h₀ L h' newsAll)
    (c4 : (I, oI) ∈ newsAll)
    (c5 : (∀ p ∈ news', p ∈ newsAll))
    (c6 : (∀ p ∈ news', p.1 ≠ I))
    (c7 : J m' news')
noncomputable def ForPost (h₀ : Heap) (L I : Addr) (oI : Obj) (J : (Str → Option Value) → List (Addr × Obj) → Prop) (s : Shared) (R : Result → Shared → Prop) (f : Flow) (s₃ : Shared) : Prop :=
  match f with
  | .next | .cont => ForOk h₀ L I oI J s.gens s.os s₃
  | .brk => R (.ok .next) s₃
  | .ret v => R (.ok (.ret v)) s₃

theorem ForPost.next {I : Addr} {oI : Obj} {J : (Str → Option Value) → List (Addr × Obj) → Prop} {R : Result → Shared → Prop} {h' : Heap} {tk' : Nat} {dr'} {m' : Str → Option Value} {newsAll news' : List (Addr × Obj)}
    (F : Fr h₀ L h' m') (N : News h₀ L h' newsAll) (hI : (I, oI) ∈ newsAll) (hs : ∀ p ∈ news', p ∈ newsAll) (hn : ∀ p ∈ news', p.1 ≠ I) (hj : J m' news') :
    ForPost h₀ L I oI J s R .next { s with heap := h', toks := tk', drawn := dr' } := ⟨h', tk', dr', m', newsAll, news', rfl, F, N, hI, hs, hn, hj⟩
theorem ForPost.cont {I : Addr} {oI : Obj} {J : (Str → Option Value) → List (Addr × Obj) → Prop} {R : Result → Shared → Prop} {h' : Heap} {tk' : Nat} {dr'} {m' : Str → Option Value} {newsAll news' : List (Addr × Obj)}
    (F : Fr h₀ L h' m') (N : News h₀ L h' newsAll) (hI : (I, oI) ∈ newsAll) (hs : ∀ p ∈ news', p ∈ newsAll) (hn : ∀ p ∈ news', p.1 ≠ I) (hj : J m' news') :
    ForPost h₀ L I oI J s R .cont { s with heap := h', toks := tk', drawn := dr' } := ⟨h', tk', dr', m', newsAll, news', rfl, F, N, hI, hs, hn, hj⟩

theorem forK {R : Result → Shared → Prop} {x : Str} {px : Pos} {body orelse : List Stmt} {env : Env} {I : Addr} {fp : List Addr} {n : Nat} {P : Nat → Value → Prop} {St : Nat → Heap → Prop}
    (W : Walks prog w A I fp [I] n P St) (J : Nat → (Str → Option Value) → List (Addr × Obj) → Prop) (fixed : List (Addr × Obj))
    (hI : h₀.get? I = none) (hIL : I ≠ L) (hIf : ∀ i h, St i h → ∃ o, h.get? I = some o)
    (hfp : ∀ b ∈ fp, b = I ∨ (∃ o, h₀.get? b = some o) ∨ (∃ o, (b, o) ∈ fixed))
    (hfix : ∀ i m news, J i m news → ∀ p ∈ fixed, p ∈ news)
    {m₀ : Str → Option Value} {news₀ : List (Addr × Obj)}
    (hst : St 0 s.heap) (F : Fr h₀ L s.heap m₀) (N : News h₀ L s.heap news₀) (hn₀ : ∀ p ∈ news₀, p.1 ≠ I) (hj : J 0 m₀ news₀)
    (step : ∀ i v h tk dr m news oI, i < n → P i v → J i m news → (∀ p ∈ news, p.1 ≠ I) → Fr h₀ L h m → News h₀ L h ((I, oI) :: news) →
      wpAny (model prog w) A (assign (.Name x px) env v) (fun _ s₂ => wpAny (model prog w) A (execs body env) (ForPost h₀ L I oI (J (i + 1)) s R) (fun _ _ => False) s₂) (fun _ _ => False) { s with heap := h, toks := tk, drawn := dr })
    (fin : ∀ h tk dr m news, J n m news → (∀ p ∈ news, p.1 ≠ I) → Fr h₀ L h m → News h₀ L h news →
      wpAny (model prog w) A (execs orelse env) (fun f s₃ => R (.ok f) s₃) (fun _ _ => False) { s with heap := h, toks := tk, drawn := dr }) :
    codeAny (model prog w) A (.forLoop (.Name x px) (.ref I) body orelse env) R s := by
  have moveF : ∀ {h h' : Heap} {m}, Fr h₀ L h m → (∀ b o, b ∉ [I] → h.get? b = some o → h'.get? b = some o) → Fr h₀ L h' m := by
    intro h h' m F hk
    refine ⟨F.ns.at' fun o e => hk L o (by simpa using fun e => hIL e.symm) e, fun b o e => hk b o ?_ (F.keep b o e), F.above⟩
    intro hb
    rw [List.mem_singleton.mp hb] at e
    rw [hI] at e; cases e
  have moveN : ∀ {h h' : Heap} {news}, News h₀ L h news → (∀ p ∈ news, p.1 ≠ I) → (∀ b o, b ∉ [I] → h.get? b = some o → h'.get? b = some o) → News h₀ L h' news := by
    intro h h' news N hn hk p hp
    exact ⟨hk _ _ (by simpa using hn p hp) (N p hp).1, (N p hp).2⟩
  refine codeAny_forLoop_any (fun k s' => ∃ i h tk dr m news, k = n - i ∧ i ≤ n ∧ s' = { s with heap := h, toks := tk, drawn := dr } ∧ St i h ∧ J i m news ∧ (∀ p ∈ news, p.1 ≠ I) ∧ Fr h₀ L h m ∧ News h₀ L h news) ?_ n ⟨0, s.heap, s.toks, s.drawn, m₀, news₀, rfl, Nat.zero_le _, rfl, hst, hj, hn₀, F, N⟩
  rintro k s' ⟨i, h, tk, dr, m, news, rfl, hi, rfl, hst, hj, hn, F, N⟩
  rcases Nat.lt_or_ge i n with hlt | hge
  · refine W.item i _ _ _ hlt hst fun v h' tk' hP hst' hk => ?_
    obtain ⟨oI, hoI⟩ := hIf _ _ hst'
    have F' := moveF F hk
    have N' := moveN N hn hk
    have N2 : News h₀ L h' ((I, oI) :: news) := fun p hp => by
      rcases List.mem_cons.mp hp with rfl | hp
      · exact ⟨hoI, hIL, hI⟩
      · exact N' p hp
    show wpAny _ A (letOwnedTupleGo (.Name x px) (.ref I) v) _ _ _
    refine wpAny_pure ?_
    refine wpAny_mono (step i v h' tk' dr m news oI hlt hP hj hn F' N2) (fun _ s₂ h₂ => wpAny_mono h₂ (fun f s₃ h₃ => ?_) fun _ _ e => e.elim) fun _ _ e => e.elim
    have fin : ForPost h₀ L I oI (J (i + 1)) s R .next s₃ → ∃ m, m < n - i ∧ ∃ i h tk dr m' news, m = n - i ∧ i ≤ n ∧ s₃ = { s with heap := h, toks := tk, drawn := dr } ∧ St i h ∧ J i m' news ∧ (∀ p ∈ news, p.1 ≠ I) ∧ Fr h₀ L h m' ∧ News h₀ L h news := by
      rintro ⟨h'', tk'', dr'', m'', nA, n'', rfl, F'', N'', hIn, hsub, hne, hj''⟩
      refine ⟨n - (i + 1), by (with_reducible exact Ln.o324 ‹_›), i + 1, h'', tk'', dr'', m'', n'', rfl, hlt, rfl, ?_, hj'', hne, F'', fun p hp => N'' p (hsub p hp)⟩
      refine W.frame _ _ _ hst' fun b hb o e => ?_
      rcases hfp b hb with rfl | ⟨o', e'⟩ | ⟨o', hf⟩
      · rw [hoI] at e; cases e
        exact (N'' _ hIn).1
      · have := F'.keep b o' e'
        rw [this] at e; rw [← e]
        exact F''.keep b o' e'
      · have h1 := (N' _ (hfix _ _ _ hj _ hf)).1
        have h1' : h'.get? b = some o' := h1
        rw [h1'] at e; cases e
        exact (N'' _ (hsub _ (hfix _ _ _ hj'' _ hf))).1
    cases f with
    | next => exact fin h₃
    | cont => exact fin h₃
    | brk => exact h₃
    | ret v => exact h₃
  · have hin : i = n := by (with_reducible exact Ln.o31 ‹_› ‹_›)
    subst hin
    refine W.done _ _ _ hst fun h' tk' hk => ?_
    exact wpAny_mono (fin h' tk' dr m news hj hn (moveF F hk) (moveN N hn hk)) (fun _ _ x => x) fun _ _ e => e.elim

theorem forK_list {R : Result → Shared → Prop} {x : Str} {px : Pos} {body orelse : List Stmt} {env : Env} {l : Addr} {items : Array Value}
    (hh : A.handled = none) (J : Nat → (Str → Option Value) → List (Addr × Obj) → Prop) (fixed : List (Addr × Obj)) {m₀ : Str → Option Value} {news₀ : List (Addr × Obj)}
    (hl : s.heap.IsList l items) (hlf : (∃ o, h₀.get? l = some o) ∨ (∃ o, (l, o) ∈ fixed))
    (hfix : ∀ i m news, J i m news → ∀ p ∈ fixed, p ∈ news)
    (F : Fr h₀ L s.heap m₀) (N : News h₀ L s.heap news₀) (hj : J 0 m₀ news₀)
    (step : ∀ I i v h tk dr m news oI, s.heap.objs.size ≤ I → i < items.size → items[i]? = some v → J i m news → (∀ p ∈ news, p.1 ≠ I) → Fr h₀ L h m → News h₀ L h ((I, oI) :: news) →
      wpAny (model prog w) A (assign (.Name x px) env v) (fun _ s₂ => wpAny (model prog w) A (execs body env) (ForPost h₀ L I oI (J (i + 1)) s R) (fun _ _ => False) s₂) (fun _ _ => False) { s with heap := h, toks := tk, drawn := dr })
    (fin : ∀ h tk dr m news, J items.size m news → Fr h₀ L h m → News h₀ L h news →
      wpAny (model prog w) A (execs orelse env) (fun f s₃ => R (.ok f) s₃) (fun _ _ => False) { s with heap := h, toks := tk, drawn := dr }) :
    wpAny (model prog w) A (pyIter (.ref l)) (fun it s₂ => codeAny (model prog w) A (.forLoop (.Name x px) it body orelse env) R s₂) E s := by
  have hlt : l < s.heap.objs.size := by obtain ⟨o, ho, _⟩ := hl; exact Heap.lt_size ho
  have hne : l ≠ s.heap.objs.size := Nat.ne_of_lt hlt
  have hLlt := F.ns.lt
  refine wpAny_pyIter_list hl ?_
  have W := Walks.list (prog := prog) (w := w) hh s.heap.objs.size l hne items
  refine forK (s := { s with heap := s.heap.push { cls := .type "list_iterator", data := .fields #[.ref l, .int 0 0] } }) W J fixed ?_ (Nat.ne_of_gt hLlt) ?_ ?_ hfix
    ⟨⟨_, Heap.get?_push_size _ rfl, rfl, rfl⟩, hl.at fun o e => Heap.get?_push_of_some _ e⟩ (F.push _) (fun p hp => ⟨Heap.get?_push_of_some _ (N p hp).1, (N p hp).2⟩)
    (fun p hp => Nat.ne_of_lt (Heap.lt_size (N p hp).1)) hj (fun i v h tk dr m news oI hi hP => step _ i v h tk dr m news oI (Nat.le_refl _) hi hP) fun h tk dr m news hJ _ => fin h tk dr m news hJ
  · exact next_is_new F
  · rintro i h ⟨⟨o, ho, _⟩, _⟩; exact ⟨o, ho⟩
  · intro b hb
    rcases List.mem_cons.mp hb with e | hm
    · exact .inl e
    · rw [List.mem_singleton.mp hm]; exact .inr hlf

theorem forK_range {R : Result → Shared → Prop} {x : Str} {px : Pos} {body orelse : List Stmt} {env : Env} {r : Addr} {n : Nat} {t u v : Tok}
    (hh : A.handled = none) (J : Nat → (Str → Option Value) → List (Addr × Obj) → Prop) {m₀ : Str → Option Value} {news₀ : List (Addr × Obj)}
    (hr : IsRange s.heap r 0 (n : Int) 1 t u v) (hn : n < 2 ^ 60)
    (F : Fr h₀ L s.heap m₀) (N : News h₀ L s.heap news₀) (hj : J 0 m₀ news₀)
    (step : ∀ I i t h tk dr m news oI, s.heap.objs.size ≤ I → i < n → J i m news → (∀ p ∈ news, p.1 ≠ I) → Fr h₀ L h m → News h₀ L h ((I, oI) :: news) →
      wpAny (model prog w) A (assign (.Name x px) env (.int (i : Int) t)) (fun _ s₂ => wpAny (model prog w) A (execs body env) (ForPost h₀ L I oI (J (i + 1)) s R) (fun _ _ => False) s₂) (fun _ _ => False) { s with heap := h, toks := tk, drawn := dr })
    (fin : ∀ h tk dr m news, J n m news → Fr h₀ L h m → News h₀ L h news →
      wpAny (model prog w) A (execs orelse env) (fun f s₃ => R (.ok f) s₃) (fun _ _ => False) { s with heap := h, toks := tk, drawn := dr }) :
    wpAny (model prog w) A (pyIter (.ref r)) (fun it s₂ => codeAny (model prog w) A (.forLoop (.Name x px) it body orelse env) R s₂) E s := by
  have hLlt := F.ns.lt
  have hb : (n : Int) < 2 ^ 62 := by
    have : ((2 : Nat) ^ 60 : Nat) = 1152921504606846976 := by decide
    have h2 : ((2 : Int) ^ 62) = 4611686018427387904 := by decide
    (with_reducible exact Ln.o323 ‹_›)
  refine wpAny_pyIter_range hr (small_one (by decide) (by decide) (by have : ((2 : Int) ^ 62) = 4611686018427387904 := by decide
                                                                      omega) hb) ?_
  have W := Walks.range (prog := prog) (w := w) hh s.heap.objs.size 0 1 n
  have hsz : Builtin.Range.rangeSize 0 (n : Int) 1 = (n : Int) := by rw [rangeSize_one]; split <;> (first | with_reducible exact Ln.o326 | with_reducible exact Ln.o322 ‹_›)
  refine forK (s := { s with heap := s.heap.push { cls := .type "range_iterator", data := .fields #[rawInt 0, rawInt (Builtin.Range.rangeSize 0 n 1), rawInt 1] } }) W J [] ?_ (Nat.ne_of_gt hLlt) ?_ ?_ (fun _ _ _ _ _ hp => nomatch hp)
    ?_ (F.push _) (fun p hp => ⟨Heap.get?_push_of_some _ (N p hp).1, (N p hp).2⟩)
    (fun p hp => Nat.ne_of_lt (Heap.lt_size (N p hp).1)) hj (fun i v h tk dr m news oI hi hP => ?_) fun h tk dr m news hJ _ => fin h tk dr m news hJ
  · exact next_is_new F
  · intro i h hst; exact ⟨_, hst⟩
  · intro b hb; exact .inl (List.mem_singleton.mp hb)
  · have e1 : ((0 : Int) + ((0 : Nat) : Int) * 1) = 0 := by simp
    have e2 : ((n : Int) - ((0 : Nat) : Int)) = Builtin.Range.rangeSize 0 n 1 := by rw [hsz]; simp
    show IsRangeIter _ _ ((0 : Int) + ((0 : Nat) : Int) * 1) ((n : Int) - ((0 : Nat) : Int)) 1
    rw [e1, e2]
    exact Heap.get?_push_size _ rfl
  · obtain ⟨t', rfl⟩ := hP
    rw [show (0 : Int) + (i : Int) * 1 = (i : Int) by (with_reducible exact Ln.o325)]
    exact step _ i t' h tk dr m news oI (Nat.le_refl _) hi
end

/-- a frame's map, some names set over -/
noncomputable def ovr (kvs : List (Str × Option Value)) (m₀ : Str → Option Value) (z : Str) : Option Value := match kvs.lookup z with | some v => v | none => m₀ z
theorem lookup_none_of {α β : Type} [BEq α] [LawfulBEq α] {z : α} : ∀ {kvs : List (α × β)}, (∀ p ∈ kvs, z ≠ p.1) → kvs.lookup z = none
  | [], _ => rfl
  | p :: r, h => by
    rw [show (p :: r) = (p.1, p.2) :: r from rfl, List.lookup_cons]
    have : (z == p.1) = false := by simpa using h p (.head _)
    rw [this]
    exact lookup_none_of fun q hq => h q (.tail _ hq)
theorem lookup_mem_of {α β : Type} [BEq α] [LawfulBEq α] {z : α} {v : β} : ∀ {kvs : List (α × β)}, kvs.lookup z = some v → (z, v) ∈ kvs
  | [], h => by cases h
  | p :: r, h => by
    rw [show (p :: r) = (p.1, p.2) :: r from rfl, List.lookup_cons] at h
    by_cases e : z = p.1
    · subst e
      rw [beq_self_eq_true] at h
      injection h with h
      subst h
      exact .head _
    · rw [show (z == p.1) = false by simpa using e] at h
      exact .tail _ (lookup_mem_of h)
theorem ovr_of {kvs : List (Str × Option Value)} {m₀ m : Str → Option Value} (h : ∀ p ∈ kvs, m p.1 = p.2) (hr : ∀ z, (∀ p ∈ kvs, z ≠ p.1) → m z = m₀ z) : m = ovr kvs m₀ := by
  funext z
  unfold ovr
  cases e : kvs.lookup z with
  | some v => exact h _ (lookup_mem_of e)
  | none =>
    refine hr z fun p hp hz => ?_
    subst hz
    have : ∀ {kvs : List (Str × Option Value)}, p ∈ kvs → (kvs.lookup p.1).isSome = true := by
      intro kvs
      induction kvs with
      | nil => intro h; cases h
      | cons q r ih =>
        intro h
        rw [show (q :: r) = (q.1, q.2) :: r from rfl, List.lookup_cons]
        by_cases e : p.1 = q.1
        · rw [show (p.1 == q.1) = true by simpa using e]; rfl
        · rw [show (p.1 == q.1) = false by simpa using e]
          rcases List.mem_cons.mp h with rfl | h
          · exact absurd rfl e
          · exact ih h
    have := this hp
    rw [e] at this; cases this
end Mine
namespace Mine
theorem forK_brk {prog : Program} {w : World} {A : Around} {E : Value → Shared → Prop} {s : Shared} {R : Result → Shared → Prop} {target : PySem.Expr} {body orelse : List Stmt} {env : Env} {v : Value}
    (Bk : Shared → Prop) (hB : ∀ s', Bk s' → R (.ok .next) s')
    (h : (∀ s', Bk s' → R (.ok .next) s') → wpAny (model prog w) A (pyIter v) (fun it s₂ => codeAny (model prog w) A (.forLoop target it body orelse env) R s₂) E s) :
    wpAny (model prog w) A (pyIter v) (fun it s₂ => codeAny (model prog w) A (.forLoop target it body orelse env) R s₂) E s := h hB
end Mine
namespace Mine
theorem ForPost.next1 {s : Shared} {h₀ : Heap} {L I : Addr} {oI : Obj} {J : (Str → Option Value) → List (Addr × Obj) → Prop} {R : Result → Shared → Prop} {h' : Heap} {tk' : Nat} {dr'} {m' : Str → Option Value} {news' : List (Addr × Obj)}
    (F : Fr h₀ L h' m') (N : News h₀ L h' ((I, oI) :: news')) (hn : ∀ p ∈ news', p.1 ≠ I) (hj : J m' news') :
    ForPost h₀ L I oI J s R .next { s with heap := h', toks := tk', drawn := dr' } := ForPost.next F N (.head _) (fun _ hp => .tail _ hp) hn hj
theorem News.tl {h₀ h : Heap} {L : Addr} {p : Addr × Obj} {news : List (Addr × Obj)} (N : News h₀ L h (p :: news)) : News h₀ L h news := fun q hq => N q (.tail _ hq)
theorem ovr_read {m : Str → Option Value} {x : Str} {v : Option Value} (h : m x = v) : m = ovr [(x, v)] m := ovr_of (fun p hp => by rw [List.mem_singleton.mp hp]; exact h) (fun _ _ => rfl)
end Mine
namespace Mine
theorem isList_of {h₀ h : Heap} {L D : Addr} {news : List (Addr × Obj)} {its : Array Value} {c : Nat} (N : News h₀ L h news) (hp : (D, W.listOf its c) ∈ news) : h.IsList D its := ⟨_, (N _ hp).1, rfl, c, rfl⟩
end Mine
end
section
open PySem PySem.W PyProof.Rows PySem.Spec PySem.Calls
set_option maxRecDepth 100000
namespace Mine
noncomputable def flagEs : Array DictEntry := #[{ hash := 1, key := Value.int 1 209, val := Value.str (Str.ofString "OPTIMIZED") 210 },
              { hash := 2, key := Value.int 2 211, val := Value.str (Str.ofString "NEWLOCALS") 212 },
              { hash := 4, key := Value.int 4 213, val := Value.str (Str.ofString "VARARGS") 214 },
              { hash := 8, key := Value.int 8 215, val := Value.str (Str.ofString "VARKEYWORDS") 216 },
              { hash := 16, key := Value.int 16 217, val := Value.str (Str.ofString "NESTED") 218 },
              { hash := 32, key := Value.int 32 219, val := Value.str (Str.ofString "GENERATOR") 220 },
              { hash := 64, key := Value.int 64 221, val := Value.str (Str.ofString "NOFREE") 222 },
              { hash := 128, key := Value.int 128 223, val := Value.str (Str.ofString "COROUTINE") 224 },
              { hash := 256, key := Value.int 256 225, val := Value.str (Str.ofString "ITERABLE_COROUTINE") 226 },
              { hash := 512, key := Value.int 512 227, val := Value.str (Str.ofString "ASYNC_GENERATOR") 228 }]
theorem flags_at (w : World) {h : Heap} (X : (hd.heap_39 w.params).In h) : h.get? 29 = some { cls := Value.type "dict", data := Data.dict flagEs 10 } :=
  X 29 _ (by with_unfolding_all rfl)
theorem flags_map (w : World) {h : Heap} (X : (hd.heap_39 w.params).In h) : h.MapOf (PySem.intKind PG w) 29 (fun k => findBy (PySem.intKind PG w).is flagEs k) := by
  refine ⟨_, flagEs, 10, flags_at w X, ⟨rfl, rfl, rfl⟩, rfl, ?_, fun _ => rfl⟩
  intro e he
  simp only [flagEs, List.mem_toArray, List.mem_cons, List.not_mem_nil, or_false] at he
  rcases he with rfl | rfl | rfl | rfl | rfl | rfl | rfl | rfl | rfl | rfl
  · exact ⟨1, show Value.isInt 1 (.int 1 209) = true by decide, show (1 : Int) = hashInt 1 by decide +kernel⟩
  · exact ⟨2, show Value.isInt 2 (.int 2 211) = true by decide, show (2 : Int) = hashInt 2 by decide +kernel⟩
  · exact ⟨4, show Value.isInt 4 (.int 4 213) = true by decide, show (4 : Int) = hashInt 4 by decide +kernel⟩
  · exact ⟨8, show Value.isInt 8 (.int 8 215) = true by decide, show (8 : Int) = hashInt 8 by decide +kernel⟩
  · exact ⟨16, show Value.isInt 16 (.int 16 217) = true by decide, show (16 : Int) = hashInt 16 by decide +kernel⟩
  · exact ⟨32, show Value.isInt 32 (.int 32 219) = true by decide, show (32 : Int) = hashInt 32 by decide +kernel⟩
  · exact ⟨64, show Value.isInt 64 (.int 64 221) = true by decide, show (64 : Int) = hashInt 64 by decide +kernel⟩
  · exact ⟨128, show Value.isInt 128 (.int 128 223) = true by decide, show (128 : Int) = hashInt 128 by decide +kernel⟩
  · exact ⟨256, show Value.isInt 256 (.int 256 225) = true by decide, show (256 : Int) = hashInt 256 by decide +kernel⟩
  · exact ⟨512, show Value.isInt 512 (.int 512 227) = true by decide, show (512 : Int) = hashInt 512 by decide +kernel⟩
theorem get_flag {w : World} {A : Around} {E : Value → Shared → Prop} {s : Shared} {h₀ : Heap} {L : Addr} {m : Str → Option Value} {k : Int} {t : Tok} {dflt v : Value} {Q : Value → Shared → Prop}
    (F : Fr h₀ L s.heap m) (X : (hd.heap_39 w.params).In h₀) (hk : findBy (PySem.intKind PG w).is flagEs k = some v) (h : Q v { s with toks := s.toks + 1 }) :
    wpAny (model PG w) A (call (.builtin "dict.get") [.ref 29, .int k t, dflt]) Q E s := by
  have M := flags_map w (X.keeps F.keep)
  refine call_meetsIn PySem.F.slot_dict_get M.typeIs PySem.F.entry_dict_get (PySem.F.args_dict_get_3 _ _ _) (meets_dict_get_default (PySem.intKind PG w) (k := k) 29 (by simp [PySem.intKind, Value.isInt]) (by decide) dflt) ⟨_, M, ?_⟩
  rw [hk]; exact h
end Mine
namespace Mine
theorem ovr_out {kvs : List (Str × Option Value)} {m₀ : Str → Option Value} {z : Str} (h : ∀ p ∈ kvs, z ≠ p.1) : ovr kvs m₀ z = m₀ z := by
  unfold ovr; rw [lookup_none_of h]
noncomputable def flagName (w : World) (k : Int) : Option Str := match findBy (PySem.intKind PG w).is flagEs k with | some (.str y _) => some y | _ => none
theorem flagName_val {w : World} {k : Int} {y : Str} (h : flagName w k = some y) : ∃ t, findBy (PySem.intKind PG w).is flagEs k = some (.str y t) := by
  have key : ∀ r : Option Value, (match r with | some (.str y _) => some y | _ => none) = some y → ∃ t, r = some (.str y t)
    | some (.str _ _), e => ⟨_, congrArg _ (congrArg (Value.str · _) (Option.some.inj e))⟩
  exact key _ h
theorem get_flagS {w : World} {A : Around} {E : Value → Shared → Prop} {s : Shared} {h₀ : Heap} {L : Addr} {m : Str → Option Value} {k : Int} {t : Tok} {dflt : Value} {y : Str} {Q : Value → Shared → Prop}
    (F : Fr h₀ L s.heap m) (X : (hd.heap_39 w.params).In h₀) (hk : flagName w k = some y) (h : ∀ t', Q (.str y t') { s with toks := s.toks + 1 }) :
    wpAny (model PG w) A (call (.builtin "dict.get") [.ref 29, .int k t, dflt]) Q E s :=
  let ⟨t', e⟩ := flagName_val hk
  get_flag F X e (h t')
theorem strs_snoc {vs : List Value} {ss : List Str} {y : Str} {t : Tok} : StrsAre vs ss → StrsAre (vs ++ [.str y t]) (ss ++ [y]) := by
  intro h
  induction h with
  | nil => exact .cons _ _ .nil
  | cons a t _ ih => exact .cons _ _ ih
end Mine
end
section
open PySem PySem.W PyProof.Rows PySem.Spec PySem.Calls
set_option maxRecDepth 100000
namespace Mine
theorem enterPC {K : Frag} {w : World} {s : Shared} {dp un : Nat} {gd : Option (List Code)} {fr : Option (List Env)} {Q E : Value → Shared → Prop} {p : Program} {loose : List Str} {mean : ExcName → Option Value} {mg mb : Str → Option Value}
    {name qual : Str} {params : Arguments} {body : List Stmt} {scope : Scope} {dV kV doc pm cdv ct oc : Value} {an od : Option Addr} {osl : Array (Option Value)} {f : Addr} {pos : List Value} {binds : List (Str × Value)}
    (X₀ : K.In s.heap) (T : Top p loose mean mg mb s.heap)
    (ho : K.lookup f = some ⟨oc, od, .func (fnOf name qual params body scope dV kV doc pm an cdv ct), osl⟩) (hcd : codeIn K cdv qual = true) (hroom : dp < recursionLimit)
    (hbind : BindsTo s (fnOf name qual params body scope dV kV doc pm an cdv ct) ⟨pos, []⟩ binds)
    (hkind : (binds.all fun y => scope.names.lookup y.1 == some .local || scope.names.lookup y.1 == some .cell) = true)
    (hnd : ((cellsFrom 0 scope.names []).map (·.1)).Nodup)
    (h : ∀ h₁ tk cells, Fr s.heap s.heap.objs.size h₁ (bindL (envOfC qual scope s.heap.objs.size f cdv).kindOf binds fun _ => none) → News s.heap s.heap.objs.size h₁ cells →
      CellsAre (bindC (envOfC qual scope s.heap.objs.size f cdv).kindOf binds fun _ => none) (cellsFrom (s.heap.objs.size + 1) scope.names []) cells →
      wpAny (model PG w) ((AR dp un gd fr).deeper (envOfC qual scope s.heap.objs.size f cdv)) (execs body (envOfC qual scope s.heap.objs.size f cdv))
        (fun fl s' => Q (match fl with | .ret v => v | _ => .none) s') (fun _ _ => False)
        { s with heap := h₁, toks := tk })
    (hco : scope.isCoroutine = false) (hgen : scope.isGenerator = false) (hk : scope.kind = .function) : wpAny (model PG w) (AR dp un gd fr) (call (.ref f) pos) Q E s := by
  refine wpAny_call ?_
  refine codeAny_call_function (A := AR dp un gd fr) hroom (X₀ _ _ ho) rfl hco hgen rfl (codeRec_of X₀ hcd) (hbind _ _ _ _ ?_)
  refine wpAny_newFunctionEnv_cells hk (kindsX hkind _) fun env' he s' x => ?_
  subst he
  refine ⟨T.nolimit.keeps x.toInCall.keep, codeAny_func ?_⟩
  obtain ⟨h₁, tk, rfl, _⟩ := x.done
  have hk₁ := x.toInCall.keep
  obtain ⟨cells, NC, Y⟩ := Cl.news (h₀ := s.heap) (Nat.le_refl _) fun n c hm => ⟨x.cell n c (lookup_of_mem_nodup (cellsFrom_names scope.names 0 (s.heap.objs.size + 1) [] [] rfl ▸ hnd) hm), x.above n c hm⟩
  refine wpAny_mono (h h₁ tk cells ⟨x.toInCall.ns, hk₁, Nat.le_refl _⟩ NC Y) (fun _ _ x => x) (fun _ _ x => x.elim)
end Mine
namespace Mine
theorem FrUp {h₀ h h' : Heap} {L L' : Addr} {m m' : Str → Option Value} (F : Fr h₀ L h m) (F' : Fr h L' h' m') : Fr h₀ L h' m := F.keeps F'.keep
theorem NewsUp {h₀ h h' : Heap} {L L' : Addr} {m' : Str → Option Value} {news : List (Addr × Obj)} (N : News h₀ L h news) (F' : Fr h L' h' m') : News h₀ L h' news :=
  fun p hp => ⟨F'.keep _ _ (N p hp).1, (N p hp).2⟩
theorem NewsUp1 {h₀ h h' : Heap} {L L' l : Addr} {o : Obj} {m m' : Str → Option Value} {news news' : List (Addr × Obj)} (F : Fr h₀ L h m) (N : News h₀ L h news) (F' : Fr h L' h' m') (N' : News h L' h' news') (hl : (l, o) ∈ news') :
    News h₀ L h' ((l, o) :: news) := fun p hp => by
  rcases List.mem_cons.mp hp with rfl | hp
  · have z := N' _ hl
    refine ⟨z.1, ?_, ?_⟩
    · rintro rfl
      obtain ⟨o', _, _, ho', _⟩ := F.ns
      have z3 : h.get? l = none := z.2.2
      have ho2 : h.get? l = some o' := ho'
      rw [z3] at ho2; cases ho2
    · cases e : h₀.get? l with
      | none => rfl
      | some o' =>
        have z3 : h.get? l = none := z.2.2
        rw [F.keep _ _ e] at z3; cases z3
  · exact NewsUp N F' p hp
end Mine
end
section
open PySem PySem.W PyProof.Rows PySem.Spec PySem.Calls PyProof.Rows.LCg
set_option maxRecDepth 100000
namespace Mine
section
variable {prog : Program} {w : World} {A : Around} {E : Value → Shared → Prop} {s : Shared} {R : Result → Shared → Prop}

noncomputable abbrev testsOf (ifs : List PySem.Expr) (env : Env) : Sem Bool := forIn ifs true fun c r => if r = true then do let ok ← isTrue c env (eval c env); pure (ForInStep.yield ok) else pure (ForInStep.yield r)
noncomputable abbrev NoE : Value → Shared → Prop := fun _ _ => False

/-- one turn of a last clause -/
noncomputable def TurnLast (prog : Program) (w : World) (A : Around) (target elt : PySem.Expr) (ifs : List PySem.Expr) (it acc : Value) (env : Env) (v : Value) (P : Shared → Prop) (s : Shared) : Prop :=
  wpAny (model prog w) A (letOwnedTupleGo target it v) (fun _ s₁ => wpAny (model prog w) A (assign target env v) (fun _ s₂ => wpAny (model prog w) A (testsOf ifs env) (fun ok s₃ =>
    if ok = true then wpAny (model prog w) A (eval elt env) (fun x s₄ => wpAny (model prog w) A (call (.builtin "list.append") [acc, x]) (fun _ s₅ => P s₅) NoE s₄) NoE s₃ else P s₃) NoE s₂) NoE s₁) NoE s

/-- one turn of a clause that another follows -/
noncomputable def TurnOuter (prog : Program) (w : World) (A : Around) (target : PySem.Expr) (e : PySem.Expr) (d : Nat) (iter' : PySem.Expr) (it acc : Value) (env : Env) (v : Value) (P : Shared → Prop) (s : Shared) : Prop :=
  wpAny (model prog w) A (letOwnedTupleGo target it v) (fun _ s₁ => wpAny (model prog w) A (assign target env v) (fun _ s₂ =>
    wpAny (model prog w) A (eval iter' env) (fun x s₃ => wpAny (model prog w) A (pyIter x) (fun it' s₄ => codeAny (model prog w) A (.compStart e (d + 1) it' acc env) (fun r s₅ => match r with | .ok _ => P s₅ | .error _ => False) s₄) NoE s₃) NoE s₂) NoE s₁) NoE s

theorem loop_last {elt target iter : PySem.Expr} {ifs : List PySem.Expr} {gens : List Comprehension} {d : Nat} {scope : Scope} {pos : Pos} {it acc : Value} {env : Env} (hg : gens[d]? = some ⟨target, iter, ifs, 0⟩) (hn : gens[d + 1]? = none) (I : Nat → Shared → Prop)
    (turn : ∀ n s, I n s → wpAny (model prog w) A (pyNext it) (fun r s₁ => match r with
      | none => R (.ok .next) s₁
      | some v => TurnLast prog w A target elt ifs it acc env v (fun s' => ∃ m, m < n ∧ I m s') s₁) NoE s)
    (n : Nat) (h : I n s) : codeAny (model prog w) A (.compLoop (.ListComp elt gens scope pos) d it acc env) R s := by
  refine codeAny_loop rfl I (fun n s hI => ?_) n h
  show wpAny _ A ((compTurn (.ListComp elt gens scope pos) d it acc env).onRaise (fun x => do noteFrame x env; theTreesLotGoes x)) _ _ s
  refine wpAny_noted ?_
  unfold compTurn
  dsimp only
  rw [hg]
  dsimp only
  have hF : ∀ (x : Value) (s : Shared), False → notedBy (model prog w) A env (fun e s' => R (.error e) s') x s := fun _ _ f => f.elim
  refine wpAny_bind (wpAny_standAt (wpAny_bind (wpAny_mono (turn n s hI) (fun r s₁ h₁ => ?_) hF)))
  cases r with
  | none => exact wpAny_pure h₁
  | some v =>
    refine wpAny_bind (wpAny_mono h₁ (fun _ s₁' h₁' => ?_) hF)
    refine wpAny_bind (wpAny_mono h₁' (fun _ s₂ h₂ => wpAny_bind (wpAny_mono h₂ (fun ok s₃ h₃ => ?_) hF)) hF)
    cases ok with
    | false => exact wpAny_pure ⟨rfl, h₃⟩
    | true =>
      simp only [if_true]
      rw [hn]
      exact wpAny_bind (wpAny_bind (wpAny_mono h₃ (fun x s₄ h₄ => wpAny_bind (wpAny_mono h₄ (fun _ s₅ h₅ => wpAny_pure (wpAny_pure ⟨rfl, h₅⟩)) hF)) hF))

theorem loop_outer {elt target iter target' iter' : PySem.Expr} {ifs' : List PySem.Expr} {gens : List Comprehension} {d : Nat} {scope : Scope} {pos : Pos} {it acc : Value} {env : Env} (hg : gens[d]? = some ⟨target, iter, [], 0⟩) (hn : gens[d + 1]? = some ⟨target', iter', ifs', 0⟩)
    (hs : ∀ x, foldedSetIterable iter' env x = pure x) (I : Nat → Shared → Prop)
    (turn : ∀ n s, I n s → wpAny (model prog w) A (pyNext it) (fun r s₁ => match r with
      | none => R (.ok .next) s₁
      | some v => TurnOuter prog w A target (.ListComp elt gens scope pos) d iter' it acc env v (fun s' => ∃ m, m < n ∧ I m s') s₁) NoE s)
    (n : Nat) (h : I n s) : codeAny (model prog w) A (.compLoop (.ListComp elt gens scope pos) d it acc env) R s := by
  refine codeAny_loop rfl I (fun n s hI => ?_) n h
  show wpAny _ A ((compTurn (.ListComp elt gens scope pos) d it acc env).onRaise (fun x => do noteFrame x env; theTreesLotGoes x)) _ _ s
  refine wpAny_noted ?_
  unfold compTurn
  dsimp only
  rw [hg]
  dsimp only
  have hF : ∀ (x : Value) (s : Shared), False → notedBy (model prog w) A env (fun e s' => R (.error e) s') x s := fun _ _ f => f.elim
  refine wpAny_bind (wpAny_standAt (wpAny_bind (wpAny_mono (turn n s hI) (fun r s₁ h₁ => ?_) hF)))
  cases r with
  | none => exact wpAny_pure h₁
  | some v =>
    refine wpAny_bind (wpAny_mono h₁ (fun _ s₁' h₁' => ?_) hF)
    refine wpAny_bind (wpAny_mono h₁' (fun _ s₂ h₂ => ?_) hF)
    refine wpAny_bind (wpAny_tests_nil ?_)
    simp only [if_true]
    rw [hn]
    dsimp only
    refine wpAny_bind (wpAny_mono h₂ (fun x s₃ h₃ => ?_) hF)
    refine wpAny_bind (wpAny_standAt ?_)
    rw [if_neg (by decide)]
    refine wpAny_bind (wpAny_of_eq (hs x) ?_)
    rw [if_neg (by decide)]
    refine wpAny_bind (wpAny_holding (wpAny_mono h₃ (fun it' s₄ h₄ => ?_) hF))
    refine wpAny_bind (wpAny_runOwn (codeAny_mono h₄ fun r s₅ h₅ => ?_))
    cases r with
    | ok f => exact wpAny_pure ⟨rfl, h₅⟩
    | error x => exact h₅.elim
theorem start_at {elt : PySem.Expr} {gens : List Comprehension} {g : Comprehension} {d : Nat} {scope : Scope} {pos : Pos} {it acc : Value} {env : Env} (hg : gens[d]? = some g) (ha : g.is_async = 0)
    (h0 : codeAny (model prog w) A (.compLoop (.ListComp elt gens scope pos) d it acc env) R s)
    (h : wpAny (model prog w) A (pyIter it) (fun it' s' => codeAny (model prog w) A (.compLoop (.ListComp elt gens scope pos) d it' acc env) R s') NoE s) :
    codeAny (model prog w) A (.compStart (.ListComp elt gens scope pos) d it acc env) R s := by
  refine codeAny_of_tree ?_
  have hF : ∀ (x : Value) (s : Shared), False → notedBy (model prog w) A env (fun e s' => R (.error e) s') x s := fun _ _ f => f.elim
  show wpAny _ _ ((compStart (.ListComp elt gens scope pos) d it acc env).onRaise (fun x => do noteFrame x env; standAt theWindowsPlace)) _ _ s
  refine wpAny_notedAt ?_
  unfold compStart
  have e1 : (((clausesOf (.ListComp elt gens scope pos))[d]?).elim false (·.is_async != 0)) = false := by
    show ((gens[d]?).elim false (·.is_async != 0)) = false
    rw [hg]; show (g.is_async != 0) = false; rw [ha]; rfl
  rw [e1, if_neg (by decide)]
  refine wpAny_bind (wpAny_askSetting (wpAny_ite ?_))
  split
  · first
      | exact wpAny_bind (wpAny_pure (wpAny_pure (And.intro rfl h0)))
      | exact wpAny_pure (And.intro rfl h0)
  · have e2 : (clausesOf (.ListComp elt gens scope pos))[d]? = some g := hg
    rw [e2]
    dsimp only
    refine wpAny_bind (wpAny_rule (wpAny_bind (wpAny_standAt (wpAny_bind (wpAny_mono h (fun it' s' h' => wpAny_pure (And.intro rfl h')) hF)))))
end
end Mine
end
section
open PySem PySem.W PyProof.Rows PySem.Spec PySem.Calls PyProof.Rows.LCg
set_option maxRecDepth 100000
namespace Mine
section
variable {prog : Program} {w : World} {A : Around} {E : Value → Shared → Prop} {s : Shared} {R : Result → Shared → Prop} {h₀ : Heap} {L I C D : Addr} {m : Str → Option Value}

/-- what stands at a turn's end -/
inductive StandI (h₀ : Heap) (L : Addr) (m : Str → Option Value) (sg : Array GenState) (so : OsState) (pre : List (Addr × Obj)) (I C D : Addr) (Cm : (Str → Option Value) → Prop) (J : List Value → List (Addr × Obj) → Prop) (s' : Shared) : Prop
  | mk (h : Heap) (tk : Nat) (dr : Drawn) (ys : List Value) (news : List (Addr × Obj)) (oC : Obj) (m₂ : Str → Option Value)
    (c1 : s' = { heap := h, gens := sg, drawn := dr, toks := tk, os := so })
    (c2 : Fr h₀ L h m)
    (c3 : News h₀ L h (pre ++ (C, oC) :: (D, lst ys) :: news))
    (c4 : (NsObj oC m₂ ∧ Cm m₂))
    (c5 : Off3 I C D news)
    (c6 : J ys news)
noncomputable def Stand (h₀ : Heap) (L : Addr) (m : Str → Option Value) (s : Shared) (pre : List (Addr × Obj)) (I C D : Addr) (Cm : (Str → Option Value) → Prop) (J : List Value → List (Addr × Obj) → Prop) (s' : Shared) : Prop := StandI h₀ L m s.gens s.os pre I C D Cm J s'
theorem compJ {Turn : Value → (Shared → Prop) → Shared → Prop} {G : Shared → Prop} {fp : List Addr} {n : Nat} {P : Nat → Value → Prop} {St : Nat → Heap → Prop} {S : List (Addr × Obj) → Prop} {Cm : (Str → Option Value) → Prop}
    (hloop : ∀ (Ix : Nat → Shared → Prop), (∀ n s, Ix n s → wpAny (model prog w) A (pyNext (.ref I)) (fun r s₁ => match r with | none => R (.ok .next) s₁ | some v => Turn v (fun s' => ∃ m, m < n ∧ Ix m s') s₁) NoE s) → ∀ n s, Ix n s → G s)
    (W : Walks prog w A I fp [I] n P St) (hIo : ∀ i h, St i h → ∃ o, h.get? I = some o)
    (hSt : ∀ i h h' o nw, St i h → h.get? I = some o → h'.get? I = some o → (∀ b o, h₀.get? b = some o → h'.get? b = some o) → News h₀ L h' nw → S nw → St i h')
    (J : Nat → List Value → List (Addr × Obj) → Prop) (hJS : ∀ i ys news, J i ys news → S news)
    (hIL : L ≠ I) (hI₀ : h₀.get? I = none) (hIC : I ≠ C) (hID : I ≠ D)
    (step : ∀ i v h tk dr ys news oI oC m₂ (Pst : Shared → Prop), i < n → P i v → St (i + 1) h → J i ys news → (NsObj oC m₂ ∧ Cm m₂) → Fr h₀ L h m → News h₀ L h ((I, oI) :: (C, oC) :: (D, lst ys) :: news) → Off3 I C D news →
      (∀ s', Stand h₀ L m s [(I, oI)] I C D Cm (J (i + 1)) s' → Pst s') → Turn v Pst { s with heap := h, toks := tk, drawn := dr })
    (fin : ∀ s', Stand h₀ L m s [] I C D Cm (J n) s' → R (.ok .next) s')
    {ys : List Value} {news : List (Addr × Obj)} {oC : Obj} {m₂ : Str → Option Value} {h₁ : Heap} {tk₁ : Nat} {dr₁ : Drawn}
    (hst : St 0 h₁) (F : Fr h₀ L h₁ m) (N : News h₀ L h₁ ((C, oC) :: (D, lst ys) :: news)) (hC : NsObj oC m₂ ∧ Cm m₂) (off : Off3 I C D news) (hj : J 0 ys news) : G { s with heap := h₁, toks := tk₁, drawn := dr₁ } := by
  refine hloop (fun k s' => ∃ i h, k = n - i ∧ i ≤ n ∧ St i h ∧ s'.heap = h ∧ Stand h₀ L m s [] I C D Cm (J i) s') ?_ n _ ⟨0, h₁, rfl, Nat.zero_le _, hst, rfl, h₁, tk₁, dr₁, ys, news, oC, m₂, rfl, F, N, hC, off, hj⟩
  rintro k s' ⟨i, h, rfl, hi, hst, rfl, h', tk, dr, ys, news, oC, m₂, rfl, F, N, hC, off, hj⟩
  have offm := off.mem
  have off' : ∀ p ∈ (C, oC) :: (D, lst ys) :: news, p.1 ≠ I := fun p hp => by
    rcases List.mem_cons.mp hp with rfl | hp
    · exact Ne.symm hIC
    · rcases List.mem_cons.mp hp with rfl | hp
      · exact Ne.symm hID
      · exact (offm p hp).1
  rcases Nat.lt_or_ge i n with hlt | hge
  · refine W.item i _ _ _ hlt hst fun v h₂ tk₂ hPv hst₂ hk₂ => ?_
    obtain ⟨oI, heI⟩ := hIo _ _ hst₂
    have F₂ := fr_but F hk₂ hIL hI₀
    have N₂ : News h₀ L h₂ ((I, oI) :: (C, oC) :: (D, lst ys) :: news) := fun p hp => by
      rcases List.mem_cons.mp hp with rfl | hp
      · exact ⟨heI, Ne.symm hIL, hI₀⟩
      · exact news_but N hk₂ off' p hp
    refine step i v h₂ tk₂ dr ys news oI oC m₂ _ hlt hPv hst₂ hj hC F₂ N₂ off fun s' hs' => ?_
    obtain ⟨h₃, tk₃, dr₃, ys₃, news₃, oC₃, m₃, rfl, F₃, N₃, hC₃, off₃, hj₃⟩ := hs'
    refine ⟨n - (i + 1), by (with_reducible exact Ln.o324 ‹_›), i + 1, h₃, rfl, hlt, ?_, rfl, h₃, tk₃, dr₃, ys₃, news₃, oC₃, m₃, rfl, F₃, fun p hp => N₃ p (.tail _ hp), hC₃, off₃, hj₃⟩
    exact hSt _ _ _ _ _ hst₂ heI (N₃ _ (.head _)).1 F₃.keep (fun p hp => N₃ p (.tail _ (.tail _ (.tail _ hp)))) (hJS _ _ _ hj₃)
  · have hin : i = n := by (with_reducible exact Ln.o31 ‹_› ‹_›)
    subst hin
    refine W.done _ _ _ hst fun h₂ tk₂ hk₂ => ?_
    exact fin _ ⟨h₂, tk₂, dr, ys, news, oC, m₂, rfl, fr_but F hk₂ hIL hI₀, news_but N hk₂ off', hC, off, hj⟩

/-- a comprehension's own name is stored -/
theorem stC {env : Env} {scope : Scope} {cl : List (Str × Addr)} {x : Str} {px : Pos} {v : Value} {oC : Obj} {m₂ : Str → Option Value} {pre post : List (Addr × Obj)} {Q : Unit → Shared → Prop}
    (F : Fr h₀ L s.heap m) (N : News h₀ L s.heap (pre ++ (C, oC) :: post)) (hC : NsObj oC m₂) (h1 : ∀ p ∈ pre, p.1 ≠ C) (h2 : ∀ p ∈ post, p.1 ≠ C)
    (hx : scope.names.lookup x = some .local) (hkind : scope.kind = .function)
    (h : ∀ h' oC', Fr h₀ L h' m → News h₀ L h' (pre ++ (C, oC') :: post) → NsObj oC' (fun y => if y = x then some v else m₂ y) → Q () { s with heap := h', toks := s.toks + 1 }) :
    wpAny (model prog w) A (assign (.Name x px) (compEnvC scope cl C env) v) Q E s := by
  have zC := N (C, oC) (List.mem_append.mpr (.inr (.head _)))
  refine wpAny_assign_Name (wpAny_storeName_local (lookup_relabel_local hx) (hC.ns zC.1) (fun h₃ hn₃ hs₃ => ?_) (by simp [compEnvC, relabel, hkind]))
  obtain ⟨oC', heC, hoC⟩ := ns_obj hn₃
  refine h h₃ oC' (F.change hs₃ zC.2.1 zC.2.2) (fun p hp => ?_) hoC
  rcases List.mem_append.mp hp with hp | hp
  · have z := N p (List.mem_append.mpr (.inl hp))
    exact ⟨hs₃.extBut _ _ (h1 p hp) z.1, z.2⟩
  · rcases List.mem_cons.mp hp with rfl | hp
    · exact ⟨heC, zC.2⟩
    · have z := N p (List.mem_append.mpr (.inr (.tail _ hp)))
      exact ⟨hs₃.extBut _ _ (h2 p hp) z.1, z.2⟩
theorem stC2 {env : Env} {scope : Scope} {cl : List (Str × Addr)} {a b : Str} {pa pb tp : Pos} {kk : Nat} {T : Addr} {x y : Value} {oC : Obj} {m₂ : Str → Option Value} {pre post : List (Addr × Obj)} {Q : Unit → Shared → Prop}
    (hh : A.handled = none) (ht : s.heap.IsTuple T #[x, y])
    (F : Fr h₀ L s.heap m) (N : News h₀ L s.heap (pre ++ (C, oC) :: post)) (hC : NsObj oC m₂) (h1 : ∀ p ∈ pre, p.1 ≠ C) (h2 : ∀ p ∈ post, p.1 ≠ C)
    (ha : scope.names.lookup a = some .local) (hb : scope.names.lookup b = some .local) (hkind : scope.kind = .function)
    (h : ∀ h' tk' oC', Fr h₀ L h' m → News h₀ L h' (pre ++ (C, oC') :: post) → NsObj oC' (fun z => if z = b then some y else if z = a then some x else m₂ z) → Q () { s with heap := h', toks := tk' }) :
    wpAny (model prog w) A (assign (.Tuple [.Name a pa, .Name b pb] kk tp) (compEnvC scope cl C env) (.ref T)) Q E s := by
  have zC := N (C, oC) (List.mem_append.mpr (.inr (.head _)))
  refine kcp_assign hh ht (lookup_relabel_local ha) (lookup_relabel_local hb) (by simp [compEnvC, relabel, hkind]) (hC.ns zC.1) fun h₃ tk hn₃ hk₃ => ?_
  obtain ⟨oC', heC, hoC⟩ := ns_obj hn₃
  have hk₃ : ∀ c o, c ≠ C → s.heap.get? c = some o → h₃.get? c = some o := hk₃
  have keepF : Fr h₀ L h₃ m := ⟨F.ns.at' fun o e => hk₃ L o (fun q => zC.2.1 q.symm) e, fun b o e => hk₃ b o (fun q => by rw [q] at e; have := zC.2.2; rw [show h₀.get? C = none from this] at e; cases e) (F.keep b o e), F.above⟩
  refine h h₃ tk oC' keepF (fun p hp => ?_) hoC
  rcases List.mem_append.mp hp with hp | hp
  · have z := N p (List.mem_append.mpr (.inl hp))
    exact ⟨hk₃ _ _ (h1 p hp) z.1, z.2⟩
  · rcases List.mem_cons.mp hp with rfl | hp
    · exact ⟨heC, zC.2⟩
    · have z := N p (List.mem_append.mpr (.inr (.tail _ hp)))
      exact ⟨hk₃ _ _ (h2 p hp) z.1, z.2⟩

/-- the end of a last clause's turn: the item goes into the list -/
theorem push_item {oI oC : Obj} {ys : List Value} {y : Value} {news : List (Addr × Obj)} {J : List Value → List (Addr × Obj) → Prop} {Pst : Shared → Prop} {s₀ : Shared} {h : Heap} {tk : Nat} {dr : Drawn} {m₂ : Str → Option Value} {Cm : (Str → Option Value) → Prop}
    (F : Fr h₀ L h m) (N : News h₀ L h ((I, oI) :: (C, oC) :: (D, lst ys) :: news)) (hC : NsObj oC m₂ ∧ Cm m₂) (off : Off3 I C D news) (hID : I ≠ D) (hCD : C ≠ D) (hsz : ys.length ≤ sizeLine) (hj : J (ys ++ [y]) news)
    (hP : ∀ s', Stand h₀ L m s₀ [(I, oI)] I C D Cm J s' → Pst s') :
    wpAny (model prog w) A (call (.builtin "list.append") [.ref D, y]) (fun _ s₅ => Pst s₅) E { s₀ with heap := h, toks := tk, drawn := dr } := by
  have zD := N (D, lst ys) (.tail _ (.tail _ (.head _)))
  have offm := off.mem
  refine append_at (hsz := by show ys.toArray.size ≤ sizeLine; rw [List.size_toArray]; exact hsz) zD.1 fun h₅ hs₅ hD₅ => hP _ ⟨h₅, tk, dr, ys ++ [y], news, oC, m₂, rfl, F.change hs₅ zD.2.1 zD.2.2, fun p hp => ?_, hC, off, hj⟩
  rcases List.mem_cons.mp hp with rfl | hp
  · exact ⟨hs₅.extBut _ _ hID (N _ (.head _)).1, (N _ (.head _)).2⟩
  · rcases List.mem_cons.mp hp with rfl | hp
    · exact ⟨hs₅.extBut _ _ hCD (N _ (.tail _ (.head _))).1, (N _ (.tail _ (.head _))).2⟩
    · rcases List.mem_cons.mp hp with rfl | hp
      · exact ⟨hD₅.trans (congrArg some (lst_snoc ys y)), zD.2⟩
      · exact ⟨hs₅.extBut _ _ (offm p hp).2.2 (N p (.tail _ (.tail _ (.tail _ hp)))).1, (N p (.tail _ (.tail _ (.tail _ hp)))).2⟩

/-- what a list comprehension's loop leaves -/
inductive CompOk (h₀ : Heap) (L : Addr) (m : Str → Option Value) (sg : Array GenState) (so : OsState) (I C D : Addr) (Q : Value → Shared → Prop) (s' : Shared) : Prop
  | mk (h' : Heap) (tk' : Nat) (dr' : Drawn) (ys : List Value) (news' : List (Addr × Obj)) (oC' : Obj) (m₂ : Str → Option Value)
    (c1 : s' = { heap := h', gens := sg, drawn := dr', toks := tk', os := so })
    (c2 : Fr h₀ L h' m)
    (c3 : News h₀ L h' ((C, oC') :: (D, lst ys) :: news'))
    (c4 : NsObj oC' m₂)
    (c5 : Off3 I C D news')
    (c6 : (∀ h'', Fr h₀ L h'' m → News h₀ L h'' ((D, lst ys) :: news') → Q (.ref D) { heap := h'', gens := sg, drawn := dr', toks := tk', os := so }))
noncomputable def CompR (h₀ : Heap) (L : Addr) (m : Str → Option Value) (s : Shared) (I C D : Addr) (Q : Value → Shared → Prop) (r : Result) (s' : Shared) : Prop :=
  match r with
  | .ok _ => CompOk h₀ L m s.gens s.os I C D Q s'
  | .error _ => False
theorem CompR.of {Cm : (Str → Option Value) → Prop} {J : List Value → List (Addr × Obj) → Prop} {Q : Value → Shared → Prop} (hJ : ∀ h' tk' dr' ys news', Fr h₀ L h' m → News h₀ L h' ((D, lst ys) :: news') → (∀ p ∈ news', p.1 ≠ D) → J ys news' → Q (.ref D) { s with heap := h', toks := tk', drawn := dr' }) {f : Flow} (s' : Shared)
    (h : Stand h₀ L m s [] I C D Cm J s') : CompR h₀ L m s I C D Q (.ok f) s' := by
  obtain ⟨h', tk', dr', ys, news', oC', m₂, rfl, F, N, hC, off, hj⟩ := h
  exact ⟨h', tk', dr', ys, news', oC', m₂, rfl, F, N, hC.1, off, fun h'' F'' N'' => hJ _ _ _ _ _ F'' N'' (fun p hp => (off.mem p hp).2.2) hj⟩

/-- a list comprehension, up to its loop -/
theorem compTop {elt : PySem.Expr} {g : Comprehension} {gs : List Comprehension} {scope : Scope} {cl : List (Str × Addr)} {pos : Pos} {env : Env} {Q : Value → Shared → Prop}
    (hclos : closureFor scope env = pure cl) (hcell : ∀ y ∈ scope.names, y.2 ≠ .cell) (hkind : scope.kind = .function) (ha : g.is_async = 0)
    (hnames : ∀ y ∈ scope.names, y.2 = .local → scope.names.lookup y.1 = some .local)
    (hs : ∀ x, foldedSetIterable g.iter env x = pure x)
    (h : wpAny (model prog w) A (eval g.iter env) (fun x s₁ => wpAny (model prog w) A (pyIter x) (fun it s₂ =>
      ∃ I news, it = .ref I ∧ Fr h₀ L s₂.heap m ∧ News h₀ L s₂.heap news ∧ (∃ o, s₂.heap.get? I = some o) ∧ (∀ p ∈ news, p.1 ≠ I) ∧
      ∀ C D oC h₁ tk, Fr h₀ L h₁ m → News h₀ L h₁ ((C, oC) :: (D, lst []) :: news) → NsObj oC (fun _ => none) → Off3 I C D news → I ≠ C → I ≠ D → C ≠ D → (∀ b o, s₂.heap.get? b = some o → h₁.get? b = some o) →
        (∀ Q' : Value → Shared → Prop, Q' (.ref I) { s₂ with heap := h₁, toks := tk } → wpAny (model prog w) A (pyIter (.ref I)) Q' NoE { s₂ with heap := h₁, toks := tk }) ∧
        codeAny (model prog w) A (.compLoop (.ListComp elt (g :: gs) scope pos) 0 (.ref I) (.ref D) (compEnvC scope cl C env))
          (CompR h₀ L m s₂ I C D Q) { s₂ with heap := h₁, toks := tk }) NoE s₁) NoE s) :
    wpAny (model prog w) A (eval (.ListComp elt (g :: gs) scope pos) env) Q E s := by
  obtain ⟨target, iter, ifs, as⟩ := g
  dsimp only at ha
  subst ha
  rw [eval_ListComp]
  refine wpAny_comprehension_free (e := .ListComp elt (⟨target, iter, ifs, 0⟩ :: gs) scope pos) (g := ⟨target, iter, ifs, 0⟩) (gs := gs) (use := none) rfl hs hclos hkind hnames (wpAny_mono h (fun xv s₁ h₁ => wpAny_mono h₁ (fun it s₂ h₂ => ?_) fun _ _ e => e.elim) fun _ _ e => e.elim)
  obtain ⟨I, news, rfl, F, N, ⟨oI, hoI⟩, offI, K⟩ := h₂
  refine wpAny_newObj_type (wpAny_newFunctionEnv hcell (by intro y hy; simp at hy) (fun h₁ hns₁ hsb₁ => ?_) hkind)
  dsimp only at hns₁ hsb₁ ⊢
  generalize hH2 : s₂.heap.push { cls := .type "list", dict := none, data := .seq ([] : List Value).toArray } = H2 at hns₁ hsb₁ ⊢
  have hC : H2.objs.size = s₂.heap.objs.size + 1 := by rw [← hH2, Heap.size_push]
  have hDC : s₂.heap.objs.size ≠ H2.objs.size := by rw [hC]; exact Nat.ne_of_lt (Nat.lt_succ_self _)
  have below : ∀ b, b < s₂.heap.objs.size → b ≠ H2.objs.size ∧ b ≠ s₂.heap.objs.size := fun b hb => ⟨by rw [hC]; exact Nat.ne_of_lt (Nat.lt_succ_of_lt hb), Nat.ne_of_lt hb⟩
  have hIlt : I < s₂.heap.objs.size := Heap.lt_size hoI
  have old : ∀ b o, s₂.heap.get? b = some o → h₁.get? b = some o := fun b o e => hsb₁.extBut b o (below b (Heap.lt_size e)).1 (Heap.get?_push_of_some _ (hH2 ▸ Heap.get?_push_of_some _ e))
  have hacc : h₁.get? s₂.heap.objs.size = some (lst []) := hsb₁.extBut _ _ hDC (Heap.get?_push_of_some _ (hH2 ▸ Heap.get?_push_size _ rfl))
  have fresh₀ : ∀ a, s₂.heap.objs.size ≤ a → h₀.get? a = none := fun a ha => by
    cases e : h₀.get? a with
    | none => rfl
    | some o' => exact absurd (Heap.lt_size (F.keep a o' e)) (Nat.not_lt.mpr ha)
  have hLlt : L < s₂.heap.objs.size := F.ns.lt
  obtain ⟨oC, heC, hoC⟩ := ns_obj hns₁
  have N₁ : News h₀ L h₁ ((H2.objs.size, oC) :: (s₂.heap.objs.size, lst []) :: news) := fun p hp => by
    rcases List.mem_cons.mp hp with rfl | hp
    · exact ⟨heC, Ne.symm (below L hLlt).1, fresh₀ _ (by rw [hC]; exact Nat.le_succ _)⟩
    · rcases List.mem_cons.mp hp with rfl | hp
      · exact ⟨hacc, Ne.symm (below L hLlt).2, fresh₀ _ (Nat.le_refl _)⟩
      · exact ⟨old _ _ (N p hp).1, (N p hp).2⟩
  obtain ⟨kI, kc⟩ := K H2.objs.size s₂.heap.objs.size oC h₁ (s₂.toks + ([] : List (Str × Value)).length) (F.keeps old) N₁ hoC
    (Off3.of fun p hp => ⟨offI p hp, (below _ (Heap.lt_size (N p hp).1)).1, (below _ (Heap.lt_size (N p hp).1)).2⟩) (below I hIlt).1 (below I hIlt).2 (Ne.symm hDC) old
  have kc' : codeAny (model prog w) A (.compLoop (.ListComp elt (⟨target, iter, ifs, 0⟩ :: gs) scope pos) 0 (.ref I) (.ref s₂.heap.objs.size) (compEnvC scope cl H2.objs.size env))
      (compPost (model prog w) A E none Q (.ref s₂.heap.objs.size) H2.objs.size) { s₂ with heap := h₁, toks := s₂.toks + ([] : List (Str × Value)).length } := by
    refine codeAny_mono kc fun r s' hr => ?_
    cases r with
    | error x => exact hr.elim
    | ok f =>
      obtain ⟨h', tk', dr', ys, news', oC', m₂, rfl, F', N', hC', off', fin⟩ := hr
      have offm := off'.mem
      refine ⟨m₂, hC'.ns (N' _ (.head _)).1, fun h'' hs'' => fin h'' (F'.change hs'' (N' _ (.head _)).2.1 (N' _ (.head _)).2.2) fun p hp => ?_⟩
      refine ⟨hs''.extBut _ _ ?_ (N' p (.tail _ hp)).1, (N' p (.tail _ hp)).2⟩
      rcases List.mem_cons.mp hp with rfl | hp
      · exact hDC
      · exact (offm p hp).2.1
  exact start_at (d := 0) (g := ⟨target, iter, ifs, 0⟩) rfl rfl kc' (kI _ kc')
end
end Mine
end
section
open PySem PySem.W PyProof.Rows PySem.Spec PySem.Calls PyProof.Rows.LCg
set_option maxRecDepth 100000
namespace Mine
section
variable {prog : Program} {w : World} {A : Around} {E : Value → Shared → Prop} {s : Shared} {h₀ : Heap} {L : Addr} {m : Str → Option Value}

/-- an item is made: what the element's evaluation must leave -/
inductive MadeI (h₀ : Heap) (L : Addr) (m : Str → Option Value) (sg : Array GenState) (so : OsState) (I : Addr) (oI : Obj) (C : Addr) (oC : Obj) (D : Addr) (ys : List Value) (J : List Value → List (Addr × Obj) → Prop) (y : Value) (s' : Shared) : Prop
  | mk (h' : Heap) (tk' : Nat) (dr' : Drawn) (news' : List (Addr × Obj))
    (c1 : s' = { heap := h', gens := sg, drawn := dr', toks := tk', os := so })
    (c2 : Fr h₀ L h' m)
    (c3 : News h₀ L h' ((I, oI) :: (C, oC) :: (D, lst ys) :: news'))
    (c4 : Off3 I C D news')
    (c5 : J (ys ++ [y]) news')
noncomputable def Made (h₀ : Heap) (L : Addr) (m : Str → Option Value) (s : Shared) (I : Addr) (oI : Obj) (C : Addr) (oC : Obj) (D : Addr) (ys : List Value) (J : List Value → List (Addr × Obj) → Prop) (y : Value) (s' : Shared) : Prop := MadeI h₀ L m s.gens s.os I oI C oC D ys J y s'
theorem Made.mk' {s : Shared} {I C D : Addr} {oI oC : Obj} {ys : List Value} {J : List Value → List (Addr × Obj) → Prop} {y : Value} {h' : Heap} {tk' : Nat} {dr' : Drawn} {news' : List (Addr × Obj)}
    (F : Fr h₀ L h' m) (N : News h₀ L h' ((I, oI) :: (C, oC) :: (D, lst ys) :: news')) (off : Off3 I C D news') (hj : J (ys ++ [y]) news') : Made h₀ L m s I oI C oC D ys J y { s with heap := h', toks := tk', drawn := dr' } :=
  ⟨h', tk', dr', news', rfl, F, N, off, hj⟩

inductive CSrc (prog : Program) (w : World) (A : Around) (h₀ : Heap) (L : Addr) (m : Str → Option Value) (env : Env) (elt : PySem.Expr) (x : Str) (scope : Scope) (cl : List (Str × Addr)) (Q : Value → Shared → Prop) (xv : Value) (s₁ : Shared) : Prop
  | mk (ax : Addr) (its : Array Value) (news : List (Addr × Obj)) (J : Nat → List Value → List (Addr × Obj) → Prop)
    (c1 : xv = .ref ax)
    (c2 : A.handled = none)
    (c3 : Fr h₀ L s₁.heap m)
    (c4 : News h₀ L s₁.heap news)
    (c5 : its.size ≤ sizeLine)
    (c6 : J 0 [] news)
    (c7 : (∀ i ys news, J i ys news → SrcAt h₀ ax its news ∧ ys.length ≤ i))
    (c8 : (∀ i v I oI C oC D m₂ h tk dr ys news, its[i]? = some v → J i ys news → NsObj oC m₂ → m₂ x = some v → Fr h₀ L h m → News h₀ L h ((I, oI) :: (C, oC) :: (D, lst ys) :: news) → Off3 I C D news → ((@Ne Nat I C) ∧ (@Ne Nat I D) ∧ (@Ne Nat C D)) →
      wpAny (model prog w) A (eval elt (compEnvC scope cl C env)) (Made h₀ L m s₁ I oI C oC D ys (J (i + 1))) NoE { s₁ with heap := h, toks := tk, drawn := dr }))
    (c9 : (∀ D h tk dr ys news, Fr h₀ L h m → News h₀ L h ((D, lst ys) :: news) → (∀ p ∈ news, p.1 ≠ D) → J its.size ys news → Q (.ref D) { s₁ with heap := h, toks := tk, drawn := dr }))
theorem comp1 {elt iter : PySem.Expr} {x : Str} {px : Pos} {scope : Scope} {cl : List (Str × Addr)} {pos : Pos} {env : Env} {Q : Value → Shared → Prop} (_F : Fr h₀ L s.heap m)
    (hclos : closureFor scope env = pure cl) (hcell : ∀ y ∈ scope.names, y.2 ≠ .cell) (hkind : scope.kind = .function)
    (hnames : ∀ y ∈ scope.names, y.2 = .local → scope.names.lookup y.1 = some .local) (hx : scope.names.lookup x = some .local)
    (h : wpAny (model prog w) A (eval iter env) (CSrc prog w A h₀ L m env elt x scope cl Q) NoE s)
    (hs : ∀ x, foldedSetIterable iter env x = pure x := by intro _; rfl) :
    wpAny (model prog w) A (eval (.ListComp elt [⟨.Name x px, iter, [], 0⟩] scope pos) env) Q E s := by
  refine compTop (h₀ := h₀) (L := L) (m := m) (g := ⟨.Name x px, iter, [], 0⟩) (gs := []) hclos hcell hkind rfl hnames hs (wpAny_mono h (fun xv s₁ h₁ => ?_) fun _ _ e => e)
  obtain ⟨ax, its, news, J, rfl, hh, F, N, hsz, hj, hJS, step, fin⟩ := h₁
  have hl := (hJS _ _ _ hj).1.list F.keep N
  have hlt : ax < s₁.heap.objs.size := by obtain ⟨_, e, _⟩ := hl; exact Heap.lt_size e
  have hne : ax ≠ s₁.heap.objs.size := Nat.ne_of_lt hlt
  refine wpAny_pyIter_list hl ?_
  have up : ∀ b o, s₁.heap.get? b = some o → (s₁.heap.push { cls := .type "list_iterator", data := .fields #[.ref ax, .int 0 0] }).get? b = some o := fun b o e => Heap.get?_push_of_some _ e
  refine ⟨_, news, rfl, F.keeps up, fun p hp => ⟨up _ _ (N p hp).1, (N p hp).2⟩, ⟨_, Heap.get?_push_size _ rfl⟩, fun p hp => Nat.ne_of_lt (Heap.lt_size (N p hp).1), ?_⟩
  intro C D oC h₂ tk F₂ N₂ hC₂ off₂ hIC hID hCD k₂
  have W := Walks.list (prog := prog) (w := w) hh s₁.heap.objs.size ax hne its
  have hst : h₂.IsListIter s₁.heap.objs.size ax 0 ∧ h₂.IsList ax its :=
    ⟨⟨_, k₂ _ _ (Heap.get?_push_size _ rfl), rfl, rfl⟩, (hl.at fun o e => up _ _ e).at fun o e => k₂ _ _ e⟩
  refine ⟨fun Q' hQ' => W.self 0 _ Q' NoE hst hQ', ?_⟩
  have hloop := fun (Ix : Nat → Shared → Prop) a (n : Nat) (s' : Shared) hs' => loop_last (s := s') (prog := prog) (w := w) (A := A) (R := CompR h₀ L m { s₁ with heap := s₁.heap.push { cls := .type "list_iterator", data := .fields #[.ref ax, .int 0 0] } } s₁.heap.objs.size C D Q)
    (elt := elt) (target := .Name x px) (iter := iter) (ifs := []) (gens := [⟨.Name x px, iter, [], 0⟩]) (d := 0) (scope := scope) (pos := pos) (it := .ref s₁.heap.objs.size) (acc := .ref D) (env := compEnvC scope cl C env) rfl rfl Ix a n hs'
  refine compJ (G := fun s' => codeAny (model prog w) A _ _ s') (S := SrcAt h₀ ax its) (Cm := fun _ => True) hloop W (fun i h st => by obtain ⟨⟨o, e, _⟩, _⟩ := st; exact ⟨o, e⟩) list_st J (fun i ys news hJ => (hJS i ys news hJ).1)
    (Nat.ne_of_lt F.ns.lt) (next_is_new F) hIC hID ?_ (CompR.of (f := .next) fun h' tk' dr' ys news' F' N' hD hJ => fin D h' tk' dr' ys news' F' N' hD hJ) hst F₂ N₂ ⟨hC₂, trivial⟩ off₂ hj
  intro i v h tk dr ys news oI oC m₂ Pst hi hPv _ hJ hC' F' N' off hP
  have hC := hC'.1
  refine wpAny_pure ?_
  have offm := off.mem
  refine stC (pre := [(s₁.heap.objs.size, oI)]) F' N' hC (fun p hp => by rw [List.mem_singleton.mp hp]; exact hIC) (fun p hp => ?_) hx hkind fun h' oC' F3 N3 hC3 => ?_
  · rcases List.mem_cons.mp hp with rfl | hp
    · exact Ne.symm hCD
    · exact (offm p hp).2.1
  refine wpAny_tests_nil ?_
  rw [if_pos rfl]
  refine wpAny_mono (step i v _ oI C oC' D _ h' _ dr ys news hPv hJ hC3 (by simp) F3 N3 off ⟨hIC, hID, hCD⟩) (fun y s' hy => ?_) fun _ _ e => e
  obtain ⟨h4, tk4, dr4, news4, rfl, F4, N4, off4, hJ4⟩ := hy
  exact push_item F4 N4 ⟨hC3, trivial⟩ off4 hID hCD (Nat.le_trans (hJS _ _ _ hJ).2 (Nat.le_trans (Nat.le_of_lt hi) hsz)) hJ4 hP
end
end Mine
end
section
open PySem PySem.W PyProof.Rows PySem.Spec PySem.Calls PyProof.Rows.LCg
set_option maxRecDepth 100000
namespace Mine
section
variable {prog : Program} {w : World} {A : Around} {E : Value → Shared → Prop} {s : Shared} {h₀ : Heap} {L : Addr} {m : Str → Option Value}

/-- a clause's target takes the item -/
noncomputable def Takes (prog : Program) (w : World) (A : Around) (h₀ : Heap) (L : Addr) (m : Str → Option Value) (scope : Scope) (cl : List (Str × Addr)) (env : Env) (target : PySem.Expr) (ax : Addr) (news : List (Addr × Obj)) (v : Value) (M : (Str → Option Value) → Str → Option Value) : Prop :=
  ∀ (s : Shared) (I C D : Addr) (i : Nat) (oI oC : Obj) (ys : List Value) (m₂ : Str → Option Value) (Q : Unit → Shared → Prop), s.heap.IsListIter I ax i → Fr h₀ L s.heap m → News h₀ L s.heap ((I, oI) :: (C, oC) :: (D, lst ys) :: news) → NsObj oC m₂ → Off3 I C D news → I ≠ C → C ≠ D →
    (∀ h' tk' oC', Fr h₀ L h' m → News h₀ L h' ((I, oI) :: (C, oC') :: (D, lst ys) :: news) → NsObj oC' (M m₂) → Q () { s with heap := h', toks := tk' }) →
    wpAny (model prog w) A (letOwnedTupleGo target (.ref I) v) (fun _ s₁ => wpAny (model prog w) A (assign target (compEnvC scope cl C env) v) Q NoE s₁) NoE s
theorem takesName {scope : Scope} {cl : List (Str × Addr)} {env : Env} {x : Str} {px : Pos} {ax : Addr} {news : List (Addr × Obj)} {v : Value} (hx : scope.names.lookup x = some .local) (hkind : scope.kind = .function) :
    Takes prog w A h₀ L m scope cl env (.Name x px) ax news v (fun m₂ y => if y = x then some v else m₂ y) := by
  intro s I C D i oI oC ys m₂ Q _ F N hC off hIC hCD h
  refine wpAny_pure ?_
  have offm := off.mem
  refine stC (pre := [(I, oI)]) F N hC (fun p hp => by rw [List.mem_singleton.mp hp]; exact hIC) (fun p hp => ?_) hx hkind fun h' oC' F3 N3 hC3 => h h' _ oC' F3 N3 hC3
  rcases List.mem_cons.mp hp with rfl | hp
  · exact Ne.symm hCD
  · exact (offm p hp).2.1
theorem takesPair {scope : Scope} {cl : List (Str × Addr)} {env : Env} {a b : Str} {pa pb tp : Pos} {kk : Nat} {ax T : Addr} {oT : Obj} {x y : Value} {news : List (Addr × Obj)} (hh : A.handled = none) (ha : scope.names.lookup a = some .local) (hb : scope.names.lookup b = some .local) (hkind : scope.kind = .function)
    (hT : (T, oT) ∈ news) (hc : oT.cls = .type "tuple") (hd : ∃ n, oT.data = .seq #[x, y] n) :
    Takes prog w A h₀ L m scope cl env (.Tuple [.Name a pa, .Name b pb] kk tp) ax news (.ref T) (fun m₂ z => if z = b then some y else if z = a then some x else m₂ z) := by
  intro s I C D i oI oC ys m₂ Q hit F N hC off hIC hCD h
  refine wpAny_letOwnedTupleGo_listiter hit ?_
  have offm := off.mem
  refine stC2 (pre := [(I, oI)]) hh ⟨oT, (N _ (.tail _ (.tail _ (.tail _ hT)))).1, hc, hd⟩ F N hC (fun p hp => by rw [List.mem_singleton.mp hp]; exact hIC) (fun p hp => ?_) ha hb hkind h
  rcases List.mem_cons.mp hp with rfl | hp
  · exact Ne.symm hCD
  · exact (offm p hp).2.1

noncomputable def PstR (Pst : Shared → Prop) (r : Result) (s : Shared) : Prop := match r with | .ok _ => Pst s | .error _ => False
/-- the inner clause's part of a turn -/
noncomputable def Inner (prog : Program) (w : World) (A : Around) (h₀ : Heap) (L : Addr) (m : Str → Option Value) (env : Env) (elt : PySem.Expr) (y : Str) (ifs : List PySem.Expr) (scope : Scope) (cl : List (Str × Addr)) (s₀ : Shared)
    (S : List (Addr × Obj) → Prop) (I : Addr) (oI : Obj) (C D : Addr) (m₁ : Str → Option Value) (Jend : List Value → List (Addr × Obj) → Prop) (ys₀ : List Value) (xv : Value) (s₁ : Shared) : Prop :=
  ∃ (ax : Addr) (its : Array Value) (news : List (Addr × Obj)) (oC : Obj) (h : Heap) (tk : Nat) (dr : Drawn) (J : Nat → List Value → List (Addr × Obj) → Prop), xv = .ref ax ∧ s₁ = { s₀ with heap := h, toks := tk, drawn := dr } ∧ Fr h₀ L h m ∧ NsObj oC m₁ ∧
    News h₀ L h ((I, oI) :: (C, oC) :: (D, lst ys₀) :: news) ∧ Off3 I C D news ∧ J 0 ys₀ news ∧ (∀ k ys news, J k ys news → SrcAt h₀ ax its news ∧ S news ∧ ys.length ≤ sizeLine) ∧
    (∀ k v I' oI' oC m₂ h tk dr ys news, its[k]? = some v → J k ys news → NsObj oC m₂ → m₂ y = some v → (∀ z, z ≠ y → m₂ z = m₁ z) → Fr h₀ L h m → News h₀ L h ((I', oI') :: (C, oC) :: (D, lst ys) :: (I, oI) :: news) → Off3 I' C D ((I, oI) :: news) → Off3 I C D news →
      wpAny (model prog w) A (testsOf ifs (compEnvC scope cl C env)) (fun ok s₃ => if ok = true then wpAny (model prog w) A (eval elt (compEnvC scope cl C env)) (Made h₀ L m s₀ I' oI' C oC D ys (fun ys' nw => ∃ nw', nw = (I, oI) :: nw' ∧ J (k + 1) ys' nw' ∧ Off3 I C D nw')) NoE s₃
        else ∃ h tk dr news', s₃ = { s₀ with heap := h, toks := tk, drawn := dr } ∧ Fr h₀ L h m ∧ News h₀ L h ((I', oI') :: (C, oC) :: (D, lst ys) :: (I, oI) :: news') ∧ Off3 I' C D ((I, oI) :: news') ∧ J (k + 1) ys news' ∧ Off3 I C D news') NoE { s₀ with heap := h, toks := tk, drawn := dr }) ∧
    (∀ ys news, J its.size ys news → Off3 I C D news → Jend ys news)

inductive CSrc2 (prog : Program) (w : World) (A : Around) (h₀ : Heap) (L : Addr) (m : Str → Option Value) (env : Env) (elt target iter2 : PySem.Expr) (y : Str) (ifs : List PySem.Expr) (scope : Scope) (cl : List (Str × Addr)) (Q : Value → Shared → Prop) (xv : Value) (s₁ : Shared) : Prop
  | mk (ax : Addr) (its : Array Value) (news : List (Addr × Obj)) (J : Nat → List Value → List (Addr × Obj) → Prop)
    (c1 : xv = .ref ax)
    (c2 : A.handled = none)
    (c3 : Fr h₀ L s₁.heap m)
    (c4 : News h₀ L s₁.heap news)
    (c5 : J 0 [] news)
    (c6 : (∀ i ys news, J i ys news → SrcAt h₀ ax its news))
    (c7 : (∀ i v ys news, its[i]? = some v → J i ys news → ∃ M, Takes prog w A h₀ L m scope cl env target ax news v M ∧
      ∀ I oI C oC D m₂ h tk dr, NsObj oC (M m₂) → Fr h₀ L h m → News h₀ L h ((I, oI) :: (C, oC) :: (D, lst ys) :: news) → Off3 I C D news → ((@Ne Nat I C) ∧ (@Ne Nat I D) ∧ (@Ne Nat C D)) →
        wpAny (model prog w) A (eval iter2 (compEnvC scope cl C env)) (Inner prog w A h₀ L m env elt y ifs scope cl s₁ (SrcAt h₀ ax its) I oI C D (M m₂) (J (i + 1)) ys) NoE { s₁ with heap := h, toks := tk, drawn := dr }))
    (c8 : (∀ D h tk dr ys news, Fr h₀ L h m → News h₀ L h ((D, lst ys) :: news) → (∀ p ∈ news, p.1 ≠ D) → J its.size ys news → Q (.ref D) { s₁ with heap := h, toks := tk, drawn := dr }))
theorem comp2 {elt target iter iter2 : PySem.Expr} {y : Str} {py : Pos} {ifs : List PySem.Expr} {scope : Scope} {cl : List (Str × Addr)} {pos : Pos} {env : Env} {Q : Value → Shared → Prop} (_F : Fr h₀ L s.heap m)
    (hclos : closureFor scope env = pure cl) (hcell : ∀ y ∈ scope.names, y.2 ≠ .cell) (hkind : scope.kind = .function)
    (hnames : ∀ y ∈ scope.names, y.2 = .local → scope.names.lookup y.1 = some .local) (hy : scope.names.lookup y = some .local)
    (h : wpAny (model prog w) A (eval iter env) (CSrc2 prog w A h₀ L m env elt target iter2 y ifs scope cl Q) NoE s)
    (hs : ∀ x, foldedSetIterable iter env x = pure x := by intro _; rfl)
    (hs2 : ∀ C x, foldedSetIterable iter2 (compEnvC scope cl C env) x = pure x := by intro _ _; rfl) :
    wpAny (model prog w) A (eval (.ListComp elt [⟨target, iter, [], 0⟩, ⟨.Name y py, iter2, ifs, 0⟩] scope pos) env) Q E s := by
  refine compTop (h₀ := h₀) (L := L) (m := m) (g := ⟨target, iter, [], 0⟩) (gs := [⟨.Name y py, iter2, ifs, 0⟩]) hclos hcell hkind rfl hnames hs (wpAny_mono h (fun xv s₁ h₁ => ?_) fun _ _ e => e)
  obtain ⟨ax, its, news, J, rfl, hh, F, N, hj, hJS, step, fin⟩ := h₁
  have hl := (hJS _ _ _ hj).list F.keep N
  have hlt : ax < s₁.heap.objs.size := by obtain ⟨_, e, _⟩ := hl; exact Heap.lt_size e
  have hne : ax ≠ s₁.heap.objs.size := Nat.ne_of_lt hlt
  refine wpAny_pyIter_list hl ?_
  have up : ∀ b o, s₁.heap.get? b = some o → (s₁.heap.push { cls := .type "list_iterator", data := .fields #[.ref ax, .int 0 0] }).get? b = some o := fun b o e => Heap.get?_push_of_some _ e
  refine ⟨_, news, rfl, F.keeps up, fun p hp => ⟨up _ _ (N p hp).1, (N p hp).2⟩, ⟨_, Heap.get?_push_size _ rfl⟩, fun p hp => Nat.ne_of_lt (Heap.lt_size (N p hp).1), ?_⟩
  intro C D oC h₂ tk F₂ N₂ hC₂ off₂ hIC hID hCD k₂
  have W := Walks.list (prog := prog) (w := w) hh s₁.heap.objs.size ax hne its
  have hst : h₂.IsListIter s₁.heap.objs.size ax 0 ∧ h₂.IsList ax its :=
    ⟨⟨_, k₂ _ _ (Heap.get?_push_size _ rfl), rfl, rfl⟩, (hl.at fun o e => up _ _ e).at fun o e => k₂ _ _ e⟩
  refine ⟨fun Q' hQ' => W.self 0 _ Q' NoE hst hQ', ?_⟩
  have hloop := fun (Ix : Nat → Shared → Prop) a (n : Nat) (s' : Shared) hs' => loop_outer (s := s') (prog := prog) (w := w) (A := A) (R := CompR h₀ L m { s₁ with heap := s₁.heap.push { cls := .type "list_iterator", data := .fields #[.ref ax, .int 0 0] } } s₁.heap.objs.size C D Q)
    (elt := elt) (target := target) (iter := iter) (target' := .Name y py) (iter' := iter2) (ifs' := ifs) (gens := [⟨target, iter, [], 0⟩, ⟨.Name y py, iter2, ifs, 0⟩]) (d := 0) (scope := scope) (pos := pos) (it := .ref s₁.heap.objs.size) (acc := .ref D) (env := compEnvC scope cl C env) rfl rfl (hs2 C) Ix a n hs'
  refine compJ (G := fun s' => codeAny (model prog w) A _ _ s') (S := SrcAt h₀ ax its) (Cm := fun _ => True) hloop W (fun i h st => by obtain ⟨⟨o, e, _⟩, _⟩ := st; exact ⟨o, e⟩) list_st J (fun i ys news hJ => hJS i ys news hJ)
    (Nat.ne_of_lt F.ns.lt) (next_is_new F) hIC hID ?_ (CompR.of (f := .next) fun h' tk' dr' ys news' F' N' hD hJ => fin D h' tk' dr' ys news' F' N' hD hJ) hst F₂ N₂ ⟨hC₂, trivial⟩ off₂ hj
  intro i v h tk dr ys news oI oC m₂ Pst hi hPv hstI hJ hC' F' N' off hP
  obtain ⟨M, take, go⟩ := step i v ys news hPv hJ
  refine take _ _ _ _ _ _ _ _ _ _ hstI.1 F' N' hC'.1 off hIC hCD fun h' tk' oC' F3 N3 hC3 => ?_
  refine wpAny_mono (go _ _ _ _ _ _ h' tk' dr hC3 F3 N3 off ⟨hIC, hID, hCD⟩) (fun xv s' hy' => ?_) fun _ _ e => e
  obtain ⟨ax2, its2, news2, oC2, h4, tk4, dr4, J2, rfl, rfl, F4, hC4, N4, off4, hj2, hJ2, step2, fin2⟩ := hy'
  have hl2 := (hJ2 _ _ _ hj2).1.list F4.keep (fun p hp => N4 p (.tail _ (.tail _ (.tail _ hp))))
  have hlt2 : ax2 < h4.objs.size := by obtain ⟨_, e, _⟩ := hl2; exact Heap.lt_size e
  have hne2 : ax2 ≠ h4.objs.size := Nat.ne_of_lt hlt2
  refine wpAny_pyIter_list hl2 ?_
  have up2 : ∀ b o, h4.get? b = some o → (h4.push { cls := .type "list_iterator", data := .fields #[.ref ax2, .int 0 0] }).get? b = some o := fun b o e => Heap.get?_push_of_some _ e
  have W2 := Walks.list (prog := prog) (w := w) hh h4.objs.size ax2 hne2 its2
  have hst2 : (h4.push { cls := .type "list_iterator", data := .fields #[.ref ax2, .int 0 0] }).IsListIter h4.objs.size ax2 0 ∧ (h4.push { cls := .type "list_iterator", data := .fields #[.ref ax2, .int 0 0] }).IsList ax2 its2 :=
    ⟨⟨_, Heap.get?_push_size _ rfl, rfl, rfl⟩, hl2.at fun o e => up2 _ _ e⟩
  have fresh : ∀ p ∈ (s₁.heap.objs.size, oI) :: (C, oC2) :: (D, lst ys) :: news2, p.1 ≠ h4.objs.size := fun p hp => Nat.ne_of_lt (Heap.lt_size (N4 p hp).1)
  have hI2C : h4.objs.size ≠ C := Ne.symm (fresh _ (.tail _ (.head _)))
  have hI2D : h4.objs.size ≠ D := Ne.symm (fresh _ (.tail _ (.tail _ (.head _))))
  have off4m := off4.mem
  have hloop2 := fun (Ix : Nat → Shared → Prop) a (n : Nat) (s' : Shared) hs' => loop_last (s := s') (prog := prog) (w := w) (A := A) (R := PstR Pst)
    (elt := elt) (target := .Name y py) (iter := iter2) (ifs := ifs) (gens := [⟨target, iter, [], 0⟩, ⟨.Name y py, iter2, ifs, 0⟩]) (d := 1) (scope := scope) (pos := pos) (it := .ref h4.objs.size) (acc := .ref D) (env := compEnvC scope cl C env) rfl rfl Ix a n hs'
  have inner : codeAny (model prog w) A (.compLoop (.ListComp elt [⟨target, iter, [], 0⟩, ⟨.Name y py, iter2, ifs, 0⟩] scope pos) 1 (.ref h4.objs.size) (.ref D) (compEnvC scope cl C env)) (PstR Pst)
      { s₁ with heap := h4.push { cls := .type "list_iterator", data := .fields #[.ref ax2, .int 0 0] }, toks := tk4, drawn := dr4 } := by
    refine compJ (s := s₁) (G := fun s' => codeAny (model prog w) A _ _ s') (S := SrcAt h₀ ax2 its2) (Cm := fun m' => ∀ z, z ≠ y → m' z = M m₂ z) hloop2 W2 (fun i h st => by obtain ⟨⟨o, e, _⟩, _⟩ := st; exact ⟨o, e⟩) list_st
      (fun k ys nw => ∃ nw', nw = (s₁.heap.objs.size, oI) :: nw' ∧ J2 k ys nw' ∧ Off3 s₁.heap.objs.size C D nw') (fun i ys news hJ => ?_)
      (Nat.ne_of_lt F4.ns.lt) (next_is_new F4) hI2C hI2D ?_ ?_ hst2 (F4.keeps up2) (news := (s₁.heap.objs.size, oI) :: news2) (oC := oC2) ?_ ⟨hC4, fun _ _ => rfl⟩ ?_ ⟨_, rfl, hj2, off4⟩
    · obtain ⟨nw', rfl, hJ', _⟩ := hJ
      rcases (hJ2 _ _ _ hJ').1 with h1 | ⟨o, h1, h2⟩
      · exact .inl h1
      · exact .inr ⟨o, .tail _ h1, h2⟩
    · rintro k v' h5 tk5 dr5 ys5 _ oI5 oC5 m₅ Pst' hk hPv' _ ⟨news5, rfl, hJ5, off5'⟩ ⟨hC5, hm5⟩ F5 N5 off5 hP'
      have off5m := off5.mem
      refine wpAny_pure ?_
      refine stC (pre := [(h4.objs.size, oI5)]) F5 N5 hC5 (fun p hp => by rw [List.mem_singleton.mp hp]; exact hI2C) (fun p hp => ?_) hy hkind fun h6 oC6 F6 N6 hC6 => ?_
      · rcases List.mem_cons.mp hp with rfl | hp
        · exact Ne.symm hCD
        · exact (off5m p hp).2.1
      refine wpAny_mono (step2 k v' _ oI5 oC6 _ h6 _ dr5 ys5 news5 hPv' hJ5 hC6 (by simp) (fun z hz => by simp [hz]; exact hm5 z hz) F6 N6 off5 off5') (fun ok s₃ h₃ => ?_) fun _ _ e => e
      cases ok with
      | true =>
        simp only [if_true] at h₃ ⊢
        refine wpAny_mono h₃ (fun y' s₄ h₄ => ?_) fun _ _ e => e
        obtain ⟨h7, tk7, dr7, _, rfl, F7, N7, off7, nw', rfl, hJ7, off8⟩ := h₄
        exact push_item (J := fun ys nw => ∃ nw', nw = (s₁.heap.objs.size, oI) :: nw' ∧ J2 (k + 1) ys nw' ∧ Off3 s₁.heap.objs.size C D nw') F7 N7 ⟨hC6, fun z hz => by simp [hz]; exact hm5 z hz⟩ off7 hI2D hCD (hJ2 _ _ _ hJ5).2.2
          ⟨nw', rfl, hJ7, off8⟩ hP'
      | false =>
        simp only [Bool.false_eq_true, if_false] at h₃ ⊢
        obtain ⟨h7, tk7, dr7, nw', rfl, F7, N7, off7, hJ7, off8⟩ := h₃
        exact hP' _ ⟨h7, tk7, dr7, ys5, _, oC6, _, rfl, F7, N7, ⟨hC6, fun z hz => by simp [hz]; exact hm5 z hz⟩, off7, nw', rfl, hJ7, off8⟩
    · rintro s' ⟨h7, tk7, dr7, ys7, _, oC7, m7, rfl, F7, N7, hC7, off7, nw', rfl, hJ7, off7'⟩
      refine hP _ ⟨h7, tk7, dr7, ys7, nw', oC7, m7, rfl, F7, fun p hp => N7 p ?_, ⟨hC7.1, trivial⟩, off7', fin2 _ _ hJ7 off7'⟩
      rcases List.mem_cons.mp hp with rfl | hp
      · exact .tail _ (.tail _ (.head _))
      · rcases List.mem_cons.mp hp with rfl | hp
        · exact .head _
        · rcases List.mem_cons.mp hp with rfl | hp
          · exact .tail _ (.head _)
          · exact .tail _ (.tail _ (.tail _ hp))
    · intro p hp
      refine ⟨up2 _ _ (N4 p ?_).1, (N4 p ?_).2⟩ <;>
      · rcases List.mem_cons.mp hp with rfl | hp
        · exact .tail _ (.head _)
        · rcases List.mem_cons.mp hp with rfl | hp
          · exact .tail _ (.tail _ (.head _))
          · rcases List.mem_cons.mp hp with rfl | hp
            · exact .head _
            · exact .tail _ (.tail _ (.tail _ hp))
    · refine Off3.of fun p hp => ?_
      rcases List.mem_cons.mp hp with rfl | hp
      · exact ⟨fresh _ (.head _), hIC, hID⟩
      · exact ⟨fresh _ (.tail _ (.tail _ (.tail _ hp))), (off4m p hp).2⟩
  exact start_at (d := 1) (g := ⟨.Name y py, iter2, ifs, 0⟩) rfl rfl inner (W2.self 0 _ _ NoE hst2 inner)
end
end Mine
end
section
open PySem PySem.W PyProof.Rows PySem.Spec PySem.Calls PyProof.Rows.LCg
set_option maxRecDepth 100000
namespace Mine
section
variable {prog : Program} {w : World} {A : Around} {E : Value → Shared → Prop} {s : Shared} {h₀ : Heap} {L : Addr} {m : Str → Option Value}
inductive CSrcT (prog : Program) (w : World) (A : Around) (h₀ : Heap) (L : Addr) (m : Str → Option Value) (env : Env) (elt target : PySem.Expr) (ifs : List PySem.Expr) (scope : Scope) (cl : List (Str × Addr)) (Q : Value → Shared → Prop) (xv : Value) (s₁ : Shared) : Prop
  | mk (ax : Addr) (its : Array Value) (news : List (Addr × Obj)) (J : Nat → List Value → List (Addr × Obj) → Prop)
    (c1 : xv = .ref ax)
    (c2 : A.handled = none)
    (c3 : Fr h₀ L s₁.heap m)
    (c4 : News h₀ L s₁.heap news)
    (c5 : J 0 [] news)
    (c6 : (∀ i ys news, J i ys news → SrcAt h₀ ax its news ∧ ys.length ≤ sizeLine))
    (c7 : (∀ i v ys news, its[i]? = some v → J i ys news → ∃ M, Takes prog w A h₀ L m scope cl env target ax news v M ∧
      ∀ I oI C oC D m₂ h tk dr, NsObj oC (M m₂) → Fr h₀ L h m → News h₀ L h ((I, oI) :: (C, oC) :: (D, lst ys) :: news) → Off3 I C D news → ((@Ne Nat I C) ∧ (@Ne Nat I D) ∧ (@Ne Nat C D)) →
        wpAny (model prog w) A (testsOf ifs (compEnvC scope cl C env)) (fun ok s₃ => if ok = true then wpAny (model prog w) A (eval elt (compEnvC scope cl C env)) (Made h₀ L m s₁ I oI C oC D ys (J (i + 1))) NoE s₃
          else ∃ h tk dr news', s₃ = { s₁ with heap := h, toks := tk, drawn := dr } ∧ Fr h₀ L h m ∧ News h₀ L h ((I, oI) :: (C, oC) :: (D, lst ys) :: news') ∧ Off3 I C D news' ∧ J (i + 1) ys news') NoE { s₁ with heap := h, toks := tk, drawn := dr }))
    (c8 : (∀ D h tk dr ys news, Fr h₀ L h m → News h₀ L h ((D, lst ys) :: news) → (∀ p ∈ news, p.1 ≠ D) → J its.size ys news → Q (.ref D) { s₁ with heap := h, toks := tk, drawn := dr }))
theorem compT {elt target iter : PySem.Expr} {ifs : List PySem.Expr} {scope : Scope} {cl : List (Str × Addr)} {pos : Pos} {env : Env} {Q : Value → Shared → Prop} (_F : Fr h₀ L s.heap m)
    (hclos : closureFor scope env = pure cl) (hcell : ∀ y ∈ scope.names, y.2 ≠ .cell) (hkind : scope.kind = .function)
    (hnames : ∀ y ∈ scope.names, y.2 = .local → scope.names.lookup y.1 = some .local)
    (h : wpAny (model prog w) A (eval iter env) (CSrcT prog w A h₀ L m env elt target ifs scope cl Q) NoE s)
    (hs : ∀ x, foldedSetIterable iter env x = pure x := by intro _; rfl) :
    wpAny (model prog w) A (eval (.ListComp elt [⟨target, iter, ifs, 0⟩] scope pos) env) Q E s := by
  refine compTop (h₀ := h₀) (L := L) (m := m) (g := ⟨target, iter, ifs, 0⟩) (gs := []) hclos hcell hkind rfl hnames hs (wpAny_mono h (fun xv s₁ h₁ => ?_) fun _ _ e => e)
  obtain ⟨ax, its, news, J, rfl, hh, F, N, hj, hJS, step, fin⟩ := h₁
  have hl := (hJS _ _ _ hj).1.list F.keep N
  have hlt : ax < s₁.heap.objs.size := by obtain ⟨_, e, _⟩ := hl; exact Heap.lt_size e
  have hne : ax ≠ s₁.heap.objs.size := Nat.ne_of_lt hlt
  refine wpAny_pyIter_list hl ?_
  have up : ∀ b o, s₁.heap.get? b = some o → (s₁.heap.push { cls := .type "list_iterator", data := .fields #[.ref ax, .int 0 0] }).get? b = some o := fun b o e => Heap.get?_push_of_some _ e
  refine ⟨_, news, rfl, F.keeps up, fun p hp => ⟨up _ _ (N p hp).1, (N p hp).2⟩, ⟨_, Heap.get?_push_size _ rfl⟩, fun p hp => Nat.ne_of_lt (Heap.lt_size (N p hp).1), ?_⟩
  intro C D oC h₂ tk F₂ N₂ hC₂ off₂ hIC hID hCD k₂
  have W := Walks.list (prog := prog) (w := w) hh s₁.heap.objs.size ax hne its
  have hst : h₂.IsListIter s₁.heap.objs.size ax 0 ∧ h₂.IsList ax its :=
    ⟨⟨_, k₂ _ _ (Heap.get?_push_size _ rfl), rfl, rfl⟩, (hl.at fun o e => up _ _ e).at fun o e => k₂ _ _ e⟩
  refine ⟨fun Q' hQ' => W.self 0 _ Q' NoE hst hQ', ?_⟩
  have hloop := fun (Ix : Nat → Shared → Prop) a (n : Nat) (s' : Shared) hs' => loop_last (s := s') (prog := prog) (w := w) (A := A) (R := CompR h₀ L m { s₁ with heap := s₁.heap.push { cls := .type "list_iterator", data := .fields #[.ref ax, .int 0 0] } } s₁.heap.objs.size C D Q)
    (elt := elt) (target := target) (iter := iter) (ifs := ifs) (gens := [⟨target, iter, ifs, 0⟩]) (d := 0) (scope := scope) (pos := pos) (it := .ref s₁.heap.objs.size) (acc := .ref D) (env := compEnvC scope cl C env) rfl rfl Ix a n hs'
  refine compJ (G := fun s' => codeAny (model prog w) A _ _ s') (S := SrcAt h₀ ax its) (Cm := fun _ => True) hloop W (fun i h st => by obtain ⟨⟨o, e, _⟩, _⟩ := st; exact ⟨o, e⟩) list_st J (fun i ys news hJ => (hJS i ys news hJ).1)
    (Nat.ne_of_lt F.ns.lt) (next_is_new F) hIC hID ?_ (CompR.of (f := .next) fun h' tk' dr' ys news' F' N' hD hJ => fin D h' tk' dr' ys news' F' N' hD hJ) hst F₂ N₂ ⟨hC₂, trivial⟩ off₂ hj
  intro i v h tk dr ys news oI oC m₂ Pst hi hPv hstI hJ hC' F' N' off hP
  obtain ⟨M, take, go⟩ := step i v ys news hPv hJ
  refine take _ _ _ _ _ _ _ _ _ _ hstI.1 F' N' hC'.1 off hIC hCD fun h' tk' oC' F3 N3 hC3 => ?_
  refine wpAny_mono (go _ _ _ _ _ _ h' tk' dr hC3 F3 N3 off ⟨hIC, hID, hCD⟩) (fun ok s₃ h₃ => ?_) fun _ _ e => e
  cases ok with
  | true =>
    simp only [if_true] at h₃ ⊢
    refine wpAny_mono h₃ (fun y s' hy => ?_) fun _ _ e => e
    obtain ⟨h4, tk4, dr4, news4, rfl, F4, N4, off4, hJ4⟩ := hy
    exact push_item F4 N4 ⟨hC3, trivial⟩ off4 hID hCD (hJS _ _ _ hJ).2 hJ4 hP
  | false =>
    simp only [Bool.false_eq_true, if_false] at h₃ ⊢
    obtain ⟨h4, tk4, dr4, news4, rfl, F4, N4, off4, hJ4⟩ := h₃
    exact hP _ ⟨h4, tk4, dr4, ys, news4, oC', _, rfl, F4, N4, ⟨hC3, trivial⟩, off4, hJ4⟩
end
end Mine
end
local macro_rules | `(tactic| walk_at $k) => if "exec For|exec For Name Call cons cons|exec For Name Call cons nil|exec For Name Name cons nil".splitOn "|" |>.contains k.getString then `(tactic| (k_dflt (refine PySem.wpAny_For ?_))) else throw .unsupportedSyntax
local macro_rules
  | `(tactic| walk_at "OVR") => `(tactic| (refine Mine.ovr_of (by repeat' (first | exact Mine.fa_nil | refine Mine.fa_cons rfl (?_))) ?_))
section
open PySem PySem.W PyProof.Rows PySem.Spec PySem.Calls
set_option maxRecDepth 100000
namespace Mine
noncomputable def nms : List Str := [Str.ofString "OPTIMIZED", Str.ofString "NEWLOCALS", Str.ofString "VARARGS", Str.ofString "VARKEYWORDS", Str.ofString "NESTED", Str.ofString "GENERATOR", Str.ofString "NOFREE", Str.ofString "COROUTINE"]
noncomputable def nmsTo (f : Nat) : Nat → List Str
  | 0 => []
  | i + 1 => nmsTo f i ++ (if f.testBit i then [nms.getD i Str.empty] else [])
noncomputable def restOf (f i : Nat) : Nat := (f >>> i) <<< i
noncomputable def bitOk (f i : Nat) : Bool :=
  ((Builtin.bitAnd (restOf f i : Int) (1 * 2 ^ Int.toNat (i : Int)) != 0) == f.testBit i) &&
  (!f.testBit i || (Builtin.bitXor (restOf f i : Int) (1 * 2 ^ Int.toNat (i : Int)) == (restOf f (i + 1) : Int))) &&
  (f.testBit i || (restOf f i == restOf f (i + 1))) &&
  (restOf f (i + 1) != 0 || (nmsTo f 8 == nmsTo f (i + 1)))
theorem bits_ok : ∀ f : Fin 256, ∀ i : Fin 8, bitOk f.val i.val = true := by decide +kernel
theorem bit_ok {f i : Nat} (hf : f ≤ 255) (hi : i < 8) : bitOk f i = true := bits_ok ⟨f, by omega⟩ ⟨i, hi⟩
theorem bit_yes {f i : Nat} (hf : f ≤ 255) (hi : i < 8) (h : Builtin.bitAnd (restOf f i : Int) (1 * 2 ^ Int.toNat (i : Int)) ≠ 0) :
    f.testBit i = true ∧ Builtin.bitXor (restOf f i : Int) (1 * 2 ^ Int.toNat (i : Int)) = (restOf f (i + 1) : Int) := by
  have h1 := bit_ok hf hi
  unfold bitOk at h1
  simp only [Bool.and_eq_true, beq_iff_eq, Bool.or_eq_true, Bool.not_eq_true'] at h1
  obtain ⟨⟨⟨a, b⟩, c⟩, d⟩ := h1
  have a' : f.testBit i = true := by rw [← a]; simpa using h
  exact ⟨a', b.resolve_left (by rw [a']; decide)⟩
theorem bit_no {f i : Nat} (hf : f ≤ 255) (hi : i < 8) (h : Builtin.bitAnd (restOf f i : Int) (1 * 2 ^ Int.toNat (i : Int)) = 0) :
    f.testBit i = false ∧ restOf f i = restOf f (i + 1) := by
  have h1 := bit_ok hf hi
  unfold bitOk at h1
  simp only [Bool.and_eq_true, beq_iff_eq, Bool.or_eq_true, Bool.not_eq_true'] at h1
  obtain ⟨⟨⟨a, b⟩, c⟩, d⟩ := h1
  have a' : f.testBit i = false := by rw [← a]; simpa using h
  exact ⟨a', c.resolve_left (by rw [a']; decide)⟩
theorem nms_lens : ∀ f : Fin 256, ∀ i : Fin 8, (nmsTo f.val (i.val + 1)).length ≤ 8 := by decide +kernel
theorem nms_len {f i : Nat} (hf : f ≤ 255) (hi : i < 8) : (nmsTo f (i + 1)).length ≤ 8 := nms_lens ⟨f, by omega⟩ ⟨i, hi⟩
theorem nms_sums : ∀ f : Fin 256, ((nmsTo f.val 8).map (·.length)).sum + (nmsTo f.val 8).length * (Str.ofString ", ").length ≤ 16777216 := by decide +kernel
theorem nms_sum {f : Nat} (hf : f ≤ 255) : ((nmsTo f 8).map (·.length)).sum + (nmsTo f 8).length * (Str.ofString ", ").length ≤ 16777216 := nms_sums ⟨f, by omega⟩
theorem bit_end {f i : Nat} (hf : f ≤ 255) (hi : i < 8) (h : restOf f (i + 1) = 0) : nmsTo f (i + 1) = nmsTo f 8 := by
  have h1 := bit_ok hf hi
  unfold bitOk at h1
  simp only [Bool.and_eq_true, beq_iff_eq, Bool.or_eq_true, Bool.not_eq_true', bne_iff_ne] at h1
  exact (h1.2.resolve_left (by simpa using h)).symm
theorem rest_hi {f i : Nat} (hf : f ≤ 255) (hi : 8 ≤ i) : restOf f i = 0 := by
  unfold restOf
  have : f >>> i = 0 := by
    rw [Nat.shiftRight_eq_div_pow]
    apply Nat.div_eq_of_lt
    have : 2 ^ 8 ≤ 2 ^ i := Nat.pow_le_pow_right (by decide) hi
    omega
  rw [this]; simp
theorem pow_small {i : Nat} (hi : i < 8) : Int.natAbs (1 * 2 ^ Int.toNat (i : Int)) ≤ 128 := by
  have h : i = 0 ∨ i = 1 ∨ i = 2 ∨ i = 3 ∨ i = 4 ∨ i = 5 ∨ i = 6 ∨ i = 7 := by omega
  rcases h with rfl | rfl | rfl | rfl | rfl | rfl | rfl | rfl <;> decide
theorem flagName_i (w : World) {i : Nat} (hi : i < 8) : flagName w (1 * 2 ^ Int.toNat (i : Int)) = some (nms.getD i Str.empty) := by
  have h : i = 0 ∨ i = 1 ∨ i = 2 ∨ i = 3 ∨ i = 4 ∨ i = 5 ∨ i = 6 ∨ i = 7 := by omega
  rcases h with rfl | rfl | rfl | rfl | rfl | rfl | rfl | rfl <;> with_unfolding_all rfl
section
local macro_rules | `(tactic| walk_at "call builtin:dict.get") => `(tactic| (k_dflt (refine' get_flagS ?k1 ?k2 ?k3 ?_; (case k1 => k_asm); (case k2 => k_asm); (case k3 => exact flagName_i _ ‹_›)); intro _))
local macro_rules | `(tactic| walk_at "call builtin:list.append") => `(tactic| (k_here; k_dflt (refine' append_K ?k1 ?k2 ?k3 ?_ ?z; (case k1 => k_asm); (case k2 => k_asm); (case k3 => k_upd); (case z => assumption); k_whole); intro h' F' N'; (try k_sweep)))

set_option maxHeartbeats 8000000 in
theorem fl_spec (w : World) (f : Nat) (t : Tok) (h0 : 1 ≤ f) (h1 : f ≤ 255) (dp un : Nat) (gd : Option (List Code)) (fr : Option (List Env)) (s : Shared) (Q : Value → Shared → Prop)
   (mean : ExcName → Option Value) (mg mb : Str → Option Value) (X : (hd.heap_39 w.params).In s.heap) (T : Top VW LS mean mg mb s.heap) 
   (hdp : dp + 1 < recursionLimit)
   (hret : ∀ h' tk' dr m', Fr s.heap s.heap.objs.size h' m' → ∀ t', Q (.str (Txt.join (Str.ofString ", ") (nmsTo f 8)) t') { s with heap := h', toks := tk', drawn := dr }) :
   wpAny (model PySem.Challenge.rw_wb0017_01.row.prog w) (AR dp un gd fr) (call (.ref 36) [.int (f : Int) t]) Q (fun _ _ => False) s := by
  w_on
  have hfill : (PySem.Challenge.rw_wb0017_01 = PySem.Challenge.rw_wb0017_01) ∧ (hd.heap_39 = hd.heap_39) := by k_fill; exact ⟨rfl, rfl⟩
  
  w_strict (k_dflt (refine' enterP (binds := [(Str.ofString "flags", .int (f : Int) t)]) ?k3 ?k5 ?k6 ?k7 ?k8 ?k9 ?kB ?_ ?c2 ?c3 ?c4 ?c5; (case k3 => assumption); (case k5 => assumption); (case k6 => k_is); (case k7 => k_is); (case k8 => omega); (case k9 => exact BindsTo.of_eq rfl); (case c5 => decide); (case kB => exact locs rfl); (case c2 => exact rfl); (case c3 => exact rfl); (case c4 => exact rfl)))
  intro h₁ F N
  w_strict (k_steps)
  rename_i hR F2 N2 _
  rename_i D _ _ _ _ _ _ _ _ _ _ _
  refine forK_brk (fun s' => ∃ h' tk' dr' m' vs c, s' = { s with heap := h', toks := tk', drawn := dr' } ∧ Fr s.heap s.heap.objs.size h' m' ∧ News s.heap s.heap.objs.size h' [(D, W.listOf vs.toArray c)] ∧ m' (Str.ofString "names") = some (.ref D) ∧ StrsAre vs (nmsTo f 8)) ?_ (fun post => ?_)
  · clear hR F2 N2
    rintro s' ⟨h', tk', dr', m', vs, c, rfl, F3, N3, hm, hvs⟩
    rw [ovr_read hm] at F3
    dsimp only
    w_strict (k_steps)
    refine join_list (isList_of (by k_asm) (by k_mem)) hvs (nms_sum h1) fun t' k => ?_
    exact hret _ _ _ _ (by k_asm) _
  refine forK_range (n := 32) rfl (fun i m news => ∃ tf u u' vs c, m = ovr [(Str.ofString "flags", some (.int (restOf f i : Int) tf)), (Str.ofString "names", some (.ref D)), (Str.ofString "i", u), (Str.ofString "flag", u')] (fun _ => none) ∧ news = [(D, W.listOf vs.toArray c)] ∧ StrsAre vs (nmsTo f i) ∧ vs.toArray.size ≤ sizeLine ∧ restOf f i ≠ 0) hR (by decide) F2 N2 ?_ ?_ ?_
  · refine ⟨t, none, none, [], 0, ?_, rfl, .nil, Nat.zero_le _, ?_⟩
    · refine ovr_of (by repeat' (first | exact List.forall_mem_nil _ | refine List.forall_mem_cons.mpr ⟨rfl, ?_⟩)) ?_
      intro z hz
      simp only [List.forall_mem_cons] at hz
      obtain ⟨z1, z2, z3, z4, _⟩ := hz
      simp only [z2, ↓reduceIte]
      exact lookup_none_of (by simp only [List.reverse_cons, List.reverse_nil, List.nil_append, List.forall_mem_cons]; exact ⟨z1, List.forall_mem_nil _⟩)
    · show f ≠ 0
      omega
  · rintro I i t h tk dr m news oI hIs hi ⟨tf, u, u', vs, c, rfl, rfl, hvs, hsz, hne⟩ hnI F3 N3
    have hDI : @Ne Nat D I := hnI _ (.head _)
    clear hR F2 N2 hIs
    have hi8 : i < 8 := by
      rcases Nat.lt_or_ge i 8 with h | h
      · exact h
      · exact absurd (rest_hi h1 h) hne
    have hpw := pow_small hi8
    show wpAny _ _ (assign _ _ (Value.int (i : Int) t)) _ _ _
    w_strict k_steps
    · rename Builtin.bitXor _ _ ≠ 0 => hx
      rename Builtin.bitAnd _ _ ≠ 0 => ha
      rename Fr _ _ _ _ => F9
      rename News _ _ _ _ => N9
      obtain ⟨hb, hxe⟩ := bit_yes (i := i) h1 hi8 ha
      change Builtin.bitXor (restOf f i : Int) (1 * 2 ^ Int.toNat (i : Int)) ≠ 0 at hx
      rw [hxe] at hx
      have hx2 : ((restOf f (i + 1) : Nat) : Int) ≠ 0 := hx
      have hx' : restOf f (i + 1) ≠ 0 := by omega
      have hnm : nmsTo f (i + 1) = nmsTo f i ++ [nms.getD i Str.empty] := by show _ ++ (if f.testBit i = true then _ else _) = _; rw [if_pos hb]
      simp only [List.push_toArray] at N9
      change Fr _ _ _ (fun y => if y = Str.ofString "flags" then some (Value.int (Builtin.bitXor (restOf f i : Int) (1 * 2 ^ Int.toNat (i : Int))) _) else _) at F9
      rw [hxe] at F9
      refine ForPost.next1 F9 N9 (by intro p hp; rw [List.mem_singleton.mp hp]; exact hDI) ⟨_, _, _, _, _, by (walk_at "OVR"); intro z hz; (simp only [List.forall_mem_cons] at hz; obtain ⟨z1, z2, z3, z4, _⟩ := hz; simp only [z1, z2, z3, z4, ↓reduceIte]; exact ovr_out (by simp only [List.forall_mem_cons]; exact ⟨z1, z2, z3, z4, List.forall_mem_nil _⟩)), rfl, by rw [hnm]; exact strs_snoc hvs, ?_, hx'⟩
      have hl2 := (hnm ▸ strs_snoc (t := 0) hvs : StrsAre _ (nmsTo f (i + 1))).length
      have hl3 : (nmsTo f (i + 1)).length ≤ 8 := nms_len h1 hi8
      simp only [List.size_toArray, List.length_append, List.length_singleton] at hl2 ⊢
      rw [sizeLine_eq]; omega
    · rename Builtin.bitXor _ _ = 0 => hx
      rename Builtin.bitAnd _ _ ≠ 0 => ha
      rename Fr _ _ _ _ => F9
      rename News _ _ _ _ => N9
      obtain ⟨hb, hxe⟩ := bit_yes (i := i) h1 hi8 ha
      change Builtin.bitXor (restOf f i : Int) (1 * 2 ^ Int.toNat (i : Int)) = 0 at hx
      rw [hxe] at hx
      have hx2 : ((restOf f (i + 1) : Nat) : Int) = 0 := hx
      have hx' : restOf f (i + 1) = 0 := by omega
      have hnm : nmsTo f (i + 1) = nmsTo f i ++ [nms.getD i Str.empty] := by show _ ++ (if f.testBit i = true then _ else _) = _; rw [if_pos hb]
      simp only [List.push_toArray] at N9
      refine post _ ⟨_, _, _, _, _, _, rfl, F9, (News.tl N9), rfl, ?_⟩
      rw [← bit_end h1 hi8 hx', hnm]; exact strs_snoc hvs
    · rename Builtin.bitAnd _ _ = 0 => ha
      rename Fr _ _ _ _ => F9
      rename News _ _ _ _ => N9
      obtain ⟨hb, hxe⟩ := bit_no (i := i) h1 hi8 ha
      rw [hxe] at F9 hne
      have hnm : nmsTo f (i + 1) = nmsTo f i := by show _ ++ (if f.testBit i = true then _ else _) = _; rw [if_neg (by rw [hb]; decide), List.append_nil]
      exact ForPost.next1 F9 N9 (by intro p hp; rw [List.mem_singleton.mp hp]; exact hDI) ⟨_, _, _, _, _, by (walk_at "OVR"); intro z hz; (simp only [List.forall_mem_cons] at hz; obtain ⟨z1, z2, z3, z4, _⟩ := hz; simp only [z1, z2, z3, z4, ↓reduceIte]; exact ovr_out (by simp only [List.forall_mem_cons]; exact ⟨z1, z2, z3, z4, List.forall_mem_nil _⟩)), rfl, by rw [hnm]; exact hvs, hsz, hne⟩
  · rintro h tk dr m news ⟨_, _, _, _, _, _, _, _, _, hne⟩
    exact absurd (rest_hi h1 (by decide)) hne

end
end Mine
end
section
open PySem PySem.W PyProof.Rows PySem.Spec PySem.Calls
set_option maxRecDepth 100000
namespace Mine
theorem and0 : ∀ i : Fin 32, Builtin.bitAnd 0 (1 * 2 ^ Int.toNat (i.val : Int)) = 0 := by decide +kernel
section

set_option maxHeartbeats 8000000 in
theorem fl0_spec (w : World) (t : Tok) (dp un : Nat) (gd : Option (List Code)) (fr : Option (List Env)) (s : Shared) (Q : Value → Shared → Prop)
   (mean : ExcName → Option Value) (mg mb : Str → Option Value) (X : (hd.heap_39 w.params).In s.heap) (T : Top VW LS mean mg mb s.heap) 
   (hdp : dp + 1 < recursionLimit)
   (hret : ∀ h' tk' dr m', Fr s.heap s.heap.objs.size h' m' → ∀ t', Q (.str (Str.ofString "0x0") t') { s with heap := h', toks := tk', drawn := dr }) :
   wpAny (model PySem.Challenge.rw_wb0017_01.row.prog w) (AR dp un gd fr) (call (.ref 36) [.int 0 t]) Q (fun _ _ => False) s := by
  w_on
  have hfill : (PySem.Challenge.rw_wb0017_01 = PySem.Challenge.rw_wb0017_01) ∧ (hd.heap_39 = hd.heap_39) := by k_fill; exact ⟨rfl, rfl⟩
  
  w_strict (k_dflt (refine' enterP (binds := [(Str.ofString "flags", .int 0 t)]) ?k3 ?k5 ?k6 ?k7 ?k8 ?k9 ?kB ?_ ?c2 ?c3 ?c4 ?c5; (case k3 => assumption); (case k5 => assumption); (case k6 => k_is); (case k7 => k_is); (case k8 => (with_reducible exact Ln.o137 ‹_›)); (case k9 => exact BindsTo.of_eq rfl); (case c5 => decide); (case kB => exact locs rfl); (case c2 => exact rfl); (case c3 => exact rfl); (case c4 => exact rfl)))
  intro h₁ F N
  w_strict (k_steps)
  rename_i hR F2 N2 _
  rename_i D _ _ _ _ _ _ _ _ _ _ _
  refine forK_range (n := 32) rfl (fun i m news => ∃ tf u u' c, m = ovr [(Str.ofString "flags", some (.int 0 tf)), (Str.ofString "names", some (.ref D)), (Str.ofString "i", u), (Str.ofString "flag", u')] (fun _ => none) ∧ news = [(D, W.listOf #[] c)]) hR (by decide) F2 N2 ?_ ?_ ?_
  · refine ⟨t, none, none, 0, ?_, rfl⟩
    refine ovr_of (by repeat' (first | exact List.forall_mem_nil _ | refine List.forall_mem_cons.mpr ⟨rfl, ?_⟩)) ?_
    intro z hz
    simp only [List.forall_mem_cons] at hz
    obtain ⟨z1, z2, z3, z4, _⟩ := hz
    simp only [z2, ↓reduceIte]
    exact lookup_none_of (by simp only [List.reverse_cons, List.reverse_nil, List.nil_append, List.forall_mem_cons]; exact ⟨z1, List.forall_mem_nil _⟩)
  · rintro I i t h tk dr m news oI hIs hi ⟨tf, u, u', c, rfl, rfl⟩ hnI F3 N3
    have hDI : @Ne Nat D I := hnI _ (.head _)
    clear hR F2 N2 hIs
    w_strict (k_steps)
    · rename Builtin.bitAnd _ _ ≠ 0 => ha
      exact absurd (and0 ⟨i, hi⟩) ha
    · rename Fr _ _ _ _ => F9
      rename News _ _ _ _ => N9
      exact ForPost.next1 F9 N9 (by intro p hp; rw [List.mem_singleton.mp hp]; exact hDI) ⟨_, _, _, _, by (walk_at "OVR"); intro z hz; (simp only [List.forall_mem_cons] at hz; obtain ⟨z1, z2, z3, z4, _⟩ := hz; simp only [z1, z2, z3, z4, ↓reduceIte]; exact ovr_out (by simp only [List.forall_mem_cons]; exact ⟨z1, z2, z3, z4, List.forall_mem_nil _⟩)), rfl⟩
  · rintro h tk dr m news ⟨tf, u, u', c, rfl, rfl⟩ F9 N9
    w_strict (k_steps)
    rename News _ _ _ _ => N9
    rename Fr _ _ _ _ => F9
    refine join_list (ys := [Str.ofString "0x0"]) (isList_of N9 (.head _)) (.cons _ _ .nil) (by decide +kernel) fun t' k => ?_
    rw [show Txt.join (Str.ofString ", ") [Str.ofString "0x0"] = Str.ofString "0x0" by decide +kernel]
    exact hret _ _ _ _ F9 _


end
end Mine
end
section
open PySem PySem.W PyProof.Rows PySem.Spec PySem.Calls
set_option maxRecDepth 100000
namespace Mine
noncomputable def placesL (f : Nat) : List Int := ((List.range 8).filter (f.testBit ·)).map Int.ofNat
noncomputable def placesOk (f : Nat) : Bool := (Txt.split (Txt.join (Str.ofString ", ") (nmsTo f 8)) (Str.ofString ", ") == nmsTo f 8) && ((nmsTo f 8).map (fun y => ((nms.idxOf y : Nat) : Int)) == placesL f) &&
   ((nmsTo f 8).all fun y => nms.contains y) && !(Txt.join (Str.ofString ", ") (nmsTo f 8) == Str.ofString "0x0") && decide ((Txt.join (Str.ofString ", ") (nmsTo f 8)).length + 2 ≤ 1000) && decide ((nmsTo f 8).length ≤ 8)
/-- where the commas stand -/
noncomputable def cm : Nat → List Nat → List Nat
  | _, [] => []
  | o, c :: r => if c = 44 then o :: cm (o + 1) r else cm (o + 1) r
noncomputable def cutsOf : Nat → List Str → List Nat
  | _, [] => []
  | _, [_] => []
  | o, y :: z :: r => (o + y.length) :: cutsOf (o + y.length + 2) (z :: r)
/-- each comma is followed by a blank -/
noncomputable def Nxt (L : List Nat) : Prop := ∀ j, L[j]? = some 44 → L[j + 1]? = some 32
theorem cm_fold {x sep : Str} (hs : sep.cps.toList = [44, 32]) {limit : Nat} (hl : x.length < limit) (H : Nxt x.cps.toList) :
    ∀ (R : List Nat) (i : Nat) (st : Array Nat × Nat), x.cps.toList.drop i = R → i + R.length = x.length → st.1.size ≤ i → (st.2 ≤ i ∨ st.2 = i + 1 ∧ R.head? = some 32) →
    (forIn (List.range' i (R.length + 1)) st (StrLaws.occBody x sep x.length limit)).run.fst.toList = st.fst.toList ++ cm i R
  | [], i, st, hR, hn, _, _ => by
    have hsl : sep.length = 2 := congrArg List.length hs
    rw [show List.range' i (([] : List Nat).length + 1) = [i] from rfl]
    rw [List.forIn_cons]
    unfold StrLaws.occBody
    rw [if_neg (fun h => by have := h.1.2; rw [hsl, ← hn] at this; exact absurd this (Nat.not_le_of_lt (Nat.lt_add_of_pos_right Nat.two_pos)))]
    exact (List.append_nil _).symm
  | c :: r, i, st, hR, hn, h1, h2 => by
    have hsl : sep.length = 2 := congrArg List.length hs
    have hd : x.cps.toList.drop (i + 1) = r := by rw [← List.drop_drop, hR]; rfl
    have hget : x.cps.toList[i]? = some c := by
      have := List.getElem?_drop (xs := x.cps.toList) (i := i) (j := 0)
      rw [hR] at this
      exact this.symm
    have hn1 : i + 1 + r.length = x.length := by rw [← hn, List.length_cons, Nat.add_right_comm]; rfl
    rw [show List.range' i ((c :: r).length + 1) = i :: List.range' (i + 1) (r.length + 1) from rfl]
    rw [List.forIn_cons]
    unfold StrLaws.occBody
    by_cases hc : c = 44
    · subst hc
      have h32 : r.head? = some 32 := by rw [List.head?_eq_getElem?, ← hd, List.getElem?_drop]; exact H i hget
      obtain ⟨r', e⟩ : ∃ r', r = 32 :: r' := by
        cases r with
        | nil => cases h32
        | cons a r' => exact ⟨r', by rw [Option.some.inj h32]⟩
      have hi : st.2 ≤ i := by
        rcases h2 with h | h
        · exact h
        · exact absurd (show some 44 = some 32 from h.2) (by decide)
      rw [if_pos ⟨⟨⟨Nat.lt_of_le_of_lt h1 (Nat.lt_of_le_of_lt (by rw [← hn]; exact Nat.le_add_right _ _) hl), hi⟩, by rw [hsl, ← hn1, e]; exact Nat.add_le_add_left (Nat.succ_le_succ (Nat.zero_le _)) (i + 1)⟩,
        by rw [StrLaws.subAt_eq, hR, hs, hsl, e]; rfl⟩]
      refine (cm_fold hs hl H r (i + 1) (st.fst.push i, i + sep.length) hd hn1 (by rw [Array.size_push]; exact Nat.succ_le_succ h1) (.inr ⟨by rw [hsl], h32⟩)).trans ?_
      rw [Array.toList_push, List.append_assoc]
      exact congrArg _ (if_pos rfl).symm
    · rw [if_neg (fun h => hc (by
        have h3 := h.2
        rw [StrLaws.subAt_eq, hR, hs, hsl] at h3
        exact (List.cons.inj (eq_of_beq h3)).1))]
      refine (cm_fold hs hl H r (i + 1) (st.fst, st.snd) hd hn1 (Nat.le_succ_of_le h1) (.inl (h2.elim Nat.le_succ_of_le fun h => Nat.le_of_eq h.1))).trans ?_
      exact congrArg _ (if_neg hc).symm
theorem cm_plain : ∀ (a r : List Nat) (o : Nat), 44 ∉ a → cm o (a ++ r) = cm (o + a.length) r
  | [], _, _, _ => rfl
  | c :: a, r, o, h => by
    refine (if_neg (fun e : c = 44 => h (e ▸ List.Mem.head a))).trans ((cm_plain a r (o + 1) (fun m => h (.tail _ m))).trans ?_)
    rw [List.length_cons, Nat.add_assoc, Nat.add_comm 1]
theorem join_cps {sep : Str} (hs : sep.cps.toList = [44, 32]) (y z : Str) (r : List Str) : (Str.join sep (y :: z :: r)).cps.toList = y.cps.toList ++ (44 :: 32 :: (Str.join sep (z :: r)).cps.toList) := by
  show (y ++ sep ++ Str.join sep (z :: r)).cps.toList = _
  rw [Str.cps_append, Str.cps_append, Array.toList_append, Array.toList_append, hs, List.append_assoc]; rfl
theorem cm_join {sep : Str} (hs : sep.cps.toList = [44, 32]) : ∀ (ns : List Str) (o : Nat), (∀ y ∈ ns, 44 ∉ y.cps.toList) → cm o (Str.join sep ns).cps.toList = cutsOf o ns
  | [], _, _ => rfl
  | [y], o, h => by
    have := cm_plain y.cps.toList [] o (h y (.head _))
    rw [List.append_nil] at this
    exact this
  | y :: z :: r, o, h => by
    rw [join_cps hs, cm_plain _ _ _ (h y (.head _))]
    exact congrArg ((o + y.length) :: ·) (cm_join hs (z :: r) (o + y.length + 2) fun y hy => h y (.tail _ hy))
theorem nxt_app {L : List Nat} (H : Nxt L) : ∀ a : List Nat, 44 ∉ a → Nxt (a ++ 44 :: 32 :: L)
  | [], _, 0, _ => rfl
  | [], _, 1, e => absurd (show some 32 = some 44 from e) (by decide)
  | [], _, j + 2, e => H j e
  | _ :: _, h, 0, e => absurd (Option.some.inj e ▸ List.Mem.head _) h
  | _ :: a, h, j + 1, e => nxt_app H a (fun m => h (.tail _ m)) j e
theorem nxt_join {sep : Str} (hs : sep.cps.toList = [44, 32]) : ∀ ns : List Str, (∀ y ∈ ns, 44 ∉ y.cps.toList) → Nxt (Str.join sep ns).cps.toList
  | [], _, _, e => nomatch e
  | [y], h, _, e => absurd (List.mem_of_getElem? e) (h y (.head _))
  | y :: z :: r, h, j, e => by
    rw [join_cps hs] at e ⊢
    exact nxt_app (nxt_join hs (z :: r) fun y hy => h y (.tail _ hy)) _ (h y (.head _)) j e
theorem parts_join {x sep : Str} (hs : sep.cps.toList = [44, 32]) : ∀ (ns : List Str) (o : Nat), ns ≠ [] → x.cps.toList.drop o = (Str.join sep ns).cps.toList → StrLaws.partsFrom x 2 o (cutsOf o ns) = ns
  | [], _, h, _ => absurd rfl h
  | [y], o, _, hd => by
    refine congrArg (· :: []) (Str.ext' (Array.toList_inj.mp ?_))
    rw [StrLaws.strSub_toList]
    refine (List.take_of_length_le ?_).trans hd
    rw [List.length_drop]; exact Nat.le_refl _
  | y :: z :: r, o, _, hd => by
    rw [join_cps hs] at hd
    have e1 : Builtin.Str.strSub x o (o + y.length) = y := by
      refine Str.ext' (Array.toList_inj.mp ?_)
      rw [StrLaws.strSub_toList, hd, Nat.add_sub_cancel_left]
      exact List.take_left' rfl
    have e2 : x.cps.toList.drop (o + y.length + 2) = (Str.join sep (z :: r)).cps.toList := by
      rw [Nat.add_assoc, ← List.drop_drop, hd, ← List.drop_drop]
      exact congrArg (List.drop 2) (List.drop_left' (l₁ := y.cps.toList) (l₂ := 44 :: 32 :: (Str.join sep (z :: r)).cps.toList) rfl)
    show Builtin.Str.strSub x o (o + y.length) :: StrLaws.partsFrom x 2 (o + y.length + 2) (cutsOf (o + y.length + 2) (z :: r)) = _
    rw [e1, parts_join hs (z :: r) _ (by simp) e2]
theorem kind_pos (x : Str) : 1 ≤ Builtin.Str.strKind x := by
  unfold Builtin.Str.strKind
  split
  · exact Nat.le_refl _
  · split <;> decide
theorem head_le {sep : Str} : ∀ (y : Str) (r : List Str), y.length ≤ (Str.join sep (y :: r)).length
  | _, [] => Nat.le_refl _
  | y, z :: r => by
    show _ ≤ (y ++ sep ++ Str.join sep (z :: r)).length
    rw [Str.length_append, Str.length_append, Nat.add_assoc]
    exact Nat.le_add_right _ _
theorem split_join {sep : Str} (hs : sep.cps.toList = [44, 32]) (hk : Builtin.Str.strKind sep = 1) {y : Str} {r : List Str} (hp : ∀ z ∈ y :: r, 44 ∉ z.cps.toList) (h2 : 2 ≤ y.length) :
    Txt.split (Txt.join sep (y :: r)) sep = y :: r := by
  have hsl : sep.length = 2 := congrArg List.length hs
  rw [show Txt.join sep (y :: r) = Str.join sep (y :: r) from StrLaws.glued_eq_join _ _]
  have ho : Builtin.Str.occurrences (Str.join sep (y :: r)) sep 0 (Str.join sep (y :: r)).length ((Str.join sep (y :: r)).length + 1) = cutsOf 0 (y :: r) := by
    rw [StrLaws.occ_eq]
    exact (cm_fold hs (Nat.lt_succ_self _) (nxt_join hs _ hp) _ 0 (#[], 0) rfl (Nat.zero_add _) (Nat.le_refl _) (.inl (Nat.le_refl _))).trans ((List.nil_append _).trans (cm_join hs _ 0 hp))
  unfold Txt.split
  rw [ho, if_neg (by
    rw [hk, hsl, decide_eq_false (Nat.not_lt_of_le (Nat.le_trans h2 (head_le y r))), decide_eq_false (Nat.not_lt_of_le (kind_pos _))]
    decide)]
  cases r with
  | nil => rfl
  | cons z r =>
    refine (if_neg Bool.false_ne_true).trans ?_
    rw [StrLaws.partsBetween_eq, hsl]
    exact parts_join hs (y :: z :: r) 0 (by simp) rfl
theorem nms_plain : nms.all (fun y => !y.cps.toList.contains 44 && decide (6 ≤ y.length)) = true := by decide +kernel
noncomputable def chkN (f : Nat) : Bool := ((nmsTo f 8).map (fun y => ((nms.idxOf y : Nat) : Int)) == placesL f) && ((nmsTo f 8).all fun y => nms.contains y) && (f == 0 || !(nmsTo f 8).isEmpty) &&
  decide (((nmsTo f 8).map (·.length)).sum + (nmsTo f 8).length * (Str.ofString ", ").length + 2 ≤ 1000) && decide ((nmsTo f 8).length ≤ 8)
theorem chk_all : ∀ f : Fin 256, chkN f.val = true := by decide +kernel
theorem places_ok {f : Nat} (h0 : 1 ≤ f) (h1 : f ≤ 255) (_ : (nmsTo f 8).length ≤ 4) : placesOk f = true := by
  have h := chk_all ⟨f, Nat.lt_succ_of_le h1⟩
  unfold chkN at h
  unfold placesOk
  simp only [Bool.and_eq_true] at h ⊢
  have hm : ∀ y ∈ nmsTo f 8, 44 ∉ y.cps.toList ∧ 6 ≤ y.length := fun y hy => by
    have a := List.all_eq_true.mp nms_plain y (List.contains_iff_mem.mp (List.all_eq_true.mp h.1.1.1.2 y hy))
    have b := Bool.and_eq_true_iff.mp a
    exact ⟨fun m => by rw [List.contains_iff_mem.mpr m] at b; exact absurd b.1 (by decide), of_decide_eq_true b.2⟩
  have hl : (Txt.join (Str.ofString ", ") (nmsTo f 8)).length + 2 ≤ 1000 :=
    Nat.le_trans (Nat.add_le_add_right (by rw [show Txt.join (Str.ofString ", ") (nmsTo f 8) = Str.join (Str.ofString ", ") (nmsTo f 8) from StrLaws.glued_eq_join _ _]; exact StrLaws.join_length_le _ _) 2) (of_decide_eq_true h.1.2)
  have hne := h.1.1.2
  revert hm hl hne
  have h5 := h.1.1.1.1
  have h6 := h.1.1.1.2
  have h7 := h.2
  revert h5 h6 h7
  cases e : nmsTo f 8 with
  | nil => intro _ _ _ _ _ hne; cases hf : (f == 0) with
    | false => rw [hf] at hne; exact absurd hne (by decide)
    | true => exact absurd (eq_of_beq hf) (Nat.ne_of_gt h0)
  | cons y r =>
    intro h5 h6 h7 hm hl _
    refine ⟨⟨⟨⟨⟨beq_iff_eq.mpr (split_join (by decide +kernel) (by decide +kernel) (fun z hz => (hm z hz).1) (Nat.le_trans (by decide) (hm y (.head _)).2)), h5⟩, h6⟩, ?_⟩, decide_eq_true hl⟩, h7⟩
    cases e2 : (Txt.join (Str.ofString ", ") (y :: r) == Str.ofString "0x0") with
    | false => rfl
    | true =>
      have e3 := eq_of_beq e2
      have e4 := Nat.le_trans (hm y (.head _)).2 (head_le (sep := Str.ofString ", ") y r)
      rw [← StrLaws.glued_eq_join, show Builtin.Str.glued (Str.ofString ", ") (y :: r) = Str.ofString "0x0" from e3] at e4
      exact absurd e4 (by decide)
end Mine
end
section
open PySem PySem.W PyProof.Rows PySem.Spec PySem.Calls PyProof.Rows.LCg
set_option maxRecDepth 100000
namespace Mine
section
variable {prog : Program} {w : World} {A : Around} {E : Value → Shared → Prop} {s : Shared}
theorem index_strs {l : Addr} {vs : List Value} {ys : List Str} {k : Str} {t : Tok} {Q : Value → Shared → Prop} (hl : s.heap.IsList l vs.toArray) (hi : StrsAre vs ys) (hb : ys.length ≤ 1000000) (hk : k ∈ ys)
    (h : Q (.int (ys.idxOf k : Nat) s.toks) { s with toks := s.toks + 1 }) : wpAny (model prog w) A (call (.builtin "list.index") [.ref l, .str k t]) Q E s := by
  obtain ⟨⟨cls, dd, data, sl⟩, ho, hc, n, hd⟩ := id hl
  simp only at hc hd
  subst hc hd
  have hlen := hi.length
  have hj : ys.idxOf k < ys.length := List.idxOf_lt_length_iff.mpr hk
  have get : ∀ m (hm : m < vs.toArray.size), ∃ t', vs.toArray[m] = .str (ys[m]'(by simpa [hlen] using hm)) t' := fun m hm => by
    have hm' : m < ys.length := by simpa [hlen] using hm
    obtain ⟨t', e⟩ := hi.at (j := m) (y := ys[m]) (by simp [hm'])
    refine ⟨t', ?_⟩
    have hm2 : m < vs.length := by simpa using hm
    rw [getElem?_pos vs m hm2] at e
    simpa using Option.some.inj e
  refine call_meets PySem.F.slot_list_index ⟨_, ho, rfl⟩ PySem.F.entry_list_index (PySem.F.args_list_index_2 _ _)
    (SeqAt.list_indexAt l vs.toArray n dd sl (.str k t) (isStrOf k) (ys.idxOf k) (by simpa [hlen] using hj) (by (with_reducible exact Ln.o357 ‹_› ‹_›)) ?_ ?_) ⟨ho, fun y hy => (eq_isStrOf k t hi y (by simpa using hy)).at _ _, h⟩
  · obtain ⟨t', e⟩ := get (ys.idxOf k) (by simpa [hlen] using hj)
    rw [e]
    show (ys[ys.idxOf k] == k) = true
    simp
  · intro m hm h2
    obtain ⟨t', e⟩ := get m hm
    rw [e]
    show (ys[m]'_ == k) = false
    have := List.not_of_lt_findIdx (p := (· == k)) h2
    simpa using this
theorem ints_snoc {vs : List Value} {ns : List Int} {n : Int} {t : Tok} : IntsAre vs ns → IntsAre (vs ++ [.int n t]) (ns ++ [n]) := by
  intro h
  induction h with
  | nil => exact .cons _ _ .nil
  | cons a t _ ih => exact .cons _ _ ih
end
end Mine
end
section
open PySem PySem.W PyProof.Rows PySem.Spec PySem.Calls PyProof.Rows.LCg
set_option maxRecDepth 100000
namespace Mine
section
variable {prog : Program} {w : World} {A : Around} {E : Value → Shared → Prop} {s : Shared} {h₀ : Heap} {L : Addr} {m : Str → Option Value} {news : List (Addr × Obj)}
theorem set_K {D : Addr} {its : Array Value} {ss : List Str} {Q : Value → Shared → Prop} (hh : A.handled = none) (F : Fr h₀ L s.heap m) (N : News h₀ L s.heap news) (hl : s.heap.IsList D its) (hi : StrsAre its.toList ss) (hb : its.size + 1 < scanBound)
    (h : ∀ h' tk S, Fr h₀ L h' m → News h₀ L h' news → St.SetS prog w h' S ss → Q (.ref S) { s with heap := h', toks := tk }) : wpAny (model prog w) A (call (.type "set") [.ref D]) Q E s :=
  St.call_set_strs hh hl hi hb fun h' tk hS hk => h h' tk _ (F.keeps fun b o e => hk b o (Heap.lt_size e) e) (fun p hp => ⟨hk _ _ (Heap.lt_size (N p hp).1) (N p hp).1, (N p hp).2⟩) hS

theorem sorted_K {S : Addr} {ss : List Str} {Q : Value → Shared → Prop} (hh : A.handled = none) (F : Fr h₀ L s.heap m) (N : News h₀ L s.heap news) (hS : St.SetS prog w s.heap S ss)
    (h : ∀ l h' tk dr vs R c, Fr h₀ L h' m → News h₀ L h' ((l, W.listOf vs.toArray c) :: news) → (∀ p ∈ news, p.1 < l) → StrsAre vs R → sortedS R = true → R.Nodup → (∀ k, k ∈ R ↔ k ∈ ss) → Q (.ref l) { s with heap := h', toks := tk, drawn := dr }) :
    wpAny (model prog w) A (call (.builtin "sorted") [.ref S]) Q E s := by
  refine Srt.sorted_any (St.collect_set (A := A.in1) hh hS fun Lv h' tk dr es t D hb hp hk => ?_)
  have hstr : ∀ v ∈ Lv, ∃ k t, v = .str k t := fun v hv => by
    obtain ⟨e, he, rfl⟩ := List.mem_map.mp (hp.mem_iff.mp hv)
    obtain ⟨⟨k, hk', _⟩, _⟩ := D.el e he
    obtain ⟨t, ht⟩ := Value.isStrOf_shape hk'
    exact ⟨k, t, ht⟩
  have hL : Lv.length = es.size := by rw [hp.length_eq]; simp
  have sA : StrsAre Lv (Lv.map strOf) := strsAre_map Lv hstr
  have hbb : es.size < 4096 := hb
  refine ⟨Lv.map strOf, sA, by (with_reducible exact Ln.o358 ‹_› ‹_›), fun h2 vs' R c hk2 hg hA hperm hsort => ?_⟩
  have hpk : R.Perm (es.toList.map St.skey) := hperm.trans (by
    have := hp.map strOf
    rw [List.map_map] at this
    exact this)
  have F1 : Fr h₀ L h' m := F.keeps hk
  have N1 : News h₀ L h' news := fun p hp => ⟨hk _ _ (N p hp).1, (N p hp).2⟩
  have fresh : h'.get? h'.objs.size = none := by
    cases e : h'.get? h'.objs.size with
    | none => rfl
    | some o => exact absurd (Heap.lt_size e) (Nat.lt_irrefl _)
  refine h _ h2 tk dr vs' R c (F1.keeps hk2) (fun p hp' => ?_) (fun p hp => Heap.lt_size (N1 p hp).1) hA hsort (hpk.nodup_iff.mpr D.nodup) fun k => (hpk.mem_iff).trans (D.mem k).symm
  rcases List.mem_cons.mp hp' with rfl | hp'
  · refine ⟨hg, Nat.ne_of_gt F1.ns.lt, ?_⟩
    exact next_is_new F1
  · exact ⟨hk2 _ _ (N1 p hp').1, (N1 p hp').2⟩
end
end Mine
end
section
open PySem PySem.W PyProof.Rows PySem.Spec PySem.Calls PyProof.Rows.LCg
set_option maxRecDepth 100000
namespace Mine
noncomputable def rowL (x : Str) (ys : List Str) : List Str := (ys.filter fun y => decide ((x ++ y).length < 5)).map (x ++ ·)
noncomputable def joinL (xs ys : List Str) : List Str := xs.flatMap fun x => rowL x ys
theorem rowL_yes {x y : Str} {ys : List Str} {k : Nat} (hy : ys[k]? = some y) (h : (x ++ y).length < 5) : rowL x (ys.take (k + 1)) = rowL x (ys.take k) ++ [x ++ y] := by
  unfold rowL; rw [List.take_add_one, hy, List.filter_append, List.map_append]; simp [h]
theorem rowL_no {x y : Str} {ys : List Str} {k : Nat} (hy : ys[k]? = some y) (h : ¬ (x ++ y).length < 5) : rowL x (ys.take (k + 1)) = rowL x (ys.take k) := by
  unfold rowL; rw [List.take_add_one, hy, List.filter_append, List.map_append]; simp; (with_reducible exact Ln.o362 ‹_›)
theorem joinL_succ {x : Str} {xs ys : List Str} {i : Nat} (hx : xs[i]? = some x) : joinL (xs.take (i + 1)) ys = joinL (xs.take i) ys ++ rowL x ys := by
  unfold joinL; rw [List.take_add_one, hx, List.flatMap_append]; simp
theorem rowL_le {x : Str} {ys : List Str} {k : Nat} : (rowL x (ys.take k)).length ≤ (rowL x ys).length :=
  (((List.take_sublist k ys).filter _).map _).length_le
theorem joinL_le {xs ys : List Str} {i : Nat} : (joinL (xs.take i) ys).length ≤ (joinL xs ys).length := by
  conv => rhs; rw [← List.take_append_drop i xs]
  unfold joinL
  rw [List.flatMap_append, List.length_append]; (with_reducible exact Ln.o79)
theorem joinL_part {x : Str} {xs ys : List Str} {i k : Nat} (hx : xs[i]? = some x) : (joinL (xs.take i) ys ++ rowL x (ys.take k)).length ≤ (joinL xs ys).length := by
  have h1 := joinL_le (xs := xs) (ys := ys) (i := i + 1)
  rw [joinL_succ hx, List.length_append] at h1
  have h2 := rowL_le (x := x) (ys := ys) (k := k)
  rw [List.length_append]; (with_reducible exact Ln.o4 ‹_› ‹_›)
section
local macro_rules | `(tactic| walk_at "eval ListComp") => `(tactic| (k_dflt (refine comp2 (by k_asm) (by with_unfolding_all rfl) (by decide) (by rfl) (by decide) (by rfl) ?_)))

set_option maxHeartbeats 8000000 in
theorem jo_spec (w : World) (a b : Addr) (va vb : List Value) (xs ys : List Str) (hxl : ∀ x ∈ xs, x.length ≤ 4) (hyl : ∀ y ∈ ys, y.length ≤ 4) (hb : (joinL xs ys).length + 1 < 4096) (dp un : Nat) (gd : Option (List Code)) (fr : Option (List Env)) (s : Shared) (Q : Value → Shared → Prop)
   (mean : ExcName → Option Value) (mg mb : Str → Option Value) (X : (hd.heap_39 w.params).In s.heap) (T : Top VW LS mean mg mb s.heap) (ha : s.heap.IsList a va.toArray) (hb' : s.heap.IsList b vb.toArray) (sa : StrsAre va xs) (sb : StrsAre vb ys)
   (hdp : dp + 2 < recursionLimit)
   (hret : ∀ (l : Addr) (h' : Heap) (tk : Nat) (dr : Drawn) (m : Str → Option Value) (news : List (Addr × Obj)) (vs : List Value) (c : Nat) (R : List Str), Fr s.heap s.heap.objs.size h' m → News s.heap s.heap.objs.size h' news → (l, W.listOf vs.toArray c) ∈ news → StrsAre vs R → sortedS R = true → R.Nodup → (∀ k, k ∈ R ↔ k ∈ joinL xs ys) → Q (.ref l) { s with heap := h', toks := tk, drawn := dr }) :
   wpAny (model PySem.Challenge.rw_wb0017_01.row.prog w) (AR dp un gd fr) (call (.ref 84) [.ref a, .ref b]) Q (fun _ _ => False) s := by
  w_on
  have hfill : (PySem.Challenge.rw_wb0017_01 = PySem.Challenge.rw_wb0017_01) ∧ (hd.heap_39 = hd.heap_39) := by k_fill; exact ⟨rfl, rfl⟩
  
  w_strict (k_dflt (refine' enterPC (binds := [(Str.ofString "some", .ref a), (Str.ofString "others", .ref b)]) ?k3 ?k5 ?k6 ?k7 ?k8 ?k9 ?kB ?kD ?_ ?c2 ?c3 ?c4; (case k3 => assumption); (case k5 => assumption); (case k6 => k_is); (case k7 => k_is); (case k8 => (with_reducible exact Ln.o363 ‹_›)); (case k9 => exact BindsTo.of_eq rfl); (case kB => exact rfl); (case kD => decide +kernel); (case c2 => exact rfl); (case c3 => exact rfl); (case c4 => exact rfl)))
  intro h₁ tk cells F N Y
  k_cells Y
  w_strict (k_steps)
  rename Obj => o0
  refine' ⟨a, va.toArray, _, fun i zs nw => nw = [(s.heap.objs.size + 1, o0)] ∧ StrsAre zs (joinL (xs.take i) ys), rfl, rfl, F, N, ⟨rfl, .nil⟩, fun i zs nw _ => .inl ha, ?g1, ?g2⟩
  case g1 =>
    rintro i v zs nw hv ⟨rfl, hzs⟩
    obtain ⟨x, tx, rfl, hx⟩ := sa.item i v (by simpa using hv)
    refine ⟨_, takesName (by rfl) (by rfl), ?_⟩
    intro I oI C oC D m₂ h tk dr hC F5 N5 off hne
    have hm5 : (fun y => if y = Str.ofString "row" then some (Value.str x tx) else m₂ y) (Str.ofString "row") = some (Value.str x tx) := rfl
    clear F N
    w_strict (k_steps)
    refine' ⟨b, vb.toArray, _, oC, _, _, _, fun k zs nw => nw = [(s.heap.objs.size + 1, o0)] ∧ StrsAre zs (joinL (xs.take i) ys ++ rowL x (ys.take k)), rfl, rfl, F5, hC, N5, off, ⟨rfl, by simpa [rowL] using hzs⟩, ?h1, ?h2, ?h3⟩
    case h1 =>
      rintro k zs nw ⟨rfl, hz⟩
      refine ⟨.inl hb', .inl ha, ?_⟩
      rw [hz.length, sizeLine_eq]
      have := joinL_part (k := k) (ys := ys) hx
      (with_reducible exact Ln.o359 ‹_› ‹_›)
    case h2 =>
      rintro k v I' oI' oC' m₃ h tk dr zs nw hv2 ⟨rfl, hz⟩ hC6 hmy hmr F6 N6 off6 off7
      clear F5 N5 hC
      obtain ⟨y, ty, rfl, hy⟩ := sb.item k v (by simpa using hv2)
      have hrow : m₃ (Str.ofString "row") = some (Value.str x tx) := (hmr _ (by decide)).trans rfl
      have hxb := hxl x (List.mem_of_getElem? hx)
      have hyb := hyl y (List.mem_of_getElem? hy)
      refine wpAny_tests_one ?_
      w_strict (k_steps)
      · rename ((x ++ y).length : Int) < 5 => hlt
        refine Made.mk' F6 N6 off6 ⟨_, rfl, ⟨rfl, ?_⟩, off7⟩
        rw [rowL_yes hy (by (with_reducible exact Ln.o360 ‹_›)), ← List.append_assoc]
        exact strs_snoc hz
      all_goals (try rename ¬ ((x ++ y).length : Int) < 5 => hlt)
      all_goals first | exact F6 | exact N6 | exact off6 | exact off7 | (rw [rowL_no hy (by (with_reducible exact Ln.o361 ‹_›))]; exact hz)
    case h3 =>
      rintro zs nw ⟨rfl, hz⟩ _
      refine ⟨rfl, ?_⟩
      rw [joinL_succ hx]
      have e : vb.toArray.size = ys.length := by rw [List.size_toArray]; exact sb.length
      rw [e, List.take_length] at hz
      exact hz
  case g2 =>
    rintro D h tk dr zs nw F5 N5 _ ⟨rfl, hzs⟩
    have e : va.toArray.size = xs.length := by rw [List.size_toArray]; exact sa.length
    rw [e, List.take_length] at hzs
    clear F N
    w_strict (k_steps)
    have hlen := hzs.length
    refine set_K rfl F5 N5 (isList_of N5 (.head _)) hzs (by show zs.toArray.size + 1 < 4096; rw [List.size_toArray, hlen]; exact hb) ?_
    intro h' tk' S F8 N8 hS
    clear F5 N5
    w_strict (k_steps)
    refine sorted_K rfl F8 N8 hS ?_
    intro l h2 tk2 dr2 vs R c F9 N9 _ hA hs hn hm
    clear F8 N8
    exact hret _ _ _ _ _ _ _ _ _ F9 N9 (.head _) hA hs hn hm

end
end Mine
end
section
open PySem PySem.W PyProof.Rows PySem.Spec PySem.Calls PyProof.Rows.LCg
set_option maxRecDepth 100000
namespace Mine
section
variable {prog : Program} {w : World} {A : Around} {E : Value → Shared → Prop} {s : Shared}
theorem strs_get {vs : List Value} {ys : List Str} (hi : StrsAre vs ys) {j : Nat} (hj : j < vs.toArray.size) : ∃ t, vs.toArray[j] = .str (ys[j]'(by have := hi.length; simp at hj; (with_reducible exact Ln.o366 ‹_› ‹_›))) t := by
  have hm' : j < ys.length := by have := hi.length; simp at hj; (with_reducible exact Ln.o366 ‹_› ‹_›)
  obtain ⟨t', e⟩ := hi.at (j := j) (y := ys[j]) (by simp [hm'])
  refine ⟨t', ?_⟩
  have hm2 : j < vs.length := by simpa using hj
  rw [getElem?_pos vs j hm2] at e
  simpa using Option.some.inj e
theorem eq_strs {a b : Addr} {va vb : List Value} {xs ys : List Str} {Q : Value → Shared → Prop} (hl : s.heap.IsList a va.toArray) (sa : StrsAre va xs) (hl' : s.heap.IsList b vb.toArray) (sb : StrsAre vb ys) (hu : A.units < cLine)
    (h : Q (.bool (decide (xs = ys))) s) : wpAny (model prog w) A (compareOp .Eq (.ref a) (.ref b)) Q E s := by
  have la := sa.length
  have lb := sb.length
  by_cases hlen : xs.length = ys.length
  · refine SeqAt.eq_listAt (e := fun j => xs[j]? == ys[j]?) hl hl' (by simp; (with_reducible exact Ln.o367 ‹_› ‹_› ‹_›)) hu (fun j h1 h2 => ?_) ?_
    · obtain ⟨t, e1⟩ := strs_get sa h1
      obtain ⟨u, e2⟩ := strs_get sb h2
      rw [e1, e2]
      have j1 : j < xs.length := by simp at h1; (with_reducible exact Ln.o366 ‹_› ‹_›)
      have j2 : j < ys.length := by simp at h2; (with_reducible exact Ln.o366 ‹_› ‹_›)
      have : (xs[j]? == ys[j]?) = (xs[j] == ys[j]) := by rw [getElem?_pos xs j j1, getElem?_pos ys j j2]; rfl
      rw [this]
      exact SeqAt.EqAt.str_str _ _ _ _
    · have e : ((List.range va.toArray.size).all fun j => xs[j]? == ys[j]?) = decide (xs = ys) := by
        have hsz : va.toArray.size = xs.length := by simp; (with_reducible exact Ln.o367 ‹_› ‹_› ‹_›)
        rw [hsz]
        by_cases hxy : xs = ys
        · subst hxy; simp
        · rw [decide_eq_false hxy]
          rw [Bool.eq_false_iff]
          intro hall
          apply hxy
          refine List.ext_getElem? fun i => ?_
          rcases Nat.lt_or_ge i xs.length with hi | hi
          · have := List.all_eq_true.mp hall i (List.mem_range.mpr hi)
            simpa using this
          · rw [List.getElem?_eq_none hi, List.getElem?_eq_none (by (with_reducible exact Ln.o368 ‹_› ‹_›))]
      rw [e]; exact h
  · refine SeqAt.eq_list_lengthsAt hl hl' (by simp; (with_reducible exact Ln.o365 ‹_› ‹_› ‹_›)) hu ?_
    rw [decide_eq_false (fun e => hlen (by rw [e]))] at h
    exact h
end
end Mine
namespace Mine
/-- a callee's fresh object lies off all that the caller knew -/
theorem new_off {h₀ h h' : Heap} {L L' l : Addr} {o : Obj} {news news' : List (Addr × Obj)} (N : News h₀ L h news) (N' : News h L' h' news') (hl : (l, o) ∈ news') : ∀ p ∈ news, p.1 ≠ l := fun p hp e => by
  have h1 := (N p hp).1
  have h2 : h.get? l = none := (N' _ hl).2.2
  rw [e, h2] at h1
  cases h1
end Mine
end
local macro_rules | `(tactic| walk_at $k) => if "exec While Compare cons nil|exec While Name|exec While BinOp".splitOn "|" |>.contains k.getString then `(tactic| (k_dflt (refine PySem.W.whl_start 5 ?_))) else throw .unsupportedSyntax
section
open PySem PySem.W PyProof.Rows PySem.Spec PySem.Calls PyProof.Rows.LCg
set_option maxRecDepth 100000
namespace Mine
theorem nodup_le : ∀ {R S : List Str}, R.Nodup → (∀ k ∈ R, k ∈ S) → R.length ≤ S.length
  | [], _, _, _ => Nat.zero_le _
  | x :: R, S, hn, h => by
    have hx := h x (.head _)
    have h1 := nodup_le (R := R) (S := S.erase x) (List.nodup_cons.mp hn).2 fun k hk => by
      have : k ≠ x := fun e => (List.nodup_cons.mp hn).1 (e ▸ hk)
      exact (List.mem_erase_of_ne this).mpr (h k (.tail _ hk))
    have h2 := List.length_erase_of_mem hx
    have h3 := List.length_pos_of_mem hx
    simp only [List.length_cons]; (with_reducible exact Ln.o371 ‹_› ‹_› ‹_›)
noncomputable def starL (xs : List Str) : Nat → List Str
  | 0 => [Str.empty]
  | n + 1 => starL xs n ++ joinL (starL xs n) xs
noncomputable def OftenB (xs : List Str) : Prop := ∀ i R, i < 4 → R.Nodup → (∀ k, k ∈ R ↔ k ∈ starL xs i) → R.length + (joinL R xs).length + 1 < 4096 ∧ (∀ x ∈ R, x.length ≤ 4)
theorem mem_joinL {k : Str} {A xs : List Str} : k ∈ joinL A xs ↔ ∃ a ∈ A, ∃ b ∈ xs, k = a ++ b ∧ (a ++ b).length < 5 := by
  simp only [joinL, rowL, List.mem_flatMap, List.mem_map, List.mem_filter, decide_eq_true_eq]
  constructor
  · rintro ⟨a, ha, b, ⟨hb, hl⟩, rfl⟩; exact ⟨a, ha, b, hb, rfl, hl⟩
  · rintro ⟨a, ha, b, hb, rfl, hl⟩; exact ⟨a, ha, b, ⟨hb, hl⟩, rfl⟩
theorem joinL_congr {A B xs : List Str} (h : ∀ k, k ∈ A ↔ k ∈ B) (k : Str) : k ∈ joinL A xs ↔ k ∈ joinL B xs := by
  rw [mem_joinL, mem_joinL]
  exact ⟨fun ⟨a, ha, r⟩ => ⟨a, (h a).mp ha, r⟩, fun ⟨a, ha, r⟩ => ⟨a, (h a).mpr ha, r⟩⟩
theorem star_succ {xs R R2 R4 : List Str} {i : Nat} (hk : ∀ k, k ∈ R ↔ k ∈ starL xs i) (h2 : ∀ k, k ∈ R2 ↔ k ∈ joinL R xs) (h4 : ∀ k, k ∈ R4 ↔ k ∈ R ++ R2) (k : Str) : k ∈ R4 ↔ k ∈ starL xs (i + 1) := by
  rw [h4, starL, List.mem_append, List.mem_append, hk, h2, joinL_congr hk]
theorem star_fix {xs R : List Str} {i : Nat} (hi : i < 4) (hk : ∀ k, k ∈ R ↔ k ∈ starL xs i) (h : ∀ k, k ∈ R ↔ k ∈ starL xs (i + 1)) (k : Str) : k ∈ R ↔ k ∈ starL xs 4 := by
  have all : ∀ d, ∀ k, k ∈ R ↔ k ∈ starL xs (i + d) := by
    intro d
    induction d with
    | zero => exact hk
    | succ d ih =>
      intro k
      rw [← Nat.add_assoc, starL, List.mem_append, ← joinL_congr ih, ← ih]
      have := h k
      rw [starL, List.mem_append, ← joinL_congr hk, ← hk] at this
      exact this
  have := all (4 - i) k
  rwa [show i + (4 - i) = 4 by (with_reducible exact Ln.o372 ‹_›)] at this
theorem News.hd1 {h₀ h : Heap} {L : Addr} {p : Addr × Obj} {news : List (Addr × Obj)} (N : News h₀ L h (p :: news)) : News h₀ L h [p] := fun q hq => N q (by rw [List.mem_singleton.mp hq]; exact .head _)
section
local macro_rules | `(tactic| walk_at "compareOp Eq ref ref") => `(tactic| (k_dflt (refine' eq_strs ?l1 ?s1 ?l2 ?s2 ?hu ?_; (case l1 => exact isList_of (by k_asm) (by k_mem)); (case s1 => assumption); (case l2 => exact isList_of (by k_asm) (by k_mem)); (case s2 => assumption); (case hu => show _ + 3 < cLine; assumption))))

set_option maxHeartbeats 8000000 in
theorem of_spec (w : World) (a : Addr) (va : List Value) (xs : List Str) (hxl : ∀ x ∈ xs, x.length ≤ 4) (hB : OftenB xs) (dp un : Nat) (gd : Option (List Code)) (fr : Option (List Env)) (s : Shared) (Q : Value → Shared → Prop)
   (mean : ExcName → Option Value) (mg mb : Str → Option Value) (X : (hd.heap_39 w.params).In s.heap) (T : Top VW LS mean mg mb s.heap) (ha : s.heap.IsList a va.toArray) (sa : StrsAre va xs) (hun : un + 3 < cLine)
   (hdp : dp + 3 < recursionLimit)
   (hret : ∀ (l : Addr) (h' : Heap) (tk : Nat) (dr : Drawn) (m : Str → Option Value) (news : List (Addr × Obj)) (vs : List Value) (c : Nat) (R : List Str), Fr s.heap s.heap.objs.size h' m → News s.heap s.heap.objs.size h' news → (l, W.listOf vs.toArray c) ∈ news → StrsAre vs R → sortedS R = true → R.Nodup → (∀ k, k ∈ R ↔ k ∈ starL xs 4) → Q (.ref l) { s with heap := h', toks := tk, drawn := dr }) :
   wpAny (model PySem.Challenge.rw_wb0017_01.row.prog w) (AR dp un gd fr) (call (.ref 91) [.ref a]) Q (fun _ _ => False) s := by
  w_on
  have hfill : (PySem.Challenge.rw_wb0017_01 = PySem.Challenge.rw_wb0017_01) ∧ (hd.heap_39 = hd.heap_39) := by k_fill; exact ⟨rfl, rfl⟩
  
  w_strict (k_dflt (refine' enterP (binds := [(Str.ofString "some", .ref a)]) ?k3 ?k5 ?k6 ?k7 ?k8 ?k9 ?kB ?_ ?c2 ?c3 ?c4 ?c5; (case k3 => assumption); (case k5 => assumption); (case k6 => k_is); (case k7 => k_is); (case k8 => (with_reducible exact Ln.o374 ‹_›)); (case k9 => exact BindsTo.of_eq rfl); (case c5 => decide); (case kB => exact locs rfl); (case c2 => exact rfl); (case c3 => exact rfl); (case c4 => exact rfl)))
  intro h₁ F N
  w_strict (k_steps)
  rename_i hR F2 N2 _
  refine forK_brk (fun s' => ∃ h' tk' dr' m' D va c R, s' = { s with heap := h', toks := tk', drawn := dr' } ∧ Fr s.heap s.heap.objs.size h' m' ∧ News s.heap s.heap.objs.size h' [(D, W.listOf va.toArray c)] ∧ m' (Str.ofString "rows") = some (.ref D) ∧ StrsAre va R ∧ sortedS R = true ∧ R.Nodup ∧ (∀ k, k ∈ R ↔ k ∈ starL xs 4)) ?_ (fun post => ?_)
  · clear hR F2 N2
    rintro s' ⟨h', tk', dr', m', D', va', c, R, rfl, F3, N3, hm, hA, hs, hn, hk⟩
    rw [ovr_read hm] at F3
    dsimp only
    w_strict (k_steps)
    exact hret _ _ _ _ _ _ _ _ _ (by k_asm) (by k_asm) (.head _) hA hs hn hk
  refine forK_range (n := 4) rfl (fun i m news => ∃ D u u' va c R, m = ovr [(Str.ofString "rows", some (.ref D)), (Str.ofString "turn", u), (Str.ofString "longer", u')] (fun y => if y = Str.ofString "some" then some (.ref a) else none) ∧ news = [(D, W.listOf va.toArray c)] ∧ StrsAre va R ∧ sortedS R = true ∧ R.Nodup ∧ (∀ k, k ∈ R ↔ k ∈ starL xs i)) hR (by decide) F2 (News.hd1 N2) ?_ ?_ ?_
  · refine ⟨_, none, none, [.str Str.empty _], 0, [Str.empty], ?_, rfl, .cons _ _ .nil, by decide +kernel, by simp, fun k => by simp [starL]⟩
    refine ovr_of (by repeat' (first | exact List.forall_mem_nil _ | refine List.forall_mem_cons.mpr ⟨rfl, ?_⟩)) ?_
    intro z hz
    simp only [List.forall_mem_cons] at hz
    obtain ⟨z1, z2, z3, _⟩ := hz
    simp only [z1, ↓reduceIte]
    by_cases hz4 : z = Str.ofString "some"
    · subst hz4; rfl
    · rw [if_neg hz4]
      exact lookup_none_of (by simp only [List.reverse_cons, List.reverse_nil, List.nil_append, List.forall_mem_cons]; exact ⟨hz4, List.forall_mem_nil _⟩)
  · rintro I i t h tk dr m news oI hIs hi ⟨D', u, u', va', c, R, rfl, rfl, hA, hs, hn, hk⟩ hnI F3 N3
    have hDI : @Ne Nat D' I := hnI _ (.head _)
    clear hR F2 N2 hIs
    w_strict (k_steps)
    rename Fr _ _ _ _ => F4
    rename News _ _ _ _ => N4
    have hBi := hB i R hi hn hk
    refine' jo_spec w D' a va' va R xs hBi.2 hxl ?b2 _ _ _ _ _ _ _ _ _ ?cX ?cT ?c1 ?c2 hA sa ?cd ?cr
    case b2 => have := hBi.1; (with_reducible exact Ln.o375 ‹_›)
    case cX => exact X.keeps F4.keep
    case cT => exact T.keeps F4.keep
    case c1 => exact isList_of N4 (by k_mem)
    case c2 => exact ha.at fun o e => F4.keep _ o e
    case cd => show dp + 1 + 2 < _; omega
    intro l2 h2 tk2 dr2 m2 news2 vs2 c2 R2 F5 N5 hl2 hA2 hs2 hn2 hk2
    have F6 := FrUp F4 F5
    have N6 := NewsUp1 F4 N4 F5 N5 hl2
    clear F4 N4 F5 N5
    have hlen2 : R2.length ≤ (joinL R xs).length := nodup_le hn2 fun k hk => (hk2 k).mp hk
    have hlA := hA.length
    have hlA2 := hA2.length
    refine kmk_add_lit F6 N6 (isList_of N6 (.tail _ (by k_mem))) (isList_of N6 (.head _)) (zs := va' ++ vs2) (by simp) (fun D3 h3 F7 N7 hlt3 => ?_) (by rw [sizeLine_eq]; show va'.length + vs2.length ≤ _; (with_reducible exact Ln.o373 ‹_› ‹_› ‹_› ‹_›))
    clear F6 N6
    w_strict (k_steps)
    refine set_K rfl (by k_asm) (by k_asm) (isList_of N7 (.head _)) (ss := R ++ R2) (by simpa using hA.append' hA2) (by show (va' ++ vs2).toArray.size + 1 < 4096; simp; (with_reducible exact Ln.o370 ‹_› ‹_› ‹_› ‹_›)) ?_
    intro h' tk' S F8 N8 hS
    clear F7 N7
    w_strict (k_steps)
    refine sorted_K rfl F8 N8 hS ?_
    intro l4 h4 tk4 dr4 vs4 R4 c4 F9 N9 hlt4 hA4 hs4 hn4 hm4
    clear F8 N8
    have hl4I : l4 ≠ I := Nat.ne_of_gt (hlt4 (I, oI) (by k_mem))
    have hst := star_succ hk hk2 hm4
    w_strict (k_steps)
    · rename Fr _ _ _ _ => Fa
      rename News _ _ _ _ => Na
      have heq : R4 = R := by assumption
      refine post _ ⟨_, _, _, _, D', va', c, R, rfl, Fa, fun p hp => Na p (by rw [List.mem_singleton.mp hp]; k_mem), rfl, hA, hs, hn, ?_⟩
      exact star_fix hi hk (heq ▸ hst)
    · rename Fr _ _ _ _ => Fa
      rename News _ _ _ _ => Na
      refine ForPost.next (news' := [(l4, W.listOf vs4.toArray c4)]) Fa Na (by k_mem) (by intro p hp; rw [List.mem_singleton.mp hp]; k_mem) (by intro p hp; rw [List.mem_singleton.mp hp]; exact hl4I) ⟨l4, _, _, vs4, c4, R4, by (walk_at "OVR"); intro z hz; (simp only [List.forall_mem_cons] at hz; obtain ⟨z1, z2, z3, _⟩ := hz; simp only [z1, z2, z3, ↓reduceIte]; exact ovr_out (by simp only [List.forall_mem_cons]; exact ⟨z1, z2, z3, List.forall_mem_nil _⟩)), rfl, hA4, hs4, hn4, hst⟩
  · rintro h tk dr m news ⟨D', u, u', va', c, R, rfl, rfl, hA, hs, hn, hk⟩ F3 N3
    refine wpAny_execs_nil ?_
    exact post _ ⟨_, _, _, _, D', va', c, R, rfl, F3, N3, rfl, hA, hs, hn, hk⟩

end
end Mine
end
section
open PySem PySem.W PyProof.Rows PySem.Spec PySem.Calls PyProof.Rows.LCg
set_option maxRecDepth 100000
namespace Mine
theorem whlIf_split {b : Bool} {T F : Prop} (h : b = true → T) (h' : b = false → F) : WhlIf b T F := by
  cases b with
  | true => exact WhlIf.yes rfl (h rfl)
  | false => exact WhlIf.no rfl (h' rfl)
theorem whlIf_dec {p : Prop} [Decidable p] {T F : Prop} (h : p → T) (h' : ¬ p → F) : WhlIf (decide p) T F :=
  whlIf_split (fun e => h (of_decide_eq_true e)) (fun e => h' (of_decide_eq_false e))
theorem whlIf_no {p : Prop} [Decidable p] {T F : Prop} (h : ¬ p) (h' : F) : WhlIf (decide p) T F := WhlIf.no (decide_eq_false h) h'
noncomputable def octs (n : Int) : List Int := if 63 < n then [n / 64 + 64, n % 64] else [n]
theorem octs_big {n : Int} (h : 63 < n) (h1 : n ≤ 300) : octs n = [(n.fdiv 64).fmod 64 + 64, n.fmod 64] := by
  unfold octs; rw [if_pos h, Int.fdiv_eq_ediv_of_nonneg _ (by decide), Int.fmod_eq_emod_of_nonneg _ (by decide), Int.fmod_eq_emod_of_nonneg _ (by decide)]
  congr 2; omega
theorem octs_small {n : Int} (h : ¬ 63 < n) (h0 : 0 ≤ n) : octs n = [n.fmod 64] := by
  unfold octs; rw [if_neg h, Int.fmod_eq_emod_of_nonneg _ (by decide)]
  congr 1; omega

section
local macro_rules | `(tactic| walk_at "WhlIf") => `(tactic| (first | (refine whlIf_no (by simp only [Int.fdiv_eq_ediv_of_nonneg _ (show (0:Int) ≤ 64 by decide)]; omega) ?_) | (refine whlIf_dec (fun hb => ?_) (fun hb => ?_))))
local macro_rules | `(tactic| walk_at "call builtin:list.insert") => `(tactic| (k_here; k_dflt (refine' insert0_K ?k1 ?k2 ?k3 ?_ ?z; (case k1 => k_asm); (case k2 => k_asm); (case k3 => k_upd); (case z => size_fits); k_whole); intro h' F' N'; (try k_sweep)))


set_option maxHeartbeats 8000000 in
theorem oct_spec (w : World) (n : Int) (t : Tok) (h0 : 0 ≤ n) (h1 : n ≤ 300) (dp un : Nat) (gd : Option (List Code)) (fr : Option (List Env)) (s : Shared) (Q : Value → Shared → Prop)
   (mean : ExcName → Option Value) (mg mb : Str → Option Value) (X : (hd.heap_39 w.params).In s.heap) (T : Top VW LS mean mg mb s.heap) 
   (hdp : dp + 1 < recursionLimit)
   (hret : ∀ (l : Addr) (h' : Heap) (tk : Nat) (dr : Drawn) (m : Str → Option Value) (news : List (Addr × Obj)) (vs : List Value) (c : Nat), Fr s.heap s.heap.objs.size h' m → News s.heap s.heap.objs.size h' news → (l, W.listOf vs.toArray c) ∈ news → IntsAre vs (octs n) → Q (.ref l) { s with heap := h', toks := tk, drawn := dr }) :
   wpAny (model PySem.Challenge.rw_wb0017_01.row.prog w) (AR dp un gd fr) (call (.ref 57) [.int n t]) Q (fun _ _ => False) s := by
  w_on
  have hfill : (PySem.Challenge.rw_wb0017_01 = PySem.Challenge.rw_wb0017_01) ∧ (hd.heap_39 = hd.heap_39) := by k_fill; exact ⟨rfl, rfl⟩
  
  w_strict (k_dflt (refine' enterP (binds := [(Str.ofString "number", .int n t)]) ?k3 ?k5 ?k6 ?k7 ?k8 ?k9 ?kB ?_ ?c2 ?c3 ?c4 ?c5; (case k3 => assumption); (case k5 => assumption); (case k6 => k_is); (case k7 => k_is); (case k8 => (with_reducible exact Ln.o137 ‹_›)); (case k9 => exact BindsTo.of_eq rfl); (case c5 => decide); (case kB => exact locs rfl); (case c2 => exact rfl); (case c3 => exact rfl); (case c4 => exact rfl)))
  intro h₁ F N
  w_strict (k_steps; (all_goals (dsimp only; refine hret _ _ _ _ _ _ _ _ (by k_asm) (by k_asm) (by k_mem) ?_)))
  · rw [octs_big ‹_› h1]; exact .cons _ _ (.cons _ _ .nil)
  · rw [octs_small ‹_› h0]; exact .cons _ _ .nil

end
noncomputable def apL : List UInt8 := [65, 66, 67, 68, 69, 70, 71, 72, 73, 74, 75, 76, 77, 78, 79, 80]
theorem ap_pick : ∀ i : Fin 16, KBy.picked apL.toArray (some (i.val : Int)) (some ((i.val : Int) + 1)) = #[UInt8.ofNat (65 + i.val)] := by decide +kernel
theorem ap_pick' {i : Int} (h0 : 0 ≤ i) (h1 : i < 16) : KBy.picked apL.toArray (some i) (some (i + 1)) = #[UInt8.ofNat (65 + i.toNat)] := by
  have := ap_pick ⟨i.toNat, by omega⟩
  rw [Int.toNat_of_nonneg h0] at this
  exact this
theorem whlNe_no {x : Int} {T F : Prop} (h : x = 0) (h' : F) : WhlIf (x != 0) T F := WhlIf.no (by rw [h]; rfl) h'
theorem whlNe_yes {x : Int} {T F : Prop} (h : x ≠ 0) (h' : T) : WhlIf (x != 0) T F := WhlIf.yes (by simpa using h) h'
theorem whlNe_split {x : Int} {T F : Prop} (h : x ≠ 0 → T) (h' : x = 0 → F) : WhlIf (x != 0) T F :=
  whlIf_split (fun e => h (by simpa using e)) (fun e => h' (by simpa using e))
section
variable {prog : Program} {w : World} {A : Around} {E : Value → Shared → Prop} {s : Shared} {value slice : PySem.Expr} {t u u' : Tok} {h₀ : Heap} {L : Addr} {m : PySem.Str → Option Value} {news : List (Addr × Obj)} {i : Int} {Q : Value → Shared → Prop}
theorem ap_cut (hF : Fr h₀ L s.heap m) (hN : News h₀ L s.heap news) (h0 : 0 ≤ i) (h1 : i < 16)
    (h : ∀ h' t' k, Fr h₀ L h' m → News h₀ L h' news → Q (.bytes #[UInt8.ofNat (65 + i.toNat)] t') { s with heap := h', toks := k })
    (hs : subscripted slice false (.bytes apL.toArray t) (.ref s.heap.objs.size) = operate [.ref s.heap.objs.size, .bytes apL.toArray t] (getItem (.bytes apL.toArray t) (.ref s.heap.objs.size)) := by with_unfolding_all rfl)
    (ht : ∀ r, letTemporaryGo value (.bytes apL.toArray t) r = pure () := by intro _; with_unfolding_all rfl) :
    wpAny (model prog w) A (subscriptTail value slice (.bytes apL.toArray t) (.ref s.heap.objs.size)) Q E { s with heap := s.heap.push { cls := .type "slice", data := .fields #[.int i u, .int (i + 1) u', .none] } } :=
  KBc.slice_K (lo := some i) (hi := some (i + 1)) hF hN rfl (by constructor) (by constructor) (by rw [show (KBw.bInts apL.toArray).length = 16 by decide +kernel]; decide) (fun h' t' k F' N' _ => by rw [ap_pick' h0 h1]; exact h h' t' k F' N') hs ht
end
noncomputable def apB (n : Nat) : Array UInt8 := if 15 < n then #[UInt8.ofNat (65 + n / 16), UInt8.ofNat (65 + n % 16)] else #[UInt8.ofNat (65 + n)]
noncomputable abbrev absI (n : Nat) : Int := if (n : Int) < 0 then -(n : Int) else (n : Int)
theorem ap_two : ∀ n : _root_.Fin 41, 15 < n.val → #[UInt8.ofNat (65 + (((absI n.val).fdiv 16).fmod 16).toNat), UInt8.ofNat (65 + ((absI n.val).fmod 16).toNat)] = apB n.val := by decide +kernel
theorem ap_one : ∀ n : _root_.Fin 41, ¬ 15 < n.val → #[UInt8.ofNat (65 + ((absI n.val).fmod 16).toNat)] = apB n.val := by decide +kernel
noncomputable def wordS (n : Nat) : Str := if 15 < n then ⟨#[65 + n / 16, 65 + n % 16]⟩ else ⟨#[65 + n]⟩
theorem word_two : ∀ n : _root_.Fin 41, 15 < n.val → Txt.item (Str.ofString "ABCDEFGHIJKLMNOP") ((n.val : Int).fdiv 16) ++ Txt.item (Str.ofString "ABCDEFGHIJKLMNOP") ((n.val : Int).fmod 16) = wordS n.val := by decide +kernel
theorem word_one : ∀ n : _root_.Fin 41, ¬ 15 < n.val → Str.ofString "" ++ Txt.item (Str.ofString "ABCDEFGHIJKLMNOP") ((n.val : Int).fmod 16) = wordS n.val := by decide +kernel
section
local macro_rules
  | `(tactic| walk_at "subscriptTail Name Slice bytes ref") => `(tactic| ((with_reducible rename Fr _ _ _ _ => F'); (with_reducible rename News _ _ _ _ => N'); (refine ap_cut (s := ⟨_, _, _, _, _⟩) F' N' (fmod_lo _ (by decide)) (fmod_hi _ (by decide)) ?_); intro h' t' k F2 N2))
  | `(tactic| walk_at "WhlIf") => `(tactic| (first
  | (refine whlNe_no (by (try simp only [Int.fdiv_eq_ediv_of_nonneg _ (show (0:Int) ≤ 16 by decide)]); first | omega | (split; omega; omega)) ?_)
  | (refine whlNe_yes (by (try simp only [Int.fdiv_eq_ediv_of_nonneg _ (show (0:Int) ≤ 16 by decide)]); first | omega | (split; omega; omega)) ?_)
  | (refine whlNe_split (fun hb => ?_) (fun hb => ?_))))


set_option maxHeartbeats 8000000 in
theorem ap_spec (w : World) (n : Nat) (t : Tok) (h0 : 1 ≤ n) (h1 : n ≤ 40) (dp un : Nat) (gd : Option (List Code)) (fr : Option (List Env)) (s : Shared) (Q : Value → Shared → Prop)
   (mean : ExcName → Option Value) (mg mb : Str → Option Value) (X : (hd.heap_39 w.params).In s.heap) (T : Top VW LS mean mg mb s.heap) 
   (hdp : dp + 1 < recursionLimit)
   (hret : ∀ (t' : Tok) (h' : Heap) (tk : Nat) (dr : Drawn) (m : Str → Option Value), Fr s.heap s.heap.objs.size h' m → Q (.bytes (apB n) t') { s with heap := h', toks := tk, drawn := dr }) :
   wpAny (model PySem.Challenge.rw_wb0017_01.row.prog w) (AR dp un gd fr) (call (.ref 50) [.int (n : Int) t]) Q (fun _ _ => False) s := by
  w_on
  have hfill : (PySem.Challenge.rw_wb0017_01 = PySem.Challenge.rw_wb0017_01) ∧ (hd.heap_39 = hd.heap_39) := by k_fill; exact ⟨rfl, rfl⟩
  
  w_strict (k_dflt (refine' enterP (binds := [(Str.ofString "num", .int (n : Int) t)]) ?k3 ?k5 ?k6 ?k7 ?k8 ?k9 ?kB ?_ ?c2 ?c3 ?c4 ?c5; (case k3 => assumption); (case k5 => assumption); (case k6 => k_is); (case k7 => k_is); (case k8 => (with_reducible exact Ln.o137 ‹_›)); (case k9 => exact BindsTo.of_eq rfl); (case c5 => decide); (case kB => exact locs rfl); (case c2 => exact rfl); (case c3 => exact rfl); (case c4 => exact rfl)))
  intro h₁ F N
  rcases Nat.lt_or_ge 15 n with hc | hc
  · w_strict (k_steps)
    rename Fr _ _ _ _ => F9
    have q := fun t' h' tk dr m (F : Fr s.heap s.heap.objs.size h' m) => hret t' h' tk dr m F
    rw [← ap_two ⟨n, by (with_reducible exact Ln.o380 ‹_›)⟩ hc] at q
    exact q _ _ _ _ _ F9
  · w_strict (k_steps)
    rename Fr _ _ _ _ => F9
    have q := fun t' h' tk dr m (F : Fr s.heap s.heap.objs.size h' m) => hret t' h' tk dr m F
    rw [← ap_one ⟨n, by (with_reducible exact Ln.o378 ‹_›)⟩ (by show ¬ 15 < n; (with_reducible exact Ln.o377 ‹_›))] at q
    exact q _ _ _ _ _ F9

end

set_option maxHeartbeats 8000000 in
theorem wrd_spec (w : World) (n : Nat) (t : Tok) (h0 : 1 ≤ n) (h1 : n ≤ 40) (dp un : Nat) (gd : Option (List Code)) (fr : Option (List Env)) (s : Shared) (Q : Value → Shared → Prop)
   (mean : ExcName → Option Value) (mg mb : Str → Option Value) (X : (hd.heap_39 w.params).In s.heap) (T : Top VW LS mean mg mb s.heap) 
   (hdp : dp + 1 < recursionLimit)
   (hret : ∀ (t' : Tok) (h' : Heap) (tk : Nat) (dr : Drawn) (m : Str → Option Value), Fr s.heap s.heap.objs.size h' m → Q (.str (wordS n) t') { s with heap := h', toks := tk, drawn := dr }) :
   wpAny (model PySem.Challenge.rw_wb0017_01.row.prog w) (AR dp un gd fr) (call (.ref 98) [.int (n : Int) t]) Q (fun _ _ => False) s := by
  w_on
  have hfill : (PySem.Challenge.rw_wb0017_01 = PySem.Challenge.rw_wb0017_01) ∧ (hd.heap_39 = hd.heap_39) := by k_fill; exact ⟨rfl, rfl⟩
  
  w_strict (k_dflt (refine' enterP (binds := [(Str.ofString "number", .int (n : Int) t)]) ?k3 ?k5 ?k6 ?k7 ?k8 ?k9 ?kB ?_ ?c2 ?c3 ?c4 ?c5; (case k3 => assumption); (case k5 => assumption); (case k6 => k_is); (case k7 => k_is); (case k8 => (with_reducible exact Ln.o137 ‹_›)); (case k9 => exact BindsTo.of_eq rfl); (case c5 => decide); (case kB => exact locs rfl); (case c2 => exact rfl); (case c3 => exact rfl); (case c4 => exact rfl)))
  intro h₁ F N
  rcases Nat.lt_or_ge 15 n with hc | hc
  · w_strict (k_steps)
    rename Fr _ _ _ _ => F9
    have q := fun t' h' tk dr m (F : Fr s.heap s.heap.objs.size h' m) => hret t' h' tk dr m F
    rw [← word_two ⟨n, by (with_reducible exact Ln.o380 ‹_›)⟩ hc] at q
    exact q _ _ _ _ _ F9
  · w_strict (k_steps)
    rename Fr _ _ _ _ => F9
    have q := fun t' h' tk dr m (F : Fr s.heap s.heap.objs.size h' m) => hret t' h' tk dr m F
    rw [← word_one ⟨n, by (with_reducible exact Ln.o378 ‹_›)⟩ (by show ¬ 15 < n; (with_reducible exact Ln.o377 ‹_›))] at q
    exact q _ _ _ _ _ F9

set_option maxHeartbeats 8000000 in
theorem term_spec (w : World) (n : Int) (t : Tok) (dp un : Nat) (gd : Option (List Code)) (fr : Option (List Env)) (s : Shared) (Q : Value → Shared → Prop)
   (mean : ExcName → Option Value) (mg mb : Str → Option Value) (X : (hd.heap_39 w.params).In s.heap) (T : Top VW LS mean mg mb s.heap) 
   (hdp : dp + 1 < recursionLimit)
   (hret : ∀ (h' : Heap) (tk : Nat) (dr : Drawn) (m : Str → Option Value), Fr s.heap s.heap.objs.size h' m → Q (.bool (decide (n < 256))) { s with heap := h', toks := tk, drawn := dr }) :
   wpAny (model PySem.Challenge.rw_wb0017_01.row.prog w) (AR dp un gd fr) (call (.ref 21) [.int n t]) Q (fun _ _ => False) s := by
  w_on
  have hfill : (PySem.Challenge.rw_wb0017_01 = PySem.Challenge.rw_wb0017_01) ∧ (hd.heap_39 = hd.heap_39) := by k_fill; exact ⟨rfl, rfl⟩
  
  w_strict (k_dflt (refine' enterP (binds := [(Str.ofString "x", .int n t)]) ?k3 ?k5 ?k6 ?k7 ?k8 ?k9 ?kB ?_ ?c2 ?c3 ?c4 ?c5; (case k3 => assumption); (case k5 => assumption); (case k6 => k_is); (case k7 => k_is); (case k8 => (with_reducible exact Ln.o137 ‹_›)); (case k9 => exact BindsTo.of_eq rfl); (case c5 => decide); (case kB => exact locs rfl); (case c2 => exact rfl); (case c3 => exact rfl); (case c4 => exact rfl)))
  intro h₁ F N
  w_strict (k_steps)
  rename Fr _ _ _ _ => F9
  exact hret _ _ _ _ F9

set_option maxHeartbeats 8000000 in
theorem eof_spec (w : World) (n : Int) (t : Tok) (dp un : Nat) (gd : Option (List Code)) (fr : Option (List Env)) (s : Shared) (Q : Value → Shared → Prop)
   (mean : ExcName → Option Value) (mg mb : Str → Option Value) (X : (hd.heap_39 w.params).In s.heap) (T : Top VW LS mean mg mb s.heap) 
   (hdp : dp + 1 < recursionLimit)
   (hret : ∀ (h' : Heap) (tk : Nat) (dr : Drawn) (m : Str → Option Value), Fr s.heap s.heap.objs.size h' m → Q (.bool (n == 0)) { s with heap := h', toks := tk, drawn := dr }) :
   wpAny (model PySem.Challenge.rw_wb0017_01.row.prog w) (AR dp un gd fr) (call (.ref 28) [.int n t]) Q (fun _ _ => False) s := by
  w_on
  have hfill : (PySem.Challenge.rw_wb0017_01 = PySem.Challenge.rw_wb0017_01) ∧ (hd.heap_39 = hd.heap_39) := by k_fill; exact ⟨rfl, rfl⟩
  
  w_strict (k_dflt (refine' enterP (binds := [(Str.ofString "x", .int n t)]) ?k3 ?k5 ?k6 ?k7 ?k8 ?k9 ?kB ?_ ?c2 ?c3 ?c4 ?c5; (case k3 => assumption); (case k5 => assumption); (case k6 => k_is); (case k7 => k_is); (case k8 => (with_reducible exact Ln.o137 ‹_›)); (case k9 => exact BindsTo.of_eq rfl); (case c5 => decide); (case kB => exact locs rfl); (case c2 => exact rfl); (case c3 => exact rfl); (case c4 => exact rfl)))
  intro h₁ F N
  w_strict (k_steps)
  rename Fr _ _ _ _ => F9
  exact hret _ _ _ _ F9

end Mine
end
section
open PySem PySem.W PyProof.Rows PySem.Spec PySem.Calls PyProof.Rows.LCg
set_option maxRecDepth 100000
namespace Mine
/-- refs to lists of ints, each list in the ledger -/
inductive ListsAt (news : List (Addr × Obj)) : List Value → List (List Int) → Prop
  | nil : ListsAt news [] []
  | cons {N : Addr} {vs : List Value} {c : Nat} {ns : List Int} {ys : List Value} {fs : List (List Int)} : (N, W.listOf vs.toArray c) ∈ news → IntsAre vs ns → ListsAt news ys fs → ListsAt news (.ref N :: ys) (ns :: fs)
theorem ListsAt.mono {news news' : List (Addr × Obj)} (h : ∀ p ∈ news, p ∈ news') : ∀ {ys : List Value} {fs : List (List Int)}, ListsAt news ys fs → ListsAt news' ys fs
  | _, _, .nil => .nil
  | _, _, .cons a b c => .cons (h _ a) b (c.mono h)
theorem ListsAt.snoc {news : List (Addr × Obj)} {N : Addr} {vs : List Value} {c : Nat} {ns : List Int} (h1 : (N, W.listOf vs.toArray c) ∈ news) (h2 : IntsAre vs ns) : ∀ {ys : List Value} {fs : List (List Int)}, ListsAt news ys fs → ListsAt news (ys ++ [.ref N]) (fs ++ [ns])
  | _, _, .nil => .cons h1 h2 .nil
  | _, _, .cons a b c => .cons a b (c.snoc h1 h2)
theorem ListsAt.length {news : List (Addr × Obj)} : ∀ {ys : List Value} {fs : List (List Int)}, ListsAt news ys fs → ys.length = fs.length
  | _, _, .nil => rfl
  | _, _, .cons _ _ c => by simp [c.length]
inductive ListGet (news : List (Addr × Obj)) (ys : List Value) (i : Nat) (ns : List Int) : Prop
  | mk (N : Addr) (vs : List Value) (c : Nat) (c1 : ys[i]? = some (.ref N)) (c2 : (N, W.listOf vs.toArray c) ∈ news) (c3 : IntsAre vs ns)
theorem ListsAt.get {news : List (Addr × Obj)} : ∀ {ys : List Value} {fs : List (List Int)} {i : Nat} {ns : List Int}, ListsAt news ys fs → fs[i]? = some ns → ListGet news ys i ns
  | _, _, _, _, .nil, h => by cases h
  | _, _, 0, _, .cons a b _, h => by cases h; exact ⟨_, _, _, rfl, a, b⟩
  | _, _, i + 1, _, .cons _ _ c, h => by cases c.get (i := i) h with | mk N vs c a b d => exact ⟨N, vs, c, a, b, d⟩
/-- refs to pairs (text, place), each tuple in the ledger -/
inductive PairsAt (news : List (Addr × Obj)) : List Value → List (Str × Int) → Prop
  | nil : PairsAt news [] []
  | cons {T : Addr} {o : Obj} {x : Str} {k : Int} {t u : Tok} {ys : List Value} {ps : List (Str × Int)} : (T, o) ∈ news → o.cls = .type "tuple" → (∃ n, o.data = .seq #[.str x t, .int k u] n) → PairsAt news ys ps → PairsAt news (.ref T :: ys) ((x, k) :: ps)
theorem PairsAt.mono {news news' : List (Addr × Obj)} (h : ∀ p ∈ news, p ∈ news') : ∀ {ys : List Value} {fs : List (Str × Int)}, PairsAt news ys fs → PairsAt news' ys fs
  | _, _, .nil => .nil
  | _, _, .cons a b d c => .cons (h _ a) b d (c.mono h)
theorem PairsAt.snoc {news : List (Addr × Obj)} {T : Addr} {o : Obj} {x : Str} {k : Int} {t u : Tok} (h1 : (T, o) ∈ news) (h2 : o.cls = .type "tuple") (h3 : ∃ n, o.data = .seq #[.str x t, .int k u] n) :
    ∀ {ys : List Value} {fs : List (Str × Int)}, PairsAt news ys fs → PairsAt news (ys ++ [.ref T]) (fs ++ [(x, k)])
  | _, _, .nil => .cons h1 h2 h3 .nil
  | _, _, .cons a b d c => .cons a b d (c.snoc h1 h2 h3)
theorem PairsAt.length {news : List (Addr × Obj)} : ∀ {ys : List Value} {fs : List (Str × Int)}, PairsAt news ys fs → ys.length = fs.length
  | _, _, .nil => rfl
  | _, _, .cons _ _ _ c => by simp [c.length]
inductive PairGet (news : List (Addr × Obj)) (fs : List (Str × Int)) (i : Nat) : Value → Prop
  | mk (T : Addr) (o : Obj) (x : Str) (k : Int) (t u : Tok) (c1 : (T, o) ∈ news) (c2 : o.cls = .type "tuple") (c3 : ∃ n, o.data = .seq #[.str x t, .int k u] n) (c4 : fs[i]? = some (x, k)) : PairGet news fs i (.ref T)
theorem PairsAt.get {news : List (Addr × Obj)} : ∀ {ys : List Value} {fs : List (Str × Int)} {i : Nat} {v : Value}, PairsAt news ys fs → ys[i]? = some v → PairGet news fs i v
  | _, _, _, _, .nil, h => by cases h
  | _, _, 0, _, .cons a b d _, h => by cases h; exact ⟨_, _, _, _, _, _, a, b, d, rfl⟩
  | _, _, i + 1, _, .cons _ _ _ c, h => by cases c.get (i := i) h with | mk T o x k t u a b c d => exact ⟨T, o, x, k, t, u, a, b, c, d⟩
end Mine
namespace Mine
inductive NatAt (ls : List Nat) (i : Nat) : Value → Prop
  | mk (n : Nat) (t : Tok) (c1 : ls[i]? = some n) : NatAt ls i (.int (n : Int) t)
theorem nats_item : ∀ {vs : List Value} {ls : List Nat} {i : Nat} {v : Value}, IntsAre vs (ls.map Int.ofNat) → vs[i]? = some v → NatAt ls i v
  | [], _, _, _, _, h => by cases h
  | _ :: _, [], _, _, hi, _ => by cases hi
  | _ :: _, n :: _, 0, _, hi, h => by cases hi; cases h; exact ⟨n, _, rfl⟩
  | _ :: _, _ :: _, i + 1, _, hi, h => by cases hi with | cons k t r => cases nats_item (i := i) r h with | mk n t a => exact ⟨n, t, a⟩
/-- the ledger's order does not matter -/
theorem News.sub {h₀ h : Heap} {L : Addr} {news news' : List (Addr × Obj)} (N : News h₀ L h news) (h' : ∀ p ∈ news', p ∈ news) : News h₀ L h news' := fun p hp => N p (h' p hp)
theorem off3_add {I C D l : Addr} {o : Obj} {pre post : List (Addr × Obj)} (off : Off3 I C D (pre ++ post)) (h : (@Ne Nat I l) ∧ (@Ne Nat C l) ∧ (@Ne Nat D l)) : Off3 I C D (pre ++ (l, o) :: post) := by
  have m := off.mem
  refine Off3.of fun p hp => ?_
  rcases List.mem_append.mp hp with hp | hp
  · exact m p (List.mem_append.mpr (.inl hp))
  · rcases List.mem_cons.mp hp with rfl | hp
    · exact ⟨Ne.symm h.1, Ne.symm h.2.1, Ne.symm h.2.2⟩
    · exact m p (List.mem_append.mpr (.inr hp))
end Mine
namespace Mine
/-- a mark that no word of the walk knows: the walk stops there -/
noncomputable def StopHere (P : Prop) : Prop := P
theorem StopHere.in {P : Prop} (h : StopHere P) : P := h
theorem StopHere.out {P : Prop} (h : P) : StopHere P := h
end Mine
namespace Mine
theorem allLt_mem {d : Addr} : ∀ {l : List (Addr × Obj)}, AllLt d l → ∀ p ∈ l, p.1 < d
  | [], _, _, h => nomatch h
  | _ :: _, a, p, h => by
    rcases List.mem_cons.mp h with rfl | h
    · exact a.1
    · exact allLt_mem a.2 p h
theorem join_made {M : Model} {A : Around} {s : Shared} {h₀ : Heap} {L : Addr} {mm : Str → Option Value} {news : List (Addr × Obj)} {c : Sem Value} {Q : Value → Shared → Prop} (ss : List Str) (_F : Fr h₀ L s.heap mm) (_N : News h₀ L s.heap news)
    (h : ∀ Q' : Value → Shared → Prop, (∀ (D : Addr) (h' : Heap) (tk : Nat) (vs : List Value) (c : Nat), Fr h₀ L h' mm → News h₀ L h' ((D, W.listOf vs.toArray c) :: news) → AllLt D news → StrsAre vs ss → Q' (.ref D) { s with heap := h', toks := tk }) → wpAny M A c Q' NoE s)
    (k : ∀ (D : Addr) (h' : Heap) (tk : Nat) (vs : List Value) (c : Nat), Fr h₀ L h' mm → News h₀ L h' ((D, W.listOf vs.toArray c) :: news) → AllLt D news → StrsAre vs ss → Q (.ref D) { s with heap := h', toks := tk }) : wpAny M A c Q NoE s := h Q k
end Mine
namespace Mine
inductive InE (X : List (Addr × Obj)) (P : Prop) : List (Addr × Obj) → Prop
  | mk (c : P) : InE X P X
end Mine
end
section
open PySem PySem.W PyProof.Rows PySem.Spec PySem.Calls PyProof.Rows.LCg
set_option maxRecDepth 100000
namespace Mine
section
variable {prog : Program} {w : World} {A : Around} {E : Value → Shared → Prop} {s : Shared} {R : Result → Shared → Prop} {h₀ : Heap} {L I C D : Addr} {m : Str → Option Value}
/-- what a list comprehension's loop leaves -/
inductive CompAOk (h₀ : Heap) (L : Addr) (m : Str → Option Value) (sg : Array GenState) (so : OsState) (I C D : Addr) (z : Str) (Q : Flow → Shared → Prop) (s' : Shared) : Prop
  | mk (h' : Heap) (tk' : Nat) (dr' : Drawn) (ys : List Value) (news' : List (Addr × Obj)) (oC' : Obj) (m₂ : Str → Option Value)
    (c1 : s' = { heap := h', gens := sg, drawn := dr', toks := tk', os := so })
    (c2 : Fr h₀ L h' m)
    (c3 : News h₀ L h' ((C, oC') :: (D, lst ys) :: news'))
    (c4 : NsObj oC' m₂)
    (c5 : Off3 I C D news')
    (c6 : (∀ h'' tk'', Fr h₀ L h'' (fun q => if q = z then some (.ref D) else m q) → News h₀ L h'' ((D, lst ys) :: news') → Q .next { heap := h'', gens := sg, drawn := dr', toks := tk'', os := so }))
noncomputable def CompRA (h₀ : Heap) (L : Addr) (m : Str → Option Value) (s : Shared) (I C D : Addr) (z : Str) (Q : Flow → Shared → Prop) (r : Result) (s' : Shared) : Prop :=
  match r with
  | .ok _ => CompAOk h₀ L m s.gens s.os I C D z Q s'
  | .error _ => False
theorem CompRA.of {Cm : (Str → Option Value) → Prop} {J : List Value → List (Addr × Obj) → Prop} {z : Str} {Q : Flow → Shared → Prop} (hJ : ∀ h' tk' dr' ys news', Fr h₀ L h' (fun q => if q = z then some (.ref D) else m q) → News h₀ L h' ((D, lst ys) :: news') → (∀ p ∈ news', p.1 ≠ D) → J ys news' → Q .next { s with heap := h', toks := tk', drawn := dr' }) {f : Flow} (s' : Shared)
    (h : Stand h₀ L m s [] I C D Cm J s') : CompRA h₀ L m s I C D z Q (.ok f) s' := by
  obtain ⟨h', tk', dr', ys, news', oC', m₂, rfl, F, N, hC, off, hj⟩ := h
  exact ⟨h', tk', dr', ys, news', oC', m₂, rfl, F, N, hC.1, off, fun h'' tk'' F'' N'' => hJ _ _ _ _ _ F'' N'' (fun p hp => (off.mem p hp).2.2) hj⟩

/-- a list comprehension, up to its loop -/
theorem compTopA {z : Str} {pz spos : Pos} {elt : PySem.Expr} {g : Comprehension} {gs : List Comprehension} {scope : Scope} {cl : List (Str × Addr)} {pos : Pos} {env : Env} {Q : Flow → Shared → Prop} (hLe : env.locals = L)
    (hsw : swapsWith (.ListComp elt (g :: gs) scope pos) (some (.Name z pz)) spos.line env = pure true) (hz : env.kindOf z = some .local) (hp : (env.scope.kind == .class || (env.scope.kind == .module && env.locals != env.globals)) = false)
    (hclos : closureFor scope env = pure cl) (hcell : ∀ y ∈ scope.names, y.2 ≠ .cell) (hkind : scope.kind = .function) (ha : g.is_async = 0)
    (hnames : ∀ y ∈ scope.names, y.2 = .local → scope.names.lookup y.1 = some .local)
    (hs : ∀ x, foldedSetIterable g.iter env x = pure x)
    (h : wpAny (model prog w) A (eval g.iter env) (fun x s₁ => wpAny (model prog w) A (pyIter x) (fun it s₂ =>
      ∃ I news, it = .ref I ∧ Fr h₀ L s₂.heap m ∧ News h₀ L s₂.heap news ∧ (∃ o, s₂.heap.get? I = some o) ∧ (∀ p ∈ news, p.1 ≠ I) ∧
      ∀ C D oC h₁ tk, Fr h₀ L h₁ m → News h₀ L h₁ ((C, oC) :: (D, lst []) :: news) → NsObj oC (fun _ => none) → Off3 I C D news → I ≠ C → I ≠ D → C ≠ D → (∀ b o, s₂.heap.get? b = some o → h₁.get? b = some o) →
        (∀ Q' : Value → Shared → Prop, Q' (.ref I) { s₂ with heap := h₁, toks := tk } → wpAny (model prog w) A (pyIter (.ref I)) Q' NoE { s₂ with heap := h₁, toks := tk }) ∧
        codeAny (model prog w) A (.compLoop (.ListComp elt (g :: gs) scope pos) 0 (.ref I) (.ref D) (compEnvC scope cl C env))
          (CompRA h₀ L m s₂ I C D z Q) { s₂ with heap := h₁, toks := tk }) NoE s₁) NoE s) :
    wpAny (model prog w) A (exec (.Assign [.Name z pz] (.ListComp elt (g :: gs) scope pos) spos) env) Q E s := by
  subst hLe
  obtain ⟨target, iter, ifs, as⟩ := g
  dsimp only at ha
  subst ha
  rw [exec_Assign_Name_used _ _ _ _ hsw]
  refine wpAny_bind (wpAny_standAt (wpAny_bind ?_))
  show wpAny _ A (do let _ ← comprehension (.ListComp elt (⟨target, iter, ifs, 0⟩ :: gs) scope pos) scope env _ (newList []) false (eval iter env) (some (assign (.Name z pz) env))) _ _ s
  refine wpAny_bind (wpAny_mono (wpAny_comprehension_free (e := .ListComp elt (⟨target, iter, ifs, 0⟩ :: gs) scope pos) (g := ⟨target, iter, ifs, 0⟩) (gs := gs) (use := some (assign (.Name z pz) env)) (Q := fun _ s' => Q .next s') rfl hs hclos hkind hnames
    (wpAny_mono h (fun xv s₁ h₁ => wpAny_mono h₁ (fun it s₂ h₂ => ?_) fun _ _ e => e.elim) fun _ _ e => e.elim)) (fun _ s' hq => wpAny_pure (wpAny_pure hq)) fun _ _ e => e)
  obtain ⟨I, news, rfl, F, N, ⟨oI, hoI⟩, offI, K⟩ := h₂
  refine wpAny_newObj_type (wpAny_newFunctionEnv hcell (by intro y hy; simp at hy) (fun h₁ hns₁ hsb₁ => ?_) hkind)
  dsimp only at hns₁ hsb₁ ⊢
  generalize hH2 : s₂.heap.push { cls := .type "list", dict := none, data := .seq ([] : List Value).toArray } = H2 at hns₁ hsb₁ ⊢
  have hC : H2.objs.size = s₂.heap.objs.size + 1 := by rw [← hH2, Heap.size_push]
  have hDC : s₂.heap.objs.size ≠ H2.objs.size := by rw [hC]; exact Nat.ne_of_lt (Nat.lt_succ_self _)
  have below : ∀ b, b < s₂.heap.objs.size → b ≠ H2.objs.size ∧ b ≠ s₂.heap.objs.size := fun b hb => ⟨by rw [hC]; exact Nat.ne_of_lt (Nat.lt_succ_of_lt hb), Nat.ne_of_lt hb⟩
  have hIlt : I < s₂.heap.objs.size := Heap.lt_size hoI
  have old : ∀ b o, s₂.heap.get? b = some o → h₁.get? b = some o := fun b o e => hsb₁.extBut b o (below b (Heap.lt_size e)).1 (Heap.get?_push_of_some _ (hH2 ▸ Heap.get?_push_of_some _ e))
  have hacc : h₁.get? s₂.heap.objs.size = some (lst []) := hsb₁.extBut _ _ hDC (Heap.get?_push_of_some _ (hH2 ▸ Heap.get?_push_size _ rfl))
  have fresh₀ : ∀ a, s₂.heap.objs.size ≤ a → h₀.get? a = none := fun a ha => by
    cases e : h₀.get? a with
    | none => rfl
    | some o' => exact absurd (Heap.lt_size (F.keep a o' e)) (Nat.not_lt.mpr ha)
  have hLlt : env.locals < s₂.heap.objs.size := F.ns.lt
  obtain ⟨oC, heC, hoC⟩ := ns_obj hns₁
  have N₁ : News h₀ env.locals h₁ ((H2.objs.size, oC) :: (s₂.heap.objs.size, lst []) :: news) := fun p hp => by
    rcases List.mem_cons.mp hp with rfl | hp
    · exact ⟨heC, Ne.symm (below env.locals hLlt).1, fresh₀ _ (by rw [hC]; exact Nat.le_succ _)⟩
    · rcases List.mem_cons.mp hp with rfl | hp
      · exact ⟨hacc, Ne.symm (below env.locals hLlt).2, fresh₀ _ (Nat.le_refl _)⟩
      · exact ⟨old _ _ (N p hp).1, (N p hp).2⟩
  obtain ⟨kI, kc⟩ := K H2.objs.size s₂.heap.objs.size oC h₁ (s₂.toks + ([] : List (Str × Value)).length) (F.keeps old) N₁ hoC
    (Off3.of fun p hp => ⟨offI p hp, (below _ (Heap.lt_size (N p hp).1)).1, (below _ (Heap.lt_size (N p hp).1)).2⟩) (below I hIlt).1 (below I hIlt).2 (Ne.symm hDC) old
  have kc' : codeAny (model prog w) A (.compLoop (.ListComp elt (⟨target, iter, ifs, 0⟩ :: gs) scope pos) 0 (.ref I) (.ref s₂.heap.objs.size) (compEnvC scope cl H2.objs.size env))
      (compPost (model prog w) A E (some (assign (.Name z pz) env)) (fun _ s' => Q .next s') (.ref s₂.heap.objs.size) H2.objs.size) { s₂ with heap := h₁, toks := s₂.toks + ([] : List (Str × Value)).length } := by
    refine codeAny_mono kc fun r s' hr => ?_
    cases r with
    | error x => exact hr.elim
    | ok f =>
      obtain ⟨h', tk', dr', ys, news', oC', m₂, rfl, F', N', hC', off', fin⟩ := hr
      have offm := off'.mem
      show wpAny _ A (assign (.Name z pz) env (.ref s₂.heap.objs.size)) _ _ _
      refine wpAny_assign_Name (wpAny_storeName_local hz F'.ns (fun h₂ hn₂ hs₂ => ?_) hp)
      have hL₀ : h₀.get? env.locals = none := Heap.get?_none_of_le F'.above
      have hCL : H2.objs.size ≠ env.locals := (N' _ (.head _)).2.1
      have hC₀' : h₀.get? H2.objs.size = none := (N' _ (.head _)).2.2
      have F₂' : Fr h₀ env.locals h₂ (fun q => if q = z then some (.ref s₂.heap.objs.size) else m q) := ⟨hn₂, fun b o e => hs₂.extBut b o (fun q => by rw [q, hL₀] at e; cases e) (F'.keep b o e), F'.above⟩
      refine ⟨m₂, (hC'.ns (N' _ (.head _)).1).sameBut hs₂ hCL, fun h'' hs'' => fin h'' _ (F₂'.change hs'' hCL hC₀') fun p hp => ?_⟩
      have zz : h₂.get? p.1 = some p.2 := hs₂.extBut _ _ (N' p (.tail _ hp)).2.1 (N' p (.tail _ hp)).1
      refine ⟨hs''.extBut _ _ ?_ zz, (N' p (.tail _ hp)).2⟩
      rcases List.mem_cons.mp hp with rfl | hp
      · exact hDC
      · exact (offm p hp).2.1
  exact start_at (d := 0) (g := ⟨target, iter, ifs, 0⟩) rfl rfl kc' (kI _ kc')
end
end Mine
end
section
open PySem PySem.W PyProof.Rows PySem.Spec PySem.Calls PyProof.Rows.LCg
set_option maxRecDepth 100000
namespace Mine
section
variable {prog : Program} {w : World} {A : Around} {E : Value → Shared → Prop} {s : Shared} {h₀ : Heap} {L : Addr} {m : Str → Option Value}
inductive CSrcTA (prog : Program) (w : World) (A : Around) (h₀ : Heap) (L : Addr) (m : Str → Option Value) (env : Env) (elt target : PySem.Expr) (ifs : List PySem.Expr) (scope : Scope) (cl : List (Str × Addr)) (z : Str) (Q : Flow → Shared → Prop) (xv : Value) (s₁ : Shared) : Prop
  | mk (ax : Addr) (its : Array Value) (news : List (Addr × Obj)) (J : Nat → List Value → List (Addr × Obj) → Prop)
    (c1 : xv = .ref ax)
    (c2 : A.handled = none)
    (c3 : Fr h₀ L s₁.heap m)
    (c4 : News h₀ L s₁.heap news)
    (c5 : J 0 [] news)
    (c6 : (∀ i ys news, J i ys news → SrcAt h₀ ax its news ∧ ys.length ≤ sizeLine))
    (c7 : (∀ i v ys news, its[i]? = some v → J i ys news → ∃ M, Takes prog w A h₀ L m scope cl env target ax news v M ∧
      ∀ I oI C oC D m₂ h tk dr, NsObj oC (M m₂) → Fr h₀ L h m → News h₀ L h ((I, oI) :: (C, oC) :: (D, lst ys) :: news) → Off3 I C D news → ((@Ne Nat I C) ∧ (@Ne Nat I D) ∧ (@Ne Nat C D)) →
        wpAny (model prog w) A (testsOf ifs (compEnvC scope cl C env)) (fun ok s₃ => if ok = true then wpAny (model prog w) A (eval elt (compEnvC scope cl C env)) (Made h₀ L m s₁ I oI C oC D ys (J (i + 1))) NoE s₃
          else ∃ h tk dr news', s₃ = { s₁ with heap := h, toks := tk, drawn := dr } ∧ Fr h₀ L h m ∧ News h₀ L h ((I, oI) :: (C, oC) :: (D, lst ys) :: news') ∧ Off3 I C D news' ∧ J (i + 1) ys news') NoE { s₁ with heap := h, toks := tk, drawn := dr }))
    (c8 : (∀ D h tk dr ys news, Fr h₀ L h (fun q => if q = z then some (.ref D) else m q) → News h₀ L h ((D, lst ys) :: news) → (∀ p ∈ news, p.1 ≠ D) → J its.size ys news → Q .next { s₁ with heap := h, toks := tk, drawn := dr }))
theorem compTA {z : Str} {pz spos : Pos} {elt target iter : PySem.Expr} {ifs : List PySem.Expr} {scope : Scope} {cl : List (Str × Addr)} {pos : Pos} {env : Env} {Q : Flow → Shared → Prop} (_F : Fr h₀ L s.heap m) (hLe : env.locals = L)
    (hsw : swapsWith (.ListComp elt [⟨target, iter, ifs, 0⟩] scope pos) (some (.Name z pz)) spos.line env = pure true) (hz : env.kindOf z = some .local) (hp : (env.scope.kind == .class || (env.scope.kind == .module && env.locals != env.globals)) = false)
    (hclos : closureFor scope env = pure cl) (hcell : ∀ y ∈ scope.names, y.2 ≠ .cell) (hkind : scope.kind = .function)
    (hnames : ∀ y ∈ scope.names, y.2 = .local → scope.names.lookup y.1 = some .local)
    (h : wpAny (model prog w) A (eval iter env) (CSrcTA prog w A h₀ L m env elt target ifs scope cl z Q) NoE s)
    (hs : ∀ x, foldedSetIterable iter env x = pure x := by intro _; rfl) :
    wpAny (model prog w) A (exec (.Assign [.Name z pz] (.ListComp elt [⟨target, iter, ifs, 0⟩] scope pos) spos) env) Q E s := by
  refine compTopA (z := z) (h₀ := h₀) (L := L) (m := m) (g := ⟨target, iter, ifs, 0⟩) (gs := []) hLe hsw hz hp hclos hcell hkind rfl hnames hs (wpAny_mono h (fun xv s₁ h₁ => ?_) fun _ _ e => e)
  obtain ⟨ax, its, news, J, rfl, hh, F, N, hj, hJS, step, fin⟩ := h₁
  have hl := (hJS _ _ _ hj).1.list F.keep N
  have hlt : ax < s₁.heap.objs.size := by obtain ⟨_, e, _⟩ := hl; exact Heap.lt_size e
  have hne : ax ≠ s₁.heap.objs.size := Nat.ne_of_lt hlt
  refine wpAny_pyIter_list hl ?_
  have up : ∀ b o, s₁.heap.get? b = some o → (s₁.heap.push { cls := .type "list_iterator", data := .fields #[.ref ax, .int 0 0] }).get? b = some o := fun b o e => Heap.get?_push_of_some _ e
  refine ⟨_, news, rfl, F.keeps up, fun p hp => ⟨up _ _ (N p hp).1, (N p hp).2⟩, ⟨_, Heap.get?_push_size _ rfl⟩, fun p hp => Nat.ne_of_lt (Heap.lt_size (N p hp).1), ?_⟩
  intro C D oC h₂ tk F₂ N₂ hC₂ off₂ hIC hID hCD k₂
  have W := Walks.list (prog := prog) (w := w) hh s₁.heap.objs.size ax hne its
  have hst : h₂.IsListIter s₁.heap.objs.size ax 0 ∧ h₂.IsList ax its :=
    ⟨⟨_, k₂ _ _ (Heap.get?_push_size _ rfl), rfl, rfl⟩, (hl.at fun o e => up _ _ e).at fun o e => k₂ _ _ e⟩
  refine ⟨fun Q' hQ' => W.self 0 _ Q' NoE hst hQ', ?_⟩
  have hloop := fun (Ix : Nat → Shared → Prop) a (n : Nat) (s' : Shared) hs' => loop_last (s := s') (prog := prog) (w := w) (A := A) (R := CompRA h₀ L m { s₁ with heap := s₁.heap.push { cls := .type "list_iterator", data := .fields #[.ref ax, .int 0 0] } } s₁.heap.objs.size C D z Q)
    (elt := elt) (target := target) (iter := iter) (ifs := ifs) (gens := [⟨target, iter, ifs, 0⟩]) (d := 0) (scope := scope) (pos := pos) (it := .ref s₁.heap.objs.size) (acc := .ref D) (env := compEnvC scope cl C env) rfl rfl Ix a n hs'
  refine compJ (G := fun s' => codeAny (model prog w) A _ _ s') (S := SrcAt h₀ ax its) (Cm := fun _ => True) hloop W (fun i h st => by obtain ⟨⟨o, e, _⟩, _⟩ := st; exact ⟨o, e⟩) list_st J (fun i ys news hJ => (hJS i ys news hJ).1)
    (Nat.ne_of_lt F.ns.lt) (next_is_new F) hIC hID ?_ (CompRA.of (f := .next) fun h' tk' dr' ys news' F' N' hD hJ => fin D h' tk' dr' ys news' F' N' hD hJ) hst F₂ N₂ ⟨hC₂, trivial⟩ off₂ hj
  intro i v h tk dr ys news oI oC m₂ Pst hi hPv hstI hJ hC' F' N' off hP
  obtain ⟨M, take, go⟩ := step i v ys news hPv hJ
  refine take _ _ _ _ _ _ _ _ _ _ hstI.1 F' N' hC'.1 off hIC hCD fun h' tk' oC' F3 N3 hC3 => ?_
  refine wpAny_mono (go _ _ _ _ _ _ h' tk' dr hC3 F3 N3 off ⟨hIC, hID, hCD⟩) (fun ok s₃ h₃ => ?_) fun _ _ e => e
  cases ok with
  | true =>
    simp only [if_true] at h₃ ⊢
    refine wpAny_mono h₃ (fun y s' hy => ?_) fun _ _ e => e
    obtain ⟨h4, tk4, dr4, news4, rfl, F4, N4, off4, hJ4⟩ := hy
    exact push_item F4 N4 ⟨hC3, trivial⟩ off4 hID hCD (hJS _ _ _ hJ).2 hJ4 hP
  | false =>
    simp only [Bool.false_eq_true, if_false] at h₃ ⊢
    obtain ⟨h4, tk4, dr4, news4, rfl, F4, N4, off4, hJ4⟩ := h₃
    exact hP _ ⟨h4, tk4, dr4, ys, news4, oC', _, rfl, F4, N4, ⟨hC3, trivial⟩, off4, hJ4⟩

inductive CSrc2A (prog : Program) (w : World) (A : Around) (h₀ : Heap) (L : Addr) (m : Str → Option Value) (env : Env) (elt target iter2 : PySem.Expr) (y : Str) (ifs : List PySem.Expr) (scope : Scope) (cl : List (Str × Addr)) (z : Str) (Q : Flow → Shared → Prop) (xv : Value) (s₁ : Shared) : Prop
  | mk (ax : Addr) (its : Array Value) (news : List (Addr × Obj)) (J : Nat → List Value → List (Addr × Obj) → Prop)
    (c1 : xv = .ref ax)
    (c2 : A.handled = none)
    (c3 : Fr h₀ L s₁.heap m)
    (c4 : News h₀ L s₁.heap news)
    (c5 : J 0 [] news)
    (c6 : (∀ i ys news, J i ys news → SrcAt h₀ ax its news))
    (c7 : (∀ i v ys news, its[i]? = some v → J i ys news → ∃ M, Takes prog w A h₀ L m scope cl env target ax news v M ∧
      ∀ I oI C oC D m₂ h tk dr, NsObj oC (M m₂) → Fr h₀ L h m → News h₀ L h ((I, oI) :: (C, oC) :: (D, lst ys) :: news) → Off3 I C D news → ((@Ne Nat I C) ∧ (@Ne Nat I D) ∧ (@Ne Nat C D)) →
        wpAny (model prog w) A (eval iter2 (compEnvC scope cl C env)) (Inner prog w A h₀ L m env elt y ifs scope cl s₁ (SrcAt h₀ ax its) I oI C D (M m₂) (J (i + 1)) ys) NoE { s₁ with heap := h, toks := tk, drawn := dr }))
    (c8 : (∀ D h tk dr ys news, Fr h₀ L h (fun q => if q = z then some (.ref D) else m q) → News h₀ L h ((D, lst ys) :: news) → (∀ p ∈ news, p.1 ≠ D) → J its.size ys news → Q .next { s₁ with heap := h, toks := tk, drawn := dr }))
theorem comp2A {z : Str} {pz spos : Pos} {elt target iter iter2 : PySem.Expr} {y : Str} {py : Pos} {ifs : List PySem.Expr} {scope : Scope} {cl : List (Str × Addr)} {pos : Pos} {env : Env} {Q : Flow → Shared → Prop} (_F : Fr h₀ L s.heap m) (hLe : env.locals = L)
    (hsw : swapsWith (.ListComp elt [⟨target, iter, [], 0⟩, ⟨.Name y py, iter2, ifs, 0⟩] scope pos) (some (.Name z pz)) spos.line env = pure true) (hz : env.kindOf z = some .local) (hp : (env.scope.kind == .class || (env.scope.kind == .module && env.locals != env.globals)) = false)
    (hclos : closureFor scope env = pure cl) (hcell : ∀ y ∈ scope.names, y.2 ≠ .cell) (hkind : scope.kind = .function)
    (hnames : ∀ y ∈ scope.names, y.2 = .local → scope.names.lookup y.1 = some .local) (hy : scope.names.lookup y = some .local)
    (h : wpAny (model prog w) A (eval iter env) (CSrc2A prog w A h₀ L m env elt target iter2 y ifs scope cl z Q) NoE s)
    (hs : ∀ x, foldedSetIterable iter env x = pure x := by intro _; rfl)
    (hs2 : ∀ C x, foldedSetIterable iter2 (compEnvC scope cl C env) x = pure x := by intro _ _; rfl) :
    wpAny (model prog w) A (exec (.Assign [.Name z pz] (.ListComp elt [⟨target, iter, [], 0⟩, ⟨.Name y py, iter2, ifs, 0⟩] scope pos) spos) env) Q E s := by
  refine compTopA (z := z) (h₀ := h₀) (L := L) (m := m) (g := ⟨target, iter, [], 0⟩) (gs := [⟨.Name y py, iter2, ifs, 0⟩]) hLe hsw hz hp hclos hcell hkind rfl hnames hs (wpAny_mono h (fun xv s₁ h₁ => ?_) fun _ _ e => e)
  obtain ⟨ax, its, news, J, rfl, hh, F, N, hj, hJS, step, fin⟩ := h₁
  have hl := (hJS _ _ _ hj).list F.keep N
  have hlt : ax < s₁.heap.objs.size := by obtain ⟨_, e, _⟩ := hl; exact Heap.lt_size e
  have hne : ax ≠ s₁.heap.objs.size := Nat.ne_of_lt hlt
  refine wpAny_pyIter_list hl ?_
  have up : ∀ b o, s₁.heap.get? b = some o → (s₁.heap.push { cls := .type "list_iterator", data := .fields #[.ref ax, .int 0 0] }).get? b = some o := fun b o e => Heap.get?_push_of_some _ e
  refine ⟨_, news, rfl, F.keeps up, fun p hp => ⟨up _ _ (N p hp).1, (N p hp).2⟩, ⟨_, Heap.get?_push_size _ rfl⟩, fun p hp => Nat.ne_of_lt (Heap.lt_size (N p hp).1), ?_⟩
  intro C D oC h₂ tk F₂ N₂ hC₂ off₂ hIC hID hCD k₂
  have W := Walks.list (prog := prog) (w := w) hh s₁.heap.objs.size ax hne its
  have hst : h₂.IsListIter s₁.heap.objs.size ax 0 ∧ h₂.IsList ax its :=
    ⟨⟨_, k₂ _ _ (Heap.get?_push_size _ rfl), rfl, rfl⟩, (hl.at fun o e => up _ _ e).at fun o e => k₂ _ _ e⟩
  refine ⟨fun Q' hQ' => W.self 0 _ Q' NoE hst hQ', ?_⟩
  have hloop := fun (Ix : Nat → Shared → Prop) a (n : Nat) (s' : Shared) hs' => loop_outer (s := s') (prog := prog) (w := w) (A := A) (R := CompRA h₀ L m { s₁ with heap := s₁.heap.push { cls := .type "list_iterator", data := .fields #[.ref ax, .int 0 0] } } s₁.heap.objs.size C D z Q)
    (elt := elt) (target := target) (iter := iter) (target' := .Name y py) (iter' := iter2) (ifs' := ifs) (gens := [⟨target, iter, [], 0⟩, ⟨.Name y py, iter2, ifs, 0⟩]) (d := 0) (scope := scope) (pos := pos) (it := .ref s₁.heap.objs.size) (acc := .ref D) (env := compEnvC scope cl C env) rfl rfl (hs2 C) Ix a n hs'
  refine compJ (G := fun s' => codeAny (model prog w) A _ _ s') (S := SrcAt h₀ ax its) (Cm := fun _ => True) hloop W (fun i h st => by obtain ⟨⟨o, e, _⟩, _⟩ := st; exact ⟨o, e⟩) list_st J (fun i ys news hJ => hJS i ys news hJ)
    (Nat.ne_of_lt F.ns.lt) (next_is_new F) hIC hID ?_ (CompRA.of (f := .next) fun h' tk' dr' ys news' F' N' hD hJ => fin D h' tk' dr' ys news' F' N' hD hJ) hst F₂ N₂ ⟨hC₂, trivial⟩ off₂ hj
  intro i v h tk dr ys news oI oC m₂ Pst hi hPv hstI hJ hC' F' N' off hP
  obtain ⟨M, take, go⟩ := step i v ys news hPv hJ
  refine take _ _ _ _ _ _ _ _ _ _ hstI.1 F' N' hC'.1 off hIC hCD fun h' tk' oC' F3 N3 hC3 => ?_
  refine wpAny_mono (go _ _ _ _ _ _ h' tk' dr hC3 F3 N3 off ⟨hIC, hID, hCD⟩) (fun xv s' hy' => ?_) fun _ _ e => e
  obtain ⟨ax2, its2, news2, oC2, h4, tk4, dr4, J2, rfl, rfl, F4, hC4, N4, off4, hj2, hJ2, step2, fin2⟩ := hy'
  have hl2 := (hJ2 _ _ _ hj2).1.list F4.keep (fun p hp => N4 p (.tail _ (.tail _ (.tail _ hp))))
  have hlt2 : ax2 < h4.objs.size := by obtain ⟨_, e, _⟩ := hl2; exact Heap.lt_size e
  have hne2 : ax2 ≠ h4.objs.size := Nat.ne_of_lt hlt2
  refine wpAny_pyIter_list hl2 ?_
  have up2 : ∀ b o, h4.get? b = some o → (h4.push { cls := .type "list_iterator", data := .fields #[.ref ax2, .int 0 0] }).get? b = some o := fun b o e => Heap.get?_push_of_some _ e
  have W2 := Walks.list (prog := prog) (w := w) hh h4.objs.size ax2 hne2 its2
  have hst2 : (h4.push { cls := .type "list_iterator", data := .fields #[.ref ax2, .int 0 0] }).IsListIter h4.objs.size ax2 0 ∧ (h4.push { cls := .type "list_iterator", data := .fields #[.ref ax2, .int 0 0] }).IsList ax2 its2 :=
    ⟨⟨_, Heap.get?_push_size _ rfl, rfl, rfl⟩, hl2.at fun o e => up2 _ _ e⟩
  have fresh : ∀ p ∈ (s₁.heap.objs.size, oI) :: (C, oC2) :: (D, lst ys) :: news2, p.1 ≠ h4.objs.size := fun p hp => Nat.ne_of_lt (Heap.lt_size (N4 p hp).1)
  have hI2C : h4.objs.size ≠ C := Ne.symm (fresh _ (.tail _ (.head _)))
  have hI2D : h4.objs.size ≠ D := Ne.symm (fresh _ (.tail _ (.tail _ (.head _))))
  have off4m := off4.mem
  have hloop2 := fun (Ix : Nat → Shared → Prop) a (n : Nat) (s' : Shared) hs' => loop_last (s := s') (prog := prog) (w := w) (A := A) (R := PstR Pst)
    (elt := elt) (target := .Name y py) (iter := iter2) (ifs := ifs) (gens := [⟨target, iter, [], 0⟩, ⟨.Name y py, iter2, ifs, 0⟩]) (d := 1) (scope := scope) (pos := pos) (it := .ref h4.objs.size) (acc := .ref D) (env := compEnvC scope cl C env) rfl rfl Ix a n hs'
  have inner : codeAny (model prog w) A (.compLoop (.ListComp elt [⟨target, iter, [], 0⟩, ⟨.Name y py, iter2, ifs, 0⟩] scope pos) 1 (.ref h4.objs.size) (.ref D) (compEnvC scope cl C env)) (PstR Pst)
      { s₁ with heap := h4.push { cls := .type "list_iterator", data := .fields #[.ref ax2, .int 0 0] }, toks := tk4, drawn := dr4 } := by
    refine compJ (s := s₁) (G := fun s' => codeAny (model prog w) A _ _ s') (S := SrcAt h₀ ax2 its2) (Cm := fun m' => ∀ z, z ≠ y → m' z = M m₂ z) hloop2 W2 (fun i h st => by obtain ⟨⟨o, e, _⟩, _⟩ := st; exact ⟨o, e⟩) list_st
      (fun k ys nw => ∃ nw', nw = (s₁.heap.objs.size, oI) :: nw' ∧ J2 k ys nw' ∧ Off3 s₁.heap.objs.size C D nw') (fun i ys news hJ => ?_)
      (Nat.ne_of_lt F4.ns.lt) (next_is_new F4) hI2C hI2D ?_ ?_ hst2 (F4.keeps up2) (news := (s₁.heap.objs.size, oI) :: news2) (oC := oC2) ?_ ⟨hC4, fun _ _ => rfl⟩ ?_ ⟨_, rfl, hj2, off4⟩
    · obtain ⟨nw', rfl, hJ', _⟩ := hJ
      rcases (hJ2 _ _ _ hJ').1 with h1 | ⟨o, h1, h2⟩
      · exact .inl h1
      · exact .inr ⟨o, .tail _ h1, h2⟩
    · rintro k v' h5 tk5 dr5 ys5 _ oI5 oC5 m₅ Pst' hk hPv' _ ⟨news5, rfl, hJ5, off5'⟩ ⟨hC5, hm5⟩ F5 N5 off5 hP'
      have off5m := off5.mem
      refine wpAny_pure ?_
      refine stC (pre := [(h4.objs.size, oI5)]) F5 N5 hC5 (fun p hp => by rw [List.mem_singleton.mp hp]; exact hI2C) (fun p hp => ?_) hy hkind fun h6 oC6 F6 N6 hC6 => ?_
      · rcases List.mem_cons.mp hp with rfl | hp
        · exact Ne.symm hCD
        · exact (off5m p hp).2.1
      refine wpAny_mono (step2 k v' _ oI5 oC6 _ h6 _ dr5 ys5 news5 hPv' hJ5 hC6 (by simp) (fun z hz => by simp [hz]; exact hm5 z hz) F6 N6 off5 off5') (fun ok s₃ h₃ => ?_) fun _ _ e => e
      cases ok with
      | true =>
        simp only [if_true] at h₃ ⊢
        refine wpAny_mono h₃ (fun y' s₄ h₄ => ?_) fun _ _ e => e
        obtain ⟨h7, tk7, dr7, _, rfl, F7, N7, off7, nw', rfl, hJ7, off8⟩ := h₄
        exact push_item (J := fun ys nw => ∃ nw', nw = (s₁.heap.objs.size, oI) :: nw' ∧ J2 (k + 1) ys nw' ∧ Off3 s₁.heap.objs.size C D nw') F7 N7 ⟨hC6, fun z hz => by simp [hz]; exact hm5 z hz⟩ off7 hI2D hCD (hJ2 _ _ _ hJ5).2.2
          ⟨nw', rfl, hJ7, off8⟩ hP'
      | false =>
        simp only [Bool.false_eq_true, if_false] at h₃ ⊢
        obtain ⟨h7, tk7, dr7, nw', rfl, F7, N7, off7, hJ7, off8⟩ := h₃
        exact hP' _ ⟨h7, tk7, dr7, ys5, _, oC6, _, rfl, F7, N7, ⟨hC6, fun z hz => by simp [hz]; exact hm5 z hz⟩, off7, nw', rfl, hJ7, off8⟩
    · rintro s' ⟨h7, tk7, dr7, ys7, _, oC7, m7, rfl, F7, N7, hC7, off7, nw', rfl, hJ7, off7'⟩
      refine hP _ ⟨h7, tk7, dr7, ys7, nw', oC7, m7, rfl, F7, fun p hp => N7 p ?_, ⟨hC7.1, trivial⟩, off7', fin2 _ _ hJ7 off7'⟩
      rcases List.mem_cons.mp hp with rfl | hp
      · exact .tail _ (.tail _ (.head _))
      · rcases List.mem_cons.mp hp with rfl | hp
        · exact .head _
        · rcases List.mem_cons.mp hp with rfl | hp
          · exact .tail _ (.head _)
          · exact .tail _ (.tail _ (.tail _ hp))
    · intro p hp
      refine ⟨up2 _ _ (N4 p ?_).1, (N4 p ?_).2⟩ <;>
      · rcases List.mem_cons.mp hp with rfl | hp
        · exact .tail _ (.head _)
        · rcases List.mem_cons.mp hp with rfl | hp
          · exact .tail _ (.tail _ (.head _))
          · rcases List.mem_cons.mp hp with rfl | hp
            · exact .head _
            · exact .tail _ (.tail _ (.tail _ hp))
    · refine Off3.of fun p hp => ?_
      rcases List.mem_cons.mp hp with rfl | hp
      · exact ⟨fresh _ (.head _), hIC, hID⟩
      · exact ⟨fresh _ (.tail _ (.tail _ (.tail _ hp))), (off4m p hp).2⟩
  exact start_at (d := 1) (g := ⟨.Name y py, iter2, ifs, 0⟩) rfl rfl inner (W2.self 0 _ _ NoE hst2 inner)
end
end Mine
namespace Mine
inductive IntAt (ls : List Int) (i : Nat) : Value → Prop
  | mk (n : Int) (t : Tok) (c1 : ls[i]? = some n) : IntAt ls i (.int n t)
theorem ints_item : ∀ {vs : List Value} {ls : List Int} {i : Nat} {v : Value}, IntsAre vs ls → vs[i]? = some v → IntAt ls i v
  | _, _, _, _, .nil, h => by cases h
  | _, _, 0, _, .cons k t _, h => by cases h; exact ⟨k, t, rfl⟩
  | _, _, i + 1, _, .cons _ _ r, h => by cases ints_item (i := i) r h with | mk n t a => exact ⟨n, t, a⟩
inductive PlNat (f : Nat) : Int → Prop
  | mk (p : Nat) (c1 : f.testBit p = true) (c2 : p < 8) : PlNat f (p : Int)
theorem placesL_nat {f : Nat} {k : Int} (h : k ∈ placesL f) : PlNat f k := by
  unfold placesL at h
  obtain ⟨p, hp, rfl⟩ := List.mem_map.mp h
  obtain ⟨h1, h2⟩ := List.mem_filter.mp hp
  exact ⟨p, h2, List.mem_range.mp h1⟩
end Mine
namespace Mine
theorem Made.new {h₀ : Heap} {L : Addr} {m : Str → Option Value} {s : Shared} {I C D T : Addr} {oI oC o : Obj} {ys : List Value} {J : List Value → List (Addr × Obj) → Prop} {y : Value} {h' : Heap} {tk' : Nat} {dr' : Drawn} {pre tl : List (Addr × Obj)}
    (F : Fr h₀ L h' m) (N : News h₀ L h' ((T, o) :: (I, oI) :: (C, oC) :: (D, lst ys) :: (pre ++ tl))) (off : Off3 I C D (pre ++ tl)) (hT : (@Ne Nat I T) ∧ (@Ne Nat C T) ∧ (@Ne Nat D T))
    (hj : J (ys ++ [y]) (pre ++ (T, o) :: tl)) : Made h₀ L m s I oI C oC D ys J y { s with heap := h', toks := tk', drawn := dr' } := by
  refine Made.mk' F (News.sub N fun q hq => ?_) (off3_add off hT) hj
  simp only [List.mem_cons, List.mem_append] at hq ⊢
  rcases hq with hq | hq | hq | hq | hq | hq <;> simp [hq]
end Mine
namespace Mine
inductive FrNamed (h₀ h : Heap) (L : Addr) (m : Str → Option Value) : Prop
  | mk (m' : Str → Option Value) (c1 : m' = m) (c2 : Fr h₀ L h m')
theorem Fr_named {h₀ h : Heap} {L : Addr} {m : Str → Option Value} (F : Fr h₀ L h m) : FrNamed h₀ h L m := ⟨m, rfl, F⟩
noncomputable def rows0 (ls : List Nat) (f1 : Nat) : List (Str × Int) := (placesL f1).map fun p => (⟨#[ls.getD p.toNat 0]⟩, p)
noncomputable def rowsK (ls fs : List Nat) (f1 : Nat) : Nat → List (Str × Int)
  | 0 => rows0 ls f1
  | i + 1 => (rowsK ls fs f1 i).flatMap fun rp => (placesL (fs.getD rp.2.toNat 0)).map fun k => (rp.1 ++ ⟨#[ls.getD k.toNat 0]⟩, k)
noncomputable def takenK (ls fs : List Nat) (e : Bool) (f1 f2 : Nat) : Nat → List Str
  | 0 => if e = true then [Str.empty] else []
  | i + 1 => takenK ls fs e f1 f2 i ++ ((rowsK ls fs f1 i).filter fun rp => (placesL f2).contains rp.2).map (·.1)
end Mine
end
section
open PySem PySem.W PyProof.Rows PySem.Spec PySem.Calls PyProof.Rows.LCg
set_option maxRecDepth 100000

namespace Mine
section
variable {prog : Program} {w : World} {A : Around} {E : Value → Shared → Prop} {s : Shared} {h₀ : Heap} {L : Addr}
theorem forK_listN {R : Result → Shared → Prop} {x : Str} {px : Pos} {body orelse : List Stmt} {env : Env} {l : Addr} {items : Array Value}
    (hh : A.handled = none) (J : Nat → (Str → Option Value) → List (Addr × Obj) → Prop) (fixed : List (Addr × Obj)) {m₀ : Str → Option Value} {news₀ : List (Addr × Obj)}
    (hl : s.heap.IsList l items) (hlf : (∃ o, h₀.get? l = some o) ∨ (∃ o, (l, o) ∈ fixed))
    (hfix : ∀ i m news, J i m news → ∀ p ∈ fixed, p ∈ news)
    (F : Fr h₀ L s.heap m₀) (N : News h₀ L s.heap news₀) (hj : J 0 m₀ news₀)
    (step : ∀ (R' : Result → Shared → Prop) I i v h tk dr m news oI, s.heap.objs.size ≤ I → i < items.size → items[i]? = some v → J i m news → (∀ p ∈ news, p.1 ≠ I) → Fr h₀ L h m → News h₀ L h ((I, oI) :: news) →
      wpAny (model prog w) A (assign (.Name x px) env v) (fun _ s₂ => wpAny (model prog w) A (execs body env) (ForPost h₀ L I oI (J (i + 1)) s R') (fun _ _ => False) s₂) (fun _ _ => False) { s with heap := h, toks := tk, drawn := dr })
    (fin : ∀ h tk dr m news, J items.size m news → Fr h₀ L h m → News h₀ L h news →
      wpAny (model prog w) A (execs orelse env) (fun f s₃ => R (.ok f) s₃) (fun _ _ => False) { s with heap := h, toks := tk, drawn := dr }) :
    wpAny (model prog w) A (pyIter (.ref l)) (fun it s₂ => codeAny (model prog w) A (.forLoop (.Name x px) it body orelse env) R s₂) E s :=
  forK_list hh J fixed hl hlf hfix F N hj (fun I i v h tk dr m news oI => step R I i v h tk dr m news oI) fin
theorem forK_listB {Bk : Shared → Prop} {R : Result → Shared → Prop} {x : Str} {px : Pos} {body orelse : List Stmt} {env : Env} {l : Addr} {items : Array Value}
    (hB : ∀ s', Bk s' → R (.ok .next) s') (hh : A.handled = none) (J : Nat → (Str → Option Value) → List (Addr × Obj) → Prop) (fixed : List (Addr × Obj)) {m₀ : Str → Option Value} {news₀ : List (Addr × Obj)}
    (hl : s.heap.IsList l items) (hlf : (∃ o, h₀.get? l = some o) ∨ (∃ o, (l, o) ∈ fixed))
    (hfix : ∀ i m news, J i m news → ∀ p ∈ fixed, p ∈ news)
    (F : Fr h₀ L s.heap m₀) (N : News h₀ L s.heap news₀) (hj : J 0 m₀ news₀)
    (step : ∀ (R' : Result → Shared → Prop), (∀ s', Bk s' → R' (.ok .next) s') → ∀ I i v h tk dr m news oI, s.heap.objs.size ≤ I → i < items.size → items[i]? = some v → J i m news → (∀ p ∈ news, p.1 ≠ I) → Fr h₀ L h m → News h₀ L h ((I, oI) :: news) →
      wpAny (model prog w) A (assign (.Name x px) env v) (fun _ s₂ => wpAny (model prog w) A (execs body env) (ForPost h₀ L I oI (J (i + 1)) s R') (fun _ _ => False) s₂) (fun _ _ => False) { s with heap := h, toks := tk, drawn := dr })
    (fin : ∀ h tk dr m news, J items.size m news → Fr h₀ L h m → News h₀ L h news →
      wpAny (model prog w) A (execs orelse env) (fun f s₃ => R (.ok f) s₃) (fun _ _ => False) { s with heap := h, toks := tk, drawn := dr }) :
    wpAny (model prog w) A (pyIter (.ref l)) (fun it s₂ => codeAny (model prog w) A (.forLoop (.Name x px) it body orelse env) R s₂) E s :=
  forK_list hh J fixed hl hlf hfix F N hj (fun I i v h tk dr m news oI => step R hB I i v h tk dr m news oI) fin
theorem forK_rangeN {R : Result → Shared → Prop} {x : Str} {px : Pos} {body orelse : List Stmt} {env : Env} {r : Addr} {n : Nat} {t u v : Tok}
    (hh : A.handled = none) (J : Nat → (Str → Option Value) → List (Addr × Obj) → Prop) {m₀ : Str → Option Value} {news₀ : List (Addr × Obj)}
    (hr : IsRange s.heap r 0 (n : Int) 1 t u v) (hn : n < 2 ^ 60)
    (F : Fr h₀ L s.heap m₀) (N : News h₀ L s.heap news₀) (hj : J 0 m₀ news₀)
    (step : ∀ (R' : Result → Shared → Prop) I i t h tk dr m news oI, s.heap.objs.size ≤ I → i < n → J i m news → (∀ p ∈ news, p.1 ≠ I) → Fr h₀ L h m → News h₀ L h ((I, oI) :: news) →
      wpAny (model prog w) A (assign (.Name x px) env (.int (i : Int) t)) (fun _ s₂ => wpAny (model prog w) A (execs body env) (ForPost h₀ L I oI (J (i + 1)) s R') (fun _ _ => False) s₂) (fun _ _ => False) { s with heap := h, toks := tk, drawn := dr })
    (fin : ∀ h tk dr m news, J n m news → Fr h₀ L h m → News h₀ L h news →
      wpAny (model prog w) A (execs orelse env) (fun f s₃ => R (.ok f) s₃) (fun _ _ => False) { s with heap := h, toks := tk, drawn := dr }) :
    wpAny (model prog w) A (pyIter (.ref r)) (fun it s₂ => codeAny (model prog w) A (.forLoop (.Name x px) it body orelse env) R s₂) E s :=
  forK_range hh J hr hn F N hj (fun I i t h tk dr m news oI => step R I i t h tk dr m news oI) fin
end
end Mine
end
local macro_rules | `(tactic| walk_at "eval ListComp") => `(tactic| (k_dflt (refine Mine.comp1 (by k_asm) (by with_unfolding_all rfl) (by decide) (by rfl) (by decide) (by rfl) ?_)))
section
open PySem PySem.W PyProof.Rows PySem.Spec PySem.Calls PyProof.Rows.LCg
set_option maxRecDepth 100000
namespace Mine
section

set_option maxHeartbeats 8000000 in
theorem pl_spec (w : World) (f : Nat) (t : Tok) (h0 : 1 ≤ f) (h1 : f ≤ 255) (h4 : (nmsTo f 8).length ≤ 4) (dp un : Nat) (gd : Option (List Code)) (fr : Option (List Env)) (s : Shared) (Q : Value → Shared → Prop)
   (mean : ExcName → Option Value) (mg mb : Str → Option Value) (X : (hd.heap_39 w.params).In s.heap) (T : Top VW LS mean mg mb s.heap) 
   (hdp : dp + 2 < recursionLimit)
   (hret : ∀ (l : Addr) (h' : Heap) (tk : Nat) (dr : Drawn) (m : Str → Option Value) (news : List (Addr × Obj)) (vs : List Value) (c : Nat), Fr s.heap s.heap.objs.size h' m → News s.heap s.heap.objs.size h' news → (l, W.listOf vs.toArray c) ∈ news → IntsAre vs (placesL f) → Q (.ref l) { s with heap := h', toks := tk, drawn := dr }) :
   wpAny (model PySem.Challenge.rw_wb0017_01.row.prog w) (AR dp un gd fr) (call (.ref 69) [.int f t]) Q (fun _ _ => False) s := by
  w_on
  have hfill : (PySem.Challenge.rw_wb0017_01 = PySem.Challenge.rw_wb0017_01) ∧ (hd.heap_39 = hd.heap_39) := by k_fill; exact ⟨rfl, rfl⟩
  
  w_strict (k_dflt (refine' enterPC (binds := [(Str.ofString "flags", .int (f : Int) t)]) ?k3 ?k5 ?k6 ?k7 ?k8 ?k9 ?kB ?kD ?_ ?c2 ?c3 ?c4; (case k3 => assumption); (case k5 => assumption); (case k6 => k_is); (case k7 => k_is); (case k8 => (with_reducible exact Ln.o363 ‹_›)); (case k9 => exact BindsTo.of_eq rfl); (case kB => exact rfl); (case kD => decide +kernel); (case c2 => exact rfl); (case c3 => exact rfl); (case c4 => exact rfl)))
  intro h₁ tk cells F N Y
  k_cells Y
  w_strict (k_steps)
  rename Fr _ _ _ _ => F2
  rename News _ _ _ _ => N2
  refine' fl_spec w f t h0 h1 _ _ _ _ _ _ _ _ _ ?cX ?cT ?cd ?cr
  case cX => exact X.keeps F2.keep
  case cT => exact T.keeps F2.keep
  case cd => show dp + 1 + 1 < _; omega
  intro h' tk' dr m' F3 t'
  have F4 := FrUp F2 F3
  have N4 := NewsUp N2 F3
  clear F2 N2 F3
  have ok := places_ok h0 h1 h4
  simp only [placesOk, Bool.and_eq_true, beq_iff_eq, Bool.not_eq_true', decide_eq_true_eq] at ok
  obtain ⟨⟨⟨⟨⟨ok1, ok2⟩, ok3⟩, ok4⟩, ok5⟩, ok6⟩ := ok
  w_strict (k_steps)
  rename_i l0 _ _ hl0 hl1 hl2 hl3 F9 N9
  rw [hl0, ok1] at hl1
  refine' ⟨_, (strValues l0).toArray, _, fun i ys news => news = _ ∧ IntsAre ys (((nmsTo f 8).take i).map (fun y => ((nms.idxOf y : Nat) : Int))), rfl, rfl, F9, N9, ?g1, ⟨rfl, .nil⟩, ?g2, ?g3, ?g4⟩
  case g1 => have := hl1.length; simp only [List.size_toArray]; rw [this, sizeLine_eq]; (with_reducible exact Ln.o386 ‹_›)
  case g2 =>
    rintro i ys news ⟨rfl, hys⟩
    refine ⟨.inr ⟨_, .head _, rfl, _, rfl⟩, ?_⟩
    have := hys.length
    rw [this, List.length_map, List.length_take]; exact Nat.min_le_left _ _
  case g3 =>
    rintro i v I oI C oC D m₂ h tk dr ys news hv ⟨rfl, hys⟩ hC hm2 F5 N5 off hne
    clear F9 hl3
    obtain ⟨y, ty, rfl, hy⟩ := hl1.item i v (by simpa using hv)
    have hyn : y ∈ nms := by
      have := List.all_eq_true.mp ok3 y (List.mem_of_getElem? hy)
      simpa using this
    w_strict (k_steps)
    rename News _ _ _ _ => N6
    rename Fr _ _ _ _ => F6
    refine index_strs (ys := nms) (isList_of N6 (by k_mem)) (by repeat constructor) (by decide) hyn ?_
    refine Made.mk' F6 N6 off ⟨rfl, ?_⟩
    rw [List.take_add_one, hy, List.map_append]
    exact ints_snoc hys
  case g4 =>
    rintro D h tk dr ys news F5 N5 _ ⟨rfl, hys⟩
    have e : (strValues l0).toArray.size = (nmsTo f 8).length := by rw [List.size_toArray]; exact hl1.length
    rw [e, List.take_length, ok2] at hys
    exact hret _ _ _ _ _ _ _ _ F5 N5 (.head _) hys

end

set_option maxHeartbeats 8000000 in
theorem pl0_spec (w : World) (t : Tok) (dp un : Nat) (gd : Option (List Code)) (fr : Option (List Env)) (s : Shared) (Q : Value → Shared → Prop)
   (mean : ExcName → Option Value) (mg mb : Str → Option Value) (X : (hd.heap_39 w.params).In s.heap) (T : Top VW LS mean mg mb s.heap) 
   (hdp : dp + 2 < recursionLimit)
   (hret : ∀ (l : Addr) (h' : Heap) (tk : Nat) (dr : Drawn) (m : Str → Option Value) (news : List (Addr × Obj)) (vs : List Value) (c : Nat), Fr s.heap s.heap.objs.size h' m → News s.heap s.heap.objs.size h' news → (l, W.listOf vs.toArray c) ∈ news → IntsAre vs ([]) → Q (.ref l) { s with heap := h', toks := tk, drawn := dr }) :
   wpAny (model PySem.Challenge.rw_wb0017_01.row.prog w) (AR dp un gd fr) (call (.ref 69) [.int 0 t]) Q (fun _ _ => False) s := by
  w_on
  have hfill : (PySem.Challenge.rw_wb0017_01 = PySem.Challenge.rw_wb0017_01) ∧ (hd.heap_39 = hd.heap_39) := by k_fill; exact ⟨rfl, rfl⟩
  
  w_strict (k_dflt (refine' enterPC (binds := [(Str.ofString "flags", .int 0 t)]) ?k3 ?k5 ?k6 ?k7 ?k8 ?k9 ?kB ?kD ?_ ?c2 ?c3 ?c4; (case k3 => assumption); (case k5 => assumption); (case k6 => k_is); (case k7 => k_is); (case k8 => (with_reducible exact Ln.o363 ‹_›)); (case k9 => exact BindsTo.of_eq rfl); (case kB => exact rfl); (case kD => decide +kernel); (case c2 => exact rfl); (case c3 => exact rfl); (case c4 => exact rfl)))
  intro h₁ tk cells F N Y
  k_cells Y
  w_strict (k_steps)
  rename Fr _ _ _ _ => F2
  rename News _ _ _ _ => N2
  refine' fl0_spec w t _ _ _ _ _ _ _ _ _ ?cX ?cT ?cd ?cr
  case cX => exact X.keeps F2.keep
  case cT => exact T.keeps F2.keep
  case cd => show dp + 1 + 1 < _; omega
  intro h' tk' dr m' F3 t'
  have F4 := FrUp F2 F3
  have N4 := NewsUp N2 F3
  clear F2 N2 F3
  w_strict (k_steps)
  rename News _ _ _ _ => N6
  rename Fr _ _ _ _ => F6
  exact hret _ _ _ _ _ _ [] _ F6 N6 (.head _) .nil

theorem places_spec (w : World) (f : Nat) (t : Tok) (h1 : f ≤ 255) (h4 : (nmsTo f 8).length ≤ 4) (dp un : Nat) (gd : Option (List Code)) (fr : Option (List Env)) (s : Shared) (Q : Value → Shared → Prop)
   (mean : ExcName → Option Value) (mg mb : Str → Option Value) (X : (hd.heap_39 w.params).In s.heap) (T : Top VW LS mean mg mb s.heap) (hdp : dp + 2 < recursionLimit)
   (hret : ∀ (l : Addr) (h' : Heap) (tk : Nat) (dr : Drawn) (m : Str → Option Value) (news : List (Addr × Obj)) (vs : List Value) (c : Nat), Fr s.heap s.heap.objs.size h' m → News s.heap s.heap.objs.size h' news → (l, W.listOf vs.toArray c) ∈ news → IntsAre vs (placesL f) → Q (.ref l) { s with heap := h', toks := tk, drawn := dr }) : wpAny (model PySem.Challenge.rw_wb0017_01.row.prog w) (AR dp un gd fr) (call (.ref 69) [.int (f : Int) t]) Q (fun _ _ => False) s := by
  rcases Nat.eq_zero_or_pos f with rfl | h0
  · exact pl0_spec w t dp un gd fr s Q mean mg mb X T hdp hret
  · exact pl_spec w f t h0 h1 h4 dp un gd fr s Q mean mg mb X T hdp hret

end Mine
end
local macro_rules
  | `(tactic| walk_at "SUB1") => `(tactic| repeat' (first | exact Mine.sub_nil | exact Mine.sub_same | refine Mine.sub_cons ?_ ?_ | refine Mine.sub_skip ?_ | exact List.Mem.head _ | refine List.Mem.tail _ ?_ | assumption))
  | `(tactic| walk_at "SUB") => `(tactic| first | (with_reducible walk_at "SUB1"; done) | (walk_at "SUB1"; done))
local macro_rules | `(tactic| k_all) => `(tactic| assumption)
section
open PySem PySem.W PyProof.Rows PySem.Spec PySem.Calls PyProof.Rows.LCg
set_option maxRecDepth 100000
namespace Mine
noncomputable def chrS (n : Nat) : Str := ⟨#[n]⟩
noncomputable def rowG (ls fs : List Nat) (rp : Str × Int) : List (Str × Int) := (placesL (fs.getD rp.2.toNat 0)).map fun k => (rp.1 ++ ⟨#[ls.getD k.toNat 0]⟩, k)
theorem rowsK_at {ls fs : List Nat} {f1 : Nat} (hlen1 : ∀ p, f1.testBit p = true → p < ls.length) (hll : ls.length = fs.length) (hb2 : ∀ f ∈ fs, ∀ p, f.testBit p = true → p < fs.length) : ∀ {i : Nat} {x : Str} {k : Int}, (x, k) ∈ rowsK ls fs f1 i → ∃ p : Nat, k = (p : Int) ∧ p < fs.length
  | 0, x, k, h => by
    unfold rowsK rows0 at h
    obtain ⟨q, hq, e⟩ := List.mem_map.mp h
    obtain ⟨p, hbit, _⟩ := placesL_nat hq
    cases e
    exact ⟨p, rfl, hll ▸ hlen1 p hbit⟩
  | i + 1, x, k, h => by
    rw [rowsK] at h
    obtain ⟨rp, hrp, h⟩ := List.mem_flatMap.mp h
    obtain ⟨q, hq, e⟩ := List.mem_map.mp h
    obtain ⟨p, hbit, _⟩ := placesL_nat hq
    cases e
    obtain ⟨x', k'⟩ := rp
    obtain ⟨p', rfl, hp'⟩ := rowsK_at hlen1 hll hb2 hrp
    refine ⟨p, rfl, hb2 _ ?_ p hbit⟩
    dsimp only
    rw [Int.toNat_natCast, List.getD_eq_getElem?_getD, getElem?_pos fs p' hp']
    exact List.getElem_mem hp'
theorem rowG_take {ls fs : List Nat} {x : Str} {p q j : Nat} (h : (placesL (fs.getD p 0))[j]? = some (q : Int)) : (rowG ls fs (x, (p : Int))).take (j + 1) = (rowG ls fs (x, (p : Int))).take j ++ [(x ++ ⟨#[ls.getD q 0]⟩, (q : Int))] := by
  unfold rowG
  dsimp only
  rw [Int.toNat_natCast, ← List.map_take, ← List.map_take, List.take_add_one, h, List.map_append]
  rfl
theorem rowsK_txt {ls fs : List Nat} {f1 : Nat} : ∀ {i : Nat} {x : Str} {k : Int}, (x, k) ∈ rowsK ls fs f1 i → x.length = i + 1
  | 0, x, k, h => by
    unfold rowsK rows0 at h
    obtain ⟨q, hq, e⟩ := List.mem_map.mp h
    cases e
    rfl
  | i + 1, x, k, h => by
    rw [rowsK] at h
    obtain ⟨rp, hrp, h⟩ := List.mem_flatMap.mp h
    obtain ⟨q, hq, e⟩ := List.mem_map.mp h
    cases e
    obtain ⟨x', k'⟩ := rp
    have := rowsK_txt hrp
    rw [Str.length_append, this]; rfl
theorem strs_append {us : List Value} {ts : List Str} (h : StrsAre us ts) : ∀ {vs : List Value} {ss : List Str}, StrsAre vs ss → StrsAre (vs ++ us) (ss ++ ts)
  | _, _, .nil => h
  | _, _, .cons a b r => .cons a b (strs_append h r)
theorem any_contains {l : List Int} {k : Int} (h : (l.any fun x => x == k) = true) : l.contains k = true := by
  obtain ⟨x, hx, e⟩ := List.any_eq_true.mp h
  rw [beq_iff_eq] at e; subst e
  exact List.contains_iff_mem.mpr hx
theorem any_not {l : List Int} {k : Int} (h : (l.any fun x => x == k) = false) : l.contains k = false := by
  cases e : l.contains k with
  | false => rfl
  | true =>
    have : (l.any fun x => x == k) = true := List.any_eq_true.mpr ⟨k, List.contains_iff_mem.mp e, beq_self_eq_true _⟩
    rw [h] at this; cases this
theorem take_filt_yes {l : List (Str × Int)} {j : Nat} {x : Str} {k : Int} {g : List Int} (h : l[j]? = some (x, k)) (hg : g.contains k = true) : (l.take (j + 1)).filter (fun rp => g.contains rp.2) = (l.take j).filter (fun rp => g.contains rp.2) ++ [(x, k)] := by
  rw [List.take_add_one, h, List.filter_append]; congr 1; simp only [Option.toList_some, List.filter_cons, hg, if_true, List.filter_nil]
theorem take_filt_no {l : List (Str × Int)} {j : Nat} {x : Str} {k : Int} {g : List Int} (h : l[j]? = some (x, k)) (hg : g.contains k = false) : (l.take (j + 1)).filter (fun rp => g.contains rp.2) = (l.take j).filter (fun rp => g.contains rp.2) := by
  rw [List.take_add_one, h, List.filter_append]; simp only [Option.toList_some, List.filter_cons, hg, Bool.false_eq_true, if_false, List.filter_nil, List.append_nil]
theorem placesL_len (f : Nat) : (placesL f).length ≤ 8 := by
  unfold placesL; rw [List.length_map]; exact Nat.le_trans (List.length_filter_le _ _) (by simp)
theorem flat_len {α β : Type} {g : α → List β} {b : Nat} (h : ∀ a, (g a).length ≤ b) : ∀ l : List α, (l.flatMap g).length ≤ l.length * b
  | [] => by simp
  | a :: r => by
    rw [List.flatMap_cons, List.length_append, List.length_cons, Nat.succ_mul]
    have := h a
    have := flat_len h r
    (with_reducible exact Ln.o388 ‹_› ‹_›)
theorem rowsK_len (ls fs : List Nat) (f1 : Nat) : ∀ i, (rowsK ls fs f1 i).length ≤ 8 ^ (i + 1)
  | 0 => by unfold rowsK rows0; rw [List.length_map]; exact placesL_len f1
  | i + 1 => by
    rw [rowsK, Nat.pow_succ]
    have h1 := rowsK_len ls fs f1 i
    refine Nat.le_trans (flat_len (b := 8) (fun a => by rw [List.length_map]; exact placesL_len _) _) (Nat.mul_le_mul_right 8 h1)
theorem rowsK_len4 {ls fs : List Nat} {f1 i : Nat} (hi : i < 4) : (rowsK ls fs f1 i).length ≤ 4096 :=
  Nat.le_trans (rowsK_len ls fs f1 i) (by
    rcases Nat.lt_or_ge i 1 with h | h
    · rw [show i = 0 by (with_reducible exact Ln.o393 ‹_›)]; decide
    rcases Nat.lt_or_ge i 2 with h | h
    · rw [show i = 1 by (with_reducible exact Ln.o403 ‹_› ‹_›)]; decide
    rcases Nat.lt_or_ge i 3 with h | h
    · rw [show i = 2 by (with_reducible exact Ln.o404 ‹_› ‹_›)]; decide
    rw [show i = 3 by (with_reducible exact Ln.o395 ‹_› ‹_›)]; decide)
theorem takenK_len {ls fs : List Nat} {e : Bool} {f1 f2 : Nat} : ∀ {i : Nat}, i ≤ 4 → (takenK ls fs e f1 f2 i).length ≤ 1 + i * 4096
  | 0, _ => by unfold takenK; split <;> simp
  | i + 1, h => by
    have h1 := takenK_len (ls := ls) (fs := fs) (e := e) (f1 := f1) (f2 := f2) (i := i) (by (with_reducible exact Ln.o408 ‹_›))
    have h3 := List.length_filter_le (fun rp : Str × Int => (placesL f2).contains rp.2) (rowsK ls fs f1 i)
    have h4 := rowsK_len4 (ls := ls) (fs := fs) (f1 := f1) (i := i) (by (with_reducible exact Ln.o405 ‹_›))
    rw [takenK, List.length_append, List.length_map]
    (with_reducible exact Ln.o394 ‹_› ‹_› ‹_›)
inductive In1 (fs : List Nat) (a1 a2 a3 : Addr) (o1 o2 o3 : Obj) (i : Nat) (ys : List Value) : List (Addr × Obj) → Prop
  | mk (tn : List (Addr × Obj)) (c1 : ListsAt tn ys ((fs.take i).map placesL)) (c2 : Off3 a3 a2 a1 tn) : In1 fs a1 a2 a3 o1 o2 o3 i ys ((a1, o1) :: (a2, o2) :: (a3, o3) :: tn)
inductive In2 (l3 Dt l2 D1 a1 a2 a3 : Addr) (O3 Ot O2 O1 o1 o2 o3 : Obj) (tn : List (Addr × Obj)) (R : List (Str × Int)) (ys : List Value) : List (Addr × Obj) → Prop
  | mk (tn2 : List (Addr × Obj)) (c1 : ∀ p ∈ tn, p ∈ tn2) (c2 : PairsAt tn2 ys R) (c3 : ∀ p ∈ tn2, p.1 ≠ Dt) : In2 l3 Dt l2 D1 a1 a2 a3 O3 Ot O2 O1 o1 o2 o3 tn R ys ((l3, O3) :: (Dt, Ot) :: (l2, O2) :: (D1, O1) :: (a1, o1) :: (a2, o2) :: (a3, o3) :: tn2)
inductive In3 (Dt l2 D1 a1 a2 a3 : Addr) (O2 O1 o1 o2 o3 : Obj) (tn : List (Addr × Obj)) (mc : Str → Option Value) (R : List (Str × Int)) (K : List Str) : (Str → Option Value) → List (Addr × Obj) → Prop
  | mk (Dr : Addr) (zs : List Value) (ct : Nat) (vt : List Value) (tn3 : List (Addr × Obj)) (u : Option Value) (c1 : ∀ p ∈ tn, p ∈ tn3) (c2 : PairsAt tn3 zs R) (c3 : StrsAre vt K) (c4 : ∀ p ∈ tn3, p.1 ≠ Dt) (c5 : @Ne Nat Dr Dt) :
    In3 Dt l2 D1 a1 a2 a3 O2 O1 o1 o2 o3 tn mc R K (ovr [(Str.ofString "rows", some (.ref Dr)), (Str.ofString "taken", some (.ref Dt)), (Str.ofString "length", u)] mc) ((Dr, lst zs) :: (Dt, W.listOf vt.toArray ct) :: (l2, O2) :: (D1, O1) :: (a1, o1) :: (a2, o2) :: (a3, o3) :: tn3)
theorem In3.of {Dt l2 D1 a1 a2 a3 : Addr} {O2 O1 o1 o2 o3 : Obj} {tn : List (Addr × Obj)} {mc mm : Str → Option Value} {R : List (Str × Int)} {K : List Str} (Dr : Addr) (zs : List Value) (ct : Nat) (vt : List Value) (tn3 : List (Addr × Obj)) (u : Option Value) (e : mm = ovr [(Str.ofString "rows", some (.ref Dr)), (Str.ofString "taken", some (.ref Dt)), (Str.ofString "length", u)] mc)
    (c1 : ∀ p ∈ tn, p ∈ tn3) (c2 : PairsAt tn3 zs R) (c3 : StrsAre vt K) (c4 : ∀ p ∈ tn3, p.1 ≠ Dt) (c5 : @Ne Nat Dr Dt) : In3 Dt l2 D1 a1 a2 a3 O2 O1 o1 o2 o3 tn mc R K mm ((Dr, lst zs) :: (Dt, W.listOf vt.toArray ct) :: (l2, O2) :: (D1, O1) :: (a1, o1) :: (a2, o2) :: (a3, o3) :: tn3) :=
  e ▸ .mk Dr zs ct vt tn3 u c1 c2 c3 c4 c5
inductive In4 (I Dr Dt l2 D1 a1 a2 a3 : Addr) (oI Or Ot O2 O1 o1 o2 o3 : Obj) (tn3 : List (Addr × Obj)) (R : List (Str × Int)) (zr : List Value) : List (Addr × Obj) → Prop
  | mk (tn4 : List (Addr × Obj)) (c1 : ∀ p ∈ tn3, p ∈ tn4) (c2 : PairsAt tn4 zr R) (c3 : ∀ p ∈ tn4, p.1 ≠ Dt) (c4 : ∀ p ∈ tn4, p.1 ≠ I) : In4 I Dr Dt l2 D1 a1 a2 a3 oI Or Ot O2 O1 o1 o2 o3 tn3 R zr ((I, oI) :: (Dr, Or) :: (Dt, Ot) :: (l2, O2) :: (D1, O1) :: (a1, o1) :: (a2, o2) :: (a3, o3) :: tn4)
section
local macro_rules | `(tactic| walk_at "exec Assign cons ListComp") => `(tactic| ((show wpAny _ _ (exec (Stmt.Assign [PySem.Expr.Name (PySem.Str.ofString "rows") _] _ _) _) _ _ _); refine StopHere.in ?_))
local macro_rules | `(tactic| walk_at $k) => if "eval IfExp".splitOn "|" |>.contains k.getString then `(tactic| (refine StopHere.in ?_)) else throw .unsupportedSyntax
local macro_rules | `(tactic| walk_at "eval ListComp") => `(tactic| ((show wpAny _ _ (eval (PySem.Expr.ListComp _ [⟨PySem.Expr.Tuple _ _ _, _, _, _⟩] _ _) _) _ _ _); k_dflt (refine compT (by k_asm) (by with_unfolding_all rfl) (by decide) (by rfl) (by decide) ?_)))

set_option maxHeartbeats 8000000 in
theorem ta_spec (w : World) (a b d : Addr) (va vb : List Value) (ls fs : List Nat) (e : Bool) (f1 f2 : Nat) (t1 t2 : Tok) (hfs : ∀ f ∈ fs, f ≤ 255 ∧ (nmsTo f 8).length ≤ 4) (hfl : fs.length ≤ 8) (hlen1 : ∀ p, f1.testBit p = true → p < ls.length) (hll : ls.length = fs.length) (hb2 : ∀ f ∈ fs, ∀ p, f.testBit p = true → p < fs.length) (hls : ∀ n ∈ ls, n < 128) (htk : (takenK ls fs e f1 f2 4).length + 1 < 4096) (hf1 : f1 ≤ 255 ∧ (nmsTo f1 8).length ≤ 4) (hf2 : f2 ≤ 255 ∧ (nmsTo f2 8).length ≤ 4) (dp un : Nat) (gd : Option (List Code)) (fr : Option (List Env)) (s : Shared) (Q : Value → Shared → Prop)
   (mean : ExcName → Option Value) (mg mb : Str → Option Value) (X : (hd.heap_39 w.params).In s.heap) (T : Top VW LS mean mg mb s.heap) (ha : s.heap.IsList a va.toArray) (hb : s.heap.IsList b vb.toArray) (ia : IntsAre va (ls.map Int.ofNat)) (ib : IntsAre vb (fs.map Int.ofNat)) (hd' : s.heap.IsTuple d #[.bool e, .int (f1 : Int) t1, .int (f2 : Int) t2])
   (hdp : dp + 4 < recursionLimit)
   (hret : ∀ (l : Addr) (h' : Heap) (tk : Nat) (dr : Drawn) (m : Str → Option Value) (news : List (Addr × Obj)) (vs : List Value) (c : Nat) (R : List Str), Fr s.heap s.heap.objs.size h' m → News s.heap s.heap.objs.size h' news → (l, W.listOf vs.toArray c) ∈ news → StrsAre vs R → sortedS R = true → R.Nodup → (∀ k, k ∈ R ↔ k ∈ takenK ls fs e f1 f2 4) → Q (.ref l) { s with heap := h', toks := tk, drawn := dr }) :
   wpAny (model PySem.Challenge.rw_wb0017_01.row.prog w) (AR dp un gd fr) (call (.ref 79) [.ref a, .ref b, .ref d]) Q (fun _ _ => False) s := by
  w_on
  have hfill : (PySem.Challenge.rw_wb0017_01 = PySem.Challenge.rw_wb0017_01) ∧ (hd.heap_39 = hd.heap_39) := by k_fill; exact ⟨rfl, rfl⟩
  
  w_strict (k_dflt (refine' enterPC (binds := [(Str.ofString "letters", .ref a), (Str.ofString "follow", .ref b), (Str.ofString "whole", .ref d)]) ?k3 ?k5 ?k6 ?k7 ?k8 ?k9 ?kB ?kD ?_ ?c2 ?c3 ?c4; (case k3 => assumption); (case k5 => assumption); (case k6 => k_is); (case k7 => k_is); (case k8 => (with_reducible exact Ln.o390 ‹_›)); (case k9 => exact BindsTo.of_eq rfl); (case kB => exact rfl); (case kD => decide +kernel); (case c2 => exact rfl); (case c3 => exact rfl); (case c4 => exact rfl)))
  intro h₁ tk cells F N Y
  k_cells Y
  w_strict (k_steps)
  rename Fr _ _ _ _ => F1
  rename News _ _ _ _ => N1
  rename_i o1 o2 o3 _ _ _ _ _ _ _
  refine' ⟨b, vb.toArray, _, fun i ys nw => In1 fs (s.heap.objs.size + 1 + 1 + 1) (s.heap.objs.size + 1 + 1) (s.heap.objs.size + 1) o1 o2 o3 i ys nw, rfl, rfl, F1, N1, ?g1, ⟨[], .nil, trivial⟩, ?g2, ?g3, ?g4⟩
  case g1 => have := ib.length; rw [List.size_toArray, this, List.length_map, sizeLine_eq]; (with_reducible exact Ln.o410 ‹_›)
  case g2 =>
    rintro i ys nw ⟨tn, hL, _⟩
    refine ⟨.inl hb, ?_⟩
    rw [hL.length, List.length_map, List.length_take]; exact Nat.min_le_left _ _
  case g3 =>
    rintro i v I oI C oC D m₂ h tk dr ys nw hv ⟨tn, hL, hoff⟩ hC hm2 F2 N2 off hne
    obtain ⟨f, tf, hf⟩ := nats_item ib (i := i) (by simpa using hv)
    have hfb := hfs f (List.mem_of_getElem? hf)
    clear F1 N1
    w_strict (k_steps)
    rename Fr _ _ _ _ => F3
    rename News _ _ _ _ => N3
    refine' places_spec w f tf hfb.1 hfb.2 _ _ _ _ _ _ _ _ _ ?cX ?cT ?cd ?cr
    case cX => exact X.keeps F3.keep
    case cT => exact T.keeps F3.keep
    case cd => show dp + 1 + 2 < _; (with_reducible exact Ln.o391 ‹_›)
    intro l h' tk' dr' m' news' vs c F5 N5 hl hA
    have F4 := FrUp F3 F5
    have N4 := NewsUp1 F3 N3 F5 N5 hl
    have nf := new_off N3 N5 hl
    refine Made.mk' F4 (News.sub N4 (fun p hp => ?_)) (off3_add (pre := [_, _, _]) off ⟨nf _ (.head _), nf _ (.tail _ (.head _)), nf _ (.tail _ (.tail _ (.head _)))⟩) ⟨(l, W.listOf vs.toArray c) :: tn, ?_, ?_⟩
    · simp only [List.cons_append, List.nil_append, List.mem_cons] at hp ⊢
      rcases hp with hp | hp | hp | hp | hp | hp | hp | hp <;> simp [hp]
    · rw [List.take_add_one, hf, List.map_append]
      exact (hL.mono fun p hp => .tail _ hp).snoc (.head _) hA
    · exact off3_add (pre := []) hoff ⟨nf _ (.tail _ (.tail _ (.tail _ (.tail _ (.tail _ (.head _)))))), nf _ (.tail _ (.tail _ (.tail _ (.tail _ (.head _))))), nf _ (.tail _ (.tail _ (.tail _ (.head _))))⟩
  case g4 =>
    rintro D1 h tk dr ys nw F2 N2 hD1 ⟨tn, hL, hoff⟩
    clear F1 N1
    have e1 : vb.toArray.size = fs.length := by have := ib.length; rw [List.size_toArray, this, List.length_map]
    rw [e1, List.take_length] at hL
    have r1 : @Ne Nat (s.heap.objs.size + 1 + 1 + 1) D1 := hD1 _ (.head _)
    have r2 : @Ne Nat (s.heap.objs.size + 1 + 1) D1 := hD1 _ (.tail _ (.head _))
    have r3 : @Ne Nat (s.heap.objs.size + 1) D1 := hD1 _ (.tail _ (.tail _ (.head _)))
    have hoffm := hoff.mem
    have q1 : ∀ p ∈ tn, p.1 ≠ s.heap.objs.size + 1 := fun p hp => (hoffm p hp).1
    have q2 : ∀ p ∈ tn, p.1 ≠ s.heap.objs.size + 1 + 1 := fun p hp => (hoffm p hp).2.1
    have q3 : ∀ p ∈ tn, p.1 ≠ s.heap.objs.size + 1 + 1 + 1 := fun p hp => (hoffm p hp).2.2
    w_strict (k_steps)
    rename Fr _ _ _ _ => F3
    rename News _ _ _ _ => N3
    rename_i oN dN
    refine' places_spec w f2 t2 hf2.1 hf2.2 _ _ _ _ _ _ _ _ _ ?cX2 ?cT2 ?cd2 ?cr2
    case cX2 => exact X.keeps F3.keep
    case cT2 => exact T.keeps F3.keep
    case cd2 => show dp + 1 + 2 < _; (with_reducible exact Ln.o391 ‹_›)
    intro l2 h' tk' dr' m' news' vs2 c2 F5 N5 hl2 hA2
    have F4 := FrUp F3 F5
    have N4 := NewsUp1 F3 N3 F5 N5 hl2
    have nf := new_off N3 N5 hl2
    first | refine off4 nf ?_ | refine ltt4 nf ?_
    intro nf1 nf2 nf3 nf4 nft
    clear F3 N3 F5 N5
    w_strict (k_steps)
    refine StopHere.out ?_
    rename Fr _ _ _ _ => F6
    rename News _ _ _ _ => N6
    rename_i oE dE
    refine join_made (if e = true then [Str.empty] else []) F6 N6 (fun Q' hq => ?_) ?_
    · refine wpAny_IfExp ?_
      cases e with
      | true =>
        w_strict (k_steps)
        rename Fr _ _ _ _ => F8
        rename News _ _ _ _ => N8
        exact hq _ _ _ [_] _ F8 N8 ‹_› (.cons _ _ .nil)
      | false =>
        w_strict (k_steps)
        rename Fr _ _ _ _ => F8
        rename News _ _ _ _ => N8
        exact hq _ _ _ [] _ F8 N8 ‹_› .nil
    intro Dt h7 tk7 vt ct F7 N7 hlt7 hvt
    clear F6 N6
    have hltm := allLt_mem hlt7
    have u0 : ∀ p ∈ tn, p.1 ≠ Dt := fun p hp => Nat.ne_of_lt (hltm p (.tail _ (.tail _ (.tail _ (.tail _ (.tail _ hp))))))
    simp only [AllLt] at hlt7
    w_strict (k_steps)
    refine StopHere.out ?_
    rename Fr _ _ _ _ => F8
    rename News _ _ _ _ => N8
    refine compTA F8 rfl (by with_unfolding_all rfl) rfl rfl (by with_unfolding_all rfl) (by decide) (by rfl) (by decide) ?_
    w_strict (k_steps)
    rename Fr _ _ _ _ => F9
    rename News _ _ _ _ => N9
    refine' places_spec w f1 t1 hf1.1 hf1.2 _ _ _ _ _ _ _ _ _ ?cX3 ?cT3 ?cd3 ?cr3
    case cX3 => exact X.keeps F9.keep
    case cT3 => exact T.keeps F9.keep
    case cd3 => show dp + 1 + 2 < _; (with_reducible exact Ln.o391 ‹_›)
    intro l3 h' tk' dr' m' news' vs3 c3 F5 N5 hl3 hA3
    have Fa := FrUp F9 F5
    have Na := NewsUp1 F9 N9 F5 N5 hl3
    have nf3 := new_off N9 N5 hl3
    first | refine off6 nf3 ?_ | refine ltt6 nf3 ?_
    intro ng0 ng1 ng2 ng3 ng4 ng5 ngt
    clear F9 N9 F5 N5
    refine ⟨l3, vs3.toArray, _, fun i zs nw => In2 l3 Dt l2 D1 (s.heap.objs.size + 1 + 1 + 1) (s.heap.objs.size + 1 + 1) (s.heap.objs.size + 1) (W.listOf vs3.toArray c3) (W.listOf vt.toArray ct) (W.listOf vs2.toArray c2) (lst ys) _ _ _ tn (((placesL f1).take i).map fun p => (chrS (ls.getD p.toNat 0), p)) zs nw, rfl, rfl, Fa, Na, ⟨tn, fun _ h => h, .nil, u0⟩, ?_, ?_, ?_⟩
    · rintro i zs nw ⟨tn2, _, hP, _⟩
      refine ⟨.inr ⟨_, .head _, rfl, _, rfl⟩, ?_⟩
      rw [hP.length, List.length_map, sizeLine_eq]
      have h1 : ((placesL f1).take i).length ≤ (placesL f1).length := by rw [List.length_take]; exact Nat.min_le_right _ _
      have h2 : (placesL f1).length ≤ 8 := by unfold placesL; rw [List.length_map]; exact Nat.le_trans (List.length_filter_le _ _) (by simp)
      (with_reducible exact Ln.o402 ‹_› ‹_›)
    · rintro i v zs nw hv ⟨tn2, hsub, hP, hoffD⟩
      obtain ⟨k, tk0, hk⟩ := ints_item hA3 (i := i) (by simpa using hv)
      obtain ⟨p, hbit, hp8⟩ := placesL_nat (List.mem_of_getElem? hk)
      have hpl := hlen1 p hbit
      refine ⟨_, takesName (by rfl) (by rfl), ?_⟩
      intro I oI C oC D m₂ h tk dr hC F2 N2 off hne
      have hm5 : (fun y => if y = Str.ofString "place" then some (Value.int (p : Int) tk0) else m₂ y) (Str.ofString "place") = some (Value.int (p : Int) tk0) := rfl
      refine wpAny_tests_nil ?_
      rw [if_pos rfl]
      w_strict (k_steps)
      have hx : (List.map Int.ofNat ls).getD (p : Int).toNat 0 = ((ls.getD p 0 : Nat) : Int) := by
        rw [Int.toNat_natCast, List.getD_eq_getElem?_getD, List.getElem?_map, List.getD_eq_getElem?_getD, getElem?_pos ls p hpl]; rfl
      have hxb : ls.getD p 0 < 128 := by rw [List.getD_eq_getElem?_getD, getElem?_pos ls p hpl]; exact hls _ (List.getElem_mem hpl)
      rw [hx]
      refine chr_of_range (Int.natCast_nonneg _) (by (with_reducible exact Ln.o396 ‹_›)) ?_
      rw [Int.toNat_natCast]
      w_strict (k_steps)
      rename Fr _ _ _ _ => Fb
      rename_i Nb hlT
      refine and6 hlT ?_
      intro g1 g2 g3 g4 g5 _
      have hnD := Nat.ne_of_gt g5
      refine Made.new (pre := [_, _, _, _, _, _, _]) Fb Nb off ⟨Nat.ne_of_lt g1, Nat.ne_of_lt g2, Nat.ne_of_lt g3⟩ ⟨_ :: tn2, fun q hq => .tail _ (hsub q hq), ?_, ?_⟩
      · rw [List.take_add_one, hk, List.map_append]
        exact (hP.mono fun q hq => .tail _ hq).snoc (.head _) rfl ⟨_, rfl⟩
      · intro q hq
        rcases List.mem_cons.mp hq with rfl | hq
        · exact hnD
        · exact hoffD q hq
    · rintro D9 h tk dr zs nw Fc Nc hD9 ⟨tn2, hsub, hP, hoffD⟩
      have e3 : vs3.toArray.size = (placesL f1).length := by rw [List.size_toArray]; exact hA3.length
      rw [e3, List.take_length] at hP
      obtain ⟨mc, hmc, Fd⟩ := Fr_named Fc
      clear Fc
      w_strict (k_steps)
      rename IsRange _ _ _ _ _ _ _ _ => hR
      rename Fr _ _ _ _ => Fq
      rename News _ _ _ _ => Nq
      have q9 : @Ne Nat D9 Dt := Ne.symm (hD9 _ (.tail _ (.head _)))
      refine forK_rangeN (n := 4) rfl (fun i mm nw => In3 Dt l2 D1 (s.heap.objs.size + 1 + 1 + 1) (s.heap.objs.size + 1 + 1) (s.heap.objs.size + 1) (W.listOf vs2.toArray c2) (lst ys) oE oN o3 tn mc (rowsK ls fs f1 i) (takenK ls fs e f1 f2 i) mm nw) hR (by decide) Fq (News.sub (news' := (D9, lst zs) :: (Dt, W.listOf vt.toArray ct) :: (l2, W.listOf vs2.toArray c2) :: (D1, lst ys) :: (s.heap.objs.size + 1 + 1 + 1, oE) :: (s.heap.objs.size + 1 + 1, oN) :: (s.heap.objs.size + 1, o3) :: tn2) Nq ?_) (In3.of D9 zs ct vt tn2 (mc (Str.ofString "length")) ?_ hsub hP hvt hoffD q9) ?_ ?_
      · intro p hp
        revert p; walk_at "SUB"
      · exact ovr_of (fa_cons (by show mc _ = _; rw [hmc]; rfl) (fa_cons (by show mc _ = _; rw [hmc]; rfl) (fa_cons rfl fa_nil))) (fun _ _ => rfl)
      · rintro R' I i tI h tk dr mm nw oI hIs hi ⟨Dr, zs3, ct3, vt3, tn3, u, hsub3, hP3, hT3, hoff3, hDrt⟩ hnI F2 N2
        first | refine off7 hnI ?_ | refine ltt7 hnI ?_
        intro i1 i2 i3 i4 i5 i6 i7 i8
        w_strict (k_steps)
        rename Fr _ _ _ _ => F3
        rename News _ _ _ _ => N3
        have x1 : @Ne Nat l2 Dt := Nat.ne_of_lt (hltm _ (.head _))
        have x2 : @Ne Nat D1 Dt := Nat.ne_of_lt (hltm _ (.tail _ (.head _)))
        have x3 : @Ne Nat (s.heap.objs.size + 1 + 1 + 1) Dt := Nat.ne_of_lt (hltm _ (.tail _ (.tail _ (.head _))))
        have x4 : @Ne Nat (s.heap.objs.size + 1 + 1) Dt := Nat.ne_of_lt (hltm _ (.tail _ (.tail _ (.tail _ (.head _)))))
        have x5 : @Ne Nat (s.heap.objs.size + 1) Dt := Nat.ne_of_lt (hltm _ (.tail _ (.tail _ (.tail _ (.tail _ (.head _))))))
        refine ⟨Dr, zs3.toArray, _, fun j zz nw => InE ((I, oI) :: (Dr, lst zs3) :: (Dt, W.listOf vt3.toArray ct3) :: (l2, W.listOf vs2.toArray c2) :: (D1, lst ys) :: (s.heap.objs.size + 1 + 1 + 1, oE) :: (s.heap.objs.size + 1 + 1, oN) :: (s.heap.objs.size + 1, o3) :: tn3) (StrsAre zz ((((rowsK ls fs f1 i).take j).filter fun rp => (placesL f2).contains rp.2).map (·.1))) nw, rfl, rfl, F3, N3, ⟨.nil⟩, ?_, ?_, ?_⟩
        · rintro j zz nw ⟨hzz⟩
          refine ⟨.inr ⟨_, .tail _ (.head _), rfl, _, rfl⟩, ?_⟩
          rw [hzz.length, List.length_map, sizeLine_eq]
          have h1 := List.length_filter_le (fun rp : Str × Int => (placesL f2).contains rp.2) ((rowsK ls fs f1 i).take j)
          have h2 : ((rowsK ls fs f1 i).take j).length ≤ (rowsK ls fs f1 i).length := by rw [List.length_take]; exact Nat.min_le_right _ _
          have h3 := rowsK_len4 (ls := ls) (fs := fs) (f1 := f1) hi
          (with_reducible exact Ln.o400 ‹_› ‹_› ‹_›)
        · rintro j v zz nw hv ⟨hzz⟩
          obtain ⟨T', oT, x, k, tx, uk, hTm, hTc, hTd, hTg⟩ := hP3.get (by simpa using hv)
          refine ⟨_, takesPair rfl (by rfl) (by rfl) (by rfl) (.tail _ (.tail _ (.tail _ (.tail _ (.tail _ (.tail _ (.tail _ (.tail _ hTm)))))))) hTc hTd, ?_⟩
          intro I9 oI9 C oC D m₂ h tk dr hC F4 N4 off hne
          clear F3 N3
          replace hC : NsObj oC (fun z => if z = Str.ofString "place" then some (Value.int k uk) else if z = Str.ofString "row" then some (Value.str x tx) else m₂ z) := hC
          have hmp : (fun z => if z = Str.ofString "place" then some (Value.int k uk) else if z = Str.ofString "row" then some (Value.str x tx) else m₂ z) (Str.ofString "place") = some (Value.int k uk) := rfl
          have hmr : (fun z => if z = Str.ofString "place" then some (Value.int k uk) else if z = Str.ofString "row" then some (Value.str x tx) else m₂ z) (Str.ofString "row") = some (Value.str x tx) := rfl
          refine wpAny_tests_one ?_
          w_strict (k_steps)
          · rename List.any _ _ = true => hyes
            refine Made.mk' F4 N4 off ⟨?_⟩
            rw [take_filt_yes hTg (any_contains hyes), List.map_append]
            exact strs_snoc hzz
          all_goals (try rename List.any _ _ = false => hno)
          all_goals first | exact F4 | exact N4 | exact off | (rw [take_filt_no hTg (any_not hno)]; exact ⟨hzz⟩)
        · rintro D8 h tk dr zz nw F4 N4 hD8 ⟨hzz⟩
          have e8 : zs3.toArray.size = (rowsK ls fs f1 i).length := by rw [List.size_toArray]; exact hP3.length
          rw [e8, List.take_length] at hzz
          have hl8 := hzz.length
          first | refine off8 hD8 ?_ | refine ltt8 hD8 ?_
          intro j0 j1 j2 j3 j4 j5 j6 j7 j8
          clear F3 N3
          w_strict (k_steps)
          rename Fr _ _ _ _ => F5
          rename News _ _ _ _ => N5
          refine extend_in (D := Dt) (b := D8) (ys := vt3) (n := ct3) (its2 := zz.toArray) (own := [(D8, lst zz), (I, oI), (Dr, lst zs3)]) (rest := (l2, W.listOf vs2.toArray c2) :: (D1, lst ys) :: (s.heap.objs.size + 1 + 1 + 1, oE) :: (s.heap.objs.size + 1 + 1, oN) :: (s.heap.objs.size + 1, o3) :: tn3) F5 N5 ?gx1 ?gx2 (N5 _ (.head _)).1 (hsz := ?gx3) ?gx4
          case gx1 =>
            intro p hp
            simp only [List.mem_cons, List.not_mem_nil, or_false] at hp
            rcases hp with rfl | rfl | rfl
            · exact Ne.symm j2
            · exact Ne.symm i2
            · exact hDrt
          case gx2 =>
            intro p hp
            simp only [List.mem_cons] at hp
            rcases hp with rfl | rfl | rfl | rfl | rfl | hp
            · exact x1
            · exact x2
            · exact x3
            · exact x4
            · exact x5
            · exact hoff3 p hp
          case gx3 =>
            have h1 := takenK_len (ls := ls) (fs := fs) (e := e) (f1 := f1) (f2 := f2) (Nat.le_of_lt hi)
            have h2 := hT3.length
            have h3 := List.length_filter_le (fun rp : Str × Int => (placesL f2).contains rp.2) (rowsK ls fs f1 i)
            have h4 := rowsK_len4 (ls := ls) (fs := fs) (f1 := f1) hi
            rw [List.length_map] at hl8
            rw [sizeLine_eq, List.size_toArray]
            (with_reducible exact Ln.o407 ‹_› ‹_› ‹_› ‹_› ‹_› ‹_›)
          intro h' n' F6 N6
          clear F5 N5
          w_strict (k_steps)
          refine StopHere.out ?_
          rename Fr _ _ _ _ => F5
          rename News _ _ _ _ => N5
          refine comp2A F5 rfl (by with_unfolding_all rfl) rfl rfl (by with_unfolding_all rfl) (by decide) (by rfl) (by decide) (by rfl) ?_
          w_strict (k_steps)
          have N6 := News.sub (news' := (I, oI) :: (Dr, lst zs3) :: (Dt, W.listOf (vt3 ++ zz).toArray n') :: (l2, W.listOf vs2.toArray c2) :: (D1, lst ys) :: (s.heap.objs.size + 1 + 1 + 1, oE) :: (s.heap.objs.size + 1 + 1, oN) :: (s.heap.objs.size + 1, o3) :: tn3) N5 (fun p hp => by
            simp only [List.mem_cons, List.mem_append, List.cons_append, List.nil_append] at hp ⊢
            rcases hp with hp | hp | hp | hp | hp | hp | hp | hp | hp <;> simp [hp])
          refine ⟨Dr, zs3.toArray, _, fun j zr nw => In4 I Dr Dt l2 D1 (s.heap.objs.size + 1 + 1 + 1) (s.heap.objs.size + 1 + 1) (s.heap.objs.size + 1) oI (lst zs3) (W.listOf (vt3 ++ zz).toArray n') (W.listOf vs2.toArray c2) (lst ys) oE oN o3 tn3 (((rowsK ls fs f1 i).take j).flatMap (rowG ls fs)) zr nw, rfl, rfl, F5, N6, ⟨tn3, fun _ h => h, .nil, hoff3, i8⟩, ?_, ?_, ?_⟩
          · rintro j zr nw ⟨tn4, _⟩
            exact .inr ⟨_, .tail _ (.head _), rfl, _, rfl⟩
          · rintro j v zr nw hv ⟨tn4, hsub4, hP4, hoff4, hofI⟩
            obtain ⟨T', oT, x, k, tx, uk, hTm, hTc, hTd, hTg⟩ := hP3.get (by simpa using hv)
            obtain ⟨kp, rfl, hkp⟩ := rowsK_at hlen1 hll hb2 (List.mem_of_getElem? hTg)
            refine ⟨_, takesPair rfl (by rfl) (by rfl) (by rfl) (.tail _ (.tail _ (.tail _ (.tail _ (.tail _ (.tail _ (.tail _ (.tail _ (hsub4 _ hTm))))))))) hTc hTd, ?_⟩
            intro I9 oI9 C oC D m₂ h tk dr hC F4 N4 off hne
            clear F5 N5 N6
            replace hC : NsObj oC (fun z => if z = Str.ofString "place" then some (Value.int (kp : Int) uk) else if z = Str.ofString "row" then some (Value.str x tx) else m₂ z) := hC
            have hmp : (fun z => if z = Str.ofString "place" then some (Value.int (kp : Int) uk) else if z = Str.ofString "row" then some (Value.str x tx) else m₂ z) (Str.ofString "place") = some (Value.int (kp : Int) uk) := rfl
            have hmr : (fun z => if z = Str.ofString "place" then some (Value.int (kp : Int) uk) else if z = Str.ofString "row" then some (Value.str x tx) else m₂ z) (Str.ofString "row") = some (Value.str x tx) := rfl
            obtain ⟨D5, vs5, c5, hy5, hm5, hA5⟩ := hL.get (i := kp) (by rw [List.getElem?_map, getElem?_pos fs kp hkp]; rfl)
            w_strict (k_steps)
            refine item_list (items := ys.toArray) ⟨_, (N4 _ (.tail _ (.tail _ (.tail _ (.tail _ (.tail _ (.tail _ (.tail _ (.head _)))))))) ).1, rfl, _, rfl⟩ (Int.natCast_nonneg _) (by (with_reducible exact Ln.o409 ‹_› ‹_›)) (x := .ref D5) (by rw [Int.toNat_natCast]; simpa using hy5) ?_
            have hxl5 : (placesL (fs.getD kp 0)) = placesL fs[kp] := by rw [List.getD_eq_getElem?_getD, getElem?_pos fs kp hkp]; rfl
            refine ⟨D5, vs5.toArray, _, oC, _, _, _, fun kk zr nw => In4 I Dr Dt l2 D1 (s.heap.objs.size + 1 + 1 + 1) (s.heap.objs.size + 1 + 1) (s.heap.objs.size + 1) oI (lst zs3) (W.listOf (vt3 ++ zz).toArray n') (W.listOf vs2.toArray c2) (lst ys) oE oN o3 tn3 (((rowsK ls fs f1 i).take j).flatMap (rowG ls fs) ++ (rowG ls fs (x, (kp : Int))).take kk) zr nw, rfl, rfl, F4, hC, N4, off, ⟨tn4, hsub4, by simpa using hP4, hoff4, hofI⟩, ?_, ?_, ?_⟩
            · rintro kk zr nw ⟨tn5, hsub5, hP5, _⟩
              refine ⟨.inr ⟨_, .tail _ (.tail _ (.tail _ (.tail _ (.tail _ (.tail _ (.tail _ (.tail _ (hsub5 _ (hsub3 _ hm5))))))))), rfl, _, rfl⟩, .inr ⟨_, .tail _ (.head _), rfl, _, rfl⟩, ?_⟩
              rw [hP5.length, sizeLine_eq, List.length_append]
              have h1 : ((rowsK ls fs f1 i).take j).length ≤ (rowsK ls fs f1 i).length := by rw [List.length_take]; exact Nat.min_le_right _ _
              have h2 := flat_len (b := 8) (g := rowG ls fs) (fun a => by unfold rowG; rw [List.length_map]; exact placesL_len _) ((rowsK ls fs f1 i).take j)
              have h3 := rowsK_len4 (ls := ls) (fs := fs) (f1 := f1) hi
              have h4 : ((rowG ls fs (x, (kp : Int))).take kk).length ≤ 8 := by
                rw [List.length_take]; refine Nat.le_trans (Nat.min_le_right _ _) ?_
                unfold rowG; rw [List.length_map]; exact placesL_len _
              (with_reducible exact Ln.o399 ‹_› ‹_› ‹_› ‹_›)
            · rintro kk v I8 oI8 oC8 m₃ h tk dr zr nw hv5 ⟨tn5, hsub5, hP5, hoff5, hof5⟩ hC8 hmk hmo F8 N8 off8 off9
              obtain ⟨q, tq, hq⟩ := ints_item hA5 (i := kk) (by simpa using hv5)
              obtain ⟨qq, hqb, hq8⟩ := placesL_nat (List.mem_of_getElem? hq)
              have hql : qq < ls.length := by rw [hll]; exact hb2 _ (List.getElem_mem hkp) _ hqb
              have hmr8 : m₃ (Str.ofString "row") = some (Value.str x tx) := (hmo _ (by decide)).trans rfl
              clear F4 N4 hC
              refine wpAny_tests_nil ?_
              rw [if_pos rfl]
              w_strict (k_steps)
              have hx : (List.map Int.ofNat ls).getD (qq : Int).toNat 0 = ((ls.getD qq 0 : Nat) : Int) := by
                rw [Int.toNat_natCast, List.getD_eq_getElem?_getD, List.getElem?_map, List.getD_eq_getElem?_getD, getElem?_pos ls qq hql]; rfl
              have hxb : ls.getD qq 0 < 128 := by rw [List.getD_eq_getElem?_getD, getElem?_pos ls qq hql]; exact hls _ (List.getElem_mem hql)
              have hxlen := rowsK_txt (List.mem_of_getElem? hTg)
              rw [hx]
              refine chr_of_range (Int.natCast_nonneg _) (by (with_reducible exact Ln.o396 ‹_›)) ?_
              rw [Int.toNat_natCast]
              w_strict (k_steps)
              rename Fr _ _ _ _ => Fb
              rename_i Nb hlT
              refine and8 hlT ?_
              intro g1 g2 g3 g4 g5 g6 g7 _
              refine Made.new (pre := [_, _, _, _, _, _, _, _, _]) Fb Nb off8 ⟨Nat.ne_of_lt g1, Nat.ne_of_lt g2, Nat.ne_of_lt g3⟩ ⟨_, rfl, ⟨_ :: tn5, fun q hq => .tail _ (hsub5 q hq), ?_, ?_, ?_⟩, off3_add (pre := [_, _, _, _, _, _, _, _]) off9 ⟨Nat.ne_of_lt g4, Nat.ne_of_lt g2, Nat.ne_of_lt g3⟩⟩
              · rw [rowG_take (x := x) (p := kp) (q := qq) (by rw [hxl5]; exact hq), ← List.append_assoc]
                exact (hP5.mono fun q hq => .tail _ hq).snoc (.head _) rfl ⟨_, rfl⟩
              · intro q hq
                rcases List.mem_cons.mp hq with rfl | hq
                · exact Nat.ne_of_gt g7
                · exact hoff5 q hq
              · intro q hq
                rcases List.mem_cons.mp hq with rfl | hq
                · exact Nat.ne_of_gt g5
                · exact hof5 q hq
            · rintro zr nw ⟨tn5, hsub5, hP5, hoff5, hof5⟩ _
              refine ⟨tn5, hsub5, ?_, hoff5, hof5⟩
              have e5 : vs5.toArray.size = (rowG ls fs (x, (kp : Int))).length := by
                rw [List.size_toArray, hA5.length]; unfold rowG; rw [List.length_map, Int.toNat_natCast, hxl5]
              rw [e5, List.take_length] at hP5
              rw [List.take_add_one, hTg, List.flatMap_append]
              simpa using hP5
          · rintro D10 h tk dr zr nw F7 N7 hD10 ⟨tn5, hsub5, hP5, hoff5, hof5⟩
            have e10 : zs3.toArray.size = (rowsK ls fs f1 i).length := by rw [List.size_toArray]; exact hP3.length
            rw [e10, List.take_length] at hP5
            clear F5 N5 N6
            w_strict (k_steps)
            first | refine off8 hD10 ?_ | refine ltt8 hD10 ?_
            intro k0 k1 k2 k3 k4 k5 k6 k7 k8
            refine ForPost.next (news' := (D10, lst zr) :: (Dt, W.listOf (vt3 ++ zz).toArray n') :: (l2, W.listOf vs2.toArray c2) :: (D1, lst ys) :: (s.heap.objs.size + 1 + 1 + 1, oE) :: (s.heap.objs.size + 1 + 1, oN) :: (s.heap.objs.size + 1, o3) :: tn5) F7 N7 (.tail _ (.head _)) ?_ ?_ (In3.of D10 zr n' (vt3 ++ zz) tn5 (some (Value.int (i : Int) tI)) ?_ (fun p hp => hsub5 p (hsub3 p hp)) hP5 (strs_append hzz hT3) hoff5 (Ne.symm k2))
            · intro p hp
              revert p; walk_at "SUB"
            · intro p hp
              simp only [List.mem_cons] at hp
              rcases hp with rfl | rfl | rfl | rfl | rfl | rfl | rfl | hp
              · exact Ne.symm k0
              · exact i2
              · exact i3
              · exact i4
              · exact i5
              · exact i6
              · exact i7
              · exact hof5 p hp
            · (walk_at "OVR"); intro z hz; (simp only [List.forall_mem_cons] at hz; obtain ⟨z1, z2, z3, _⟩ := hz; simp only [z1, z2, z3, ↓reduceIte]; exact ovr_out (by simp only [List.forall_mem_cons]; exact ⟨z1, z2, z3, fa_nil⟩))
      · rintro h tk dr mm nw ⟨Dr, zs3, ct3, vt3, tn3, u, hsub3, hP3, hT3, hoff3, hDrt⟩ F2 N2
        have hlen := hT3.length
        w_strict (k_steps)
        rename Fr _ _ _ _ => F3
        rename News _ _ _ _ => N3
        refine set_K rfl F3 N3 (isList_of N3 (.tail _ (.head _))) hT3 (by show vt3.toArray.size + 1 < 4096; rw [List.size_toArray, hlen]; exact htk) ?_
        intro h' tk' S F8 N8 hS
        clear F3 N3
        w_strict (k_steps)
        refine sorted_K rfl F8 N8 hS ?_
        intro l h2 tk2 dr2 vs R c F9 N9 _ hA hs hn hm
        clear F8 N8
        exact hret _ _ _ _ _ _ _ _ _ F9 N9 (.head _) hA hs hn hm

end
end Mine
end
section
open PySem PySem.W PyProof.Rows PySem.Spec PySem.Calls PyProof.Rows.LCg
set_option maxRecDepth 100000
namespace Mine
section
variable {prog : Program} {w : World} {A : Around} {E : Value → Shared → Prop} {s : Shared} {h₀ : Heap} {L : Addr} {m : Str → Option Value} {news : List (Addr × Obj)}
noncomputable def itObj (l : Addr) (i : Nat) : Obj := { cls := .type "list_iterator", data := .fields #[.ref l, .int i 0] }
theorem iter_list {l : Addr} {items : Array Value} {Q : Value → Shared → Prop} (hl : s.heap.IsList l items)
    (h : Q (.ref s.heap.objs.size) { s with heap := s.heap.push (itObj l 0) }) : wpAny (model prog w) A (call (.builtin "iter") [.ref l]) Q E s := by
  refine call_function_entry (by decide +kernel) (by decide +kernel) kdk_entry_iter (kdk_args_iter _) ?_
  unfold Builtin.«iter»
  refine wpAny_bind (m := someArgs "iter" 1 2 _) (wpAny_of_eq (a := [Value.ref l]) (by first | rfl | kernel_rfl!) ?_)
  show wpAny _ _ (pyIter (.ref l) >>= _) _ _ _
  refine wpAny_bind (wpAny_pyIter_list hl ?_)
  exact wpAny_pure ⟨_, rfl, h⟩
theorem iter_K {l : Addr} {items : Array Value} {Q : Value → Shared → Prop} (F : Fr h₀ L s.heap m) (N : News h₀ L s.heap news) (hl : s.heap.IsList l items)
    (h : ∀ (I : Addr) h', Fr h₀ L h' m → News h₀ L h' ((I, itObj l 0) :: news) → (∀ p ∈ news, p.1 < I) → l < I → Q (.ref I) { s with heap := h' }) :
    wpAny (model prog w) A (call (.builtin "iter") [.ref l]) Q E s :=
  iter_list hl (h _ _ (F.push _) (News.push F N _ rfl) (fun q hq => Heap.lt_size (N q hq).1) (by obtain ⟨_, e, _⟩ := hl; exact Heap.lt_size e))

theorem next_item {it l : Addr} {i : Nat} {items : Array Value} {x : Value} {Q : Value → Shared → Prop} (hit : s.heap.get? it = some (itObj l i)) (hl : s.heap.IsList l items) (hx : items[i]? = some x)
    (hQ : Q x { s with heap := s.heap.update it (Obj.mapFields (·.setIfInBounds 1 (rawInt ((i : Int) + 1)))) }) :
    wpAny (model prog w) A (call (.builtin "next") [.ref it]) Q E s := by
  have ht : s.TypeIs (.ref it) "list_iterator" := ⟨_, hit, rfl⟩
  obtain ⟨ol, hol, _, nl, hdl⟩ := hl
  refine call_function_entry (by decide +kernel) (by decide +kernel) kdk_entry_next (kdk_args_next _) ?_
  unfold Builtin.«next»
  refine wpAny_bind (m := someArgs "next" 1 2 _) (wpAny_of_eq (a := [Value.ref it]) (by first | rfl | kernel_rfl!) ?_)
  dsimp only
  refine wpAny_bind (wpAny_specialOf (name := Str.ofString "__next__") ht slot_listiter_next.lookup ?_)
  refine wpAny_ite_split (fun hab => absurd hab (by decide)) (fun _ => ?_)
  refine wpAny_bind (wpAny_callSpecial?_slot (name := Str.ofString "__next__") ht slot_listiter_next
    (wpAny_call_entry slot_listiter_next ht entry_listiter_next ?_ (args_listiter_next _)))
  show wpAny _ _ (field (.ref it) 0 >>= _) _ _ s
  refine wpAny_bind (wpAny_field hit rfl (x := .ref l) rfl ?_)
  show wpAny _ _ (if (Value.ref l == Value.none) = true then _ else _) _ _ s
  rw [if_neg (show ¬ ((Value.ref l == Value.none) = true) from Bool.false_ne_true)]
  show wpAny _ _ (field (.ref it) 1 >>= _) _ _ s
  refine wpAny_bind (wpAny_field hit rfl (x := .int i 0) rfl ?_)
  show wpAny _ _ (seqItems? (.ref l) >>= _) _ _ s
  refine wpAny_bind (wpAny_seqItems hol hdl ?_)
  simp only [Int.toNat_natCast, hx]
  exact wpAny_bind (wpAny_setField hit rfl (by simp) (wpAny_pure ⟨x, rfl, wpAny_pure ⟨_, rfl, hQ⟩⟩))
theorem next_K {it l : Addr} {i : Nat} {items : Array Value} {x : Value} {pre post : List (Addr × Obj)} {Q : Value → Shared → Prop} (F : Fr h₀ L s.heap m) (N : News h₀ L s.heap (pre ++ (it, itObj l i) :: post)) (hl : s.heap.IsList l items) (hx : items[i]? = some x)
    (a : ∀ p ∈ pre, p.1 ≠ it) (b : ∀ p ∈ post, p.1 ≠ it)
    (h : ∀ h', Fr h₀ L h' m → News h₀ L h' (pre ++ (it, itObj l (i + 1)) :: post) → Q x { s with heap := h' }) :
    wpAny (model prog w) A (call (.builtin "next") [.ref it]) Q E s := by
  have hm := N (it, itObj l i) (List.mem_append_right _ (.head _))
  refine next_item hm.1 hl hx (h _ (F.change (Heap.SameBut.update ..) hm.2.1 hm.2.2) (N.setIn a b (Heap.SameBut.update ..) ?_))
  rw [Heap.get?_update_self _ hm.1 rfl]
  unfold itObj
  simp [Obj.mapFields, rawInt]
theorem next_end {it l : Addr} {i : Nat} {items : Array Value} {Q : Value → Shared → Prop} (hh : A.handled = none) (F : Fr h₀ L s.heap m) (N : News h₀ L s.heap ((it, itObj l i) :: news)) (hl : s.heap.IsList l items) (hx : items[i]? = none) (a : ∀ p ∈ news, p.1 ≠ it)
    (h : ∀ h₁ h' e, Fr h₀ L h₁ m → News h₀ L h₁ news → Heap.MadeExc h₁ h' e "StopIteration" [] → E (.ref e) { s with heap := h' }) :
    wpAny (model prog w) A (call (.builtin "next") [.ref it]) Q E s := by
  have hm := N (it, itObj l i) (.head _)
  have hit := hm.1
  have ht : s.TypeIs (.ref it) "list_iterator" := ⟨_, hit, rfl⟩
  obtain ⟨ol, hol, _, nl, hdl⟩ := hl
  refine call_function_entry (by decide +kernel) (by decide +kernel) kdk_entry_next (kdk_args_next _) ?_
  unfold Builtin.«next»
  refine wpAny_bind (m := someArgs "next" 1 2 _) (wpAny_of_eq (a := [Value.ref it]) (by first | rfl | kernel_rfl!) ?_)
  dsimp only
  refine wpAny_bind (wpAny_specialOf (name := Str.ofString "__next__") ht slot_listiter_next.lookup ?_)
  refine wpAny_ite_split (fun hab => absurd hab (by decide)) (fun _ => ?_)
  refine wpAny_bind (wpAny_callSpecial?_slot (name := Str.ofString "__next__") ht slot_listiter_next
    (wpAny_call_entry slot_listiter_next ht entry_listiter_next ?_ (args_listiter_next _)))
  show wpAny _ _ (field (.ref it) 0 >>= _) _ _ s
  refine wpAny_bind (wpAny_field hit rfl (x := .ref l) rfl ?_)
  show wpAny _ _ (if (Value.ref l == Value.none) = true then _ else _) _ _ s
  rw [if_neg (show ¬ ((Value.ref l == Value.none) = true) from Bool.false_ne_true)]
  show wpAny _ _ (field (.ref it) 1 >>= _) _ _ s
  refine wpAny_bind (wpAny_field hit rfl (x := .int i 0) rfl ?_)
  show wpAny _ _ (seqItems? (.ref l) >>= _) _ _ s
  refine wpAny_bind (wpAny_seqItems hol hdl ?_)
  simp only [Int.toNat_natCast, hx]
  refine wpAny_bind (wpAny_rule (wpAny_bind (wpAny_setField hit rfl (by simp) ?_)))
  show wpAny _ _ (newExc (.type "StopIteration") [] >>= _) _ _ _
  refine wpAny_bind ?_
  refine wpAny_bind (wpAny_newObj_type ?_ (by size_fits))
  refine wpAny_bind (m := firstArgMember _ _) (wpAny_of_eq (a := Value.none) (by first | rfl | (simp only [firstArgMember]; rfl)) ?_)
  refine wpAny_newObj_type ?_ (by size_fits)
  refine wpAny_bind (wpAny_handled ?_)
  rw [show A.in1.in1.handled = none from hh]
  refine wpAny_bind (wpAny_pure (wpAny_throw ?_))
  have F1 := F.change (Heap.SameBut.update s.heap it (Obj.mapFields (·.setIfInBounds 0 .none))) hm.2.1 hm.2.2
  have N1 : News h₀ L (s.heap.update it (Obj.mapFields (·.setIfInBounds 0 .none))) news := fun p hp => by
    refine ⟨?_, (N p (.tail _ hp)).2⟩
    rw [Heap.get?_update_other _ _ (Ne.symm (a p hp))]
    exact (N p (.tail _ hp)).1
  refine h _ _ _ F1 N1 ⟨fun b o e => Heap.get?_push_of_some _ (Heap.get?_push_of_some _ e), ?_, ?_⟩
  · refine Heap.get?_none_of_le ?_
    rw [Heap.size_push]
    exact Nat.le_succ _
  · refine ⟨_, Heap.get?_push_size _ rfl, Heap.get?_none_of_le (Nat.le_refl _), ?_⟩
    exact Heap.get?_push_of_some _ (Heap.get?_push_size _ rfl)
end
end Mine
end
section
open PySem PySem.W PyProof.Rows PySem.Spec PySem.Calls PyProof.Rows.LCg
set_option maxRecDepth 100000
namespace Mine
noncomputable def Back (g g₂ : Heap) (L : Addr) (m : Str → Option Value) (Q : Value → Shared → Prop) (v : Value) (s' : Shared) : Prop :=
  ∃ L' m' news', Fr g₂ L' s'.heap m' ∧ News g₂ L' s'.heap news' ∧ (Fr g L s'.heap m → News g L s'.heap news' → Q v s')
theorem Back.mk' {g g₂ : Heap} {L L' : Addr} {m m' : Str → Option Value} {Q : Value → Shared → Prop} {v : Value} {s' : Shared} {news' : List (Addr × Obj)} (F : Fr g₂ L' s'.heap m') (N : News g₂ L' s'.heap news') (h : Fr g L s'.heap m → News g L s'.heap news' → Q v s') : Back g g₂ L m Q v s' := ⟨_, _, _, F, N, h⟩
theorem enterPX {K : Frag} {w : World} {A₀ A : Around} {base g : Heap} {outer : List Env} {L a : Addr} {m : Str → Option Value} {cn : Str} {cs : Scope} {ccd : Value} {news : List (Addr × Obj)} {s : Shared} {Q E : Value → Shared → Prop} {p : Program} {loose : List Str} {mean : ExcName → Option Value} {mg mb : Str → Option Value}
    {name qual : Str} {params : Arguments} {body : List Stmt} {scope : Scope} {dV kV doc pm cdv ct oc : Value} {an od : Option Addr} {osl : Array (Option Value)} {f : Addr} {pos : List Value} {binds : List (Str × Value)}
    (B : Below A₀ base outer g) (F : Fr g L s.heap m) (X₀ : K.In g) (N : News g L s.heap news) (T : Top p loose mean mg mb g) (hA : A.frames = some (envOf cn cs L a ccd :: outer)) (hck : cs.kind = .function)
    (ho : K.lookup f = some ⟨oc, od, .func (fnOf name qual params body scope dV kV doc pm an cdv ct), osl⟩) (hcd : codeIn K cdv qual = true) (hroom : A.depth < recursionLimit)
    (hbind : BindsTo s (fnOf name qual params body scope dV kV doc pm an cdv ct) ⟨pos, []⟩ binds) (hloc : ∀ y ∈ binds, scope.names.lookup y.1 = some .local)
    (h : ∀ g₂ L' h₁, Fr g L g₂ m → Fr g₂ L' h₁ (fun y => binds.reverse.lookup y) → News g₂ L' h₁ news → Below A base (envOf cn cs L a ccd :: outer) g₂ → K.In g₂ → Top p loose mean mg mb g₂ →
      wpAny (model PG w) (A.deeper (envOf qual scope L' f cdv)) (execs body (envOf qual scope L' f cdv))
        (fun fl s' => Back g g₂ L m Q (match fl with | .ret v => v | _ => .none) s')
        (fun e s' => wpAny (model PG w) (A.deeper (envOf qual scope L' f cdv)) (leaving (envOf qual scope L' f cdv) e) (fun _ s'' => E e s'') (fun e' s'' => E e' s'') s')
        { s with heap := h₁, toks := s.toks + binds.length })
    (hco : scope.isCoroutine = false) (hgen : scope.isGenerator = false) (hk : scope.kind = .function)
    (hcell : ∀ x ∈ scope.names, x.2 ≠ .cell) : wpAny (model PG w) A (call (.ref f) pos) Q E s := by
  have X := X₀.keeps F.keep
  refine wpAny_call ?_
  refine codeAny_call_def (fd := fnOf name qual params body scope dV kV doc pm an cdv ct) (body := body) (binds := binds) hroom (X _ _ ho) rfl (T.nolimit.keeps F.keep) (codeRec_of X hcd) rfl hbind hcell hloc (fun h₁ hns hk₁ => ?_) hco hgen hk
  obtain ⟨oL, es, ep, hLg, hLd, hN, hNs, st, B₂⟩ := kts_enter B F N hA hck
  refine wpAny_mono (h _ s.heap.objs.size h₁ ⟨hN _ hLg, st, F.above⟩ ⟨hns, fun b o e => hk₁ b o (of_hideAll _ e), Nat.le_of_eq (hideAll_size _ _)⟩
    (fun p hp => ⟨hk₁ _ _ (N p hp).1, Nat.ne_of_lt (Heap.lt_size (N p hp).1), hideAll_none _ (List.mem_map_of_mem hp)⟩) B₂ (X₀.keeps st) (T.keeps st)) (fun fl s' hl => ?_) fun _ _ y => y
  obtain ⟨L', m', news', F', N', k⟩ := hl
  refine k ⟨hN _ (F'.keep _ _ hLg), fun b o e => F'.keep b o (st b o e), F.above⟩ fun p hp => ⟨(N' p hp).1, fun q => ?_, ?_⟩
  · have := (N' p hp).2.2; rw [q, hLg] at this; cases this
  · cases q : g.get? p.1 with
    | none => rfl
    | some o => have := (N' p hp).2.2; rw [st _ _ q] at this; cases this
end Mine
end
local macro_rules | `(tactic| walk_at $k) => if "WhlIf|call builtin:next|exec Try|call builtin:iter".splitOn "|" |>.contains k.getString then `(tactic| (refine Mine.StopHere.in ?_)) else throw .unsupportedSyntax
section
open PySem PySem.W PyProof.Rows PySem.Spec PySem.Calls PyProof.Rows.LCg
set_option maxRecDepth 100000
namespace Mine
theorem and_small : ∀ n : _root_.Fin 64, Builtin.bitAnd (n.val : Int) 63 = n.val ∧ Builtin.bitAnd (n.val : Int) 64 = 0 := by decide +kernel
theorem and_small' {n : Int} (h0 : 0 ≤ n) (h1 : n ≤ 63) : Builtin.bitAnd n 63 = n ∧ Builtin.bitAnd n 64 = 0 := by
  have := and_small ⟨n.toNat, by omega⟩
  rwa [Int.toNat_of_nonneg h0] at this
theorem and_big : ∀ n : _root_.Fin 301, 63 < n.val → Builtin.bitAnd ((n.val : Int) / 64 + 64) 63 = (n.val : Int) / 64 ∧ Builtin.bitAnd ((n.val : Int) / 64 + 64) 64 ≠ 0 ∧ Builtin.bitAnd ((n.val : Int) % 64) 63 = (n.val : Int) % 64 ∧ Builtin.bitAnd ((n.val : Int) % 64) 64 = 0 ∧ Builtin.bitOr ((n.val : Int) / 64 * 2 ^ 6) ((n.val : Int) % 64) = n.val ∧ (Builtin.Int.intBits ((n.val : Int) / 64) : Int) + 6 ≤ 2 ^ 27 := by decide +kernel
theorem and_big' {n : Int} (h0 : 63 < n) (h1 : n ≤ 300) : Builtin.bitAnd (n / 64 + 64) 63 = n / 64 ∧ Builtin.bitAnd (n / 64 + 64) 64 ≠ 0 ∧ Builtin.bitAnd (n % 64) 63 = n % 64 ∧ Builtin.bitAnd (n % 64) 64 = 0 ∧ Builtin.bitOr (n / 64 * 2 ^ 6) (n % 64) = n ∧ (Builtin.Int.intBits (n / 64) : Int) + 6 ≤ 2 ^ 27 := by
  have := and_big ⟨n.toNat, by omega⟩ (by show 63 < n.toNat; omega)
  rwa [Int.toNat_of_nonneg (show 0 ≤ n by (with_reducible exact Ln.o414 ‹_›))] at this
section

set_option maxHeartbeats 8000000 in
theorem pv_small (w : World) (n : Int) (hn0 : 0 ≤ n) (hn1 : n ≤ 63) (i : Nat) (l I : Addr) (vs : List Value) (c : Nat) (ns : List Int) (hi : IntsAre vs ns) (rest : List (Addr × Obj)) (hIr : ∀ p ∈ rest, p.1 ≠ I) (hIl : @Ne Nat l I)
   (dp un : Nat) (gd : Option (List Code)) (A₀ : Around) (base g : Heap) (outer : List Env) (L a : Addr) (m : Str → Option Value) (cn : Str) (cs : Scope) (ccd : Value) (s : Shared) (Q E : Value → Shared → Prop)
   (mean : ExcName → Option Value) (mg mb : Str → Option Value) (B : Below A₀ base outer g) (F : Fr g L s.heap m) (X : (hd.heap_39 w.params).In g) (N : News g L s.heap ((I, itObj l i) :: (l, W.listOf vs.toArray c) :: rest)) (T : Top VW LS mean mg mb g) (hck : cs.kind = .function) (fr : Option (List Env)) (hfr : fr = some (envOf cn cs L a ccd :: outer))
   (hdp : dp + 1 < recursionLimit)
   (h0 : ns[i]? = some n) (hret : ∀ h' tk' t, Fr g L h' m → News g L h' ((I, itObj l (i + 1)) :: (l, W.listOf vs.toArray c) :: rest) → Q (.int n t) { s with heap := h', toks := tk' }) :
   wpAny (model PySem.Challenge.rw_wb0017_01.row.prog w) (AR dp un gd fr) (call (.ref 43) [.ref I]) Q E s := by
  w_on
  have hfill : (PySem.Challenge.rw_wb0017_01 = PySem.Challenge.rw_wb0017_01) ∧ (hd.heap_39 = hd.heap_39) := by k_fill; exact ⟨rfl, rfl⟩
  w_strict (k_dflt (refine' enterPX (binds := [(Str.ofString "iterator", .ref I)]) ?k1 ?k2 ?k3 ?k4 ?k5 ?k6 ?k6b ?k7 ?k7b ?k8 ?k9 ?kB ?_ ?c2 ?c3 ?c4 ?c5; (case k1 => exact B); (case k2 => exact F); (case k3 => exact X); (case k4 => exact N); (case k5 => exact T); (case k6 => exact hfr); (case k6b => exact hck); (case k7 => k_is); (case k7b => k_is); (case k8 => show dp < recursionLimit; (with_reducible exact Ln.o137 ‹_›)); (case k9 => exact BindsTo.of_eq rfl); (case c5 => decide); (case kB => exact locs rfl); (case c2 => exact rfl); (case c3 => exact rfl); (case c4 => exact rfl)))
  intro g₂ Lp h₁ Fg F₁ N₁ B₁ X₁ T₁
  clear F N B X T
  rename News _ _ _ _ => N1
  rename Fr g₂ _ _ _ => F1
  w_strict (k_steps)
  obtain ⟨tA, hxA⟩ := hi.get i _ h0
  have hlN := isList_of N1 (.tail _ (.head _))
  refine StopHere.out ?_
  refine' next_K (pre := []) (post := (l, W.listOf vs.toArray c) :: rest) (items := vs.toArray) (i := i) (l := l) ?nk2A ?nk2B ?nk2C (by simpa using hxA) (List.forall_mem_nil _) (List.forall_mem_cons.mpr ⟨hIl, hIr⟩) ?nk2D
  case nk2A => exact F1
  case nk2B => exact N1
  case nk2C => exact hlN
  intro h' F2 N2
  simp only [List.nil_append] at N2
  w_strict (k_steps)
  refine StopHere.out ?_
  refine whlNe_no (and_small' hn0 hn1).2 ?_
  w_strict (k_steps)
  rename Fr _ _ _ _ => F5
  rename News _ _ _ _ => N5
  refine Back.mk' F5 N5 fun F9 N9 => ?_
  dsimp only
  rw [(and_small' hn0 hn1).1]
  exact hret _ _ _ F9 N9


set_option maxHeartbeats 8000000 in
theorem pv_big (w : World) (n : Int) (hn0 : 63 < n) (hn1 : n ≤ 300) (i : Nat) (l I : Addr) (vs : List Value) (c : Nat) (ns : List Int) (hi : IntsAre vs ns) (rest : List (Addr × Obj)) (hIr : ∀ p ∈ rest, p.1 ≠ I) (hIl : @Ne Nat l I)
   (dp un : Nat) (gd : Option (List Code)) (A₀ : Around) (base g : Heap) (outer : List Env) (L a : Addr) (m : Str → Option Value) (cn : Str) (cs : Scope) (ccd : Value) (s : Shared) (Q E : Value → Shared → Prop)
   (mean : ExcName → Option Value) (mg mb : Str → Option Value) (B : Below A₀ base outer g) (F : Fr g L s.heap m) (X : (hd.heap_39 w.params).In g) (N : News g L s.heap ((I, itObj l i) :: (l, W.listOf vs.toArray c) :: rest)) (T : Top VW LS mean mg mb g) (hck : cs.kind = .function) (fr : Option (List Env)) (hfr : fr = some (envOf cn cs L a ccd :: outer))
   (hdp : dp + 1 < recursionLimit)
   (h0 : ns[i]? = some (n / 64 + 64)) (h1 : ns[i + 1]? = some (n % 64)) (hret : ∀ h' tk' t, Fr g L h' m → News g L h' ((I, itObj l (i + 2)) :: (l, W.listOf vs.toArray c) :: rest) → Q (.int n t) { s with heap := h', toks := tk' }) :
   wpAny (model PySem.Challenge.rw_wb0017_01.row.prog w) (AR dp un gd fr) (call (.ref 43) [.ref I]) Q E s := by
  w_on
  have hfill : (PySem.Challenge.rw_wb0017_01 = PySem.Challenge.rw_wb0017_01) ∧ (hd.heap_39 = hd.heap_39) := by k_fill; exact ⟨rfl, rfl⟩
  w_strict (k_dflt (refine' enterPX (binds := [(Str.ofString "iterator", .ref I)]) ?k1 ?k2 ?k3 ?k4 ?k5 ?k6 ?k6b ?k7 ?k7b ?k8 ?k9 ?kB ?_ ?c2 ?c3 ?c4 ?c5; (case k1 => exact B); (case k2 => exact F); (case k3 => exact X); (case k4 => exact N); (case k5 => exact T); (case k6 => exact hfr); (case k6b => exact hck); (case k7 => k_is); (case k7b => k_is); (case k8 => show dp < recursionLimit; (with_reducible exact Ln.o137 ‹_›)); (case k9 => exact BindsTo.of_eq rfl); (case c5 => decide); (case kB => exact locs rfl); (case c2 => exact rfl); (case c3 => exact rfl); (case c4 => exact rfl)))
  intro g₂ Lp h₁ Fg F₁ N₁ B₁ X₁ T₁
  clear F N B X T
  rename News _ _ _ _ => N1
  rename Fr g₂ _ _ _ => F1
  w_strict (k_steps)
  obtain ⟨tA, hxA⟩ := hi.get i _ h0
  have hlN := isList_of N1 (.tail _ (.head _))
  refine StopHere.out ?_
  refine' next_K (pre := []) (post := (l, W.listOf vs.toArray c) :: rest) (items := vs.toArray) (i := i) (l := l) ?nk2A ?nk2B ?nk2C (by simpa using hxA) (List.forall_mem_nil _) (List.forall_mem_cons.mpr ⟨hIl, hIr⟩) ?nk2D
  case nk2A => exact F1
  case nk2B => exact N1
  case nk2C => exact hlN
  intro h' F2 N2
  simp only [List.nil_append] at N2
  w_strict (k_steps)
  refine StopHere.out ?_
  refine whlNe_yes (and_big' hn0 hn1).2.1 ?_
  w_strict (k_steps)
  rw [(and_big' hn0 hn1).1]
  refine ilshift_int (by decide) (and_big' hn0 hn1).2.2.2.2.2 ?_
  w_strict (k_steps)
  rename Fr _ _ _ _ => F3
  rename News _ _ _ _ => N3
  obtain ⟨tA, hxA⟩ := hi.get (i + 1) _ h1
  have hlN := isList_of N3 (.tail _ (.head _))
  refine StopHere.out ?_
  refine' next_K (pre := []) (post := (l, W.listOf vs.toArray c) :: rest) (items := vs.toArray) (i := (i + 1)) (l := l) ?nk4A ?nk4B ?nk4C (by simpa using hxA) (List.forall_mem_nil _) (List.forall_mem_cons.mpr ⟨hIl, hIr⟩) ?nk4D
  case nk4A => exact F3
  case nk4B => exact N3
  case nk4C => exact hlN
  intro h' F4 N4
  simp only [List.nil_append] at N4
  w_strict (k_steps)
  refine StopHere.out ?_
  refine whlNe_no (and_big' hn0 hn1).2.2.2.1 ?_
  w_strict (k_steps)
  rename Fr _ _ _ _ => F5
  rename News _ _ _ _ => N5
  refine Back.mk' F5 N5 fun F9 N9 => ?_
  dsimp only
  rw [(and_big' hn0 hn1).2.2.1, show Int.toNat 6 = 6 from rfl, (and_big' hn0 hn1).2.2.2.2.1]
  exact hret _ _ _ F9 N9


set_option maxHeartbeats 8000000 in
theorem pv_end (w : World)  (i : Nat) (l I : Addr) (vs : List Value) (c : Nat) (ns : List Int) (hi : IntsAre vs ns) (rest : List (Addr × Obj)) (hIr : ∀ p ∈ rest, p.1 ≠ I) (hIl : @Ne Nat l I)
   (dp un : Nat) (gd : Option (List Code)) (A₀ : Around) (base g : Heap) (outer : List Env) (L a : Addr) (m : Str → Option Value) (cn : Str) (cs : Scope) (ccd : Value) (s : Shared) (Q E : Value → Shared → Prop)
   (mean : ExcName → Option Value) (mg mb : Str → Option Value) (B : Below A₀ base outer g) (F : Fr g L s.heap m) (X : (hd.heap_39 w.params).In g) (N : News g L s.heap ((I, itObj l i) :: (l, W.listOf vs.toArray c) :: rest)) (T : Top VW LS mean mg mb g) (hck : cs.kind = .function) (fr : Option (List Env)) (hfr : fr = some (envOf cn cs L a ccd :: outer))
   (hdp : dp + 1 < recursionLimit)
   (h0 : ns[i]? = none) (hE : ∀ h' e t g₂ tk', Fr g L g₂ m → RaisedS base g₂ (envOf cn cs L a ccd :: outer) e (.type "StopIteration") t [] ((l, W.listOf vs.toArray c) :: rest) h' → g₂.UpToSlots h' → E (.ref e) { s with heap := h', toks := tk' }) :
   wpAny (model PySem.Challenge.rw_wb0017_01.row.prog w) (AR dp un gd fr) (call (.ref 43) [.ref I]) Q E s := by
  w_on
  have hfill : (PySem.Challenge.rw_wb0017_01 = PySem.Challenge.rw_wb0017_01) ∧ (hd.heap_39 = hd.heap_39) := by k_fill; exact ⟨rfl, rfl⟩
  w_strict (k_dflt (refine' enterPX (binds := [(Str.ofString "iterator", .ref I)]) ?k1 ?k2 ?k3 ?k4 ?k5 ?k6 ?k6b ?k7 ?k7b ?k8 ?k9 ?kB ?_ ?c2 ?c3 ?c4 ?c5; (case k1 => exact B); (case k2 => exact F); (case k3 => exact X); (case k4 => exact N); (case k5 => exact T); (case k6 => exact hfr); (case k6b => exact hck); (case k7 => k_is); (case k7b => k_is); (case k8 => show dp < recursionLimit; (with_reducible exact Ln.o137 ‹_›)); (case k9 => exact BindsTo.of_eq rfl); (case c5 => decide); (case kB => exact locs rfl); (case c2 => exact rfl); (case c3 => exact rfl); (case c4 => exact rfl)))
  intro g₂ Lp h₁ Fg F₁ N₁ B₁ X₁ T₁
  clear F N B X T
  rename News _ _ _ _ => N1
  rename Fr g₂ _ _ _ => F1
  w_strict (k_steps)
  have hxA : vs.toArray[i]? = none := by have := hi.length; simp at h0 ⊢; (with_reducible exact Ln.o415 ‹_› ‹_›)
  have hlN := isList_of N1 (.tail _ (.head _))
  refine StopHere.out ?_
  refine next_end rfl F1 N1 hlN hxA (List.forall_mem_cons.mpr ⟨hIl, hIr⟩) ?_
  intro h3 h4 e F3 N3 hm
  refine leave_raiseS B₁ hm.of F3 N3 fun h5 t R _ U => ?_
  exact hE _ _ _ _ _ Fg R U


end
end Mine
end
section
open PySem PySem.W PyProof.Rows PySem.Spec PySem.Calls PyProof.Rows.LCg
set_option maxRecDepth 100000
namespace Mine
noncomputable def RetQ (Q : Value → Shared → Prop) (r : Result) (s : Shared) : Prop := match r with | .ok (.ret v) => Q v s | _ => False
noncomputable def BackS (fs : List Addr) (h₀ : Heap) (L : Addr) (m : Str → Option Value) (g : Heap) (Q : Value → Shared → Prop) (v : Value) (s' : Shared) : Prop := LeaveS0 fs h₀ L m g (RetQ Q) v s'
theorem BackS.mk' {fs : List Addr} {h₀ g g' : Heap} {L L' : Addr} {m m' : Str → Option Value} {news' : List (Addr × Obj)} {Q : Value → Shared → Prop} {v : Value} {s' : Shared} (T : KtsTurn fs g g') (F' : Fr g' L' s'.heap m') (N' : News g' L' s'.heap news')
    (k : Fr h₀ L s'.heap m → News h₀ L s'.heap news' → Q v s') : BackS fs h₀ L m g Q v s' := leaveS0_ F' N' T k
theorem enterPS {K : Frag} {w : World} {A₀ A : Around} {base h₀ : Heap} {L a : Addr} {m : Str → Option Value} {cn : Str} {cs : Scope} {ccd : Value} {news : List (Addr × Obj)} {s : Shared} {Q E : Value → Shared → Prop} {p : Program} {loose : List Str} {mean : ExcName → Option Value} {mg mb : Str → Option Value}
    {name qual : Str} {params : Arguments} {body : List Stmt} {scope : Scope} {dV kV doc pm cdv ct oc : Value} {an od : Option Addr} {osl : Array (Option Value)} {f : Addr} {pos : List Value} {binds : List (Str × Value)}
    (B : Below A₀ base [] h₀) (F : Fr h₀ L s.heap m) (X₀ : K.In h₀) (N : News h₀ L s.heap news) (T : Top p loose mean mg mb h₀) (hA : A.frames = some [envOf cn cs L a ccd]) (hck : cs.kind = .function)
    (ho : K.lookup f = some ⟨oc, od, .func (fnOf name qual params body scope dV kV doc pm an cdv ct), osl⟩) (hcd : codeIn K cdv qual = true) (hroom : A.depth < recursionLimit)
    (hbind : BindsTo s (fnOf name qual params body scope dV kV doc pm an cdv ct) ⟨pos, []⟩ binds) (hloc : ∀ y ∈ binds, scope.names.lookup y.1 = some .local)
    (h : ∀ g L' h₁, Fr h₀ L g m → Fr g L' h₁ (fun y => binds.reverse.lookup y) → News g L' h₁ news → StopHere (Below A base [envOf cn cs L a ccd] g) → K.In g → Top p loose mean mg mb g → StopHere (KtsDicts ([envOf cn cs L a ccd].filterMap (·.frame)) g) →
      wpAny (model PG w) (A.deeper (envOf qual scope L' f cdv)) (execs body (envOf qual scope L' f cdv))
        (fun fl s' => BackS ([envOf cn cs L a ccd].filterMap (·.frame)) h₀ L m g Q (match fl with | .ret v => v | _ => .none) s')
        (fun _ _ => False)
        { s with heap := h₁, toks := s.toks + binds.length })
    (hco : scope.isCoroutine = false) (hgen : scope.isGenerator = false) (hk : scope.kind = .function)
    (hcell : ∀ x ∈ scope.names, x.2 ≠ .cell) : wpAny (model PG w) A (call (.ref f) pos) Q E s := by
  refine wpAny_call (codeAny_mono (code_defS0 (R := RetQ Q) B F X₀ N T hA ho hcd hroom hbind hloc (fun g L' h₁ F1 F2 N2 B2 X2 T2 D2 => wpAny_mono (h g L' h₁ F1 F2 N2 B2 X2 T2 D2) (fun _ _ x => x) fun _ _ x => x.elim) hck hco hgen hk hcell) fun r s' hr => ?_)
  cases r with
  | error e => exact hr.elim
  | ok f => cases f with
    | ret v => exact hr
    | next => exact hr.elim
    | brk => exact hr.elim
    | cont => exact hr.elim
theorem octs_one (n : Int) : 1 ≤ (octs n).length ∧ (octs n).length ≤ 2 := by unfold octs; split <;> simp
theorem octs_len : ∀ tks : List Int, tks.length ≤ (tks.flatMap octs).length
  | [] => Nat.le_refl _
  | n :: r => by have := octs_len r; have := octs_one n; rw [List.flatMap_cons, List.length_append, List.length_cons]; (with_reducible exact Ln.o417 ‹_› ‹_›)
theorem octs_le : ∀ tks : List Int, (tks.flatMap octs).length ≤ 2 * tks.length
  | [] => Nat.le_refl _
  | n :: r => by have := octs_le r; have := octs_one n; rw [List.flatMap_cons, List.length_append, List.length_cons]; (with_reducible exact Ln.o422 ‹_› ‹_›)
theorem flat_at {tks : List Int} {i k : Nat} {n : Int} (h : tks[i]? = some n) (hk : k < (octs n).length) : (tks.flatMap octs)[((tks.take i).flatMap octs).length + k]? = (octs n)[k]? := by
  have e : tks = tks.take i ++ n :: tks.drop (i + 1) := by
    have hlt : i < tks.length := (List.getElem?_eq_some_iff.mp h).1
    have h1 := List.take_append_drop i tks
    rw [List.drop_eq_getElem_cons hlt] at h1
    rw [getElem?_pos tks i hlt] at h
    cases h
    exact h1.symm
  have e2 : tks.flatMap octs = (tks.take i).flatMap octs ++ (octs n ++ (tks.drop (i + 1)).flatMap octs) := by
    conv => lhs; rw [e]
    rw [List.flatMap_append, List.flatMap_cons]
  rw [e2, List.getElem?_append_right (Nat.le_add_right _ _), Nat.add_sub_cancel_left, List.getElem?_append_left hk]
section
set_option maxHeartbeats 8000000 in
theorem num_spec (w : World) (l : Addr) (vs : List Value) (c : Nat) (tks : List Int) (hi : IntsAre vs (tks.flatMap octs)) (ht : ∀ n ∈ tks, 0 ≤ n ∧ n ≤ 300) (hlen : tks.length ≤ 100) (rest : List (Addr × Obj))
   (dp un : Nat) (gd : Option (List Code)) (A₀ : Around) (h₀ : Heap) (L a : Addr) (m : Str → Option Value) (cn : Str) (cs : Scope) (ccd : Value) (s : Shared) (Q E : Value → Shared → Prop)
   (mean : ExcName → Option Value) (mg mb : Str → Option Value) (B : Below A₀ h₀ [] h₀) (F : Fr h₀ L s.heap m) (X : (hd.heap_39 w.params).In h₀) (N : News h₀ L s.heap ((l, W.listOf vs.toArray c) :: rest)) (T : Top VW LS mean mg mb h₀) (hck : cs.kind = .function)
   (hdp : dp + 3 < recursionLimit)
   (hret : ∀ h' tk' dr' Dn us cu, Fr h₀ L h' m → News h₀ L h' ((Dn, W.listOf us.toArray cu) :: (l, W.listOf vs.toArray c) :: rest) → IntsAre us tks → Q (.ref Dn) { s with heap := h', toks := tk', drawn := dr' }) :
   wpAny (model PySem.Challenge.rw_wb0017_01.row.prog w) (AR dp un gd (some [envOf cn cs L a ccd])) (call (.ref 64) [.ref l]) Q E s := by
  w_on
  have hfill : (PySem.Challenge.rw_wb0017_01 = PySem.Challenge.rw_wb0017_01) ∧ (hd.heap_39 = hd.heap_39) := by k_fill; exact ⟨rfl, rfl⟩
  w_strict (k_dflt (refine' enterPS (binds := [(Str.ofString "octets", .ref l)]) ?k1 ?k2 ?k3 ?k4 ?k5 ?k6 ?k6b ?k7 ?k7b ?k8 ?k9 ?kB ?_ ?c2 ?c3 ?c4 ?c5; (case k1 => exact B); (case k2 => exact F); (case k3 => exact X); (case k4 => exact N); (case k5 => exact T); (case k6 => rfl); (case k6b => exact hck); (case k7 => k_is); (case k7b => k_is); (case k8 => show dp < recursionLimit; (with_reducible exact Ln.o374 ‹_›)); (case k9 => exact BindsTo.of_eq rfl); (case c5 => decide); (case kB => exact locs rfl); (case c2 => exact rfl); (case c3 => exact rfl); (case c4 => exact rfl)))
  intro g Lq h₁ Fg F1 N1 B₁ X₁ T₁ D₁
  have hfl := octs_le tks
  have X0 := StopHere.in (StopHere.out X)
  have T0 := StopHere.in (StopHere.out T)
  clear X T B
  clear F N
  w_strict (k_steps)
  refine StopHere.out ?_
  refine' iter_K (items := vs.toArray) ?ik1 ?ik2 ?ik3 ?ik4
  case ik1 => exact F1
  case ik2 => exact N1
  case ik3 => exact isList_of N1 (.head _)
  intro I h2 F2 N2 hlt hlI
  clear F1 N1
  w_strict (k_steps)
  rename IsRange _ _ _ _ _ _ _ _ => hR
  rename IntsAre vs _ => hi
  rename Fr g _ _ _ => Fq
  rename News g _ _ _ => Nq
  rename_i _ Dn _ hDn _ _ _ _ _ _ _ _ _ _
  obtain ⟨hd1, hd2, hd3⟩ := hDn
  have r1 : @Ne Nat I Dn := Nat.ne_of_lt hd1
  have r2 : @Ne Nat l Dn := Nat.ne_of_lt hd2
  have hd3 := allLt_mem hd3
  have hrD0 : ∀ p ∈ rest, p.1 ≠ Dn := fun p hp => Nat.ne_of_lt (hd3 p hp)
  obtain ⟨mc, hmc, Fd⟩ := Fr_named Fq
  have hR : IsRange _ _ 0 (((tks.flatMap octs).length + 1 : Nat) : Int) 1 _ _ _ := hR
  refine forK_range (n := (tks.flatMap octs).length + 1) rfl (fun i mm nw => ∃ (us : List Value) (cu : Nat) (u : Option Value), mm = ovr [(Str.ofString "numbers", some (.ref Dn)), (Str.ofString "tape", some (.ref I)), (Str.ofString "turn", u)] mc ∧ nw = (Dn, W.listOf us.toArray cu) :: (I, itObj l ((tks.take i).flatMap octs).length) :: (l, W.listOf vs.toArray c) :: rest ∧ IntsAre us (tks.take i) ∧ i ≤ tks.length) hR (by (with_reducible exact Ln.o416 ‹_› ‹_›)) Fd Nq ⟨[], 0, mc (Str.ofString "turn"), ?_, rfl, .nil, Nat.zero_le _⟩ ?_ ?_
  · exact ovr_of (fa_cons (by show mc _ = _; rw [hmc]; rfl) (fa_cons (by show mc _ = _; rw [hmc]; rfl) (fa_cons rfl fa_nil))) (fun _ _ => rfl)
  · rintro I2 i tI h tk dr mm nw oI2 hIs hi2 ⟨us, cu, u, rfl, rfl, hus, hil⟩ hnI F3 N3
    clear Fq Nq Fd
    first | refine off3 hnI ?_ | refine ltt3 hnI ?_
    intro i1 i2 i3 i4
    w_strict (k_steps)
    refine StopHere.out ?_
    refine wpAny_Try_except ?_
    w_strict (k_steps)
    rename Fr g _ _ _ => F4
    rename News g _ _ _ => N4
    have hlIne : @Ne Nat l I := Nat.ne_of_lt hlI
    have hrI : ∀ p ∈ rest, p.1 ≠ I := fun p hp => Nat.ne_of_lt (hlt p (.tail _ hp))
    have hrD : ∀ p ∈ rest, p.1 ≠ Dn := fun p hp => Nat.ne_of_lt (hd3 p hp)
    have Nr := News.sub (news' := (I, itObj l ((tks.take i).flatMap octs).length) :: (l, W.listOf vs.toArray c) :: (I2, oI2) :: (Dn, W.listOf us.toArray cu) :: rest) N4 (by walk_at "SUB")
    rcases Nat.lt_or_ge i tks.length with hlt' | hge
    · have hn : tks[i]? = some tks[i] := getElem?_pos tks i hlt'
      have hnb := ht _ (List.getElem_mem hlt')
      have hus' : IntsAre us (tks.take i) := hus
      rcases Int.lt_or_le 63 tks[i] with hns | hns
      · have hol : octs tks[i] = [tks[i] / 64 + 64, tks[i] % 64] := by unfold octs; rw [if_pos (by omega)]
        refine' pv_big w tks[i] (by omega) hnb.2 ((tks.take i).flatMap octs).length l I vs c _ hi ((I2, oI2) :: (Dn, W.listOf us.toArray cu) :: rest) ?hAB ?hBB _ _ _ _ _ g _ Lq _ _ _ _ _ _ _ _ mean mg mb (StopHere.out B₁) ?hFB X₁ ?hNB T₁ ?hkB _ ?hfB ?hdB ?h0B ?h1B ?hrB
        case hAB => exact fa_cons (Ne.symm i2) (fa_cons (Ne.symm r1) hrI)
        case hBB => exact hlIne
        case hfB => rfl
        case hkB => rfl
        case hdB => show dp + 1 + 1 < _; (with_reducible exact Ln.o418 ‹_›)
        case hFB => exact F4
        case hNB => exact Nr
        case h0B => rw [show ((tks.take i).flatMap octs).length = ((tks.take i).flatMap octs).length + 0 from rfl, flat_at hn (by rw [hol]; simp), hol]; rfl
        case h1B => rw [flat_at hn (by rw [hol]; simp), hol]; rfl
        intro h5 tk5 t5 F5 N5
        clear F4 N4
        w_strict (k_steps)
        rename Fr _ _ _ _ => F6
        rename News _ _ _ _ => N6
        rw [show us.toArray.push (Value.int tks[i] t5) = (us ++ [Value.int tks[i] t5]).toArray by simp] at N6
        refine ForPost.next (news' := (Dn, W.listOf (us ++ [Value.int tks[i] t5]).toArray (cu + 1)) :: (I, itObj l (((tks.take i).flatMap octs).length + 2)) :: (l, W.listOf vs.toArray c) :: rest) F6 N6 (.tail _ (.tail _ (.head _))) ?_ ?_ ⟨us ++ [Value.int tks[i] t5], cu + 1, some (Value.int (i : Int) tI), ?_, ?_, (by rw [List.take_add_one, hn]; exact ints_snoc (t := t5) hus'), hlt'⟩
        · intro p hp
          revert p; walk_at "SUB"
        · intro p hp
          simp only [List.mem_cons] at hp
          rcases hp with rfl | rfl | rfl | hp
          · exact i1
          · exact i2
          · exact i3
          · exact i4 p hp
        · (walk_at "OVR"); intro z hz; (simp only [List.forall_mem_cons] at hz; obtain ⟨z1, z2, z3, _⟩ := hz; simp only [z1, z2, z3, ↓reduceIte]; exact ovr_out (by simp only [List.forall_mem_cons]; exact ⟨z1, z2, z3, fa_nil⟩))
        · rw [List.take_add_one, hn, List.flatMap_append, List.length_append]; simp [hol]
      · have hol : octs tks[i] = [tks[i]] := by unfold octs; rw [if_neg (by (with_reducible exact Ln.o421 ‹_›))]
        refine' pv_small w tks[i] hnb.1 hns ((tks.take i).flatMap octs).length l I vs c _ hi ((I2, oI2) :: (Dn, W.listOf us.toArray cu) :: rest) ?hAS ?hBS _ _ _ _ _ g _ Lq _ _ _ _ _ _ _ _ mean mg mb (StopHere.out B₁) ?hFS X₁ ?hNS T₁ ?hkS _ ?hfS ?hdS ?h0S ?hrS
        case hAS => exact fa_cons (Ne.symm i2) (fa_cons (Ne.symm r1) hrI)
        case hBS => exact hlIne
        case hfS => rfl
        case hkS => rfl
        case hdS => show dp + 1 + 1 < _; (with_reducible exact Ln.o418 ‹_›)
        case hFS => exact F4
        case hNS => exact Nr
        case h0S => rw [show ((tks.take i).flatMap octs).length = ((tks.take i).flatMap octs).length + 0 from rfl, flat_at hn (by rw [hol]; simp), hol]; rfl
        intro h5 tk5 t5 F5 N5
        clear F4 N4
        w_strict (k_steps)
        rename Fr _ _ _ _ => F6
        rename News _ _ _ _ => N6
        rw [show us.toArray.push (Value.int tks[i] t5) = (us ++ [Value.int tks[i] t5]).toArray by simp] at N6
        refine ForPost.next (news' := (Dn, W.listOf (us ++ [Value.int tks[i] t5]).toArray (cu + 1)) :: (I, itObj l (((tks.take i).flatMap octs).length + 1)) :: (l, W.listOf vs.toArray c) :: rest) F6 N6 (.tail _ (.tail _ (.head _))) ?_ ?_ ⟨us ++ [Value.int tks[i] t5], cu + 1, some (Value.int (i : Int) tI), ?_, ?_, (by rw [List.take_add_one, hn]; exact ints_snoc (t := t5) hus'), hlt'⟩
        · intro p hp
          revert p; walk_at "SUB"
        · intro p hp
          simp only [List.mem_cons] at hp
          rcases hp with rfl | rfl | rfl | hp
          · exact i1
          · exact i2
          · exact i3
          · exact i4 p hp
        · (walk_at "OVR"); intro z hz; (simp only [List.forall_mem_cons] at hz; obtain ⟨z1, z2, z3, _⟩ := hz; simp only [z1, z2, z3, ↓reduceIte]; exact ovr_out (by simp only [List.forall_mem_cons]; exact ⟨z1, z2, z3, fa_nil⟩))
        · rw [List.take_add_one, hn, List.flatMap_append, List.length_append]; simp [hol]
    · have hie : i = tks.length := Nat.le_antisymm hil hge
      refine' pv_end w ((tks.take i).flatMap octs).length l I vs c _ hi ((I2, oI2) :: (Dn, W.listOf us.toArray cu) :: rest) ?hAE ?hBE _ _ _ _ _ g _ Lq _ _ _ _ _ _ _ _ mean mg mb (StopHere.out B₁) ?hFE X₁ ?hNE T₁ ?hkE _ ?hfE ?hdE ?h0E ?hrE
      case hAE => exact fa_cons (Ne.symm i2) (fa_cons (Ne.symm r1) hrI)
      case hBE => exact hlIne
      case hfE => rfl
      case hkE => rfl
      case hdE => show dp + 1 + 1 < _; (with_reducible exact Ln.o418 ‹_›)
      case hFE => exact F4
      case hNE => exact Nr
      case h0E => rw [hie, List.take_length]; exact List.getElem?_eq_none (Nat.le_refl _)
      intro h5 e t g₂ tk5 F5 R5 U5
      rw [hie, List.take_length] at hus
      clear F4 N4 Nr
      dsimp only
      refine' caught_S0 (T' := "StopIteration") R5 F5 (StopHere.out B₁) U5 (StopHere.out X0) (StopHere.out T0) (StopHere.out D₁) KtsTurn.refl ?cex ?cbt ?chn owsi_raise.isExc ?cnt ?chs ?ck
      case cex => k_is
      case chn => decide
      case cbt => boot_by_name
      case cnt => rw [show ((Manifest.find? "StopIteration").elim "type" fun x => x.metatype) = "type" from by kernel_rfl, isSubtype_type]; kernel_rfl
      case chs => exact owsi_facts.sub
      intro h6 g6 news2 T6 F6 N6 _ N7 _ X6 P6 _
      w_strict (k_steps)
      refine BackS.mk' T6 F6 (News.sub (news' := (Dn, W.listOf us.toArray cu) :: (l, W.listOf vs.toArray c) :: rest) N7 (by walk_at "SUB")) fun F9 N9 => ?_
      exact hret _ _ _ _ _ _ F9 N9 hus
  · rintro h tk dr mm nw ⟨us, cu, u, rfl, rfl, hus, hil⟩ F3 N3
    exfalso
    have := octs_len tks
    (with_reducible exact (Ln.o419 ‹_› ‹_›).elim)
end
end Mine
end
section
open PySem PySem.W PyProof.Rows PySem.Spec PySem.Calls PyProof.Rows.LCg
set_option maxRecDepth 100000
namespace Mine
noncomputable def tupObj (e : Bool) (f l : Nat) (t u : Tok) (n : Nat) : Obj := { cls := .type "tuple", data := .seq #[.bool e, .int (f : Int) t, .int (l : Int) u] n }
/-- refs to triples (empty, first, last), each tuple in the ledger -/
inductive PileAt (news : List (Addr × Obj)) : List Value → List (Bool × Nat × Nat) → Prop
  | nil : PileAt news [] []
  | cons {T : Addr} {e : Bool} {f l : Nat} {t u : Tok} {n : Nat} {ys : List Value} {ps : List (Bool × Nat × Nat)} : (T, tupObj e f l t u n) ∈ news → PileAt news ys ps → PileAt news (.ref T :: ys) ((e, f, l) :: ps)
theorem PileAt.mono {news news' : List (Addr × Obj)} (h : ∀ p ∈ news, p ∈ news') : ∀ {ys : List Value} {ps : List (Bool × Nat × Nat)}, PileAt news ys ps → PileAt news' ys ps
  | _, _, .nil => .nil
  | _, _, .cons a c => .cons (h _ a) (c.mono h)
theorem PileAt.snoc {news : List (Addr × Obj)} {T : Addr} {e : Bool} {f l : Nat} {t u : Tok} {n : Nat} (h1 : (T, tupObj e f l t u n) ∈ news) : ∀ {ys : List Value} {ps : List (Bool × Nat × Nat)}, PileAt news ys ps → PileAt news (ys ++ [.ref T]) (ps ++ [(e, f, l)])
  | _, _, .nil => .cons h1 .nil
  | _, _, .cons a c => .cons a (c.snoc h1)
theorem PileAt.length {news : List (Addr × Obj)} : ∀ {ys : List Value} {ps : List (Bool × Nat × Nat)}, PileAt news ys ps → ys.length = ps.length
  | _, _, .nil => rfl
  | _, _, .cons _ c => by simp [c.length]
inductive UnsnP (news : List (Addr × Obj)) (e : Bool) (f l : Nat) (ps : List (Bool × Nat × Nat)) : List Value → Prop
  | mk (ys' : List Value) (T : Addr) (t u : Tok) (n : Nat) (c2 : PileAt news ys' ps) (c3 : (T, tupObj e f l t u n) ∈ news) : UnsnP news e f l ps (ys' ++ [.ref T])
theorem PileAt.unsnoc {news : List (Addr × Obj)} {e : Bool} {f l : Nat} : ∀ {ps : List (Bool × Nat × Nat)} {ys : List Value}, PileAt news ys (ps ++ [(e, f, l)]) → UnsnP news e f l ps ys
  | [], _, .cons a .nil => ⟨[], _, _, _, _, .nil, a⟩
  | p :: ps, _, .cons a c => by cases c.unsnoc with | mk ys' T t u n h1 h2 => exact ⟨_ :: ys', T, t, u, n, .cons a h1, h2⟩
structure MS where
  ls : List Nat
  fs : List Nat
  pile : List (Bool × Nat × Nat)
noncomputable def orList (fs : List Nat) (ps : List Nat) (f : Nat) : List Nat := ps.foldl (fun fs p => fs.set p (fs.getD p 0 ||| f)) fs
noncomputable def bitsOf (l : Nat) : List Nat := (List.range 8).filter l.testBit
noncomputable def AheadOk (l : Nat) (fs : List Nat) : Prop := l ≤ 255 ∧ (nmsTo l 8).length ≤ 4 ∧ ∀ p, l.testBit p = true → p < fs.length
inductive MTurn : Nat → MS → MS → Prop
  | word {t : Nat} {ls fs : List Nat} {P : List (Bool × Nat × Nat)} (h1 : 1 ≤ t) (h2 : t ≤ 40) (hl : fs.length = ls.length) (h8 : ls.length ≤ 8) (hp : P.length ≤ 8) :
    MTurn t ⟨ls, fs, P⟩ ⟨ls ++ ((apB t).toList.map (·.toNat)), fs ++ (if 15 < t then [2 <<< ls.length, 0] else [0]), P ++ [(false, 1 <<< ls.length, 1 <<< (ls.length + (apB t).size - 1))]⟩
  | star {ls fs : List Nat} {P : List (Bool × Nat × Nat)} {e : Bool} {f l : Nat} (h8 : fs.length ≤ 8) (hp : P.length ≤ 8) (ha : AheadOk l fs) : MTurn 258 ⟨ls, fs, P ++ [(e, f, l)]⟩ ⟨ls, orList fs (bitsOf l) f, P ++ [(true, f, l)]⟩
  | alt {ls fs : List Nat} {P : List (Bool × Nat × Nat)} {e f l e' f' l'} (h8 : fs.length ≤ 8) (hp : P.length ≤ 8) : MTurn 257 ⟨ls, fs, P ++ [(e, f, l), (e', f', l')]⟩ ⟨ls, fs, P ++ [(e || e', f ||| f', l ||| l')]⟩
  | cat {ls fs : List Nat} {P : List (Bool × Nat × Nat)} {e f l e' f' l'} (h8 : fs.length ≤ 8) (hp : P.length ≤ 8) (ha : AheadOk l fs) : MTurn 256 ⟨ls, fs, P ++ [(e, f, l), (e', f', l')]⟩ ⟨ls, orList fs (bitsOf l) f', P ++ [(e && e', f ||| (if e then f' else 0), l' ||| (if e' then l else 0))]⟩
/-- what stands ahead of the machine's i-th token -/
inductive MaJ (M : Nat → MS) (Dl Df Dp ss sw : Addr) (i : Nat) : (Str → Option Value) → List (Addr × Obj) → Prop
  | mk (mc : Str → Option Value) (oS oW : Obj) (cS cW : Option Value) (ul uf up : List Value) (cl cf cp : Nat) (tn : List (Addr × Obj)) (c3 : oS.data = .cell cS) (c4 : oW.data = .cell cW) (c5 : IntsAre ul ((M i).ls.map Int.ofNat)) (c6 : IntsAre uf ((M i).fs.map Int.ofNat)) (c7 : PileAt tn up (M i).pile) (c8 : (∀ p ∈ tn, p.1 ≠ Dp)) (c9 : (∀ p ∈ tn, p.1 ≠ Df)) (c10 : (∀ p ∈ tn, p.1 ≠ Dl)) (c11 : (∀ p ∈ tn, p.1 ≠ ss)) (c12 : (∀ p ∈ tn, p.1 ≠ sw)) : MaJ M Dl Df Dp ss sw i (ovr [(Str.ofString "letters", some (.ref Dl)), (Str.ofString "follow", some (.ref Df)), (Str.ofString "pile", some (.ref Dp))] mc) ((Dp, W.listOf up.toArray cp) :: (Df, W.listOf uf.toArray cf) :: (Dl, W.listOf ul.toArray cl) :: (ss, oS) :: (sw, oW) :: tn)
theorem MaJ.of {M : Nat → MS} {Dl Df Dp ss sw : Addr} {i : Nat} {mm : Str → Option Value} (mc : Str → Option Value) (oS oW : Obj) (cS cW : Option Value) (ul uf up : List Value) (cl cf cp : Nat) (tn : List (Addr × Obj)) (e : mm = ovr [(Str.ofString "letters", some (.ref Dl)), (Str.ofString "follow", some (.ref Df)), (Str.ofString "pile", some (.ref Dp))] mc) (c3 : oS.data = .cell cS) (c4 : oW.data = .cell cW) (c5 : IntsAre ul ((M i).ls.map Int.ofNat)) (c6 : IntsAre uf ((M i).fs.map Int.ofNat)) (c7 : PileAt tn up (M i).pile) (c8 : (∀ p ∈ tn, p.1 ≠ Dp)) (c9 : (∀ p ∈ tn, p.1 ≠ Df)) (c10 : (∀ p ∈ tn, p.1 ≠ Dl)) (c11 : (∀ p ∈ tn, p.1 ≠ ss)) (c12 : (∀ p ∈ tn, p.1 ≠ sw)) : MaJ M Dl Df Dp ss sw i mm ((Dp, W.listOf up.toArray cp) :: (Df, W.listOf uf.toArray cf) :: (Dl, W.listOf ul.toArray cl) :: (ss, oS) :: (sw, oW) :: tn) := by
  subst e; exact .mk mc oS oW cS cW ul uf up cl cf cp tn c3 c4 c5 c6 c7 c8 c9 c10 c11 c12
theorem toks_item {tks : List Nat} {i n : Nat} (h : (tks ++ [0])[i]? = some n) : (tks[i]? = some n) ∨ (i = tks.length ∧ n = 0) := by
  rcases Nat.lt_or_ge i tks.length with hl | hl
  · rw [List.getElem?_append_left hl] at h; exact .inl h
  · rw [List.getElem?_append_right hl] at h
    have : i - tks.length < 1 := (List.getElem?_eq_some_iff.mp h).1
    have e : i - tks.length = 0 := by (with_reducible exact Ln.o426 ‹_›)
    rw [e] at h
    exact .inr ⟨by (with_reducible exact Ln.o424 ‹_› ‹_›), by simpa using h.symm⟩
theorem MTurn.pos {t : Nat} {a b : MS} (h : MTurn t a b) : 1 ≤ t := by
  cases h <;> (first | with_reducible exact Ln.o434 | with_reducible exact Ln.o433 | with_reducible exact Ln.o432 | omega)
section
variable {prog : Program} {w : World} {A : Around} {E : Value → Shared → Prop} {s : Shared} {h₀ : Heap} {L D : Addr} {m : Str → Option Value}
theorem kl_last_snoc : ∀ (ys : List Value) (y : Value), kl_last (ys ++ [y]) = some (ys, y)
  | [], _ => rfl
  | x :: r, y => by rw [List.cons_append, kl_last, kl_last_snoc r y]
end
noncomputable def StopMark : Prop := True
inductive MKind (t : Nat) : MS → MS → Prop
  | word (ls fs : List Nat) (P : List (Bool × Nat × Nat)) (h1 : 1 ≤ t) (h2 : t ≤ 40) (hl : fs.length = ls.length) (h8 : ls.length ≤ 8) (hp : P.length ≤ 8) :
    MKind t ⟨ls, fs, P⟩ ⟨ls ++ ((apB t).toList.map (·.toNat)), fs ++ (if 15 < t then [2 <<< ls.length, 0] else [0]), P ++ [(false, 1 <<< ls.length, 1 <<< (ls.length + (apB t).size - 1))]⟩
  | op (a b : MS) (P : List (Bool × Nat × Nat)) (e : Bool) (f l : Nat) (h1 : 256 ≤ t) (h2 : t ≤ 258) (hA : a.pile = P ++ [(e, f, l)]) (hP : P.length ≤ 9) (h8 : a.fs.length ≤ 8) : MKind t a b
theorem MTurn.kind {t : Nat} {a b : MS} (h : MTurn t a b) : MKind t a b := by
  cases h with
  | word h1 h2 hl h8 hp => exact .word _ _ _ h1 h2 hl h8 hp
  | star h8 hp ha => exact .op _ _ _ _ _ _ (by (with_reducible exact Ln.o430)) (by (with_reducible exact Ln.o427)) rfl (by (with_reducible exact Ln.o428 ‹_›)) h8
  | @alt ls fs P e f l e' f' l' h8 hp => exact .op _ _ (P ++ [(e, f, l)]) e' f' l' (by (with_reducible exact Ln.o429)) (by (with_reducible exact Ln.o431)) (by simp) (by simp; omega) h8
  | @cat ls fs P e f l e' f' l' h8 hp ha => exact .op _ _ (P ++ [(e, f, l)]) e' f' l' (by (with_reducible exact Ln.o425)) (by (with_reducible exact Ln.o430)) (by simp) (by simp; omega) h8
/-- what stands ahead of the loop over the places -/
inductive MidJ (h₀ : Heap) (L : Addr) (A B : MS) (Dl Df Dp ss sw I : Addr) (oI oS oW : Obj) (ul uf : List Value) (cl cf : Nat) (s₀ : Shared) : Shared → Prop
  | mk (h' : Heap) (tk' : Nat) (dr' : Drawn) (mc : Str → Option Value) (up : List Value) (cp : Nat) (tn : List (Addr × Obj)) (al f : Nat) (ta tf : Tok)
    (c2 : Fr h₀ L h' (ovr [(Str.ofString "letters", some (.ref Dl)), (Str.ofString "follow", some (.ref Df)), (Str.ofString "pile", some (.ref Dp)), (Str.ofString "first", some (.int (f : Int) tf)), (Str.ofString "ahead", some (.int (al : Int) ta))] mc))
    (c3 : News h₀ L h' ((I, oI) :: (Dp, W.listOf up.toArray cp) :: (Df, W.listOf uf.toArray cf) :: (Dl, W.listOf ul.toArray cl) :: (ss, oS) :: (sw, oW) :: tn))
    (c4 : PileAt tn up B.pile)
    (c5 : (∀ p ∈ tn, p.1 ≠ Dp))
    (c6 : (∀ p ∈ tn, p.1 ≠ Df))
    (c7 : (∀ p ∈ tn, p.1 ≠ Dl))
    (c8 : (∀ p ∈ tn, p.1 ≠ ss))
    (c9 : (∀ p ∈ tn, p.1 ≠ sw))
    (c10 : (∀ p ∈ tn, p.1 ≠ I))
    (c11 : AheadOk al A.fs)
    (c12 : B.ls = A.ls)
    (c13 : B.fs = orList A.fs (bitsOf al) f) : MidJ h₀ L A B Dl Df Dp ss sw I oI oS oW ul uf cl cf s₀ { s₀ with heap := h', toks := tk', drawn := dr' }
theorem Fr.cast {h₀ h : Heap} {L : Addr} {m m' : Str → Option Value} (e : m = m') (F : Fr h₀ L h m) : Fr h₀ L h m' := e ▸ F
theorem bitOr_nat (a b : Nat) : Builtin.bitOr (a : Int) (b : Int) = ((a ||| b : Nat) : Int) := by
  unfold Builtin.bitOr
  rw [bitAnd_nn (fun h => bitNot_nonneg.mp h (Int.natCast_nonneg _)) (fun h => bitNot_nonneg.mp h (Int.natCast_nonneg _)), bitNot_bitNot, bitNot_bitNot, bitNot_bitNot]
  simp
theorem bitOr_mul (a b : Nat) (e : Bool) : Builtin.bitOr (a : Int) ((b : Int) * if e = true then 1 else 0) = ((a ||| (if e = true then b else 0) : Nat) : Int) := by
  rw [← bitOr_nat]
  cases e <;> simp
theorem aheadOk_zero (fs : List Nat) : AheadOk 0 fs := ⟨by decide, by decide, fun p h => by simp at h⟩
theorem bitsOf_zero : bitsOf 0 = [] := by decide
theorem orList_length : ∀ (fs ps : List Nat) (f : Nat), (orList fs ps f).length = fs.length
  | _, [], _ => rfl
  | fs, p :: r, f => by
    show (orList (fs.set p (fs.getD p 0 ||| f)) r f).length = _
    rw [orList_length, List.length_set]
theorem placesL_bits (l : Nat) : placesL l = (bitsOf l).map Int.ofNat := rfl
theorem orList_snoc (fs ps : List Nat) (p f : Nat) : orList fs (ps ++ [p]) f = (orList fs ps f).set p ((orList fs ps f).getD p 0 ||| f) := by
  unfold orList; rw [List.foldl_append]; rfl
theorem Upd.mid {D : Addr} {o o' : Obj} {post : List (Addr × Obj)} (b : ∀ p ∈ post, p.1 ≠ D) : ∀ {pre : List (Addr × Obj)}, (∀ p ∈ pre, p.1 ≠ D) → Upd D o o' (pre ++ (D, o) :: post) (pre ++ (D, o') :: post)
  | [], _ => .head b
  | p :: r, a => .tail (a p (.head _)) (Upd.mid b fun q hq => a q (.tail _ hq))
section
variable {prog : Program} {w : World} {A : Around} {E : Value → Shared → Prop} {s : Shared} {h₀ : Heap} {L D : Addr} {m : Str → Option Value} {n : Nat} {vs : List Value} {ns : List Int} {k x : Int} {t u : Tok}
theorem seti_K {pre post : List (Addr × Obj)} {Q : Unit → Shared → Prop} (F : Fr h₀ L s.heap m) (N : News h₀ L s.heap (pre ++ (D, W.listOf vs.toArray n) :: post)) (a : ∀ p ∈ pre, p.1 ≠ D) (b : ∀ p ∈ post, p.1 ≠ D) (hi : IntsAre vs ns) (h0 : 0 ≤ k) (h1 : k < ns.length) (hfit : k < 2 ^ 63)
    (h : ∀ h', Fr h₀ L h' m → News h₀ L h' (pre ++ (D, W.listOf (vs.set k.toNat (.int x u)).toArray n) :: post) → IntsAre (vs.set k.toNat (.int x u)) (ns.set k.toNat x) → Q () { s with heap := h' }) :
    wpAny (model prog w) A (setItem (.ref D) (.int k t) (.int x u)) Q E s := ksa_set F N (Upd.mid b a) hi h0 h1 hfit fun h' F' N' I' _ _ => h h' F' N' I'
end
theorem bitsOf_get {l j p : Nat} (h : (placesL l)[j]? = some (p : Int)) : (bitsOf l)[j]? = some p := by
  rw [placesL_bits, List.getElem?_map] at h
  cases e : (bitsOf l)[j]? with
  | none => rw [e] at h; cases h
  | some q =>
    rw [e] at h
    have h2 : (q : Int) = (p : Int) := Option.some.inj h
    have h3 : q = p := Int.ofNat.inj h2
    rw [h3]
/-- a turn of the loop over the places -/
inductive MaG (Lp I Dp Df Dl ss sw : Addr) (OL oI Op Ol oS oW : Obj) (tn : List (Addr × Obj)) (f : Nat) (tf : Tok) (xs : List Int) : (Str → Option Value) → List (Addr × Obj) → Prop
  | mk (mc : Str → Option Value) (ug : List Value) (cg : Nat) (c3 : IntsAre ug xs) : MaG Lp I Dp Df Dl ss sw OL oI Op Ol oS oW tn f tf xs (ovr [(Str.ofString "letters", some (.ref Dl)), (Str.ofString "follow", some (.ref Df)), (Str.ofString "pile", some (.ref Dp)), (Str.ofString "first", some (.int (f : Int) tf))] mc) ((Lp, OL) :: (I, oI) :: (Dp, Op) :: (Df, W.listOf ug.toArray cg) :: (Dl, Ol) :: (ss, oS) :: (sw, oW) :: tn)
theorem MaG.of {Lp I Dp Df Dl ss sw : Addr} {OL oI Op Ol oS oW : Obj} {tn : List (Addr × Obj)} {f : Nat} {tf : Tok} {xs : List Int} {mm : Str → Option Value} (mc : Str → Option Value) (ug : List Value) (cg : Nat) (e : mm = ovr [(Str.ofString "letters", some (.ref Dl)), (Str.ofString "follow", some (.ref Df)), (Str.ofString "pile", some (.ref Dp)), (Str.ofString "first", some (.int (f : Int) tf))] mc) (c3 : IntsAre ug xs) : MaG Lp I Dp Df Dl ss sw OL oI Op Ol oS oW tn f tf xs mm ((Lp, OL) :: (I, oI) :: (Dp, Op) :: (Df, W.listOf ug.toArray cg) :: (Dl, Ol) :: (ss, oS) :: (sw, oW) :: tn) := by
  subst e; exact .mk mc ug cg c3
/-- what stands when the machine's loop ends -/
inductive MaB (s : Shared) (M : Nat → MS) (Dl Df Dp ss sw : Addr) (n : Nat) : Shared → Prop
  | mk (h' : Heap) (tk' : Nat) (dr' : Drawn) (m' : Str → Option Value) (nw : List (Addr × Obj)) (c1 : Fr s.heap s.heap.objs.size h' m') (c2 : News s.heap s.heap.objs.size h' nw) (c3 : MaJ M Dl Df Dp ss sw n m' nw) : MaB s M Dl Df Dp ss sw n { s with heap := h', toks := tk', drawn := dr' }
theorem tup_name {G : Prop} {h₀ h : Heap} {L T : Addr} {e : Bool} {f l : Nat} {t u : Tok} {n : Nat} {rest : List (Addr × Obj)} (N : News h₀ L h ((T, tupObj e f l t u n) :: rest)) (k : ∀ t u, News h₀ L h ((T, tupObj e f l t u n) :: rest) → G) : G := k t u N
inductive SnEq (P : List (Bool × Nat × Nat)) (e : Bool) (f l : Nat) : List (Bool × Nat × Nat) → Bool → Nat → Nat → Prop
  | mk : SnEq P e f l P e f l
theorem snoc_inj {P P2 : List (Bool × Nat × Nat)} {e e2 : Bool} {f l f2 l2 : Nat} (h : P2 ++ [(e2, f2, l2)] = P ++ [(e, f, l)]) : SnEq P2 e2 f2 l2 P e f l := by
  obtain ⟨rfl, hq⟩ := List.append_inj' h rfl
  cases hq; exact .mk
section
variable {M : Model} {A : Around} {E : Value → Shared → Prop} {s : Shared} {e₁ e₂ : PySem.Expr} {pos : Pos} {env : Env} {Q : Value → Shared → Prop} {x y : Bool}
theorem bool_or (h1 : ∀ Q' : Value → Shared → Prop, Q' (.bool x) s → wpAny M A (eval e₁ env) Q' E s) (h2 : ∀ Q' : Value → Shared → Prop, Q' (.bool y) s → wpAny M A (eval e₂ env) Q' E s) (h : Q (.bool (x || y)) s) :
    wpAny M A (eval (.BoolOp .Or [e₁, e₂] pos) env) Q E s := by
  refine BoolOp_or (h1 _ (wpAny_pure (a := x) ?_))
  cases x
  · exact BoolOp_one (h2 _ h)
  · exact h
theorem bool_and (h1 : ∀ Q' : Value → Shared → Prop, Q' (.bool x) s → wpAny M A (eval e₁ env) Q' E s) (h2 : ∀ Q' : Value → Shared → Prop, Q' (.bool y) s → wpAny M A (eval e₂ env) Q' E s) (h : Q (.bool (x && y)) s) :
    wpAny M A (eval (.BoolOp .And [e₁, e₂] pos) env) Q E s := by
  refine BoolOp_and (h1 _ (wpAny_pure (a := x) ?_))
  cases x
  · exact h
  · exact BoolOp_one (h2 _ h)
variable {prog : Program} {w : World} {h₀ : Heap} {L D : Addr} {m : Str → Option Value} {a b c d : Addr × Obj} {ys : List Value} {v : Value} {n : Nat} {rest : List (Addr × Obj)}
theorem pop_in {own : List (Addr × Obj)} (F : Fr h₀ L s.heap m) (N : News h₀ L s.heap (own ++ (D, W.listOf (ys ++ [v]).toArray n) :: rest)) (ha : ∀ p ∈ own, p.1 ≠ D) (hr : ∀ p ∈ rest, p.1 ≠ D) (hz : ys.length + 1 ≤ sizeLine)
    (h : ∀ h', Fr h₀ L h' m → News h₀ L h' (own ++ (D, W.listOf ys.toArray (n + 1)) :: rest) → Q v { s with heap := h' }) : wpAny (model prog w) A (call (.builtin "list.pop") [.ref D]) Q E s :=
  kl_pop F N (by simpa using kl_last_snoc ys v) (Upd.mid hr ha) (by simpa using hz) h
theorem pop_1 (F : Fr h₀ L s.heap m) (N : News h₀ L s.heap (a :: (D, W.listOf (ys ++ [v]).toArray n) :: rest)) (ha : @Ne Nat a.1 D) (hr : ∀ p ∈ rest, p.1 ≠ D) (hz : ys.length + 1 ≤ sizeLine)
    (h : ∀ h', Fr h₀ L h' m → News h₀ L h' (a :: (D, W.listOf ys.toArray (n + 1)) :: rest) → Q v { s with heap := h' }) : wpAny (model prog w) A (call (.builtin "list.pop") [.ref D]) Q E s :=
  pop_in (own := [a]) F N (fa_cons ha fa_nil) hr hz h
theorem pop_2 (F : Fr h₀ L s.heap m) (N : News h₀ L s.heap (a :: b :: (D, W.listOf (ys ++ [v]).toArray n) :: rest)) (ha : @Ne Nat a.1 D) (hb : @Ne Nat b.1 D) (hr : ∀ p ∈ rest, p.1 ≠ D) (hz : ys.length + 1 ≤ sizeLine)
    (h : ∀ h', Fr h₀ L h' m → News h₀ L h' (a :: b :: (D, W.listOf ys.toArray (n + 1)) :: rest) → Q v { s with heap := h' }) : wpAny (model prog w) A (call (.builtin "list.pop") [.ref D]) Q E s :=
  pop_in (own := [a, b]) F N (fa_cons ha (fa_cons hb fa_nil)) hr hz h
theorem pop_3 (F : Fr h₀ L s.heap m) (N : News h₀ L s.heap (a :: b :: c :: (D, W.listOf (ys ++ [v]).toArray n) :: rest)) (ha : @Ne Nat a.1 D) (hb : @Ne Nat b.1 D) (hc : @Ne Nat c.1 D) (hr : ∀ p ∈ rest, p.1 ≠ D) (hz : ys.length + 1 ≤ sizeLine)
    (h : ∀ h', Fr h₀ L h' m → News h₀ L h' (a :: b :: c :: (D, W.listOf ys.toArray (n + 1)) :: rest) → Q v { s with heap := h' }) : wpAny (model prog w) A (call (.builtin "list.pop") [.ref D]) Q E s :=
  pop_in (own := [a, b, c]) F N (fa_cons ha (fa_cons hb (fa_cons hc fa_nil))) hr hz h
end
end Mine
end
section
open PySem PySem.W PyProof.Rows PySem.Spec PySem.Calls PyProof.Rows.LCg
set_option maxRecDepth 100000
namespace Mine
/-- the i-th item of a list made of bytes -/
noncomputable def ByteAt (b : Array UInt8) (i : Nat) (v : Value) : Prop := ∃ c u, b[i]? = some c ∧ v = .int (c.toNat : Int) u
section
variable {prog : Program} {w : World} {A : Around} {E : Value → Shared → Prop} {s : Shared}
theorem extend_by {R : Result → Shared → Prop} (hh : A.handled = none) (b : Array UInt8) (t : Tok) (S : Addr) (res : Value) (c₀ : Nat) (hS : s.heap.get? S = some { cls := .type "list", data := .seq #[] c₀ }) (hn : b.size ≤ sizeLine)
    (hR : ∀ h' tk acc' c', (∀ b o, b ≠ S → s.heap.get? b = some o → h'.get? b = some o) → h'.get? S = some { cls := .type "list", dict := none, data := .seq acc' c', slots := #[] } → ItemsOf (ByteAt b) acc' b.size → R (.ok (.ret res)) { s with heap := h', toks := tk }) :
    wpAny (model prog w) A.in1 (Builtin.List.listExtendWith (.ref S) (.bytes b t) res)
      (fun fin s' => match fin with | .done f => R (.ok f) s' | .again c' => c'.quiet = true ∧ codeAny (model prog w) A c' R s') (fun e s' => R (.error e) s') s := by
  have hSI : S ≠ s.heap.objs.size := Nat.ne_of_lt (Heap.lt_size hS)
  have hSf : S ∉ [s.heap.objs.size] := fun hm => hSI (List.mem_singleton.mp hm)
  unfold Builtin.List.listExtendWith
  refine wpAny_bind (wpAny_typeOf (T := "bytes") (typeIs_bytes s b t) ?_)
  have h1 : Builtin.List.listSameRef (.ref S) (.bytes b t) = false := rfl
  have h2 : (Value.type "bytes" == Value.type "list") = false := by decide
  have h3 : (Value.type "bytes" == Value.type "tuple") = false := by decide
  simp only [h1, h2, h3, Bool.or_false, Bool.false_eq_true, if_false]
  refine wpAny_bind (KBw.pyIter_bytes ?_)
  refine wpAny_bind (wpAny_holding ?_)
  unfold Builtin.List.listLengthHint
  refine wpAny_bind (wpAny_specialOf (T := "bytes") (v := .bytes b t) (typeIs_bytes _ b t) FB.slot_bytes_len.lookup ?_)
  generalize hid : ("bytes.__len__" : String) = id0
  wp_delta
  rw [show splitId id0 = some ("bytes", "__len__") from by subst hid; decide +kernel]
  subst hid
  refine wpAny_bind (wpAny_isInstance (T := "bytes") (b := true) (typeIs_bytes _ b t) (by rw [isSubtype_type]; kernel_rfl) ?_)
  refine wpAny_ite_split (fun hab => absurd hab (by decide)) (fun _ => ?_)
  refine wpAny_ite_split (fun _ => ?_) (fun hab => absurd (by decide +kernel) hab)
  refine wpAny_bind (wpAny_typeOf (T := "bytes") (typeIs_bytes _ b t) ?_)
  refine wpAny_pure ?_
  refine wpAny_ite_split (fun hab => absurd hab (by decide)) (fun _ => ?_)
  refine wpAny_pure ⟨plainId_quiet PySem.F.plain_extend_loop _, codeAny_extend_loopS (KBw.walks (A := A.in1) hh _ b t).toS hn _ hSf _ b.size 0 _ _ _ rfl (Nat.zero_le _) ⟨_, Heap.get?_push_size _ rfl, rfl, rfl⟩ (Heap.get?_push_of_some _ hS) (ItemsOf.nil _) fun s' acc' c' hm hS' hacc => ?_⟩
  rw [Moved.eq_with hm]
  refine hR s'.heap s'.toks acc' c' (fun b ob hb e => hm.heap b ob (fun hmem => ?_) (Heap.get?_push_of_some _ e)) hS' hacc
  rcases List.mem_cons.mp hmem with e' | hmem
  · exact hb e'
  · exact absurd (Heap.lt_size e) (by rw [List.mem_singleton.mp hmem]; exact Nat.lt_irrefl _)
theorem init_by {R : Result → Shared → Prop} (hh : A.handled = none) (b : Array UInt8) (t : Tok) (S : Addr) (hS : s.heap.get? S = some { cls := .type "list", data := .seq #[] }) (hn : b.size ≤ sizeLine)
    (hR : ∀ h' tk acc' c', (∀ b o, b ≠ S → s.heap.get? b = some o → h'.get? b = some o) → h'.get? S = some { cls := .type "list", dict := none, data := .seq acc' c', slots := #[] } → ItemsOf (ByteAt b) acc' b.size → R (.ok (.ret .none)) { s with heap := h', toks := tk }) :
    wpAny (model prog w) A.in1 (Builtin.«list.__init__» ⟨[.ref S, .bytes b t], []⟩)
      (fun fin s' => match fin with | .done f => R (.ok f) s' | .again c' => c'.quiet = true ∧ codeAny (model prog w) A c' R s') (fun e s' => R (.error e) s') s := by
  show wpAny _ _ (do let old ← Builtin.List.listItems (.ref S); Builtin.List.listUpdate (.ref S) (fun _ => #[]); letGo old.toList.reverse; Builtin.List.listExtendWith (.ref S) (.bytes b t) .none) _ _ s
  refine wpAny_bind ?_
  unfold Builtin.List.listItems
  refine wpAny_bind (wpAny_seqItems hS rfl (wpAny_pure ?_))
  show wpAny _ _ (updateSeq S (fun _ => #[]) >>= fun _ => letGo (#[] : Array Value).toList.reverse >>= fun _ => Builtin.List.listExtendWith (.ref S) (.bytes b t) .none) _ _ s
  refine wpAny_bind (wpAny_updateSeq hS rfl ?_)
  have hS₂ := Heap.get?_update_self (Obj.mapSeq (fun _ => (#[] : Array Value))) hS rfl
  refine wpAny_bind (wpAny_letGo ?_)
  refine extend_by hh b t S .none _ hS₂ hn fun h' tk acc' c' hk hS' hacc => hR h' tk acc' c' (fun b o hb e => hk b o hb ((Heap.get?_update_other _ _ (Ne.symm hb)).trans e)) hS' hacc
theorem call_list_by {Q : Value → Shared → Prop} (hh : A.handled = none) (b : Array UInt8) (t : Tok) (hn : b.size ≤ sizeLine)
    (hQ : ∀ h' tk acc' c', (∀ b o, s.heap.get? b = some o → h'.get? b = some o) → h'.get? s.heap.objs.size = some { cls := .type "list", dict := none, data := .seq acc' c', slots := #[] } → ItemsOf (ByteAt b) acc' b.size → Q (.ref s.heap.objs.size) { s with heap := h', toks := tk }) :
    wpAny (model prog w) A (call (.type "list") [.bytes b t]) Q E s := by
  refine callType_codes (Q₁ := fun obj s₁ => obj = .ref s.heap.objs.size ∧ s₁ = { s with heap := s.heap.push { cls := .type "list", data := .seq #[] } }) PySem.F.called_list (PySem.F.typeCall_list_1 _) PySem.F.entry_list_init
    (code_list_new _ ⟨rfl, rfl⟩) fun obj s₁ h₁ => ?_
  obtain ⟨rfl, rfl⟩ := h₁
  have hS : (s.heap.push { cls := .type "list", data := .seq #[] }).get? s.heap.objs.size = some { cls := .type "list", data := .seq #[] } := Heap.get?_push_size _ rfl
  refine ⟨⟨_, hS, rfl⟩, PySem.F.args_list_init_2 _ _, init_by (A := A.in1) hh b t _ hS hn fun h' tk acc' c' hk hS' hacc => ?_⟩
  exact ⟨rfl, hQ h' tk acc' c' (fun b o e => hk b o (Nat.ne_of_lt (Heap.lt_size e)) (Heap.get?_push_of_some _ e)) hS' hacc⟩
end
theorem ints_of_bytes {b : List UInt8} : ∀ {vs : List Value}, vs.length = b.length → (∀ (j : Nat) (v : Value), vs[j]? = some v → ∃ (c : UInt8) (u : Tok), b[j]? = some c ∧ v = Value.int (c.toNat : Int) u) → IntsAre vs ((b.map (·.toNat)).map Int.ofNat) := by
  induction b with
  | nil => intro vs h _; cases vs with
    | nil => exact .nil
    | cons => simp at h
  | cons c b ih =>
    intro vs h hv
    cases vs with
    | nil => simp at h
    | cons v vs =>
      obtain ⟨c', u, e1, rfl⟩ := hv 0 v rfl
      simp at e1
      subst e1
      exact .cons _ _ (ih (by simpa using h) fun j v hj => by simpa using hv (j + 1) v (by simpa using hj))
section
variable {prog : Program} {w : World} {A : Around} {E : Value → Shared → Prop} {s : Shared} {h₀ : Heap} {L : Addr} {m : Str → Option Value} {news : List (Addr × Obj)}
theorem list_by_K {b : Array UInt8} {t : Tok} {Q : Value → Shared → Prop} (hh : A.handled = none) (F : Fr h₀ L s.heap m) (N : News h₀ L s.heap news) (hn : b.size ≤ sizeLine)
    (h : ∀ (D : Addr) (c : Nat) h' tk (vs : List Value), Fr h₀ L h' m → News h₀ L h' ((D, W.listOf vs.toArray c) :: news) → (∀ q ∈ news, q.1 < D) → IntsAre vs ((b.toList.map (·.toNat)).map Int.ofNat) → Q (.ref D) { s with heap := h', toks := tk }) :
    wpAny (model prog w) A (call (.type "list") [.bytes b t]) Q E s :=
  call_list_by hh b t hn fun h' tk acc' c' hk hD hacc => h _ c' h' tk acc'.toList (F.keeps hk) (news_pushed F N hk (by first | (rw [Array.toArray_toList]; exact hD) | simpa using hD) rfl) (fun q hq => Heap.lt_size (N q hq).1)
    (ints_of_bytes (by rw [Array.length_toList, Array.length_toList]; exact hacc.1) fun j v e => by
      obtain ⟨c, u, e1, e2⟩ := hacc.2 j v (by rw [← Array.getElem?_toList]; exact e)
      exact ⟨c, u, by rw [Array.getElem?_toList]; exact e1, e2⟩)
end
end Mine
end
section
open PySem PySem.W PyProof.Rows PySem.Spec PySem.Calls PyProof.Rows.LCg
set_option maxRecDepth 100000
namespace Mine
section
variable {prog : Program} {w : World} {A : Around} {E : Value → Shared → Prop} {s : Shared} {h₀ : Heap} {L : Addr} {m : Str → Option Value}
inductive CSrcR (prog : Program) (w : World) (A : Around) (h₀ : Heap) (L : Addr) (m : Str → Option Value) (env : Env) (elt : PySem.Expr) (x : Str) (scope : Scope) (cl : List (Str × Addr)) (Q : Value → Shared → Prop) (xv : Value) (s₁ : Shared) : Prop
  | mk (r : Addr) (n : Nat) (t u v : Tok) (news : List (Addr × Obj)) (J : Nat → List Value → List (Addr × Obj) → Prop)
    (c1 : xv = .ref r)
    (c2 : A.handled = none)
    (c3 : IsRange s₁.heap r 0 (n : Int) 1 t u v)
    (c4 : n < 2 ^ 20)
    (c5 : Fr h₀ L s₁.heap m)
    (c6 : News h₀ L s₁.heap news)
    (c7 : J 0 [] news)
    (c8 : (∀ i ys news, J i ys news → ys.length ≤ i))
    (c9 : (∀ i tk₀ I oI C oC D m₂ h tk dr ys news, i < n → J i ys news → NsObj oC m₂ → m₂ x = some (.int (i : Int) tk₀) → Fr h₀ L h m → News h₀ L h ((I, oI) :: (C, oC) :: (D, lst ys) :: news) → Off3 I C D news → ((@Ne Nat I C) ∧ (@Ne Nat I D) ∧ (@Ne Nat C D)) →
      wpAny (model prog w) A (eval elt (compEnvC scope cl C env)) (Made h₀ L m s₁ I oI C oC D ys (J (i + 1))) NoE { s₁ with heap := h, toks := tk, drawn := dr }))
    (c10 : (∀ D h tk dr ys news, Fr h₀ L h m → News h₀ L h ((D, lst ys) :: news) → (∀ p ∈ news, p.1 ≠ D) → J n ys news → Q (.ref D) { s₁ with heap := h, toks := tk, drawn := dr }))
theorem compR {elt iter : PySem.Expr} {x : Str} {px : Pos} {scope : Scope} {cl : List (Str × Addr)} {pos : Pos} {env : Env} {Q : Value → Shared → Prop} (_F : Fr h₀ L s.heap m)
    (hclos : closureFor scope env = pure cl) (hcell : ∀ y ∈ scope.names, y.2 ≠ .cell) (hkind : scope.kind = .function)
    (hnames : ∀ y ∈ scope.names, y.2 = .local → scope.names.lookup y.1 = some .local) (hx : scope.names.lookup x = some .local)
    (h : wpAny (model prog w) A (eval iter env) (CSrcR prog w A h₀ L m env elt x scope cl Q) NoE s)
    (hs : ∀ x, foldedSetIterable iter env x = pure x := by intro _; rfl) :
    wpAny (model prog w) A (eval (.ListComp elt [⟨.Name x px, iter, [], 0⟩] scope pos) env) Q E s := by
  refine compTop (h₀ := h₀) (L := L) (m := m) (g := ⟨.Name x px, iter, [], 0⟩) (gs := []) hclos hcell hkind rfl hnames hs (wpAny_mono h (fun xv s₁ h₁ => ?_) fun _ _ e => e)
  obtain ⟨r, n, t, u, v, news, J, rfl, hh, hr, hn, F, N, hj, hJS, step, fin⟩ := h₁
  have hb : (n : Int) < 2 ^ 62 := by
    have h1 : ((2 : Nat) ^ 20 : Nat) = 1048576 := by decide
    have h2 : ((2 : Int) ^ 62) = 4611686018427387904 := by decide
    (with_reducible exact Ln.o436 ‹_›)
  refine wpAny_pyIter_range hr (small_one (by decide) (by decide) (by have : ((2 : Int) ^ 62) = 4611686018427387904 := by decide
                                                                      omega) hb) ?_
  have hsz : Builtin.Range.rangeSize 0 (n : Int) 1 = (n : Int) := by rw [rangeSize_one]; split <;> (first | with_reducible exact Ln.o326 | with_reducible exact Ln.o322 ‹_›)
  have up : ∀ b o, s₁.heap.get? b = some o → (s₁.heap.push { cls := .type "range_iterator", data := .fields #[rawInt 0, rawInt (Builtin.Range.rangeSize 0 n 1), rawInt 1] }).get? b = some o := fun b o e => Heap.get?_push_of_some _ e
  refine ⟨_, news, rfl, F.keeps up, fun p hp => ⟨up _ _ (N p hp).1, (N p hp).2⟩, ⟨_, Heap.get?_push_size _ rfl⟩, fun p hp => Nat.ne_of_lt (Heap.lt_size (N p hp).1), ?_⟩
  intro C D oC h₂ tk F₂ N₂ hC₂ off₂ hIC hID hCD k₂
  have W := Walks.range (prog := prog) (w := w) hh s₁.heap.objs.size 0 1 n
  have hst : IsRangeIter h₂ s₁.heap.objs.size ((0 : Int) + ((0 : Nat) : Int) * 1) ((n : Int) - ((0 : Nat) : Int)) 1 := by
    have e1 : ((0 : Int) + ((0 : Nat) : Int) * 1) = 0 := by simp
    have e2 : ((n : Int) - ((0 : Nat) : Int)) = Builtin.Range.rangeSize 0 n 1 := by rw [hsz]; simp
    rw [e1, e2]
    exact k₂ _ _ (Heap.get?_push_size _ rfl)
  refine ⟨fun Q' hQ' => W.self 0 _ Q' NoE hst hQ', ?_⟩
  have hloop := fun (Ix : Nat → Shared → Prop) a (kk : Nat) (s' : Shared) hs' => loop_last (s := s') (prog := prog) (w := w) (A := A) (R := CompR h₀ L m { s₁ with heap := s₁.heap.push { cls := .type "range_iterator", data := .fields #[rawInt 0, rawInt (Builtin.Range.rangeSize 0 n 1), rawInt 1] } } s₁.heap.objs.size C D Q)
    (elt := elt) (target := .Name x px) (iter := iter) (ifs := []) (gens := [⟨.Name x px, iter, [], 0⟩]) (d := 0) (scope := scope) (pos := pos) (it := .ref s₁.heap.objs.size) (acc := .ref D) (env := compEnvC scope cl C env) rfl rfl Ix a kk hs'
  refine compJ (G := fun s' => codeAny (model prog w) A _ _ s') (S := fun _ => True) (Cm := fun _ => True) hloop W (fun i h st => ⟨_, st⟩) (fun i h h' o nw st e1 e2 _ _ _ => ?_) J (fun _ _ _ _ => trivial)
    (Nat.ne_of_lt F.ns.lt) (next_is_new F) hIC hID ?_ (CompR.of (f := .next) fun h' tk' dr' ys news' F' N' hD hJ => fin D h' tk' dr' ys news' F' N' hD hJ) hst F₂ N₂ ⟨hC₂, trivial⟩ off₂ hj
  · have st' : h.get? s₁.heap.objs.size = _ := st
    rw [st'] at e1
    show h'.get? s₁.heap.objs.size = _
    rw [e2, ← e1]
  intro i v h tk dr ys news oI oC m₂ Pst hi hPv _ hJ hC' F' N' off hP
  have hC := hC'.1
  obtain ⟨t', rfl⟩ := hPv
  rw [show (0 : Int) + (i : Int) * 1 = (i : Int) by (with_reducible exact Ln.o325)]
  refine wpAny_pure ?_
  have offm := off.mem
  refine stC (pre := [(s₁.heap.objs.size, oI)]) F' N' hC (fun p hp => by rw [List.mem_singleton.mp hp]; exact hIC) (fun p hp => ?_) hx hkind fun h' oC' F3 N3 hC3 => ?_
  · rcases List.mem_cons.mp hp with rfl | hp
    · exact Ne.symm hCD
    · exact (offm p hp).2.1
  refine wpAny_tests_nil ?_
  rw [if_pos rfl]
  refine wpAny_mono (step i t' _ oI C oC' D _ h' _ dr ys news hi hJ hC3 (by simp) F3 N3 off ⟨hIC, hID, hCD⟩) (fun y s' hy => ?_) fun _ _ e => e
  obtain ⟨h4, tk4, dr4, news4, rfl, F4, N4, off4, hJ4⟩ := hy
  exact push_item F4 N4 ⟨hC3, trivial⟩ off4 hID hCD (Nat.le_trans (hJS _ _ _ hJ) (by rw [sizeLine_eq]; have h1 : ((2 : Nat) ^ 20 : Nat) = 1048576 := by decide
                                                                                     (with_reducible exact Ln.o435 ‹_› ‹_›))) hJ4 hP
end
noncomputable def folW (l b k : Nat) : Nat := if k + 1 < b then 2 <<< (l + k) else 0
theorem shl_int (a k : Nat) {e : Int} (h : e = (k : Int)) : ((a : Int) * 2 ^ e.toNat) = ((a <<< k : Nat) : Int) := by
  subst h
  rw [Int.toNat_natCast, Nat.shiftLeft_eq]
  simp
theorem folW_yes {l b k : Nat} {e : Int} (h : k + 1 < b) (he : e = ((l + k : Nat) : Int)) : (2 * 2 ^ e.toNat : Int) = ((folW l b k : Nat) : Int) := by
  unfold folW
  rw [if_pos h]
  exact shl_int 2 (l + k) he
theorem folW_no {l b k : Nat} (h : ¬ k + 1 < b) : (0 : Int) = ((folW l b k : Nat) : Int) := by
  unfold folW
  rw [if_neg h]; rfl
theorem folW_all (l n : Nat) : (List.range (apB n).size).map (folW l (apB n).size) = if 15 < n then [2 <<< l, 0] else [0] := by
  unfold apB
  split
  · rfl
  · rfl
theorem shl_one {k : Nat} {e : Int} (h : e = (k : Int)) : (1 * 2 ^ e.toNat : Int) = ((1 <<< k : Nat) : Int) := shl_int 1 k h
end Mine
end
local macro_rules | `(tactic| walk_at "SUB") => `(tactic| first | (with_reducible walk_at "SUB1"; done) | (unfold Mine.tupObj; with_reducible walk_at "SUB1"; done) | (walk_at "SUB1"; done))
local macro_rules | `(tactic| walk_at "exec If") => `(tactic| (rename Mine.StopMark => smX; refine Mine.StopHere.in ?_))
section
open PySem PySem.W PyProof.Rows PySem.Spec PySem.Calls PyProof.Rows.LCg
set_option maxRecDepth 100000
namespace Mine
section
local macro_rules | `(tactic| walk_at $k) => if "eval BoolOp|getItem ref int|getItem ref|setItem ref int|setItem ref|exec AugAssign Subscript|call builtin:list.pop|call builtin:list.append".splitOn "|" |>.contains k.getString then `(tactic| (refine StopHere.in ?_)) else throw .unsupportedSyntax
local macro_rules | `(tactic| walk_at "eval ListComp") => `(tactic| (k_dflt (refine compR (by k_asm) (by with_unfolding_all rfl) (by decide) (by rfl) (by decide) (by rfl) ?_)))

set_option maxHeartbeats 8000000 in
theorem ma_spec (w : World) (a : Addr) (va : List Value) (tks : List Nat) (M : Nat → MS) (hM0 : M 0 = ⟨[], [], []⟩) (hM : ∀ i t, tks[i]? = some t → MTurn t (M i) (M (i + 1))) (htl : tks.length ≤ 100) (dp un : Nat) (gd : Option (List Code)) (fr : Option (List Env)) (s : Shared) (Q : Value → Shared → Prop)
   (mean : ExcName → Option Value) (mg mb : Str → Option Value) (X : (hd.heap_39 w.params).In s.heap) (T : Top VW LS mean mg mb s.heap) (ha : s.heap.IsList a va.toArray) (ia : IntsAre va ((tks ++ [0]).map Int.ofNat))
   (hdp : dp + 4 < recursionLimit)
   (hret : ∀ (Dl Df Dp : Addr) (h' : Heap) (tk : Nat) (dr : Drawn) (m : Str → Option Value) (news : List (Addr × Obj)) (vl vf vp : List Value) (cl cf cp ct : Nat) (T : Addr), Fr s.heap s.heap.objs.size h' m → News s.heap s.heap.objs.size h' news → (T, { cls := .type "tuple", data := .seq #[.ref Dl, .ref Df, .ref Dp] ct }) ∈ news → (Dl, W.listOf vl.toArray cl) ∈ news → (Df, W.listOf vf.toArray cf) ∈ news → (Dp, W.listOf vp.toArray cp) ∈ news → IntsAre vl ((M tks.length).ls.map Int.ofNat) → IntsAre vf ((M tks.length).fs.map Int.ofNat) → PileAt news vp (M tks.length).pile → Q (.ref T) { s with heap := h', toks := tk, drawn := dr }) :
   wpAny (model PySem.Challenge.rw_wb0017_01.row.prog w) (AR dp un gd fr) (call (.ref 74) [.ref a]) Q (fun _ _ => False) s := by
  w_on
  have hfill : (PySem.Challenge.rw_wb0017_01 = PySem.Challenge.rw_wb0017_01) ∧ (hd.heap_39 = hd.heap_39) := by k_fill; exact ⟨rfl, rfl⟩
  
  w_strict (k_dflt (refine' enterPC (binds := [(Str.ofString "tokens", .ref a)]) ?k3 ?k5 ?k6 ?k7 ?k8 ?k9 ?kB ?kD ?_ ?c2 ?c3 ?c4; (case k3 => assumption); (case k5 => assumption); (case k6 => k_is); (case k7 => k_is); (case k8 => (with_reducible exact Ln.o390 ‹_›)); (case k9 => exact BindsTo.of_eq rfl); (case kB => exact rfl); (case kD => decide +kernel); (case c2 => exact rfl); (case c3 => exact rfl); (case c4 => exact rfl)))
  intro h₁ tk cells F N Y
  k_cells Y
  w_strict (k_steps)
  rename Fr _ _ _ _ => F1
  rename News _ _ _ _ => N1
  rename_i oS oW dS dW Dl _ q1 _ Df _ q2 _ Dp _ q3 _
  refine and2 q1 ?_
  intro a1 a2
  refine and3 q2 ?_
  intro b1 b2 b3
  refine and4 q3 ?_
  intro e1 e2 e3 e4
  have r1 : @Ne Nat Dp Df := Nat.ne_of_gt e1
  have r2 : @Ne Nat Dp Dl := Nat.ne_of_gt e2
  have r3 : @Ne Nat Dp (s.heap.objs.size + 1 + 1) := Nat.ne_of_gt e3
  have r4 : @Ne Nat Dp (s.heap.objs.size + 1) := Nat.ne_of_gt e4
  have r5 : @Ne Nat Df Dl := Nat.ne_of_gt b1
  have r6 : @Ne Nat Df (s.heap.objs.size + 1 + 1) := Nat.ne_of_gt b2
  have r7 : @Ne Nat Df (s.heap.objs.size + 1) := Nat.ne_of_gt b3
  have r8 : @Ne Nat Dl (s.heap.objs.size + 1 + 1) := Nat.ne_of_gt a1
  have r9 : @Ne Nat Dl (s.heap.objs.size + 1) := Nat.ne_of_gt a2
  clear a1 a2 b1 b2 b3 e1 e2 e3 e4
  refine forK_brk (fun s' => MaB s M Dl Df Dp (s.heap.objs.size + 1 + 1) (s.heap.objs.size + 1) tks.length s') ?_ (fun post => ?_)
  · clear F1 N1
    rintro s' ⟨h', tk', dr', m', nw, F2, N2, mc, oS, oW, cS, cW, ul, uf, up, cl, cf, cp, tn, dS, dW, hul, huf, hup, t1, t2, t3, t4, t5⟩
    dsimp only
    w_strict (k_steps)
    rename Fr _ _ _ _ => F3
    rename News _ _ _ _ => N3
    exact hret Dl Df Dp _ _ _ _ _ ul uf up cl cf cp _ _ F3 N3 (.head _) (.tail _ (.tail _ (.tail _ (.head _)))) (.tail _ (.tail _ (.head _))) (.tail _ (.head _)) hul huf (hup.mono fun p hp => .tail _ (.tail _ (.tail _ (.tail _ (.tail _ (.tail _ hp))))))
  refine forK_listB post rfl (fun i mm nw => i ≤ tks.length ∧ MaJ M Dl Df Dp (s.heap.objs.size + 1 + 1) (s.heap.objs.size + 1) i mm nw) [] (ha.at fun o e => F1.keep _ o e) (.inl ?_) (fun _ _ _ _ _ hp => nomatch hp) F1 N1 ?_ ?_ ?_
  · obtain ⟨o, e, _⟩ := ha; exact ⟨o, e⟩
  · exact ⟨Nat.zero_le _, MaJ.of _ oS oW _ _ [] [] [] 0 0 0 [] (ovr_of (fa_cons rfl (fa_cons rfl (fa_cons rfl fa_nil))) (fun _ _ => rfl)) dS dW (by rw [hM0]; exact .nil) (by rw [hM0]; exact .nil) (by rw [hM0]; exact .nil) fa_nil fa_nil fa_nil fa_nil fa_nil⟩
  · rintro R' post' I i v h tk dr mm nw oI hIs hi hv ⟨hile, mc, oS, oW, cS, cW, ul, uf, up, cl, cf, cp, tn, dS, dW, hul, huf, hup, t1, t2, t3, t4, t5⟩ hnI F2 N2
    obtain ⟨n, tt, hn⟩ := nats_item ia (i := i) (by simpa using hv)
    clear F1 N1
    first | refine off5 hnI ?_ | refine ltt5 hnI ?_
    intro i1 i2 i3 i4 i5 i6
    w_strict (k_steps)
    rename Fr _ _ _ _ => F3
    rename News _ _ _ _ => N3
    refine' eof_spec w _ _ _ _ _ _ _ _ _ _ _ ?eX ?eT ?ed ?er
    case eX => exact X.keeps F3.keep
    case eT => exact T.keeps F3.keep
    case ed => show dp + 1 + 1 < _; (with_reducible exact Ln.o447 ‹_›)
    intro h' tk' dr' m' F5
    have F4 := FrUp F3 F5
    have N4 := NewsUp N3 F5
    clear F3 N3 F5
    rcases toks_item hn with hn | ⟨rfl, rfl⟩
    case inr =>
      w_strict (k_steps)
      dsimp only
      exact post' _ ⟨_, _, _, _, _, F4, News.sub N4 (fun p hp => .tail _ hp), (MaJ.of _ oS oW _ _ ul uf up cl cf cp tn (ovr_of (fa_cons rfl (fa_cons rfl (fa_cons rfl fa_nil))) (fun _ _ => rfl)) dS dW hul huf hup t1 t2 t3 t4 t5)⟩
    have hilt : i + 1 ≤ tks.length := (List.getElem?_eq_some_iff.mp hn).1
    have hturn := hM i n hn
    have hn0 : 1 ≤ n := hturn.pos
    rw [show ((n : Int) == 0) = false by simp; (with_reducible exact Ln.o335 ‹_›)]
    w_strict (k_steps)
    refine' term_spec w _ _ _ _ _ _ _ _ _ _ _ ?tX ?tT ?td ?tr
    case tX => exact X.keeps F4.keep
    case tT => exact T.keeps F4.keep
    case td => show dp + 1 + 1 < _; (with_reducible exact Ln.o447 ‹_›)
    intro h' tk' dr' m' F5
    have F3 := FrUp F4 F5
    have N3 := NewsUp N4 F5
    clear F4 N4 F5
    generalize hA : M i = SA at hul huf hup hturn
    generalize hB : M (i + 1) = SB at hturn
    rcases hturn.kind with ⟨ls, fs, P, h1, h2, hl, h8, hp⟩ | ⟨SA, SB, P, e, f, l, hn1, hn2, hAp, hP9, hf8⟩
    · rw [show (decide ((n : Int) < 256)) = true from decide_eq_true (by (with_reducible exact Ln.o450 ‹_›))]
      w_strict (k_steps)
      rename Fr _ _ _ _ => F4
      rename News _ _ _ _ => N4
      refine' ap_spec w n _ h1 h2 _ _ _ _ _ _ _ _ _ ?wX ?wT ?wd ?wr
      case wX => exact X.keeps F4.keep
      case wT => exact T.keeps F4.keep
      case wd => show dp + 1 + 1 < _; (with_reducible exact Ln.o447 ‹_›)
      intro t' h' tk' dr' m' F5
      have F6 := FrUp F4 F5
      have N6 := NewsUp N4 F5
      clear F4 N4 F5
      w_strict (k_steps)
      rename Fr _ _ _ _ => F7
      rename News _ _ _ _ => N7
      have hsz : (apB n).size ≤ 2 := by unfold apB; split <;> simp
      refine' list_by_K rfl ?lF ?lN ?lz ?lQ
      case lF => exact F7
      case lN => exact N7
      case lz => rw [sizeLine_eq]; (with_reducible exact Ln.o455 ‹_›)
      intro Dw cw h1 tk1 vw F8 N8 hlw hvw
      obtain ⟨bs, hbs⟩ : ∃ bs, bs = (apB n).toList.map (·.toNat) := ⟨_, rfl⟩
      have hbl : bs.length = (apB n).size := by rw [hbs, List.length_map, Array.length_toList]
      rw [← hbs] at hvw
      have hbl1 : (bs.map Int.ofNat).length ≤ 2 := by rw [List.length_map]; (with_reducible exact Ln.o461 ‹_› ‹_›)
      have hbl2 : bs.length ≤ 2 := by (with_reducible exact Ln.o461 ‹_› ‹_›)
      first | refine off6 hlw ?_ | refine ltt6 hlw ?_
      intro m1 m2 m3 m4 m5 m6 m7
      have v1 : @Ne Nat Dw I := Nat.ne_of_gt m1
      have v2 : @Ne Nat Dw Dp := Nat.ne_of_gt m2
      have v3 : @Ne Nat Dw Df := Nat.ne_of_gt m3
      have v4 : @Ne Nat Dw Dl := Nat.ne_of_gt m4
      have v5 : @Ne Nat Dw (s.heap.objs.size + 1 + 1) := Nat.ne_of_gt m5
      have v6 : @Ne Nat Dw (s.heap.objs.size + 1) := Nat.ne_of_gt m6
      clear F7 N7
      w_strict (k_steps)
      rename Fr _ _ _ _ => F7
      rename News _ _ _ _ => N7
      rename_i oW2 dW2 _ _ oS2 dS2
      have hvl := hvw.length
      have hull := hul.length
      have hufl := huf.length
      have hupl : up.length ≤ 8 := by rw [hup.length]; exact hp
      simp only [List.length_map] at hvl hull hufl
      refine' extend_in (D := Dl) (b := Dw) (ys := ul) (n := cl) (its2 := vw.toArray) (own := [(Dw, W.listOf vw.toArray cw), (I, oI), (Dp, W.listOf up.toArray cp), (Df, W.listOf uf.toArray cf)]) (rest := (s.heap.objs.size + 1 + 1, oS2) :: (s.heap.objs.size + 1, oW2) :: tn) ?eF ?eN ?ea ?eb ?ec ?ed2 ?ez
      case eF => exact F7
      case eN => exact N7
      case ea => exact fa_cons v4 (fa_cons (Ne.symm i3) (fa_cons r2 (fa_cons r5 fa_nil)))
      case eb => exact fa_cons (Ne.symm r8) (fa_cons (Ne.symm r9) t3)
      case ec => exact (N7 _ (.head _)).1
      case ez => rw [sizeLine_eq, List.size_toArray]; omega
      intro h2 n2 F9 N9
      have hul2 : IntsAre (ul ++ vw) ((ls ++ bs).map Int.ofNat) := by rw [List.map_append]; exact hul.append hvw
      replace N9 : News s.heap s.heap.objs.size h2 ((Dw, W.listOf vw.toArray cw) :: (I, oI) :: (Dp, W.listOf up.toArray cp) :: (Df, W.listOf uf.toArray cf) :: (Dl, W.listOf (ul ++ vw).toArray n2) :: (s.heap.objs.size + 1 + 1, oS2) :: (s.heap.objs.size + 1, oW2) :: tn) := N9
      clear F7 N7
      w_strict (k_steps)
      rename IsRange _ _ _ _ _ _ _ _ => hR
      rename Fr _ _ _ _ => F7
      rename News _ _ _ _ => N7
      refine ⟨_, (bs.map Int.ofNat).length, _, _, _, _, fun i' ys nw => nw = (Dw, W.listOf vw.toArray cw) :: (I, oI) :: (Dp, W.listOf up.toArray cp) :: (Df, W.listOf uf.toArray cf) :: (Dl, W.listOf (ul ++ vw).toArray n2) :: (s.heap.objs.size + 1 + 1, oS2) :: (s.heap.objs.size + 1, oW2) :: tn ∧ IntsAre ys (((List.range i').map (folW ls.length bs.length)).map Int.ofNat), rfl, rfl, hR, by (with_reducible exact Ln.o460 ‹_›), F7, N7, ⟨rfl, .nil⟩, ?_, ?_, ?_⟩
      · rintro i' ys nw ⟨rfl, hys⟩
        rw [hys.length, List.length_map, List.length_map, List.length_range]; exact Nat.le_refl _
      · rintro i' tk₀ I' oI' C oC D m₂ h tk dr ys nw hi' ⟨rfl, hys⟩ hC hm2 Fa Na off hne
        clear F7 N7
        w_strict (k_steps)
        · rename (i' : Int) + 1 < _ => hlt'
          rw [List.length_map] at hlt'
          refine Made.mk' Fa Na off ⟨rfl, ?_⟩
          rw [List.range_succ, List.map_append, List.map_append, show (2 * 2 ^ (((ls.map Int.ofNat).length : Int) + (i' : Int)).toNat : Int) = ((folW ls.length bs.length i' : Nat) : Int) from folW_yes (by (with_reducible exact Ln.o444 ‹_›)) (by rw [List.length_map]; (with_reducible exact Ln.o437))]
          exact ints_snoc hys
        · rename ¬ (i' : Int) + 1 < _ => hlt'
          rw [List.length_map] at hlt'
          refine Made.mk' Fa Na off ⟨rfl, ?_⟩
          rw [List.range_succ, List.map_append, List.map_append, show (0 : Int) = ((folW ls.length bs.length i' : Nat) : Int) from folW_no (by (with_reducible exact Ln.o454 ‹_›))]
          exact ints_snoc hys
      · rintro D9 h tk dr ys nw Fa Na hD9 ⟨rfl, hys⟩
        rw [List.length_map] at hys
        first | refine off7 hD9 ?_ | refine ltt7 hD9 ?_
        intro n1 n22 n3 n4 n5 n6 n7 n8
        have hysl := hys.length
        simp only [List.length_map, List.length_range] at hysl
        clear F7 N7
        w_strict (k_steps)
        rename Fr _ _ _ _ => F7
        rename News _ _ _ _ => N7
        refine' extend_in (D := Df) (b := D9) (ys := uf) (n := cf) (its2 := ys.toArray) (own := [(D9, lst ys), (Dw, W.listOf vw.toArray cw), (I, oI), (Dp, W.listOf up.toArray cp)]) (rest := (Dl, W.listOf (ul ++ vw).toArray n2) :: (s.heap.objs.size + 1 + 1, oS2) :: (s.heap.objs.size + 1, oW2) :: tn) ?fF ?fN ?fa ?fb ?fc ?fd ?fz
        case fF => exact F7
        case fN => exact N7
        case fa => exact fa_cons (Ne.symm n4) (fa_cons v3 (fa_cons (Ne.symm i2) (fa_cons r1 fa_nil)))
        case fb => exact fa_cons (Ne.symm r5) (fa_cons (Ne.symm r6) (fa_cons (Ne.symm r7) t2))
        case fc => exact (N7 _ (.head _)).1
        case fz => rw [sizeLine_eq, List.size_toArray]; omega
        intro h3 n3 F9 N9
        have huf2 : IntsAre (uf ++ ys) ((fs ++ (List.range bs.length).map (folW ls.length bs.length)).map Int.ofNat) := by rw [List.map_append]; exact huf.append hys
        replace N9 : News s.heap s.heap.objs.size h3 ((D9, lst ys) :: (Dw, W.listOf vw.toArray cw) :: (I, oI) :: (Dp, W.listOf up.toArray cp) :: (Df, W.listOf (uf ++ ys).toArray n3) :: (Dl, W.listOf (ul ++ vw).toArray n2) :: (s.heap.objs.size + 1 + 1, oS2) :: (s.heap.objs.size + 1, oW2) :: tn) := N9
        have N8 := News.sub (news' := (I, oI) :: (Dp, W.listOf up.toArray cp) :: (Df, W.listOf (uf ++ ys).toArray n3) :: (Dl, W.listOf (ul ++ vw).toArray n2) :: (s.heap.objs.size + 1 + 1, oS2) :: (s.heap.objs.size + 1, oW2) :: tn) N9 (fun p hp => .tail _ (.tail _ hp))
        clear F7 N7 N9
        have hll2 : ((ls ++ bs).map Int.ofNat).length ≤ 10 := by rw [List.length_map, List.length_append]; (with_reducible exact Ln.o465 ‹_› ‹_› ‹_›)
        have hll3 : 1 ≤ ((ls ++ bs).map Int.ofNat).length := by
          rw [List.length_map, List.length_append, hbl]; unfold apB; split <;> simp
        w_strict (k_steps)
        rename Fr _ _ _ _ => F7
        rename News _ _ _ _ => N7
        have q1 : (1 * 2 ^ (((ls.map Int.ofNat).length : Int)).toNat : Int) = ((1 <<< ls.length : Nat) : Int) := shl_one (by rw [List.length_map])
        have q2 : (1 * 2 ^ ((((ls ++ bs).map Int.ofNat).length : Int) - 1).toNat : Int) = ((1 <<< (ls.length + (apB n).size - 1) : Nat) : Int) := shl_one (by rw [List.length_map, List.length_append] at hll3 ⊢; (with_reducible exact Ln.o446 ‹_› ‹_›))
        rw [q1, q2] at N7
        rename_i T2 _ qT
        refine and7 qT ?_
        intro z3 z2 z4 z5 z6 z7 zt
        have zm := allLt_mem zt
        refine tup_name (e := false) (f := (1 <<< ls.length)) (l := (1 <<< (ls.length + (apB n).size - 1))) (n := 0) N7 ?_; intro tA tB N7
        refine StopHere.out ?_
        refine' append_in (D := Dp) (ys := up) (n := cp) (own := [(T2, tupObj false (1 <<< ls.length) (1 <<< (ls.length + (apB n).size - 1)) tA tB 0), (I, oI)]) (rest := (Df, W.listOf (uf ++ ys).toArray n3) :: (Dl, W.listOf (ul ++ vw).toArray n2) :: (s.heap.objs.size + 1 + 1, oS2) :: (s.heap.objs.size + 1, oW2) :: tn) ?gF ?gN ?ga ?gb ?gc ?gz
        case gF => exact F7
        case gN => exact N7
        case gz => rw [sizeLine_eq]; (with_reducible exact Ln.o410 ‹_›)
        case ga => exact fa_cons (Nat.ne_of_gt z2) (fa_cons (Ne.symm i1) fa_nil)
        case gb => exact fa_cons (Ne.symm r1) (fa_cons (Ne.symm r2) (fa_cons (Ne.symm r3) (fa_cons (Ne.symm r4) t1)))
        intro h4 F9 N9
        replace N9 : News s.heap s.heap.objs.size h4 ((T2, tupObj false (1 <<< ls.length) (1 <<< (ls.length + (apB n).size - 1)) tA tB 0) :: (I, oI) :: (Dp, W.listOf (up ++ [Value.ref T2]).toArray (cp + 1)) :: (Df, W.listOf (uf ++ ys).toArray n3) :: (Dl, W.listOf (ul ++ vw).toArray n2) :: (s.heap.objs.size + 1 + 1, oS2) :: (s.heap.objs.size + 1, oW2) :: tn) := N9
        clear F7 N7
        w_strict (k_steps)
        rename Fr _ _ _ _ => Fc
        rename News _ _ _ _ => Nc
        refine ForPost.cont (news' := (Dp, W.listOf (up ++ [Value.ref T2]).toArray (cp + 1)) :: (Df, W.listOf (uf ++ ys).toArray n3) :: (Dl, W.listOf (ul ++ vw).toArray n2) :: (s.heap.objs.size + 1 + 1, oS2) :: (s.heap.objs.size + 1, oW2) :: (T2, tupObj false (1 <<< ls.length) (1 <<< (ls.length + (apB n).size - 1)) tA tB 0) :: tn) Fc Nc (.tail _ (.head _)) (fun p hp => ?_) ?_ ⟨hilt, MaJ.of _ oS2 oW2 _ _ (ul ++ vw) (uf ++ ys) (up ++ [Value.ref T2]) n2 n3 (cp + 1) ((T2, tupObj false (1 <<< ls.length) (1 <<< (ls.length + (apB n).size - 1)) tA tB 0) :: tn) (ovr_of (fa_cons rfl (fa_cons rfl (fa_cons rfl fa_nil))) (fun _ _ => rfl)) dS2 dW2 ?_ ?_ ?_ (fa_cons (Nat.ne_of_gt z2) t1) (fa_cons (Nat.ne_of_gt z4) t2) (fa_cons (Nat.ne_of_gt z5) t3) (fa_cons (Nat.ne_of_gt z6) t4) (fa_cons (Nat.ne_of_gt z7) t5)⟩
        · revert p; walk_at "SUB"
        · exact fa_cons i1 (fa_cons i2 (fa_cons i3 (fa_cons i4 (fa_cons i5 (fa_cons (Nat.ne_of_gt z3) i6)))))
        · rw [hB]; rw [hbs] at hul2; exact hul2
        · rw [hB]; rw [hbl, folW_all] at huf2; exact huf2
        · rw [hB]; exact (PileAt.mono (fun p hp => .tail _ hp) hup).snoc (.head _)
    · rw [show (decide ((n : Int) < 256)) = false from decide_eq_false (by (with_reducible exact Ln.o438 ‹_›))]
      w_strict (k_steps)
      rw [hAp] at hup
      rename Fr _ _ _ _ => F4
      rename News _ _ _ _ => N4
      obtain ⟨up', T1, tt1, tu1, tn1, hup1, hT1⟩ := hup.unsnoc
      have y1 : @Ne Nat T1 Dp := t1 _ hT1
      have y2 : @Ne Nat T1 Df := t2 _ hT1
      have y3 : @Ne Nat T1 Dl := t3 _ hT1
      have y4 : @Ne Nat T1 (s.heap.objs.size + 1 + 1) := t4 _ hT1
      have y5 : @Ne Nat T1 (s.heap.objs.size + 1) := t5 _ hT1
      have y6 : @Ne Nat T1 I := i6 _ hT1
      have hpl : up'.length ≤ 9 := by rw [hup1.length]; exact hP9
      refine StopHere.out ?_
      refine' pop_1 F4 N4 (Ne.symm i1) (fa_cons (Ne.symm r1) (fa_cons (Ne.symm r2) (fa_cons (Ne.symm r3) (fa_cons (Ne.symm r4) t1)))) ?pz ?_
      case pz => rw [sizeLine_eq]; (with_reducible exact Ln.o443 ‹_›)
      intro h1 F5 N5
      have N6 := News.sub (news' := (T1, tupObj e f l tt1 tu1 tn1) :: (Dp, W.listOf up'.toArray (cp + 1)) :: (I, oI) :: (Df, W.listOf uf.toArray cf) :: (Dl, W.listOf ul.toArray cl) :: (s.heap.objs.size + 1 + 1, oS) :: (s.heap.objs.size + 1, oW) :: tn) N5 (by walk_at "SUB")
      clear F4 N4 N5
      unfold tupObj at N6
      have mk : StopMark := trivial
      w_strict (k_steps)
      refine StopHere.out ?_
      rename StopMark => mk2; clear mk2
      rename Fr _ _ _ _ => F7
      rename News _ _ _ _ => N7
      refine wpAny_mono (Q := fun fl s' => fl = .next ∧ MidJ s.heap s.heap.objs.size SA SB Dl Df Dp (s.heap.objs.size + 1 + 1) (s.heap.objs.size + 1) I oI oS oW ul uf cl cf s s') ?mA ?mB (fun _ _ x => x)
      case mB =>
        rintro fl s' ⟨rfl, h', tk', dr', mc, up, cp, tn, al, f, ta, tf, F5, N5, hP5, u1, u2, u3, u4, u5, u6, hah, hBl, hBf⟩
        dsimp only
        clear F7 N7
        w_strict (k_steps)
        rename Fr _ _ _ _ => F6
        rename News _ _ _ _ => N6
        refine' places_spec w al ta hah.1 hah.2.1 _ _ _ _ _ _ _ _ _ ?qX ?qT ?qd ?qr
        case qX => exact X.keeps F6.keep
        case qT => exact T.keeps F6.keep
        case qd => show dp + 1 + 2 < _; (with_reducible exact Ln.o391 ‹_›)
        intro Lp h' tk' dr' m' news' vsP cP F7 N7 hLp hAP
        have F8 := FrUp F6 F7
        have N8 := NewsUp1 F6 N6 F7 N7 hLp
        have nf := new_off N6 N7 hLp
        first | refine off6 nf ?_ | refine ltt6 nf ?_
        intro nf1 nf2 nf3 nf4 nf5 nf6 nft
        clear F6 N6 F7 N7
        w_strict (k_steps)
        refine forK_listN rfl (fun j mm nw => MaG Lp I Dp Df Dl (s.heap.objs.size + 1 + 1) (s.heap.objs.size + 1) (W.listOf vsP.toArray cP) oI (W.listOf up.toArray cp) (W.listOf ul.toArray cl) oS oW tn f tf ((orList SA.fs ((bitsOf al).take j) f).map Int.ofNat) mm nw) [(Lp, W.listOf vsP.toArray cP)] (isList_of N8 (.head _)) (.inr ⟨_, .head _⟩) ?_ F8 N8 (MaG.of _ uf cf (ovr_of (fa_cons rfl (fa_cons rfl (fa_cons rfl (fa_cons rfl fa_nil)))) (fun _ _ => rfl)) huf) ?_ ?_
        · rintro j mm nw ⟨mc, ug, cg, _⟩ p hp
          rw [List.mem_singleton.mp hp]; exact .head _
        · rintro R2 I2 j v h tk dr mm nw oI2 hIs2 hj hvp ⟨mc, ug, cg, hug⟩ hnI F6 N6
          clear F8 N8
          first | refine off7 hnI ?_ | refine ltt7 hnI ?_
          intro k1 k2 k3 k4 k5 k6 k7 k8
          obtain ⟨k, tk0, hk⟩ := ints_item hAP (i := j) (by simpa using hvp)
          obtain ⟨p, hbit, hp8⟩ := placesL_nat (List.mem_of_getElem? hk)
          have hpf := hah.2.2 p hbit
          have hgl := orList_length SA.fs ((bitsOf al).take j) f
          w_strict (k_steps)
          refine StopHere.out ?_
          refine wpAny_AugAssign_SubscriptAny ?_
          w_strict (k_steps)
          rename Fr _ _ _ _ => Fa
          rename News _ _ _ _ => Na
          generalize hgs : orList SA.fs ((bitsOf al).take j) f = gs at hug hgl
          have hgx : (gs.map Int.ofNat).getD (p : Int).toNat 0 = ((gs.getD p 0 : Nat) : Int) := by
            rw [Int.toNat_natCast, List.getD_eq_getElem?_getD, List.getElem?_map, List.getD_eq_getElem?_getD, getElem?_pos gs p (by (with_reducible exact Ln.o453 ‹_› ‹_›))]; rfl
          have hgn : (gs.map Int.ofNat).length = gs.length := List.length_map _
          refine StopHere.out ?_
          refine' ksa_get (vs := ug) (n := cg) (ns := gs.map Int.ofNat) Na ?gm hug (Int.natCast_nonneg _) (by rw [hgn]; (with_reducible exact Ln.o468 ‹_› ‹_›)) (by (with_reducible exact Ln.o389 ‹_›)) ?gq
          case gm => exact .tail _ (.tail _ (.tail _ (.tail _ (.head _))))
          intro tq
          rw [hgx]
          w_strict (k_steps)
          rename Fr _ _ _ _ => Fb
          rename News _ _ _ _ => Nb
          rw [bitOr_nat]
          refine StopHere.out ?_
          refine' seti_K (vs := ug) (n := cg) (ns := gs.map Int.ofNat) (pre := [(I2, oI2), (Lp, W.listOf vsP.toArray cP), (I, oI), (Dp, W.listOf up.toArray cp)]) (post := (Dl, W.listOf ul.toArray cl) :: (s.heap.objs.size + 1 + 1, oS) :: (s.heap.objs.size + 1, oW) :: tn) ?sF ?sN ?sa ?sb hug (Int.natCast_nonneg _) (by rw [hgn]; (with_reducible exact Ln.o468 ‹_› ‹_›)) (by (with_reducible exact Ln.o389 ‹_›)) ?sq
          case sF => exact Fb
          case sN => exact Nb
          case sa => exact fa_cons (Ne.symm k4) (fa_cons (Ne.symm nf3) (fa_cons (Ne.symm i2) (fa_cons r1 fa_nil)))
          case sb => exact fa_cons (Ne.symm r5) (fa_cons (Ne.symm r6) (fa_cons (Ne.symm r7) u2))
          intro h7 F9 N9 hI9
          simp only [List.cons_append, List.nil_append] at N9
          clear Fb Nb
          w_strict (k_steps)
          rename Fr _ _ _ _ => Fc
          rename News _ _ _ _ => Nc
          refine ForPost.next (news' := (Lp, W.listOf vsP.toArray cP) :: (I, oI) :: (Dp, W.listOf up.toArray cp) :: (Df, _) :: (Dl, W.listOf ul.toArray cl) :: (s.heap.objs.size + 1 + 1, oS) :: (s.heap.objs.size + 1, oW) :: tn) Fc Nc (.head _) (fun p hp => .tail _ hp) ?_ (MaG.of _ _ _ (ovr_of (fa_cons rfl (fa_cons rfl (fa_cons rfl (fa_cons rfl fa_nil)))) (fun _ _ => rfl)) ?_)
          · exact fa_cons k1 (fa_cons k2 (fa_cons k3 (fa_cons k4 (fa_cons k5 (fa_cons k6 (fa_cons k7 k8))))))
          · rw [List.take_add_one, bitsOf_get hk, Option.toList_some, orList_snoc, hgs, List.map_set]
            exact hI9
        · rintro h tk dr mm nw ⟨mc, ug, cg, hug⟩ F6 N6
          clear F8 N8
          have eP : vsP.toArray.size = (bitsOf al).length := by rw [List.size_toArray, hAP.length, placesL_bits, List.length_map]
          rw [eP, List.take_length, ← hBf] at hug
          w_strict (k_steps)
          rename Fr _ _ _ _ => Fc
          rename News _ _ _ _ => Nc
          refine ForPost.next (news' := (Dp, W.listOf up.toArray cp) :: (Df, W.listOf ug.toArray cg) :: (Dl, W.listOf ul.toArray cl) :: (s.heap.objs.size + 1 + 1, oS) :: (s.heap.objs.size + 1, oW) :: tn) Fc Nc (.tail _ (.head _)) (fun p hp => .tail _ (.tail _ hp)) ?_ ⟨hilt, MaJ.of _ oS oW _ _ ul ug up cl cg cp tn (ovr_of (fa_cons rfl (fa_cons rfl (fa_cons rfl fa_nil))) (fun _ _ => rfl)) dS dW ?_ ?_ ?_ u1 u2 u3 u4 u5⟩
          · exact fa_cons i1 (fa_cons i2 (fa_cons i3 (fa_cons i4 (fa_cons i5 u6))))
          · rw [hB, hBl]; exact hul
          · rw [hB]; exact hug
          · rw [hB]; exact hP5
      case mA =>
        cases hturn with
        | word a b _ _ _ => (with_reducible exact (Ln.o464 ‹_› ‹_›).elim)
        | @star ls fs P2 e2 f2 l2 h8 hp hah =>
          obtain ⟨⟩ := snoc_inj (show P2 ++ [(e2, f2, l2)] = P ++ [(e, f, l)] from hAp)
          w_strict (k_steps)
          rename Fr _ _ _ _ => F7
          rename News _ _ _ _ => N7
          rename_i T2 _ qT
          have N8 := News.sub (news' := (Dp, W.listOf up'.toArray (cp + 1)) :: (T2, tupObj true f l tt1 tu1 0) :: (I, oI) :: (Df, W.listOf uf.toArray cf) :: (Dl, W.listOf ul.toArray cl) :: (s.heap.objs.size + 1 + 1, oS) :: (s.heap.objs.size + 1, oW) :: tn) N7 (by walk_at "SUB")
          refine and8 qT ?_
          intro w1 z2 z3 z4 z5 z6 z7 zt
          have zm := allLt_mem zt
          refine StopHere.out ?_
          refine' append_in (D := Dp) (ys := up') (n := (cp + 1)) (own := []) (rest := (T2, tupObj true f l tt1 tu1 0) :: (I, oI) :: (Df, W.listOf uf.toArray cf) :: (Dl, W.listOf ul.toArray cl) :: (s.heap.objs.size + 1 + 1, oS) :: (s.heap.objs.size + 1, oW) :: tn) ?aFS ?aNS fa_nil ?arS ?aQS ?azS
          case aFS => exact F7
          case aNS => exact N8
          case azS => rw [sizeLine_eq]; (with_reducible exact Ln.o448 ‹_›)
          case arS => exact fa_cons (Nat.ne_of_gt z2) (fa_cons (Ne.symm i1) (fa_cons (Ne.symm r1) (fa_cons (Ne.symm r2) (fa_cons (Ne.symm r3) (fa_cons (Ne.symm r4) t1)))))
          intro h2 F9 N9
          clear F7 N7 N8
          simp only [List.nil_append] at N9
          w_strict (k_steps)
          rename Fr _ _ _ _ => Fa
          rename News _ _ _ _ => Na
          refine ⟨_, _, _, _, up' ++ [.ref T2], (cp + 1) + 1, (T2, tupObj true f l tt1 tu1 0) :: tn, l, f, _, _, Fr.cast (ovr_of (fa_cons rfl (fa_cons rfl (fa_cons rfl (fa_cons rfl (fa_cons rfl fa_nil))))) (fun _ _ => rfl)) Fa, News.sub Na (fun p hp => ?_), (PileAt.mono (fun p hp => .tail _ hp) hup1).snoc (.head _), fa_cons (Nat.ne_of_gt z2) t1, fa_cons (Nat.ne_of_gt z4) t2, fa_cons (Nat.ne_of_gt z5) t3, fa_cons (Nat.ne_of_gt z6) t4, fa_cons (Nat.ne_of_gt z7) t5, fa_cons (Nat.ne_of_gt z3) i6, hah, rfl, rfl⟩
          revert p; walk_at "SUB"
        | @alt ls fs P2 e2 f2 l2 e3 f3 l3 h8 hp =>
          obtain ⟨⟩ := snoc_inj (show (P2 ++ [(e2, f2, l2)]) ++ [(e3, f3, l3)] = P ++ [(e, f, l)] by simpa using hAp)
          w_strict (k_steps)
          rename Fr _ _ _ _ => Fb
          rename News _ _ _ _ => Nb
          obtain ⟨up2, T3, tt3, tu3, tn3, hup2, hT3⟩ := hup1.unsnoc
          have x1 : @Ne Nat T3 Dp := t1 _ hT3
          have x2 : @Ne Nat T3 Df := t2 _ hT3
          have x3 : @Ne Nat T3 Dl := t3 _ hT3
          have x4 : @Ne Nat T3 (s.heap.objs.size + 1 + 1) := t4 _ hT3
          have x5 : @Ne Nat T3 (s.heap.objs.size + 1) := t5 _ hT3
          have x6 : @Ne Nat T3 I := i6 _ hT3
          have hpl2 : up2.length ≤ 8 := by rw [hup2.length]; exact hp
          refine StopHere.out ?_
          refine' pop_1 Fb Nb y1 (fa_cons (Ne.symm i1) (fa_cons (Ne.symm r1) (fa_cons (Ne.symm r2) (fa_cons (Ne.symm r3) (fa_cons (Ne.symm r4) t1))))) ?pz2A ?_
          case pz2A => rw [sizeLine_eq]; (with_reducible exact Ln.o467 ‹_›)
          intro h1 F5 N5
          have N6 := News.sub (news' := (T3, tupObj e2 f2 l2 tt3 tu3 tn3) :: (T1, tupObj e f l tt1 tu1 tn1) :: (Dp, W.listOf up2.toArray (cp + 1 + 1)) :: (I, oI) :: (Df, W.listOf uf.toArray cf) :: (Dl, W.listOf ul.toArray cl) :: (s.heap.objs.size + 1 + 1, oS) :: (s.heap.objs.size + 1, oW) :: tn) N5 (by walk_at "SUB")
          clear Fb Nb N5
          unfold tupObj at N6
          have mk : StopMark := trivial
          w_strict (k_steps)
          refine StopHere.out ?_
          rename StopMark => mk2; clear mk2
          w_strict (k_steps)
          refine StopHere.out ?_
          refine bool_or (x := e2) (y := e) (fun Q' hq => ?_) (fun Q' hq => ?_) ?_
          · w_strict (k_steps)
            exact hq
          · w_strict (k_steps)
            exact hq
          w_strict (k_steps)
          rename Fr _ _ _ _ => F7
          rename News _ _ _ _ => N7
          simp only [bitOr_nat, bitOr_mul] at N7
          rename_i T2 _ qT
          refine tup_name (e := (e2 || e)) (f := (f2 ||| f)) (l := (l2 ||| l)) (n := 0) N7 ?_; intro tA tB N7
          have N8 := News.sub (news' := (Dp, W.listOf up2.toArray (cp + 1 + 1)) :: (T2, tupObj (e2 || e) (f2 ||| f) (l2 ||| l) tA tB 0) :: (I, oI) :: (Df, W.listOf uf.toArray cf) :: (Dl, W.listOf ul.toArray cl) :: (s.heap.objs.size + 1 + 1, oS) :: (s.heap.objs.size + 1, oW) :: tn) N7 (by walk_at "SUB")
          refine and9 qT ?_
          intro w1 w2 z2 z3 z4 z5 z6 z7 zt
          have zm := allLt_mem zt
          refine StopHere.out ?_
          refine' append_in (D := Dp) (ys := up2) (n := (cp + 1 + 1)) (own := []) (rest := (T2, tupObj (e2 || e) (f2 ||| f) (l2 ||| l) tA tB 0) :: (I, oI) :: (Df, W.listOf uf.toArray cf) :: (Dl, W.listOf ul.toArray cl) :: (s.heap.objs.size + 1 + 1, oS) :: (s.heap.objs.size + 1, oW) :: tn) ?aFAx ?aNAx fa_nil ?arAx ?aQAx ?azAx
          case aFAx => exact F7
          case aNAx => exact N8
          case azAx => rw [sizeLine_eq]; (with_reducible exact Ln.o410 ‹_›)
          case arAx => exact fa_cons (Nat.ne_of_gt z2) (fa_cons (Ne.symm i1) (fa_cons (Ne.symm r1) (fa_cons (Ne.symm r2) (fa_cons (Ne.symm r3) (fa_cons (Ne.symm r4) t1)))))
          intro h2 F9 N9
          clear F7 N7 N8
          simp only [List.nil_append] at N9
          w_strict (k_steps)
          rename Fr _ _ _ _ => Fa
          rename News _ _ _ _ => Na
          refine ⟨_, _, _, _, up2 ++ [.ref T2], (cp + 1 + 1) + 1, (T2, tupObj (e2 || e) (f2 ||| f) (l2 ||| l) tA tB 0) :: tn, 0, f, _, _, Fr.cast (ovr_of (fa_cons rfl (fa_cons rfl (fa_cons rfl (fa_cons rfl (fa_cons rfl fa_nil))))) (fun _ _ => rfl)) Fa, News.sub Na (fun p hp => ?_), (PileAt.mono (fun p hp => .tail _ hp) hup2).snoc (.head _), fa_cons (Nat.ne_of_gt z2) t1, fa_cons (Nat.ne_of_gt z4) t2, fa_cons (Nat.ne_of_gt z5) t3, fa_cons (Nat.ne_of_gt z6) t4, fa_cons (Nat.ne_of_gt z7) t5, fa_cons (Nat.ne_of_gt z3) i6, aheadOk_zero _, rfl, (by rw [bitsOf_zero]; rfl)⟩
          revert p; walk_at "SUB"
        | @cat ls fs P2 e2 f2 l2 e3 f3 l3 h8 hp hah =>
          obtain ⟨⟩ := snoc_inj (show (P2 ++ [(e2, f2, l2)]) ++ [(e3, f3, l3)] = P ++ [(e, f, l)] by simpa using hAp)
          w_strict (k_steps)
          rename Fr _ _ _ _ => Fb
          rename News _ _ _ _ => Nb
          obtain ⟨up2, T3, tt3, tu3, tn3, hup2, hT3⟩ := hup1.unsnoc
          have x1 : @Ne Nat T3 Dp := t1 _ hT3
          have x2 : @Ne Nat T3 Df := t2 _ hT3
          have x3 : @Ne Nat T3 Dl := t3 _ hT3
          have x4 : @Ne Nat T3 (s.heap.objs.size + 1 + 1) := t4 _ hT3
          have x5 : @Ne Nat T3 (s.heap.objs.size + 1) := t5 _ hT3
          have x6 : @Ne Nat T3 I := i6 _ hT3
          have hpl2 : up2.length ≤ 8 := by rw [hup2.length]; exact hp
          refine StopHere.out ?_
          refine' pop_1 Fb Nb y1 (fa_cons (Ne.symm i1) (fa_cons (Ne.symm r1) (fa_cons (Ne.symm r2) (fa_cons (Ne.symm r3) (fa_cons (Ne.symm r4) t1))))) ?pz2C ?_
          case pz2C => rw [sizeLine_eq]; (with_reducible exact Ln.o467 ‹_›)
          intro h1 F5 N5
          have N6 := News.sub (news' := (T3, tupObj e2 f2 l2 tt3 tu3 tn3) :: (T1, tupObj e f l tt1 tu1 tn1) :: (Dp, W.listOf up2.toArray (cp + 1 + 1)) :: (I, oI) :: (Df, W.listOf uf.toArray cf) :: (Dl, W.listOf ul.toArray cl) :: (s.heap.objs.size + 1 + 1, oS) :: (s.heap.objs.size + 1, oW) :: tn) N5 (by walk_at "SUB")
          clear Fb Nb N5
          unfold tupObj at N6
          have mk : StopMark := trivial
          w_strict (k_steps)
          refine StopHere.out ?_
          rename StopMark => mk2; clear mk2
          w_strict (k_steps)
          refine StopHere.out ?_
          refine bool_and (x := e2) (y := e) (fun Q' hq => ?_) (fun Q' hq => ?_) ?_
          · w_strict (k_steps)
            exact hq
          · w_strict (k_steps)
            exact hq
          w_strict (k_steps)
          rename Fr _ _ _ _ => F7
          rename News _ _ _ _ => N7
          rw [bitOr_mul, bitOr_mul] at N7
          rename_i T2 _ qT
          refine tup_name (e := (e2 && e)) (f := (f2 ||| if e2 = true then f else 0)) (l := (l ||| if e = true then l2 else 0)) (n := 0) N7 ?_; intro tA tB N7
          have N8 := News.sub (news' := (Dp, W.listOf up2.toArray (cp + 1 + 1)) :: (T2, tupObj (e2 && e) (f2 ||| if e2 = true then f else 0) (l ||| if e = true then l2 else 0) tA tB 0) :: (I, oI) :: (Df, W.listOf uf.toArray cf) :: (Dl, W.listOf ul.toArray cl) :: (s.heap.objs.size + 1 + 1, oS) :: (s.heap.objs.size + 1, oW) :: tn) N7 (by walk_at "SUB")
          refine and9 qT ?_
          intro w1 w2 z2 z3 z4 z5 z6 z7 zt
          have zm := allLt_mem zt
          refine StopHere.out ?_
          refine' append_in (D := Dp) (ys := up2) (n := (cp + 1 + 1)) (own := []) (rest := (T2, tupObj (e2 && e) (f2 ||| if e2 = true then f else 0) (l ||| if e = true then l2 else 0) tA tB 0) :: (I, oI) :: (Df, W.listOf uf.toArray cf) :: (Dl, W.listOf ul.toArray cl) :: (s.heap.objs.size + 1 + 1, oS) :: (s.heap.objs.size + 1, oW) :: tn) ?aFCx ?aNCx fa_nil ?arCx ?aQCx ?azCx
          case aFCx => exact F7
          case aNCx => exact N8
          case azCx => rw [sizeLine_eq]; (with_reducible exact Ln.o410 ‹_›)
          case arCx => exact fa_cons (Nat.ne_of_gt z2) (fa_cons (Ne.symm i1) (fa_cons (Ne.symm r1) (fa_cons (Ne.symm r2) (fa_cons (Ne.symm r3) (fa_cons (Ne.symm r4) t1)))))
          intro h2 F9 N9
          clear F7 N7 N8
          simp only [List.nil_append] at N9
          w_strict (k_steps)
          rename Fr _ _ _ _ => Fa
          rename News _ _ _ _ => Na
          refine ⟨_, _, _, _, up2 ++ [.ref T2], (cp + 1 + 1) + 1, (T2, tupObj (e2 && e) (f2 ||| if e2 = true then f else 0) (l ||| if e = true then l2 else 0) tA tB 0) :: tn, l2, f, _, _, Fr.cast (ovr_of (fa_cons rfl (fa_cons rfl (fa_cons rfl (fa_cons rfl (fa_cons rfl fa_nil))))) (fun _ _ => rfl)) Fa, News.sub Na (fun p hp => ?_), (PileAt.mono (fun p hp => .tail _ hp) hup2).snoc (.head _), fa_cons (Nat.ne_of_gt z2) t1, fa_cons (Nat.ne_of_gt z4) t2, fa_cons (Nat.ne_of_gt z5) t3, fa_cons (Nat.ne_of_gt z6) t4, fa_cons (Nat.ne_of_gt z7) t5, fa_cons (Nat.ne_of_gt z3) i6, hah, rfl, rfl⟩
          revert p; walk_at "SUB"
  · rintro h tk dr mm nw ⟨hle, _⟩ _ _
    exfalso
    have := ia.length
    rw [List.length_map, List.length_append] at this
    rw [List.size_toArray] at hle
    simp at this; (with_reducible exact (Ln.o469 ‹_› ‹_›).elim)

end
end Mine
end
section
namespace Mine
inductive Re
  | w (n : Nat)
  | cat (a b : Re)
  | alt (a b : Re)
  | star (a : Re)
/-- the letters of a word by its number -/
noncomputable def ltr (n : Nat) : List Nat := if 15 < n then [65 + n / 16, 65 + n % 16] else [65 + n]
namespace Re
noncomputable def ls : Re → List Nat
  | .w n => ltr n
  | .cat a b => a.ls ++ b.ls
  | .alt a b => a.ls ++ b.ls
  | .star a => a.ls
noncomputable def len (r : Re) : Nat := r.ls.length
noncomputable def nul : Re → Bool
  | .w _ => false
  | .cat a b => a.nul && b.nul
  | .alt a b => a.nul || b.nul
  | .star _ => true
noncomputable def fst : Re → Nat → Nat
  | .w _, o => 1 <<< o
  | .cat a b, o => a.fst o ||| (if a.nul then b.fst (o + a.len) else 0)
  | .alt a b, o => a.fst o ||| b.fst (o + a.len)
  | .star a, o => a.fst o
noncomputable def lst : Re → Nat → Nat
  | .w n, o => 1 <<< (o + (ltr n).length - 1)
  | .cat a b, o => b.lst (o + a.len) ||| (if b.nul then a.lst o else 0)
  | .alt a b, o => a.lst o ||| b.lst (o + a.len)
  | .star a, o => a.lst o
end Re
noncomputable def orAt : List Nat → Nat → Nat → Nat → List Nat
  | [], _, _, _ => []
  | x :: r, o, mask, add => (if mask.testBit o then x ||| add else x) :: orAt r (o + 1) mask add
namespace Re
noncomputable def fol : Re → Nat → List Nat
  | .w n, o => if 15 < n then [2 <<< o, 0] else [0]
  | .cat a b, o => orAt (a.fol o ++ b.fol (o + a.len)) o (a.lst o) (b.fst (o + a.len))
  | .alt a b, o => a.fol o ++ b.fol (o + a.len)
  | .star a, o => orAt (a.fol o) o (a.lst o) (a.fst o)
end Re
namespace Re
theorem nul_c (a b : Re) : (Re.cat a b).nul = (a.nul && b.nul) := rfl
theorem nul_a (a b : Re) : (Re.alt a b).nul = (a.nul || b.nul) := rfl
theorem fst_c (a b : Re) (o : Nat) : (Re.cat a b).fst o = a.fst o ||| (if a.nul then b.fst (o + a.len) else 0) := rfl
theorem fst_a (a b : Re) (o : Nat) : (Re.alt a b).fst o = a.fst o ||| b.fst (o + a.len) := rfl
theorem lst_c (a b : Re) (o : Nat) : (Re.cat a b).lst o = b.lst (o + a.len) ||| (if b.nul then a.lst o else 0) := rfl
theorem lst_a (a b : Re) (o : Nat) : (Re.alt a b).lst o = a.lst o ||| b.lst (o + a.len) := rfl
theorem ls_w (n : Nat) : (Re.w n).ls = ltr n := rfl
theorem ls_c (a b : Re) : (Re.cat a b).ls = a.ls ++ b.ls := rfl
theorem ls_a (a b : Re) : (Re.alt a b).ls = a.ls ++ b.ls := rfl
theorem fol_w (n o : Nat) : (Re.w n).fol o = if 15 < n then [2 <<< o, 0] else [0] := rfl
theorem fol_c (a b : Re) (o : Nat) : (Re.cat a b).fol o = orAt (a.fol o ++ b.fol (o + a.len)) o (a.lst o) (b.fst (o + a.len)) := rfl
theorem fol_a (a b : Re) (o : Nat) : (Re.alt a b).fol o = a.fol o ++ b.fol (o + a.len) := rfl
theorem fol_s (a : Re) (o : Nat) : (Re.star a).fol o = orAt (a.fol o) o (a.lst o) (a.fst o) := rfl
end Re
theorem orAt_n (o m d : Nat) : orAt [] o m d = [] := rfl
theorem orAt_c (x : Nat) (r : List Nat) (o m d : Nat) : orAt (x :: r) o m d = (if m.testBit o then x ||| d else x) :: orAt r (o + 1) m d := rfl
theorem orAt_length : ∀ (fs : List Nat) (o m d : Nat), (orAt fs o m d).length = fs.length
  | [], _, _, _ => rfl
  | _ :: r, o, m, d => congrArg Nat.succ (orAt_length r (o + 1) m d)
theorem orAt_bit : ∀ (fs : List Nat) (o m d i q : Nat), ((orAt fs o m d).getD i 0).testBit q = ((fs.getD i 0).testBit q || (decide (i < fs.length) && m.testBit (o + i) && d.testBit q))
  | [], _, _, _, i, q => by simp [orAt_n]
  | x :: r, o, m, d, 0, q => by
    simp only [orAt_c, List.getD_cons_zero]
    cases m.testBit o <;> simp
  | x :: r, o, m, d, i + 1, q => by
    simp only [orAt_c, List.getD_cons_succ]
    rw [orAt_bit r (o + 1) m d i q, show o + 1 + i = o + (i + 1) by (with_reducible exact Ln.o177)]
    simp
theorem orAt_append : ∀ (fs gs : List Nat) (o m d : Nat), orAt (fs ++ gs) o m d = orAt fs o m d ++ orAt gs (o + fs.length) m d
  | [], _, _, _, _ => rfl
  | x :: r, gs, o, m, d => by
    refine congrArg (_ :: ·) ((orAt_append r gs (o + 1) m d).trans ?_)
    rw [show o + 1 + r.length = o + (r.length + 1) by (with_reducible exact Ln.o177)]; rfl
theorem orAt_none : ∀ (fs : List Nat) (o m d : Nat), (∀ p, m.testBit p = true → ¬ (o ≤ p ∧ p < o + fs.length)) → orAt fs o m d = fs
  | [], _, _, _, _ => rfl
  | x :: r, o, m, d, h => by
    have h0 : m.testBit o = false := by
      cases e : m.testBit o with
      | false => rfl
      | true => exact absurd ⟨Nat.le_refl _, by simp⟩ (h o e)
    rw [orAt_c, h0, if_neg Bool.false_ne_true]
    rw [orAt_none r (o + 1) m d fun p hp hh => h p hp ⟨by (with_reducible exact Ln.o486 ‹_›), by simp only [List.length_cons]; (with_reducible exact Ln.o487 ‹_›)⟩]
theorem ltr_len (n : Nat) : (ltr n).length = if 15 < n then 2 else 1 := by unfold ltr; split <;> rfl
theorem bit1 {o p : Nat} : (1 <<< o).testBit p = true ↔ p = o := by
  rw [Nat.one_shiftLeft, Nat.testBit_two_pow]; simp; (with_reducible exact Ln.o499)
theorem bit2 {o p : Nat} : (2 <<< o).testBit p = true ↔ p = o + 1 := by
  rw [show 2 <<< o = 2 ^ (o + 1) by rw [Nat.shiftLeft_eq, Nat.pow_succ, Nat.mul_comm], Nat.testBit_two_pow]; simp; (with_reducible exact Ln.o499)
theorem Re.len_cat (a b : Re) : (Re.cat a b).len = a.len + b.len := List.length_append
theorem Re.len_alt (a b : Re) : (Re.alt a b).len = a.len + b.len := List.length_append
theorem Re.len_star (a : Re) : (Re.star a).len = a.len := rfl
theorem Re.len_w (n : Nat) : (Re.w n).len = if 15 < n then 2 else 1 := ltr_len n
theorem Re.len_pos : ∀ r : Re, 0 < r.len
  | .w n => by rw [len_w]; split <;> (first | with_reducible exact Ln.o470 | with_reducible exact Ln.o104)
  | .cat a b => by have := a.len_pos; rw [len_cat]; (with_reducible exact Ln.o471 ‹_›)
  | .alt a b => by have := a.len_pos; rw [len_alt]; (with_reducible exact Ln.o471 ‹_›)
  | .star a => a.len_pos
theorem Re.fol_len : ∀ (r : Re) (o : Nat), (r.fol o).length = r.len
  | .w n, o => by rw [len_w, Re.fol_w]; split <;> rfl
  | .cat a b, o => by rw [Re.fol_c, orAt_length, List.length_append, fol_len a, fol_len b, len_cat]
  | .alt a b, o => by rw [Re.fol_a, List.length_append, fol_len a, fol_len b, len_alt]
  | .star a, o => by rw [Re.fol_s, orAt_length, fol_len a, len_star]
theorem Re.fst_in : ∀ (r : Re) (o p : Nat), (r.fst o).testBit p = true → o ≤ p ∧ p < o + r.len
  | .w n, o, p, h => by
    have := bit1.mp h
    have := len_pos (.w n)
    (with_reducible exact Ln.o489 ‹_› ‹_›)
  | .cat a b, o, p, h => by
    rw [Re.fst_c, Nat.testBit_or, Bool.or_eq_true] at h
    rw [len_cat]
    rcases h with h | h
    · have := fst_in a o p h; (with_reducible exact Ln.o476 ‹_›)
    · split at h
      · have := fst_in b _ p h; (with_reducible exact Ln.o492 ‹_›)
      · simp at h
  | .alt a b, o, p, h => by
    rw [Re.fst_a, Nat.testBit_or, Bool.or_eq_true] at h
    rw [len_alt]
    rcases h with h | h
    · have := fst_in a o p h; (with_reducible exact Ln.o476 ‹_›)
    · have := fst_in b _ p h; (with_reducible exact Ln.o492 ‹_›)
  | .star a, o, p, h => fst_in a o p h
theorem Re.lst_in : ∀ (r : Re) (o p : Nat), (r.lst o).testBit p = true → o ≤ p ∧ p < o + r.len
  | .w n, o, p, h => by
    have h1 := bit1.mp h
    have := len_pos (.w n)
    have : (ltr n).length = (Re.w n).len := rfl
    (with_reducible exact Ln.o477 ‹_› ‹_› ‹_›)
  | .cat a b, o, p, h => by
    rw [Re.lst_c, Nat.testBit_or, Bool.or_eq_true] at h
    rw [len_cat]
    rcases h with h | h
    · have := lst_in b _ p h; (with_reducible exact Ln.o492 ‹_›)
    · split at h
      · have := lst_in a _ p h; (with_reducible exact Ln.o476 ‹_›)
      · simp at h
  | .alt a b, o, p, h => by
    rw [Re.lst_a, Nat.testBit_or, Bool.or_eq_true] at h
    rw [len_alt]
    rcases h with h | h
    · have := lst_in a o p h; (with_reducible exact Ln.o476 ‹_›)
    · have := lst_in b _ p h; (with_reducible exact Ln.o492 ‹_›)
  | .star a, o, p, h => lst_in a o p h
/-- an edge inside a part -/
noncomputable def Ed (r : Re) (o p q : Nat) : Prop := o ≤ p ∧ ((r.fol o).getD (p - o) 0).testBit q = true
theorem getD_out {fs : List Nat} {i : Nat} (h : fs.length ≤ i) : fs.getD i 0 = 0 := by
  rw [List.getD_eq_getElem?_getD, List.getElem?_eq_none h]; rfl
theorem Ed.lt {r : Re} {o p q : Nat} (h : Ed r o p q) : p < o + r.len := by
  obtain ⟨h1, h2⟩ := h
  rcases Nat.lt_or_ge (p - o) (r.fol o).length with h3 | h3
  · rw [Re.fol_len] at h3; (with_reducible exact Ln.o483 ‹_›)
  · rw [getD_out h3] at h2; simp at h2
theorem getD_append {fs gs : List Nat} {i : Nat} : (fs ++ gs).getD i 0 = if i < fs.length then fs.getD i 0 else gs.getD (i - fs.length) 0 := by
  split
  · next h => simp only [List.getD_eq_getElem?_getD]; rw [List.getElem?_append_left h]
  · next h => simp only [List.getD_eq_getElem?_getD]; rw [List.getElem?_append_right (by (with_reducible exact Ln.o202 ‹_›))]
theorem Ed_alt {a b : Re} {o p q : Nat} : Ed (.alt a b) o p q ↔ Ed a o p q ∨ Ed b (o + a.len) p q := by
  unfold Ed
  rw [Re.fol_a, getD_append, Re.fol_len]
  constructor
  · rintro ⟨h1, h2⟩
    split at h2
    · exact .inl ⟨h1, h2⟩
    · exact .inr ⟨by (with_reducible exact Ln.o485 ‹_› ‹_›), by rw [show p - (o + a.len) = p - o - a.len by (with_reducible exact Ln.o490)]; exact h2⟩
  · rintro (⟨h1, h2⟩ | ⟨h1, h2⟩)
    · refine ⟨h1, ?_⟩
      rw [if_pos]
      · exact h2
      · have := Ed.lt (r := a) ⟨h1, h2⟩; (with_reducible exact Ln.o42 ‹_› ‹_›)
    · refine ⟨by (with_reducible exact Ln.o219 ‹_›), ?_⟩
      rw [if_neg (by (with_reducible exact Ln.o472 ‹_›)), show p - o - a.len = p - (o + a.len) by (with_reducible exact Ln.o488)]; exact h2
theorem Ed_cat {a b : Re} {o p q : Nat} : Ed (.cat a b) o p q ↔ Ed a o p q ∨ Ed b (o + a.len) p q ∨ ((a.lst o).testBit p = true ∧ (b.fst (o + a.len)).testBit q = true) := by
  have key := Ed_alt (a := a) (b := b) (o := o) (p := p) (q := q)
  rw [← or_assoc, ← key]
  unfold Ed
  rw [Re.fol_c, orAt_bit, Re.fol_a]
  constructor
  · rintro ⟨h1, h2⟩
    rw [Bool.or_eq_true, Bool.and_eq_true, Bool.and_eq_true] at h2
    rcases h2 with h2 | ⟨⟨_, h3⟩, h4⟩
    · exact .inl ⟨h1, h2⟩
    · rw [show o + (p - o) = p by (with_reducible exact Ln.o18 ‹_›)] at h3; exact .inr ⟨h3, h4⟩
  · rintro (⟨h1, h2⟩ | ⟨h1, h2⟩)
    · exact ⟨h1, by rw [h2, Bool.true_or]⟩
    · have := a.lst_in o p h1
      refine ⟨this.1, ?_⟩
      rw [show o + (p - o) = p by (with_reducible exact Ln.o474 ‹_›), h1, h2]
      simp [Re.fol_len]; right; (with_reducible exact Ln.o473 ‹_›)
theorem Ed_star {a : Re} {o p q : Nat} : Ed (.star a) o p q ↔ Ed a o p q ∨ ((a.lst o).testBit p = true ∧ (a.fst o).testBit q = true) := by
  unfold Ed
  rw [Re.fol_s, orAt_bit]
  constructor
  · rintro ⟨h1, h2⟩
    rw [Bool.or_eq_true, Bool.and_eq_true, Bool.and_eq_true] at h2
    rcases h2 with h2 | ⟨⟨_, h3⟩, h4⟩
    · exact .inl ⟨h1, h2⟩
    · rw [show o + (p - o) = p by (with_reducible exact Ln.o18 ‹_›)] at h3; exact .inr ⟨h3, h4⟩
  · rintro (⟨h1, h2⟩ | ⟨h1, h2⟩)
    · exact ⟨h1, by rw [h2, Bool.true_or]⟩
    · have := a.lst_in o p h1
      refine ⟨this.1, ?_⟩
      rw [show o + (p - o) = p by (with_reducible exact Ln.o474 ‹_›), h1, h2]
      simp [Re.fol_len]; right; (with_reducible exact Ln.o498 ‹_›)
theorem Ed_w {n o p q : Nat} : Ed (.w n) o p q ↔ 15 < n ∧ p = o ∧ q = o + 1 := by
  unfold Ed
  rw [Re.fol_w]
  split
  · constructor
    · rintro ⟨h1, h2⟩
      match e : p - o with
      | 0 => rw [e] at h2; simp only [List.getD_cons_zero] at h2; exact ⟨by assumption, by (with_reducible exact Ln.o495 ‹_› ‹_›), bit2.mp h2⟩
      | 1 => rw [e] at h2; simp at h2
      | i + 2 => rw [e] at h2; simp at h2
    · rintro ⟨_, rfl, rfl⟩
      refine ⟨Nat.le_refl _, ?_⟩
      rw [Nat.sub_self]; exact bit2.mpr rfl
  · constructor
    · rintro ⟨h1, h2⟩
      match e : p - o with
      | 0 => rw [e] at h2; simp at h2
      | i + 1 => rw [e] at h2; simp at h2
    · rintro ⟨h, _⟩; (with_reducible exact (Ln.o482 ‹_› ‹_›).elim)
theorem Ed_in : ∀ (r : Re) (o p q : Nat), Ed r o p q → o ≤ q ∧ q < o + r.len
  | .w n, o, p, q, h => by
    obtain ⟨h1, rfl, rfl⟩ := Ed_w.mp h
    rw [Re.len_w, if_pos h1]; (with_reducible exact Ln.o478)
  | .cat a b, o, p, q, h => by
    rw [Re.len_cat]
    rcases Ed_cat.mp h with h | h | ⟨_, h⟩
    · have := Ed_in a _ _ _ h; (with_reducible exact Ln.o476 ‹_›)
    · have := Ed_in b _ _ _ h; (with_reducible exact Ln.o492 ‹_›)
    · have := b.fst_in _ _ h; (with_reducible exact Ln.o492 ‹_›)
  | .alt a b, o, p, q, h => by
    rw [Re.len_alt]
    rcases Ed_alt.mp h with h | h
    · have := Ed_in a _ _ _ h; (with_reducible exact Ln.o476 ‹_›)
    · have := Ed_in b _ _ _ h; (with_reducible exact Ln.o492 ‹_›)
  | .star a, o, p, q, h => by
    rw [Re.len_star]
    rcases Ed_star.mp h with h | ⟨_, h⟩
    · exact Ed_in a _ _ _ h
    · exact a.fst_in _ _ h

/-- a road through the positions, and the text it spells -/
inductive Pt (R : Nat → Nat → Prop) (L : Nat → Nat) (p : Nat) : Nat → List Nat → Prop
  | one : Pt R L p p [L p]
  | snoc {q r : Nat} {k : List Nat} : Pt R L p q k → R q r → Pt R L p r (k ++ [L r])
theorem Pt.mono {R R' : Nat → Nat → Prop} {L : Nat → Nat} {p q : Nat} {k : List Nat} (h : ∀ p q, R p q → R' p q) (H : Pt R L p q k) : Pt R' L p q k := by
  induction H with
  | one => exact .one
  | snoc _ hr ih => exact ih.snoc (h _ _ hr)
theorem Pt.join {R : Nat → Nat → Prop} {L : Nat → Nat} {p q r t : Nat} {k k' : List Nat} (H : Pt R L p q k) (hr : R q r) (H' : Pt R L r t k') : Pt R L p t (k ++ k') := by
  induction H' with
  | one => exact H.snoc hr
  | snoc _ hr' ih => rw [← List.append_assoc]; exact ih.snoc hr'
inductive Star (P : List Nat → Prop) : List Nat → Prop
  | nil : Star P []
  | app {x y : List Nat} : P x → Star P y → Star P (x ++ y)
theorem Star.snoc {P : List Nat → Prop} {x y : List Nat} (h : Star P x) (hy : P y) : Star P (x ++ y) := by
  induction h with
  | nil => have := Star.app hy .nil; simpa using this
  | app hx _ ih => rw [List.append_assoc]; exact .app hx ih
noncomputable def Lang : Re → List Nat → Prop
  | .w n, k => k = ltr n
  | .cat a b, k => ∃ x y, k = x ++ y ∧ Lang a x ∧ Lang b y
  | .alt a b, k => Lang a k ∨ Lang b k
  | .star a, k => Star (Lang a) k
theorem Re.lang_w (n : Nat) (k : List Nat) : Lang (.w n) k = (k = ltr n) := rfl
theorem Re.lang_c (a b : Re) (k : List Nat) : Lang (.cat a b) k = ∃ x y, k = x ++ y ∧ Lang a x ∧ Lang b y := rfl
theorem Re.lang_a (a b : Re) (k : List Nat) : Lang (.alt a b) k = (Lang a k ∨ Lang b k) := rfl
theorem Re.lang_s (a : Re) (k : List Nat) : Lang (.star a) k = Star (Lang a) k := rfl
noncomputable def Acc (r : Re) (o : Nat) (L : Nat → Nat) (k : List Nat) : Prop := (r.nul = true ∧ k = []) ∨ ∃ p q, (r.fst o).testBit p = true ∧ (r.lst o).testBit q = true ∧ Pt (Ed r o) L p q k

theorem cat_split {a b : Re} {o : Nat} {L : Nat → Nat} {p q : Nat} {k : List Nat} (H : Pt (Ed (.cat a b) o) L p q k) :
    (p < o + a.len ∧ q < o + a.len ∧ Pt (Ed a o) L p q k) ∨ (o + a.len ≤ p ∧ o + a.len ≤ q ∧ Pt (Ed b (o + a.len)) L p q k) ∨
    (p < o + a.len ∧ o + a.len ≤ q ∧ ∃ u v x y, (a.lst o).testBit u = true ∧ (b.fst (o + a.len)).testBit v = true ∧ Pt (Ed a o) L p u x ∧ Pt (Ed b (o + a.len)) L v q y ∧ k = x ++ y) := by
  induction H with
  | one =>
    rcases Nat.lt_or_ge p (o + a.len) with h | h
    · exact .inl ⟨h, h, .one⟩
    · exact .inr (.inl ⟨h, h, .one⟩)
  | @snoc q r k _ hr ih =>
    rcases Ed_cat.mp hr with hr | hr | ⟨h1, h2⟩
    · have i1 := hr.lt
      have i2 := Ed_in a _ _ _ hr
      rcases ih with ⟨h1, h2, h3⟩ | ⟨h1, h2, h3⟩ | ⟨h1, h2, h3⟩
      · exact .inl ⟨h1, i2.2, h3.snoc hr⟩
      · (with_reducible exact (Ln.o480 ‹_› ‹_›).elim)
      · (with_reducible exact (Ln.o496 ‹_› ‹_›).elim)
    · have i1 := hr.1
      have i2 := Ed_in b _ _ _ hr
      rcases ih with ⟨h1, h2, h3⟩ | ⟨h1, h2, h3⟩ | ⟨h1, h2, u, v, x, y, h4, h5, h6, h7, rfl⟩
      · (with_reducible exact (Ln.o480 ‹_› ‹_›).elim)
      · exact .inr (.inl ⟨h1, i2.1, h3.snoc hr⟩)
      · exact .inr (.inr ⟨h1, i2.1, u, v, x, y ++ [L r], h4, h5, h6, h7.snoc hr, by rw [List.append_assoc]⟩)
    · have i1 := a.lst_in _ _ h1
      have i2 := b.fst_in _ _ h2
      rcases ih with ⟨h3, h4, h5⟩ | ⟨h3, h4, h5⟩ | ⟨h3, h4, h5⟩
      · exact .inr (.inr ⟨h3, i2.1, q, r, k, [L r], h1, h2, h5, .one, rfl⟩)
      · (with_reducible exact (Ln.o484 ‹_› ‹_›).elim)
      · (with_reducible exact (Ln.o484 ‹_› ‹_›).elim)
theorem alt_split {a b : Re} {o : Nat} {L : Nat → Nat} {p q : Nat} {k : List Nat} (H : Pt (Ed (.alt a b) o) L p q k) :
    (p < o + a.len ∧ q < o + a.len ∧ Pt (Ed a o) L p q k) ∨ (o + a.len ≤ p ∧ o + a.len ≤ q ∧ Pt (Ed b (o + a.len)) L p q k) := by
  induction H with
  | one =>
    rcases Nat.lt_or_ge p (o + a.len) with h | h
    · exact .inl ⟨h, h, .one⟩
    · exact .inr ⟨h, h, .one⟩
  | @snoc q r k _ hr ih =>
    rcases Ed_alt.mp hr with hr | hr
    · have i1 := hr.lt
      have i2 := Ed_in a _ _ _ hr
      rcases ih with ⟨h1, h2, h3⟩ | ⟨h1, h2, h3⟩
      · exact .inl ⟨h1, i2.2, h3.snoc hr⟩
      · (with_reducible exact (Ln.o480 ‹_› ‹_›).elim)
    · have i1 := hr.1
      have i2 := Ed_in b _ _ _ hr
      rcases ih with ⟨h1, h2, h3⟩ | ⟨h1, h2, h3⟩
      · (with_reducible exact (Ln.o480 ‹_› ‹_›).elim)
      · exact .inr ⟨h1, i2.1, h3.snoc hr⟩
theorem star_split {a : Re} {o : Nat} {L : Nat → Nat} {p q : Nat} {k : List Nat} (hp : (a.fst o).testBit p = true) (H : Pt (Ed (.star a) o) L p q k) :
    ∃ p' x y, (a.fst o).testBit p' = true ∧ Star (Acc a o L) x ∧ Pt (Ed a o) L p' q y ∧ k = x ++ y := by
  induction H with
  | one => exact ⟨p, [], _, hp, .nil, .one, rfl⟩
  | @snoc q r k _ hr ih =>
    obtain ⟨p', x, y, h1, h2, h3, rfl⟩ := ih
    rcases Ed_star.mp hr with hr | ⟨h4, h5⟩
    · exact ⟨p', x, y ++ [L r], h1, h2, h3.snoc hr, by rw [List.append_assoc]⟩
    · exact ⟨r, x ++ y, [L r], h5, h2.snoc (.inr ⟨p', q, h1, h4, h3⟩), .one, rfl⟩
theorem Star.congr {P P' : List Nat → Prop} (h : ∀ k, P k → P' k) {k : List Nat} (H : Star P k) : Star P' k := by
  induction H with
  | nil => exact .nil
  | app hx _ ih => exact .app (h _ hx) ih

theorem glu : ∀ (r : Re) (o : Nat) (L : Nat → Nat), (∀ i n, r.ls[i]? = some n → L (o + i) = n) → ∀ k, Acc r o L k ↔ Lang r k
  | .w n, o, L, hL, k => by
    have hp1 : ∀ p q k, Pt (Ed (.w n) o) L p q k → p = o → (q = o ∧ k = [L o]) ∨ (15 < n ∧ q = o + 1 ∧ k = [L o, L (o + 1)]) := by
      intro p q k H hp
      induction H with
      | one => subst hp; exact .inl ⟨rfl, rfl⟩
      | snoc _ hr ih =>
        obtain ⟨h1, h2, h3⟩ := Ed_w.mp hr
        rcases ih with ⟨h4, h5⟩ | ⟨h4, h5, _⟩
        · subst h3; subst h5; exact .inr ⟨h1, rfl, rfl⟩
        · omega
    unfold Acc; rw [Re.lang_w]
    by_cases h : 15 < n
    · have l0 : L o = 65 + n / 16 := hL 0 _ (by rw [Re.ls_w]; unfold ltr; rw [if_pos h]; rfl)
      have l1 : L (o + 1) = 65 + n % 16 := hL 1 _ (by rw [Re.ls_w]; unfold ltr; rw [if_pos h]; rfl)
      have hk : ltr n = [L o, L (o + 1)] := by unfold ltr; rw [if_pos h, l0, l1]
      rw [hk]
      constructor
      · rintro (⟨h1, _⟩ | ⟨p, q, h1, h2, h3⟩)
        · cases h1
        · have h1 := bit1.mp h1
          have h2 := bit1.mp h2
          rw [ltr_len, if_pos h] at h2
          rcases hp1 _ _ _ h3 h1 with ⟨h4, _⟩ | ⟨_, _, h5⟩
          · (with_reducible exact (Ln.o481 ‹_› ‹_›).elim)
          · exact h5
      · rintro rfl
        exact .inr ⟨o, o + 1, bit1.mpr rfl, bit1.mpr (by rw [ltr_len, if_pos h]; (with_reducible exact Ln.o497)), Pt.snoc (k := [L o]) .one (Ed_w.mpr ⟨h, rfl, rfl⟩)⟩
    · have l0 : L o = 65 + n := hL 0 _ (by rw [Re.ls_w]; unfold ltr; rw [if_neg h]; rfl)
      have hk : ltr n = [L o] := by unfold ltr; rw [if_neg h, l0]
      rw [hk]
      constructor
      · rintro (⟨h1, _⟩ | ⟨p, q, h1, h2, h3⟩)
        · cases h1
        · have h1 := bit1.mp h1
          rcases hp1 _ _ _ h3 h1 with ⟨_, h5⟩ | ⟨h4, _⟩
          · exact h5
          · exact absurd h4 h
      · rintro rfl
        exact .inr ⟨o, o, bit1.mpr rfl, bit1.mpr (by rw [ltr_len, if_neg h]; (with_reducible exact Ln.o497)), .one⟩
  | .cat a b, o, L, hL, k => by
    have ha := glu a o L (fun i n h => hL i n (by
      have hlt : i < a.ls.length := (List.getElem?_eq_some_iff.mp h).1
      rw [Re.ls_c, List.getElem?_append_left hlt]; exact h))
    have hb := glu b (o + a.len) L (fun i n h => by
      have := hL (a.len + i) n (by rw [Re.ls_c, List.getElem?_append_right (by unfold Re.len; (with_reducible exact Ln.o79))]; simpa [Re.len] using h)
      rw [Nat.add_assoc]; exact this)
    rw [Re.lang_c]
    simp only [← ha, ← hb]
    constructor
    · rintro (⟨h1, rfl⟩ | ⟨p, q, h1, h2, h3⟩)
      · rw [Re.nul_c, Bool.and_eq_true] at h1
        exact ⟨[], [], rfl, .inl ⟨h1.1, rfl⟩, .inl ⟨h1.2, rfl⟩⟩
      · rw [Re.fst_c, Nat.testBit_or, Bool.or_eq_true] at h1
        rw [Re.lst_c, Nat.testBit_or, Bool.or_eq_true] at h2
        rcases cat_split h3 with ⟨i1, i2, h4⟩ | ⟨i1, i2, h4⟩ | ⟨i1, i2, u, v, x, y, h4, h5, h6, h7, rfl⟩
        · have h1' : (a.fst o).testBit p = true := by
            rcases h1 with h1 | h1
            · exact h1
            · split at h1
              · have := b.fst_in _ _ h1; omega
              · simp at h1
          rcases h2 with h2 | h2
          · have := b.lst_in _ _ h2; (with_reducible exact (Ln.o475 ‹_› ‹_›).elim)
          · split at h2
            · next hn => exact ⟨k, [], by simp, .inr ⟨p, q, h1', h2, h4⟩, .inl ⟨hn, rfl⟩⟩
            · simp at h2
        · have h2' : (b.lst (o + a.len)).testBit q = true := by
            rcases h2 with h2 | h2
            · exact h2
            · split at h2
              · have := a.lst_in _ _ h2; (with_reducible exact (Ln.o484 ‹_› ‹_›).elim)
              · simp at h2
          rcases h1 with h1 | h1
          · have := a.fst_in _ _ h1; (with_reducible exact (Ln.o493 ‹_› ‹_›).elim)
          · split at h1
            · next hn => exact ⟨[], k, rfl, .inl ⟨hn, rfl⟩, .inr ⟨p, q, h1, h2', h4⟩⟩
            · simp at h1
        · have h1' : (a.fst o).testBit p = true := by
            rcases h1 with h1 | h1
            · exact h1
            · split at h1
              · have := b.fst_in _ _ h1; (with_reducible exact (Ln.o475 ‹_› ‹_›).elim)
              · simp at h1
          have h2' : (b.lst (o + a.len)).testBit q = true := by
            rcases h2 with h2 | h2
            · exact h2
            · split at h2
              · have := a.lst_in _ _ h2; (with_reducible exact (Ln.o484 ‹_› ‹_›).elim)
              · simp at h2
          exact ⟨x, y, rfl, .inr ⟨p, u, h1', h4, h6⟩, .inr ⟨v, q, h5, h2', h7⟩⟩
    · rintro ⟨x, y, rfl, hx, hy⟩
      rcases hx with ⟨h1, rfl⟩ | ⟨p, q, h1, h2, h3⟩
      · rcases hy with ⟨g1, rfl⟩ | ⟨u, v, g1, g2, g3⟩
        · exact .inl ⟨by rw [Re.nul_c, h1, g1]; rfl, rfl⟩
        · exact .inr ⟨u, v, by rw [Re.fst_c, Nat.testBit_or, if_pos h1, g1, Bool.or_true], by rw [Re.lst_c, Nat.testBit_or, g2, Bool.true_or], g3.mono fun _ _ h => Ed_cat.mpr (.inr (.inl h))⟩
      · rcases hy with ⟨g1, rfl⟩ | ⟨u, v, g1, g2, g3⟩
        · exact .inr ⟨p, q, by rw [Re.fst_c, Nat.testBit_or, h1, Bool.true_or], by rw [Re.lst_c, Nat.testBit_or, if_pos g1, h2, Bool.or_true], by rw [List.append_nil]; exact h3.mono fun _ _ h => Ed_cat.mpr (.inl h)⟩
        · exact .inr ⟨p, v, by rw [Re.fst_c, Nat.testBit_or, h1, Bool.true_or], by rw [Re.lst_c, Nat.testBit_or, g2, Bool.true_or],
            (h3.mono fun _ _ h => Ed_cat.mpr (.inl h)).join (Ed_cat.mpr (.inr (.inr ⟨h2, g1⟩))) (g3.mono fun _ _ h => Ed_cat.mpr (.inr (.inl h)))⟩
  | .alt a b, o, L, hL, k => by
    have ha := glu a o L (fun i n h => hL i n (by
      have hlt : i < a.ls.length := (List.getElem?_eq_some_iff.mp h).1
      rw [Re.ls_a, List.getElem?_append_left hlt]; exact h))
    have hb := glu b (o + a.len) L (fun i n h => by
      have := hL (a.len + i) n (by rw [Re.ls_a, List.getElem?_append_right (by unfold Re.len; (with_reducible exact Ln.o79))]; simpa [Re.len] using h)
      rw [Nat.add_assoc]; exact this)
    rw [Re.lang_a]
    simp only [← ha, ← hb]
    constructor
    · rintro (⟨h1, rfl⟩ | ⟨p, q, h1, h2, h3⟩)
      · rw [Re.nul_a, Bool.or_eq_true] at h1
        rcases h1 with h1 | h1
        · exact .inl (.inl ⟨h1, rfl⟩)
        · exact .inr (.inl ⟨h1, rfl⟩)
      · rw [Re.fst_a, Nat.testBit_or, Bool.or_eq_true] at h1
        rw [Re.lst_a, Nat.testBit_or, Bool.or_eq_true] at h2
        rcases alt_split h3 with ⟨i1, i2, h4⟩ | ⟨i1, i2, h4⟩
        · refine .inl (.inr ⟨p, q, ?_, ?_, h4⟩)
          · rcases h1 with h1 | h1
            · exact h1
            · have := b.fst_in _ _ h1; omega
          · rcases h2 with h2 | h2
            · exact h2
            · have := b.lst_in _ _ h2; (with_reducible exact (Ln.o475 ‹_› ‹_›).elim)
        · refine .inr (.inr ⟨p, q, ?_, ?_, h4⟩)
          · rcases h1 with h1 | h1
            · have := a.fst_in _ _ h1; (with_reducible exact (Ln.o493 ‹_› ‹_›).elim)
            · exact h1
          · rcases h2 with h2 | h2
            · have := a.lst_in _ _ h2; (with_reducible exact (Ln.o484 ‹_› ‹_›).elim)
            · exact h2
    · rintro ((⟨h1, rfl⟩ | ⟨p, q, h1, h2, h3⟩) | (⟨h1, rfl⟩ | ⟨p, q, h1, h2, h3⟩))
      · exact .inl ⟨by rw [Re.nul_a, h1, Bool.true_or], rfl⟩
      · exact .inr ⟨p, q, by rw [Re.fst_a, Nat.testBit_or, h1, Bool.true_or], by rw [Re.lst_a, Nat.testBit_or, h2, Bool.true_or], h3.mono fun _ _ h => Ed_alt.mpr (.inl h)⟩
      · exact .inl ⟨by rw [Re.nul_a, h1, Bool.or_true], rfl⟩
      · exact .inr ⟨p, q, by rw [Re.fst_a, Nat.testBit_or, h1, Bool.or_true], by rw [Re.lst_a, Nat.testBit_or, h2, Bool.or_true], h3.mono fun _ _ h => Ed_alt.mpr (.inr h)⟩
  | .star a, o, L, hL, k => by
    have ha := glu a o L hL
    rw [Re.lang_s]
    constructor
    · rintro (⟨_, rfl⟩ | ⟨p, q, h1, h2, h3⟩)
      · exact .nil
      · obtain ⟨p', x, y, h4, h5, h6, rfl⟩ := star_split (a := a) h1 h3
        exact Star.congr (fun k => (ha k).mp) (h5.snoc (.inr ⟨p', q, h4, h2, h6⟩))
    · intro H
      replace H := Star.congr (fun k => (ha k).mpr) H
      clear hL ha
      induction H with
      | nil => exact .inl ⟨rfl, rfl⟩
      | @app x y hx _ ih =>
        rcases hx with ⟨_, rfl⟩ | ⟨p, q, h1, h2, h3⟩
        · exact ih
        · have h3' : Pt (Ed (.star a) o) L p q x := h3.mono fun _ _ h => Ed_star.mpr (.inl h)
          rcases ih with ⟨_, rfl⟩ | ⟨u, v, g1, g2, g3⟩
          · exact .inr ⟨p, q, h1, h2, by rw [List.append_nil]; exact h3'⟩
          · exact .inr ⟨p, v, h1, g2, h3'.join (Ed_star.mpr (.inr ⟨h2, g1⟩)) g3⟩
end Mine
end
section
open PySem
namespace Mine
/-! strings as lists of letters -/
noncomputable def tl (k : Str) : List Nat := k.cps.toList
theorem tl_append (a b : Str) : tl (a ++ b) = tl a ++ tl b := by
  show (a.cps ++ b.cps).toList = _
  simp [tl]
theorem tl_length (k : Str) : (tl k).length = k.length := rfl
theorem tl_inj {a b : Str} (h : tl a = tl b) : a = b := by
  cases a; cases b
  congr 1
  exact Array.toList_inj.mp h
noncomputable def mkS (l : List Nat) : Str := ⟨l.toArray⟩
theorem tl_mkS (l : List Nat) : tl (mkS l) = l := by simp [tl, mkS]
theorem mkS_tl (k : Str) : mkS (tl k) = k := tl_inj (tl_mkS _)
namespace Re
noncomputable def post : Re → List Nat
  | .w n => [n]
  | .cat a b => a.post ++ b.post ++ [256]
  | .alt a b => a.post ++ b.post ++ [257]
  | .star a => a.post ++ [258]
noncomputable def nw : Re → Nat
  | .w _ => 1
  | .cat a b => a.nw + b.nw
  | .alt a b => a.nw + b.nw
  | .star a => a.nw
noncomputable def wds : Re → List (List Nat)
  | .w n => [ltr n]
  | .cat a b => a.wds ++ b.wds
  | .alt a b => a.wds ++ b.wds
  | .star a => a.wds
/-- every word's number is one of 1 .. 40 -/
noncomputable def ok : Re → Prop
  | .w n => 1 ≤ n ∧ n ≤ 40
  | .cat a b => a.ok ∧ b.ok
  | .alt a b => a.ok ∧ b.ok
  | .star a => a.ok
theorem post_w (n : Nat) : (Re.w n).post = [n] := rfl
theorem post_c (a b : Re) : (Re.cat a b).post = a.post ++ b.post ++ [256] := rfl
theorem post_a (a b : Re) : (Re.alt a b).post = a.post ++ b.post ++ [257] := rfl
theorem post_s (a : Re) : (Re.star a).post = a.post ++ [258] := rfl
theorem nw_w (n : Nat) : (Re.w n).nw = 1 := rfl
theorem nw_c (a b : Re) : (Re.cat a b).nw = a.nw + b.nw := rfl
theorem nw_a (a b : Re) : (Re.alt a b).nw = a.nw + b.nw := rfl
theorem nw_s (a : Re) : (Re.star a).nw = a.nw := rfl
theorem wds_w (n : Nat) : (Re.w n).wds = [ltr n] := rfl
theorem wds_c (a b : Re) : (Re.cat a b).wds = a.wds ++ b.wds := rfl
theorem wds_a (a b : Re) : (Re.alt a b).wds = a.wds ++ b.wds := rfl
end Re
theorem wds_length : ∀ r : Re, r.wds.length = r.nw
  | .w _ => rfl
  | .cat a b => by rw [Re.wds_c, Re.nw_c, List.length_append, wds_length a, wds_length b]
  | .alt a b => by rw [Re.wds_a, Re.nw_a, List.length_append, wds_length a, wds_length b]
  | .star a => wds_length a
theorem wds_pos : ∀ r : Re, ∀ f ∈ r.wds, 1 ≤ f.length
  | .w n, f, h => by
    rw [Re.wds_w, List.mem_singleton] at h
    rw [h, ltr_len]; split <;> (first | with_reducible exact Ln.o504 | with_reducible exact Ln.o505)
  | .cat a b, f, h => by
    rcases List.mem_append.mp h with h | h
    · exact wds_pos a f h
    · exact wds_pos b f h
  | .alt a b, f, h => by
    rcases List.mem_append.mp h with h | h
    · exact wds_pos a f h
    · exact wds_pos b f h
  | .star a, f, h => wds_pos a f h
/-- made of words -/
noncomputable def Cat (W : List (List Nat)) (k : List Nat) : Prop := ∃ fs : List (List Nat), (∀ f ∈ fs, f ∈ W) ∧ k = fs.flatten
theorem Cat.mono {W W' : List (List Nat)} {k : List Nat} (h : ∀ f ∈ W, f ∈ W') : Cat W k → Cat W' k
  | ⟨fs, h1, h2⟩ => ⟨fs, fun f hf => h f (h1 f hf), h2⟩
theorem Cat.app {W : List (List Nat)} {x y : List Nat} : Cat W x → Cat W y → Cat W (x ++ y)
  | ⟨fs, h1, h2⟩, ⟨gs, h3, h4⟩ => ⟨fs ++ gs, fun f hf => by
      rcases List.mem_append.mp hf with hf | hf
      · exact h1 f hf
      · exact h3 f hf, by rw [List.flatten_append, h2, h4]⟩
theorem lang_cat : ∀ (r : Re) (k : List Nat), Lang r k → Cat r.wds k
  | .w n, k, h => ⟨[ltr n], fun f hf => hf, by rw [show k = ltr n from h]; simp⟩
  | .cat a b, k, ⟨x, y, e, hx, hy⟩ => by
    subst e
    exact ((lang_cat a x hx).mono fun f hf => List.mem_append_left _ hf).app ((lang_cat b y hy).mono fun f hf => List.mem_append_right _ hf)
  | .alt a b, k, h => by
    rcases h with h | h
    · exact (lang_cat a k h).mono fun f hf => List.mem_append_left _ hf
    · exact (lang_cat b k h).mono fun f hf => List.mem_append_right _ hf
  | .star a, k, h => by
    replace h : Star (Lang a) k := h
    show Cat a.wds k
    induction h with
    | nil => exact ⟨[], (fun _ h => nomatch h), rfl⟩
    | app hx _ ih => exact (lang_cat a _ hx).app ih
noncomputable def cats (W : List (List Nat)) : Nat → List (List Nat)
  | 0 => [[]]
  | n + 1 => [] :: W.flatMap fun f => (cats W n).map (f ++ ·)
noncomputable def cB : Nat → Nat
  | 0 => 1
  | n + 1 => 1 + 4 * cB n
theorem cats_s (W : List (List Nat)) (n : Nat) : cats W (n + 1) = [] :: W.flatMap fun f => (cats W n).map (f ++ ·) := rfl
theorem cB_z : cB 0 = 1 := rfl
theorem cB_s (n : Nat) : cB (n + 1) = 1 + 4 * cB n := rfl
theorem cat_mem {W : List (List Nat)} (hW : ∀ f ∈ W, 1 ≤ f.length) : ∀ (fs : List (List Nat)) (n : Nat), (∀ f ∈ fs, f ∈ W) → fs.flatten.length ≤ n → fs.flatten ∈ cats W n
  | [], 0, _, _ => .head _
  | [], n + 1, _, _ => .head _
  | f :: fs, n, h, hn => by
    have h1 := hW f (h f (.head _))
    rw [List.flatten_cons, List.length_append] at hn
    cases n with
    | zero => (with_reducible exact (Ln.o512 ‹_› ‹_›).elim)
    | succ n =>
      refine .tail _ (List.mem_flatMap.mpr ⟨f, h f (.head _), List.mem_map.mpr ⟨fs.flatten, cat_mem hW fs n (fun g hg => h g (.tail _ hg)) (by (with_reducible exact Ln.o507 ‹_› ‹_›)), rfl⟩⟩)
theorem sum_map_le {α : Type} {g g' : α → Nat} : ∀ {l : List α}, (∀ a ∈ l, g a ≤ g' a) → (l.map g).sum ≤ (l.map g').sum
  | [], _ => Nat.le_refl _
  | a :: r, h => by
    have h1 := h a (.head _)
    have h2 := sum_map_le (l := r) fun b hb => h b (.tail _ hb)
    simp only [List.map_cons, List.sum_cons]; (with_reducible exact Ln.o506 ‹_› ‹_›)
theorem sum_const_le {α : Type} {g : α → Nat} {b : Nat} : ∀ {l : List α}, (∀ a ∈ l, g a ≤ b) → (l.map g).sum ≤ l.length * b
  | [], _ => by simp
  | a :: r, h => by
    have h1 := h a (.head _)
    have h2 := sum_const_le (l := r) fun b hb => h b (.tail _ hb)
    simp only [List.map_cons, List.sum_cons, List.length_cons, Nat.succ_mul]; (with_reducible exact Ln.o388 ‹_› ‹_›)
theorem cats_length {W : List (List Nat)} (hW : W.length ≤ 4) : ∀ n, (cats W n).length ≤ cB n
  | 0 => Nat.le_refl _
  | n + 1 => by
    have ih := cats_length hW n
    rw [cats_s, List.length_cons, List.length_flatMap, cB_s]
    have h1 : (W.map fun f => ((cats W n).map (f ++ ·)).length).sum ≤ W.length * cB n := sum_const_le fun f _ => by rw [List.length_map]; exact ih
    have h2 := Nat.mul_le_mul_right (cB n) hW
    have h3 : (W.map fun a => (List.map (fun x => a ++ x) (cats W n)).length).sum = (W.map fun f => ((cats W n).map (f ++ ·)).length).sum := rfl
    omega
theorem cB_mono : ∀ {n m : Nat}, n ≤ m → cB n ≤ cB m
  | 0, 0, _ => Nat.le_refl _
  | 0, m + 1, _ => by rw [cB_z, cB_s]; (with_reducible exact Ln.o509)
  | n + 1, m + 1, h => by rw [cB_s, cB_s]; have := cB_mono (n := n) (m := m) (by (with_reducible exact Ln.o510 ‹_›)); (with_reducible exact Ln.o511 ‹_›)
/-- a weight over a list without doubles is at most that over a list that holds it -/
theorem sum_nodup {α : Type} [DecidableEq α] (g : α → Nat) : ∀ {R S : List α}, R.Nodup → (∀ k ∈ R, k ∈ S) → (R.map g).sum ≤ (S.map g).sum
  | [], _, _, _ => by simp
  | k :: R, S, hn, hs => by
    have hk := hs k (.head _)
    obtain ⟨A, B, rfl⟩ := List.append_of_mem hk
    have hn' := List.nodup_cons.mp hn
    have := sum_nodup g (R := R) (S := A ++ B) hn'.2 fun x hx => by
      have h1 := hs x (.tail _ hx)
      rcases List.mem_append.mp h1 with h1 | h1
      · exact List.mem_append_left _ h1
      · rcases List.mem_cons.mp h1 with h1 | h1
        · subst h1; exact absurd hx hn'.1
        · exact List.mem_append_right _ h1
    simp only [List.map_append, List.map_cons, List.sum_append, List.sum_cons] at this ⊢
    (with_reducible exact Ln.o503 ‹_›)
theorem sum_ones {α : Type} : ∀ l : List α, (l.map fun _ => 1).sum = l.length
  | [] => rfl
  | _ :: r => by rw [List.map_cons, List.sum_cons, sum_ones r, List.length_cons]; (with_reducible exact Ln.o508)
theorem sum_flat {α : Type} {f : α → List Nat} : ∀ l : List α, (l.flatMap f).sum = (l.map fun a => (f a).sum).sum
  | [] => rfl
  | a :: r => by rw [List.flatMap_cons, List.sum_append, List.map_cons, List.sum_cons, sum_flat r]
theorem len_nodup {α : Type} [DecidableEq α] {R S : List α} (hn : R.Nodup) (hs : ∀ k ∈ R, k ∈ S) : R.length ≤ S.length := by
  have := sum_nodup (fun _ => 1) hn hs
  rwa [sum_ones, sum_ones] at this
noncomputable def sB : Nat → Nat
  | 0 => 1
  | n + 1 => cB (n + 1) + 4 * sB n
theorem sB_s (n : Nat) : sB (n + 1) = cB (n + 1) + 4 * sB n := rfl
theorem cats_sum {W : List (List Nat)} (hW : W.length ≤ 4) (hp : ∀ f ∈ W, 1 ≤ f.length) : ∀ n, ((cats W n).map fun u => cB (n - u.length)).sum ≤ sB n
  | 0 => Nat.le_refl 1
  | n + 1 => by
    have ih := cats_sum hW hp n
    rw [cats_s, List.map_cons, List.sum_cons, sB_s]
    have h1 : ((W.flatMap fun f => (cats W n).map (f ++ ·)).map fun u => cB (n + 1 - u.length)).sum ≤ W.length * sB n := by
      rw [List.map_flatMap, sum_flat]
      refine sum_const_le fun f hf => Nat.le_trans ?_ ih
      rw [List.map_map]
      refine sum_map_le fun u _ => cB_mono ?_
      have := hp f hf
      simp only [List.length_append]; (with_reducible exact Ln.o501 ‹_›)
    have h2 := Nat.mul_le_mul_right (sB n) hW
    simp only [List.length_nil, Nat.sub_zero]
    (with_reducible exact Ln.o502 ‹_› ‹_›)
/-- texts made of at most four words, short -/
noncomputable def Short (W : List (List Nat)) (xs : List Str) : Prop := xs.Nodup ∧ ∀ x ∈ xs, Cat W (tl x) ∧ x.length ≤ 4
theorem tls_nodup : ∀ {xs : List Str}, xs.Nodup → (xs.map tl).Nodup
  | [], _ => .nil
  | x :: xs, h => by
    have h := List.nodup_cons.mp h
    rw [List.map_cons]
    refine List.nodup_cons.mpr ⟨fun hm => ?_, tls_nodup h.2⟩
    obtain ⟨y, hy, e⟩ := List.mem_map.mp hm
    rw [tl_inj e] at hy
    exact h.1 hy
theorem short_le {W : List (List Nat)} {xs : List Str} {n : Nat} (hW : W.length ≤ 4) (hp : ∀ f ∈ W, 1 ≤ f.length) (hx : xs.Nodup) (h : ∀ x ∈ xs, Cat W (tl x) ∧ x.length ≤ n) : xs.length ≤ cB n := by
  have := len_nodup (tls_nodup hx) (S := cats W n) fun k hk => by
    obtain ⟨x, hxm, rfl⟩ := List.mem_map.mp hk
    obtain ⟨⟨fs, h1, h2⟩, h3⟩ := h x hxm
    rw [h2]
    exact cat_mem hp fs n h1 (by rw [← h2]; exact h3)
  rw [List.length_map] at this
  exact Nat.le_trans this (cats_length hW n)
theorem Short.len {W : List (List Nat)} {xs : List Str} (hW : W.length ≤ 4) (hp : ∀ f ∈ W, 1 ≤ f.length) (h : Short W xs) : xs.length ≤ 341 := short_le (n := 4) hW hp h.1 h.2
theorem rowL_len {W : List (List Nat)} {ys : List Str} (hW : W.length ≤ 4) (hp : ∀ f ∈ W, 1 ≤ f.length) (hy : Short W ys) {x : Str} (hx : x.length ≤ 4) : (rowL x ys).length ≤ cB (4 - x.length) := by
  unfold rowL
  rw [List.length_map]
  refine short_le hW hp (hy.1.filter _) fun y hm => ?_
  obtain ⟨h1, h2⟩ := List.mem_filter.mp hm
  have h3 := of_decide_eq_true h2
  rw [Str.length_append] at h3
  exact ⟨(hy.2 y h1).1, by (with_reducible exact Ln.o500 ‹_›)⟩
theorem joinL_len {W : List (List Nat)} {xs ys : List Str} (hW : W.length ≤ 4) (hp : ∀ f ∈ W, 1 ≤ f.length) (hx : Short W xs) (hy : Short W ys) : (joinL xs ys).length ≤ 1593 := by
  unfold joinL
  rw [List.length_flatMap]
  have h1 : (xs.map fun x => (rowL x ys).length).sum ≤ (xs.map fun x => cB (4 - x.length)).sum := sum_map_le fun x hm => rowL_len hW hp hy (hx.2 x hm).2
  have h2 : (xs.map fun x => cB (4 - x.length)) = (xs.map tl).map fun u => cB (4 - u.length) := by rw [List.map_map]; rfl
  have h3 := sum_nodup (fun u : List Nat => cB (4 - u.length)) (tls_nodup hx.1) (S := cats W 4) fun k hk => by
    obtain ⟨x, hxm, rfl⟩ := List.mem_map.mp hk
    obtain ⟨⟨fs, g1, g2⟩, g3⟩ := hx.2 x hxm
    rw [g2]
    exact cat_mem hp fs 4 g1 (by rw [← g2]; exact g3)
  have h4 := cats_sum hW hp 4
  rw [h2] at h1
  exact Nat.le_trans h1 (Nat.le_trans h3 h4)
end Mine
end
section
open PySem PySem.W PyProof.Rows PySem.Spec PySem.Calls PyProof.Rows.LCg
namespace Mine
noncomputable def LangOK (r : Re) (R : List Str) : Prop := sortedS R = true ∧ R.Nodup ∧ ∀ k : Str, k ∈ R ↔ Lang r (tl k) ∧ k.length ≤ 4
theorem LangOK.short {r : Re} {R : List Str} (h : LangOK r R) : Short r.wds R := ⟨h.2.1, fun x hx => ⟨lang_cat r _ ((h.2.2 x).mp hx).1, ((h.2.2 x).mp hx).2⟩⟩
theorem LangOK.len4 {r : Re} {R : List Str} (h : LangOK r R) : ∀ x ∈ R, x.length ≤ 4 := fun x hx => ((h.2.2 x).mp hx).2
theorem Short.mono {W W' : List (List Nat)} {xs : List Str} (hs : ∀ f ∈ W, f ∈ W') (h : Short W xs) : Short W' xs := ⟨h.1, fun x hx => ⟨(h.2 x hx).1.mono hs, (h.2 x hx).2⟩⟩
theorem join_bound {a b : Re} {xs ys : List Str} (ha : LangOK a xs) (hb : LangOK b ys) (hn : a.nw + b.nw ≤ 4) : (joinL xs ys).length + 1 < 4096 := by
  have hW : (a.wds ++ b.wds).length ≤ 4 := by rw [List.length_append, wds_length, wds_length]; exact hn
  have := joinL_len hW (fun f hf => by
    rcases List.mem_append.mp hf with hf | hf
    · exact wds_pos a f hf
    · exact wds_pos b f hf) (ha.short.mono fun f hf => List.mem_append_left _ hf) (hb.short.mono fun f hf => List.mem_append_right _ hf)
  (with_reducible exact Ln.o513 ‹_›)
theorem LangOK.len {r : Re} {R : List Str} (h : LangOK r R) (hn : r.nw ≤ 4) : R.length ≤ 341 := h.short.len (by rw [wds_length]; exact hn) (wds_pos r)
theorem starL_short {W : List (List Nat)} {xs : List Str} (hx : ∀ x ∈ xs, Cat W (tl x)) : ∀ (i : Nat) (k : Str), k ∈ starL xs i → Cat W (tl k) ∧ k.length ≤ 4
  | 0, k, h => by
    have : k = Str.empty := by simpa [starL] using h
    subst this
    exact ⟨⟨[], (fun _ h => nomatch h), rfl⟩, by decide⟩
  | i + 1, k, h => by
    rw [starL] at h
    rcases List.mem_append.mp h with h | h
    · exact starL_short hx i k h
    · obtain ⟨a, ha, b, hb, rfl, hl⟩ := mem_joinL.mp h
      refine ⟨?_, by (with_reducible exact Ln.o518 ‹_›)⟩
      rw [tl_append]
      exact (starL_short hx i a ha).1.app (hx b hb)
theorem often_ok {a : Re} {xs : List Str} (ha : LangOK a xs) (hn : a.nw ≤ 4) : OftenB xs := by
  intro i R _ hR hk
  have hW : a.wds.length ≤ 4 := by rw [wds_length]; exact hn
  have hs : Short a.wds R := ⟨hR, fun x hx => starL_short (fun y hy => (ha.short.2 y hy).1) i x ((hk x).mp hx)⟩
  have h1 := hs.len hW (wds_pos a)
  have h2 := joinL_len hW (wds_pos a) hs ha.short
  exact ⟨by (with_reducible exact Ln.o519 ‹_› ‹_›), fun x hx => (hs.2 x hx).2⟩
theorem tl_wordS (n : Nat) : tl (wordS n) = ltr n := by
  unfold wordS ltr tl; split <;> rfl
theorem word_ok (n : Nat) : LangOK (.w n) [wordS n] := by
  refine ⟨rfl, by simp, fun k => ?_⟩
  rw [List.mem_singleton]
  constructor
  · rintro rfl
    refine ⟨tl_wordS n, ?_⟩
    rw [← tl_length, tl_wordS, ltr_len]; split <;> (first | with_reducible exact Ln.o514 | with_reducible exact Ln.o524)
  · rintro ⟨h, _⟩
    exact tl_inj ((show tl k = ltr n from h).trans (tl_wordS n).symm)
theorem cat_ok {a b : Re} {xs ys R : List Str} (ha : LangOK a xs) (hb : LangOK b ys) (h1 : sortedS R = true) (h2 : R.Nodup) (h3 : ∀ k, k ∈ R ↔ k ∈ joinL xs ys) : LangOK (.cat a b) R := by
  refine ⟨h1, h2, fun k => ?_⟩
  rw [h3, mem_joinL]
  constructor
  · rintro ⟨x, hx, y, hy, rfl, hl⟩
    exact ⟨⟨tl x, tl y, tl_append x y, ((ha.2.2 x).mp hx).1, ((hb.2.2 y).mp hy).1⟩, by (with_reducible exact Ln.o518 ‹_›)⟩
  · rintro ⟨⟨x, y, e, hx, hy⟩, hl⟩
    have hk : k = mkS x ++ mkS y := tl_inj (by rw [tl_append, tl_mkS, tl_mkS]; exact e)
    have hlen : k.length = x.length + y.length := by rw [← tl_length, e, List.length_append]
    have e1 : (mkS x).length = x.length := by rw [← tl_length, tl_mkS]
    have e2 : (mkS y).length = y.length := by rw [← tl_length, tl_mkS]
    refine ⟨mkS x, (ha.2.2 _).mpr ⟨by rw [tl_mkS]; exact hx, by (with_reducible exact Ln.o525 ‹_› ‹_› ‹_›)⟩, mkS y, (hb.2.2 _).mpr ⟨by rw [tl_mkS]; exact hy, by (with_reducible exact Ln.o522 ‹_› ‹_› ‹_›)⟩, hk, ?_⟩
    rw [← hk]; (with_reducible exact Ln.o523 ‹_›)
theorem alt_ok {a b : Re} {xs ys R : List Str} (ha : LangOK a xs) (hb : LangOK b ys) (h1 : sortedS R = true) (h2 : R.Nodup) (h3 : ∀ k, k ∈ R ↔ k ∈ xs ++ ys) : LangOK (.alt a b) R := by
  refine ⟨h1, h2, fun k => ?_⟩
  rw [h3, List.mem_append, ha.2.2, hb.2.2]
  show _ ↔ (Lang a (tl k) ∨ Lang b (tl k)) ∧ _
  constructor
  · rintro (⟨h, h'⟩ | ⟨h, h'⟩)
    · exact ⟨.inl h, h'⟩
    · exact ⟨.inr h, h'⟩
  · rintro ⟨h | h, h'⟩
    · exact .inl ⟨h, h'⟩
    · exact .inr ⟨h, h'⟩
theorem star_parts {P : List Nat → Prop} {k : List Nat} (h : Star P k) : ∃ fs : List (List Nat), (∀ f ∈ fs, P f ∧ f ≠ []) ∧ k = fs.flatten := by
  induction h with
  | nil => exact ⟨[], (fun _ h => nomatch h), rfl⟩
  | @app x y hx _ ih =>
    obtain ⟨fs, h1, h2⟩ := ih
    by_cases hxe : x = []
    · subst hxe; exact ⟨fs, h1, by simpa using h2⟩
    · exact ⟨x :: fs, fun f hf => by
        rcases List.mem_cons.mp hf with rfl | hf
        · exact ⟨hx, hxe⟩
        · exact h1 f hf, by rw [h2]; rfl⟩
theorem starL_succ_mem {xs : List Str} {n : Nat} {k : Str} (h : k ∈ starL xs n) : k ∈ starL xs (n + 1) := List.mem_append_left _ h
theorem starL_mono {xs : List Str} {k : Str} {n : Nat} (h : k ∈ starL xs n) : ∀ d, k ∈ starL xs (n + d)
  | 0 => h
  | d + 1 => starL_succ_mem (starL_mono h d)
theorem parts_star {a : Re} {xs : List Str} (ha : LangOK a xs) : ∀ (n : Nat) (fs : List (List Nat)), fs.length = n → (∀ f ∈ fs, Lang a f ∧ f ≠ []) → fs.flatten.length ≤ 4 → mkS fs.flatten ∈ starL xs n ∧ n ≤ fs.flatten.length
  | 0, fs, hn, _, _ => by
    have : fs = [] := List.length_eq_zero_iff.mp hn
    subst this
    exact ⟨by simp [starL, mkS, Str.empty], Nat.zero_le _⟩
  | n + 1, fs, hn, hf, hl => by
    have hne : fs ≠ [] := by intro h; subst h; simp at hn
    obtain ⟨gs, f, rfl⟩ : ∃ gs f, fs = gs ++ [f] := ⟨fs.dropLast, fs.getLast hne, (List.dropLast_concat_getLast hne).symm⟩
    have hgl : gs.length = n := by simpa using hn
    have hff := hf f (List.mem_append_right _ (.head _))
    have hfl : 1 ≤ f.length := by
      cases f with
      | nil => exact absurd rfl hff.2
      | cons => simp
    have hfla : (gs ++ [f]).flatten = gs.flatten ++ f := by simp
    rw [hfla, List.length_append] at hl
    obtain ⟨h1, h2⟩ := parts_star ha n gs hgl (fun g hg => hf g (List.mem_append_left _ hg)) (by (with_reducible exact Ln.o521 ‹_›))
    rw [hfla]
    refine ⟨?_, by rw [List.length_append]; (with_reducible exact Ln.o516 ‹_› ‹_›)⟩
    rw [starL]
    refine List.mem_append_right _ (mem_joinL.mpr ⟨mkS gs.flatten, h1, mkS f, (ha.2.2 _).mpr ⟨by rw [tl_mkS]; exact hff.1, by rw [← tl_length, tl_mkS]; (with_reducible exact Ln.o517 ‹_›)⟩, tl_inj (by rw [tl_append, tl_mkS, tl_mkS, tl_mkS]), ?_⟩)
    rw [Str.length_append, ← tl_length, ← tl_length, tl_mkS, tl_mkS]; (with_reducible exact Ln.o523 ‹_›)
theorem starL_lang {a : Re} {xs : List Str} (ha : LangOK a xs) : ∀ (n : Nat) (k : Str), k ∈ starL xs n → Star (Lang a) (tl k)
  | 0, k, h => by
    have : k = Str.empty := by simpa [starL] using h
    subst this
    exact .nil
  | n + 1, k, h => by
    rw [starL] at h
    rcases List.mem_append.mp h with h | h
    · exact starL_lang ha n k h
    · obtain ⟨x, hx, y, hy, rfl, _⟩ := mem_joinL.mp h
      rw [tl_append]
      exact (starL_lang ha n x hx).snoc ((ha.2.2 y).mp hy).1
theorem star_ok {a : Re} {xs R : List Str} (ha : LangOK a xs) (h1 : sortedS R = true) (h2 : R.Nodup) (h3 : ∀ k, k ∈ R ↔ k ∈ starL xs 4) : LangOK (.star a) R := by
  refine ⟨h1, h2, fun k => ?_⟩
  rw [h3]
  show _ ↔ Star (Lang a) (tl k) ∧ _
  constructor
  · intro h
    exact ⟨starL_lang ha 4 k h, (starL_short (W := a.wds) (fun y hy => (ha.short.2 y hy).1) 4 k h).2⟩
  · rintro ⟨h, hl⟩
    obtain ⟨fs, hf, e⟩ := star_parts h
    have hlen : fs.flatten.length ≤ 4 := by rw [← e]; exact hl
    obtain ⟨h4, h5⟩ := parts_star ha fs.length fs rfl hf hlen
    rw [← e, mkS_tl] at h4
    have := starL_mono h4 (4 - fs.length)
    rwa [show fs.length + (4 - fs.length) = 4 by (with_reducible exact Ln.o515 ‹_› ‹_›)] at this
end Mine
end
section
open PySem PySem.W PyProof.Rows PySem.Spec PySem.Calls PyProof.Rows.LCg
set_option maxRecDepth 100000
namespace Mine
/-- refs to lists of texts, each the short texts of its expression -/
inductive TextsAt (news : List (Addr × Obj)) : List Value → List Re → Prop
  | nil : TextsAt news [] []
  | cons {D : Addr} {vs : List Value} {c : Nat} {R : List Str} {r : Re} {ys : List Value} {rs : List Re} : (D, W.listOf vs.toArray c) ∈ news → StrsAre vs R → LangOK r R → TextsAt news ys rs → TextsAt news (.ref D :: ys) (r :: rs)
theorem TextsAt.mono {news news' : List (Addr × Obj)} (h : ∀ p ∈ news, p ∈ news') : ∀ {ys : List Value} {rs : List Re}, TextsAt news ys rs → TextsAt news' ys rs
  | _, _, .nil => .nil
  | _, _, .cons a b d c => .cons (h _ a) b d (c.mono h)
theorem TextsAt.snoc {news : List (Addr × Obj)} {D : Addr} {vs : List Value} {c : Nat} {R : List Str} {r : Re} (h1 : (D, W.listOf vs.toArray c) ∈ news) (h2 : StrsAre vs R) (h3 : LangOK r R) : ∀ {ys : List Value} {rs : List Re}, TextsAt news ys rs → TextsAt news (ys ++ [.ref D]) (rs ++ [r])
  | _, _, .nil => .cons h1 h2 h3 .nil
  | _, _, .cons a b d c => .cons a b d (c.snoc h1 h2 h3)
theorem TextsAt.length {news : List (Addr × Obj)} : ∀ {ys : List Value} {rs : List Re}, TextsAt news ys rs → ys.length = rs.length
  | _, _, .nil => rfl
  | _, _, .cons _ _ _ c => by simp [c.length]
inductive UnsnT (news : List (Addr × Obj)) (r : Re) (rs : List Re) : List Value → Prop
  | mk (ys' : List Value) (D : Addr) (vs : List Value) (c : Nat) (R : List Str) (c2 : TextsAt news ys' rs) (c3 : (D, W.listOf vs.toArray c) ∈ news) (c4 : StrsAre vs R) (c5 : LangOK r R) : UnsnT news r rs (ys' ++ [.ref D])
theorem TextsAt.unsnoc {news : List (Addr × Obj)} {r : Re} : ∀ {rs : List Re} {ys : List Value}, TextsAt news ys (rs ++ [r]) → UnsnT news r rs ys
  | [], _, .cons a b d .nil => ⟨[], _, _, _, _, .nil, a, b, d⟩
  | p :: ps, _, .cons a b d c => by cases c.unsnoc with | mk ys' D vs cc R h1 h2 h3 h4 => exact ⟨_ :: ys', D, vs, cc, R, .cons a b d h1, h2, h3, h4⟩
noncomputable def nws (rs : List Re) : Nat := (rs.map Re.nw).sum
theorem nws_snoc (rs : List Re) (r : Re) : nws (rs ++ [r]) = nws rs + r.nw := by simp [nws]
/-- what stands ahead of a draw; k: the tokens' bound -/
inductive LwJ (Dt Dp D3 : Addr) (its : Array Value) (k : Nat) : (Str → Option Value) → List (Addr × Obj) → Prop
  | mk (mc : Str → Option Value) (ut up : List Value) (ct cp : Nat) (tn : List (Addr × Obj)) (rs : List Re) (tw : Tok) (c3 : IntsAre ut ((rs.flatMap Re.post).map Int.ofNat)) (c4 : TextsAt tn up rs) (c5 : nws rs ≤ 4) (c6 : (∀ r ∈ rs, r.ok)) (c7 : (rs.flatMap Re.post).length ≤ k) (c8 : (0 < k → rs ≠ [])) (c9 : (∀ p ∈ tn, p.1 ≠ Dt)) (c10 : (∀ p ∈ tn, p.1 ≠ Dp)) (c11 : (∀ p ∈ tn, p.1 ≠ D3)) : LwJ Dt Dp D3 its k (ovr [(Str.ofString "tokens", some (.ref Dt)), (Str.ofString "pile", some (.ref Dp)), (Str.ofString "words", some (.int (nws rs : Int) tw))] mc) ((D3, W.listOf its 0) :: (Dt, W.listOf ut.toArray ct) :: (Dp, W.listOf up.toArray cp) :: tn)
theorem LwJ.of {Dt Dp D3 : Addr} {its : Array Value} {k : Nat} {mm : Str → Option Value} (mc : Str → Option Value) (ut up : List Value) (ct cp : Nat) (tn : List (Addr × Obj)) (rs : List Re) (tw : Tok) (e : mm = ovr [(Str.ofString "tokens", some (.ref Dt)), (Str.ofString "pile", some (.ref Dp)), (Str.ofString "words", some (.int (nws rs : Int) tw))] mc) (c3 : IntsAre ut ((rs.flatMap Re.post).map Int.ofNat)) (c4 : TextsAt tn up rs) (c5 : nws rs ≤ 4) (c6 : (∀ r ∈ rs, r.ok)) (c7 : (rs.flatMap Re.post).length ≤ k) (c8 : (0 < k → rs ≠ [])) (c9 : (∀ p ∈ tn, p.1 ≠ Dt)) (c10 : (∀ p ∈ tn, p.1 ≠ Dp)) (c11 : (∀ p ∈ tn, p.1 ≠ D3)) : LwJ Dt Dp D3 its k mm ((D3, W.listOf its 0) :: (Dt, W.listOf ut.toArray ct) :: (Dp, W.listOf up.toArray cp) :: tn) := by
  subst e; exact .mk mc ut up ct cp tn rs tw c3 c4 c5 c6 c7 c8 c9 c10 c11
theorem Re.nw_pos : ∀ r : Re, 1 ≤ r.nw
  | .w _ => Nat.le_refl _
  | .cat a b => by have := a.nw_pos; rw [Re.nw_c]; (with_reducible exact Ln.o528 ‹_›)
  | .alt a b => by have := a.nw_pos; rw [Re.nw_a]; (with_reducible exact Ln.o528 ‹_›)
  | .star a => a.nw_pos
theorem len_le_nws : ∀ rs : List Re, rs.length ≤ nws rs
  | [] => Nat.le_refl _
  | r :: rs => by
    have h1 := r.nw_pos
    have h2 := len_le_nws rs
    unfold nws at *
    simp only [List.length_cons, List.map_cons, List.sum_cons]
    (with_reducible exact Ln.o527 ‹_› ‹_›)
section
variable {prog : Program} {w : World} {A : Around} {E : Value → Shared → Prop} {s : Shared}
/-- == of a list and an empty one -/
theorem eq_nil {a b : Addr} {va : List Value} {Q : Value → Shared → Prop} (hl : s.heap.IsList a va.toArray) (hl' : s.heap.IsList b #[]) (hu : A.units < cLine)
    (h : Q (.bool (decide (va.length = 0))) s) : wpAny (model prog w) A (compareOp .Eq (.ref a) (.ref b)) Q E s := by
  by_cases hlen : va.length = 0
  · have : va = [] := List.length_eq_zero_iff.mp hlen
    subst this
    rw [decide_eq_true hlen] at h
    exact SeqAt.eq_listAt (e := fun _ => true) hl hl' rfl hu (fun j h1 _ => by simp at h1) h
  · rw [decide_eq_false hlen] at h
    exact SeqAt.eq_list_lengthsAt hl hl' (by simpa using hlen) hu h
end
/-- the drawn kind is one of 0 .. 4 -/
theorem fmod5 (x : Int) : 0 ≤ x.fmod 5 ∧ x.fmod 5 < 5 := by
  rw [Int.fmod_eq_emod_of_nonneg _ (by decide)]; (with_reducible exact Ln.o526)
inductive Num40 (x : Int) : Prop
  | mk (n : Nat) (c1 : 1 + (x.fdiv 5).fmod 40 = (n : Int)) (c2 : 1 ≤ n) (c3 : n ≤ 40)
theorem num40 (x : Int) : Num40 x := by
  have h1 := Int.emod_nonneg (x.fdiv 5) (show (40 : Int) ≠ 0 by decide)
  have h2 := Int.emod_lt_of_pos (x.fdiv 5) (show (0 : Int) < 40 by decide)
  exact ⟨(1 + (x.fdiv 5) % 40).toNat, by rw [Int.fmod_eq_emod_of_nonneg _ (by decide)]; omega, by omega, by omega⟩
inductive TestQI (b0 : Bool) (h₀ : Heap) (L : Addr) (m : Str → Option Value) (news : List (Addr × Obj)) (sg : Array GenState) (so : OsState) (b : Bool) (s' : Shared) : Prop
  | mk
    (c1 : b = b0) (h' : Heap) (tk' : Nat) (dr' : Drawn)
    (c2 : s' = { heap := h', gens := sg, drawn := dr', toks := tk', os := so })
    (c3 : Fr h₀ L h' m)
    (c4 : News h₀ L h' news)
noncomputable def TestQ (b0 : Bool) (h₀ : Heap) (L : Addr) (m : Str → Option Value) (news : List (Addr × Obj)) (s₀ : Shared) (b : Bool) (s' : Shared) : Prop := TestQI b0 h₀ L m news s₀.gens s₀.os b s'
theorem TestQ.mk' {b0 b : Bool} {h₀ : Heap} {L : Addr} {m : Str → Option Value} {news news' : List (Addr × Obj)} {s₀ : Shared} {h' : Heap} {tk' : Nat} {dr' : Drawn} (e : b = b0) (F : Fr h₀ L h' m) (N : News h₀ L h' news') (hs : ∀ p ∈ news, p ∈ news') :
    TestQ b0 h₀ L m news s₀ b { s₀ with heap := h', toks := tk', drawn := dr' } := ⟨e, h', tk', dr', rfl, F, News.sub N hs⟩
theorem test_if {M : Model} {A : Around} {s : Shared} {h₀ : Heap} {L : Addr} {m : Str → Option Value} {news : List (Addr × Obj)} {test : PySem.Expr} {body orelse : List Stmt} {pos : Pos} {env : Env} {Q : Flow → Shared → Prop} {E : Value → Shared → Prop} (_F : Fr h₀ L s.heap m) (_N : News h₀ L s.heap news) (b0 : Bool)
    (h : wpAny M A (isTrue test env (eval test env)) (TestQ b0 h₀ L m news s) E s)
    (ky : b0 = true → ∀ h' tk' dr', Fr h₀ L h' m → News h₀ L h' news → wpAny M A (execs body env) Q E { s with heap := h', toks := tk', drawn := dr' })
    (kn : b0 = false → ∀ h' tk' dr', Fr h₀ L h' m → News h₀ L h' news → wpAny M A (execs orelse env) Q E { s with heap := h', toks := tk', drawn := dr' }) :
    wpAny M A (exec (.If test body orelse pos) env) Q E s := by
  refine wpAny_If (wpAny_mono h (fun b s₂ hb => ?_) fun _ _ e => e)
  obtain ⟨rfl, h', tk', dr', rfl, F, N⟩ := hb
  cases b with
  | true => exact ky rfl _ _ _ F N
  | false => exact kn rfl _ _ _ F N
theorem post_star (rs : List Re) (r : Re) : (rs ++ [Re.star r]).flatMap Re.post = (rs ++ [r]).flatMap Re.post ++ [258] := by simp [List.flatMap_append, Re.post_s]
theorem post_cat (rs : List Re) (a b : Re) : (rs ++ [Re.cat a b]).flatMap Re.post = ((rs ++ [a]) ++ [b]).flatMap Re.post ++ [256] := by simp [List.flatMap_append, Re.post_c]
theorem post_alt (rs : List Re) (a b : Re) : (rs ++ [Re.alt a b]).flatMap Re.post = ((rs ++ [a]) ++ [b]).flatMap Re.post ++ [257] := by simp [List.flatMap_append, Re.post_a]
theorem ints_post {ut : List Value} {xs ys : List Nat} {n : Nat} {t : Tok} (h : IntsAre ut (xs.map Int.ofNat)) (e : ys = xs ++ [n]) : IntsAre (ut ++ [.int (n : Int) t]) (ys.map Int.ofNat) := by
  rw [e, List.map_append]; exact ints_snoc h
/-- what stands ahead of a turn of the second loop -/
inductive LwK (Dt Dp : Addr) (n : Nat) (i : Nat) : (Str → Option Value) → List (Addr × Obj) → Prop
  | mk (mc : Str → Option Value) (ut up : List Value) (ct cp : Nat) (tn : List (Addr × Obj)) (rs : List Re) (c3 : IntsAre ut ((rs.flatMap Re.post).map Int.ofNat)) (c4 : TextsAt tn up rs) (c5 : nws rs ≤ 4) (c6 : (∀ r ∈ rs, r.ok)) (c7 : (rs.flatMap Re.post).length ≤ 12 + i) (c8 : rs.length = n - i) (c9 : (∀ p ∈ tn, p.1 ≠ Dt)) (c10 : (∀ p ∈ tn, p.1 ≠ Dp)) : LwK Dt Dp n i (ovr [(Str.ofString "tokens", some (.ref Dt)), (Str.ofString "pile", some (.ref Dp))] mc) ((Dt, W.listOf ut.toArray ct) :: (Dp, W.listOf up.toArray cp) :: tn)
theorem LwK.of {Dt Dp : Addr} {n : Nat} {i : Nat} {mm : Str → Option Value} (mc : Str → Option Value) (ut up : List Value) (ct cp : Nat) (tn : List (Addr × Obj)) (rs : List Re) (e : mm = ovr [(Str.ofString "tokens", some (.ref Dt)), (Str.ofString "pile", some (.ref Dp))] mc) (c3 : IntsAre ut ((rs.flatMap Re.post).map Int.ofNat)) (c4 : TextsAt tn up rs) (c5 : nws rs ≤ 4) (c6 : (∀ r ∈ rs, r.ok)) (c7 : (rs.flatMap Re.post).length ≤ 12 + i) (c8 : rs.length = n - i) (c9 : (∀ p ∈ tn, p.1 ≠ Dt)) (c10 : (∀ p ∈ tn, p.1 ≠ Dp)) : LwK Dt Dp n i mm ((Dt, W.listOf ut.toArray ct) :: (Dp, W.listOf up.toArray cp) :: tn) := by
  subst e; exact .mk mc ut up ct cp tn rs c3 c4 c5 c6 c7 c8 c9 c10
/-- what stands ahead of an octet -/
inductive LwO (D6 Do Dp : Addr) (O6 Op : Obj) (tn : List (Addr × Obj)) (xs : List Int) : (Str → Option Value) → List (Addr × Obj) → Prop
  | mk (mc : Str → Option Value) (uo : List Value) (co : Nat) (c3 : IntsAre uo xs) : LwO D6 Do Dp O6 Op tn xs (ovr [(Str.ofString "octets", some (.ref Do)), (Str.ofString "pile", some (.ref Dp))] mc) ((D6, O6) :: (Do, W.listOf uo.toArray co) :: (Dp, Op) :: tn)
theorem LwO.of {D6 Do Dp : Addr} {O6 Op : Obj} {tn : List (Addr × Obj)} {xs : List Int} {mm : Str → Option Value} (mc : Str → Option Value) (uo : List Value) (co : Nat) (e : mm = ovr [(Str.ofString "octets", some (.ref Do)), (Str.ofString "pile", some (.ref Dp))] mc) (c3 : IntsAre uo xs) : LwO D6 Do Dp O6 Op tn xs mm ((D6, O6) :: (Do, W.listOf uo.toArray co) :: (Dp, Op) :: tn) := by
  subst e; exact .mk mc uo co c3
inductive Sn {α : Type} : List α → Prop
  | mk (l : List α) (a : α) : Sn (l ++ [a])
theorem Sn.of {α : Type} {l : List α} (h : l ≠ []) : Sn l := by
  rw [← List.dropLast_concat_getLast h]; exact .mk _ _
inductive One1 {α : Type} : List α → Prop
  | mk (a : α) : One1 [a]
theorem One1.of {α : Type} {l : List α} (h : l.length = 1) : One1 l := by
  obtain ⟨a, rfl⟩ := List.length_eq_one_iff.mp h
  exact .mk a
inductive K23 : Int → Prop
  | two : K23 2
  | three : K23 3
theorem K23.of {x : Int} (h : x = 2 ∨ x = 3) : K23 x := by
  rcases h with rfl | rfl
  · exact .two
  · exact .three
theorem ints_name1 {G : Prop} {h₀ h : Heap} {L D : Addr} {a : Addr × Obj} {ut : List Value} {n : Nat} {rest : List (Addr × Obj)} {xs : List Int} (hi : IntsAre ut xs) (N : News h₀ L h (a :: (D, W.listOf ut.toArray n) :: rest))
    (k : ∀ ut2, IntsAre ut2 xs → News h₀ L h (a :: (D, W.listOf ut2.toArray n) :: rest) → G) : G := k _ hi N
theorem ints_name2 {G : Prop} {h₀ h : Heap} {L D : Addr} {a b : Addr × Obj} {ut : List Value} {n : Nat} {rest : List (Addr × Obj)} {xs : List Int} (hi : IntsAre ut xs) (N : News h₀ L h (a :: b :: (D, W.listOf ut.toArray n) :: rest))
    (k : ∀ ut2, IntsAre ut2 xs → News h₀ L h (a :: b :: (D, W.listOf ut2.toArray n) :: rest) → G) : G := k _ hi N
end Mine
end
section
open PySem PySem.W PyProof.Rows PySem.Spec PySem.Calls PyProof.Rows.LCg
set_option maxRecDepth 100000
namespace Mine
inductive LitI (h : Heap) (l : Addr) (xs : List Int) : Prop
  | mk (zs : List Value) (c1 : h.IsList l zs.toArray) (c2 : IntsAre zs xs)
theorem lit1 {h₀ h : Heap} {L l : Addr} {a : Tok} {news : List (Addr × Obj)} (N : News h₀ L h ((l, W.listOf #[.int 0 a] 0) :: news)) : LitI h l [0] :=
  ⟨[.int 0 a], isList_of N (.head _), .cons _ _ .nil⟩
theorem post_le : ∀ (r : Re), r.ok → ∀ n ∈ r.post, n ≤ 258
  | .w m, h, n, hn => by
    rw [Re.post_w, List.mem_singleton] at hn
    have h2 : 1 ≤ m ∧ m ≤ 40 := h
    (with_reducible exact Ln.o531 ‹_› ‹_›)
  | .cat a b, h, n, hn => by
    have h2 : a.ok ∧ b.ok := h
    rw [Re.post_c] at hn
    rcases List.mem_append.mp hn with hn | hn
    · rcases List.mem_append.mp hn with hn | hn
      · exact post_le a h2.1 n hn
      · exact post_le b h2.2 n hn
    · rw [List.mem_singleton] at hn; (with_reducible exact Ln.o529 ‹_›)
  | .alt a b, h, n, hn => by
    have h2 : a.ok ∧ b.ok := h
    rw [Re.post_a] at hn
    rcases List.mem_append.mp hn with hn | hn
    · rcases List.mem_append.mp hn with hn | hn
      · exact post_le a h2.1 n hn
      · exact post_le b h2.2 n hn
    · rw [List.mem_singleton] at hn; (with_reducible exact Ln.o530 ‹_›)
  | .star a, h, n, hn => by
    have h2 : a.ok := h
    rw [Re.post_s] at hn
    rcases List.mem_append.mp hn with hn | hn
    · exact post_le a h2 n hn
    · rw [List.mem_singleton] at hn; (with_reducible exact Ln.o532 ‹_›)
theorem NewsUpS {h₀ h h' : Heap} {L L' : Addr} {m m' : Str → Option Value} {news news' : List (Addr × Obj)} (F : Fr h₀ L h m) (N : News h₀ L h news) (F' : Fr h L' h' m') (N' : News h L' h' news') : News h₀ L h' (news' ++ news) := fun p hp => by
  rcases List.mem_append.mp hp with hp | hp
  · exact NewsUp1 F N F' N' (l := p.1) (o := p.2) hp p (.head _)
  · exact NewsUp N F' p hp
inductive OneP (news : List (Addr × Obj)) (e : Bool) (f l : Nat) : List Value → Prop
  | mk (T : Addr) (t u : Tok) (n : Nat) (c1 : (T, tupObj e f l t u n) ∈ news) : OneP news e f l [.ref T]
theorem PileAt.one {news : List (Addr × Obj)} {e : Bool} {f l : Nat} {ys : List Value} (h : PileAt news ys [(e, f, l)]) : OneP news e f l ys := by
  cases h with
  | cons a b => cases b; exact ⟨_, _, _, _, a⟩
inductive OneT (news : List (Addr × Obj)) (r : Re) : List Value → Prop
  | mk (D : Addr) (vs : List Value) (c : Nat) (R : List Str) (c1 : (D, W.listOf vs.toArray c) ∈ news) (c2 : StrsAre vs R) (c3 : LangOK r R) : OneT news r [.ref D]
theorem TextsAt.one {news : List (Addr × Obj)} {r : Re} {ys : List Value} (h : TextsAt news ys [r]) : OneT news r ys := by
  cases h with
  | cons a b d e => cases e; exact ⟨_, _, _, _, a, b, d⟩
end Mine
end
section
open PySem PySem.W PyProof.Rows PySem.Spec PySem.Calls PyProof.Rows.LCg
set_option maxRecDepth 100000
namespace Mine
/-- how many of the eight places a flag has -/
noncomputable def cnt (f : Nat) : Nat := (bitsOf f).length
theorem cnt_le_of {f g : Nat} (h : ∀ p, f.testBit p = true → g.testBit p = true) : cnt f ≤ cnt g := by
  unfold cnt bitsOf
  rw [← List.countP_eq_length_filter, ← List.countP_eq_length_filter]
  exact List.countP_mono_left fun p _ hp => h p hp
theorem filter_or {α : Type} (p q : α → Bool) : ∀ l : List α, (l.filter fun x => p x || q x).length ≤ (l.filter p).length + (l.filter q).length
  | [] => Nat.zero_le _
  | a :: r => by
    have := filter_or p q r
    simp only [List.filter_cons]
    cases p a <;> cases q a <;> simp <;> (first | with_reducible exact Ln.o130 ‹_› | with_reducible exact Ln.o152 ‹_› | with_reducible exact Ln.o539 ‹_› | omega)
theorem cnt_or (f g : Nat) : cnt (f ||| g) ≤ cnt f + cnt g := by
  unfold cnt bitsOf
  rw [show (f ||| g).testBit = fun p => f.testBit p || g.testBit p from funext fun p => Nat.testBit_or f g p]
  exact filter_or _ _ _
theorem cnt_one (k : Nat) : cnt (1 <<< k) ≤ 1 := by
  unfold cnt
  have : ∀ l : List Nat, l.Nodup → (l.filter fun p => (1 <<< k).testBit p).length ≤ 1 := by
    intro l hl
    have h1 : ∀ p ∈ l.filter (fun p => (1 <<< k).testBit p), p ∈ [k] := fun p hp => by
      have := (List.mem_filter.mp hp).2
      rw [bit1.mp this]; exact .head _
    exact len_nodup (hl.filter _) h1
  exact this _ List.nodup_range
namespace Re
/-- where words start, where they end -/
noncomputable def st : Re → Nat → Nat
  | .w _, o => 1 <<< o
  | .cat a b, o => a.st o ||| b.st (o + a.len)
  | .alt a b, o => a.st o ||| b.st (o + a.len)
  | .star a, o => a.st o
noncomputable def en : Re → Nat → Nat
  | .w n, o => 1 <<< (o + (ltr n).length - 1)
  | .cat a b, o => a.en o ||| b.en (o + a.len)
  | .alt a b, o => a.en o ||| b.en (o + a.len)
  | .star a, o => a.en o
theorem st_c (a b : Re) (o : Nat) : (Re.cat a b).st o = a.st o ||| b.st (o + a.len) := rfl
theorem st_a (a b : Re) (o : Nat) : (Re.alt a b).st o = a.st o ||| b.st (o + a.len) := rfl
theorem st_s (a : Re) (o : Nat) : (Re.star a).st o = a.st o := rfl
theorem en_w (n o : Nat) : (Re.w n).en o = 1 <<< (o + (ltr n).length - 1) := rfl
theorem en_c (a b : Re) (o : Nat) : (Re.cat a b).en o = a.en o ||| b.en (o + a.len) := rfl
theorem en_a (a b : Re) (o : Nat) : (Re.alt a b).en o = a.en o ||| b.en (o + a.len) := rfl
theorem en_s (a : Re) (o : Nat) : (Re.star a).en o = a.en o := rfl
end Re
theorem or_bit {f g p : Nat} : (f ||| g).testBit p = true ↔ f.testBit p = true ∨ g.testBit p = true := by rw [Nat.testBit_or, Bool.or_eq_true]
theorem ite_bit {b : Bool} {f p : Nat} (h : (if b = true then f else 0).testBit p = true) : f.testBit p = true := by
  cases b with
  | true => exact h
  | false => simp at h
theorem fst_st : ∀ (r : Re) (o p : Nat), (r.fst o).testBit p = true → (r.st o).testBit p = true
  | .w _, _, _, h => h
  | .cat a b, o, p, h => by
    rw [Re.fst_c] at h
    rw [Re.st_c]
    rcases or_bit.mp h with h | h
    · exact or_bit.mpr (.inl (fst_st a o p h))
    · exact or_bit.mpr (.inr (fst_st b _ p (ite_bit h)))
  | .alt a b, o, p, h => by
    rw [Re.fst_a] at h
    rw [Re.st_a]
    rcases or_bit.mp h with h | h
    · exact or_bit.mpr (.inl (fst_st a o p h))
    · exact or_bit.mpr (.inr (fst_st b _ p h))
  | .star a, o, p, h => fst_st a o p h
theorem lst_en : ∀ (r : Re) (o p : Nat), (r.lst o).testBit p = true → (r.en o).testBit p = true
  | .w _, _, _, h => h
  | .cat a b, o, p, h => by
    rw [Re.lst_c] at h
    rw [Re.en_c]
    rcases or_bit.mp h with h | h
    · exact or_bit.mpr (.inr (lst_en b _ p h))
    · exact or_bit.mpr (.inl (lst_en a o p (ite_bit h)))
  | .alt a b, o, p, h => by
    rw [Re.lst_a] at h
    rw [Re.en_a]
    rcases or_bit.mp h with h | h
    · exact or_bit.mpr (.inl (lst_en a o p h))
    · exact or_bit.mpr (.inr (lst_en b _ p h))
  | .star a, o, p, h => lst_en a o p h
theorem cnt_st : ∀ (r : Re) (o : Nat), cnt (r.st o) ≤ r.nw
  | .w _, o => cnt_one o
  | .cat a b, o => by
    have h1 := cnt_st a o
    have h2 := cnt_st b (o + a.len)
    rw [Re.st_c, Re.nw_c]
    exact Nat.le_trans (cnt_or _ _) (by (with_reducible exact Ln.o506 ‹_› ‹_›))
  | .alt a b, o => by
    have h1 := cnt_st a o
    have h2 := cnt_st b (o + a.len)
    rw [Re.st_a, Re.nw_a]
    exact Nat.le_trans (cnt_or _ _) (by (with_reducible exact Ln.o506 ‹_› ‹_›))
  | .star a, o => cnt_st a o
theorem cnt_en : ∀ (r : Re) (o : Nat), cnt (r.en o) ≤ r.nw
  | .w _, o => cnt_one _
  | .cat a b, o => by
    have h1 := cnt_en a o
    have h2 := cnt_en b (o + a.len)
    rw [Re.en_c, Re.nw_c]
    exact Nat.le_trans (cnt_or _ _) (by (with_reducible exact Ln.o506 ‹_› ‹_›))
  | .alt a b, o => by
    have h1 := cnt_en a o
    have h2 := cnt_en b (o + a.len)
    rw [Re.en_a, Re.nw_a]
    exact Nat.le_trans (cnt_or _ _) (by (with_reducible exact Ln.o506 ‹_› ‹_›))
  | .star a, o => cnt_en a o
theorem en_in : ∀ (r : Re) (o p : Nat), (r.en o).testBit p = true → o ≤ p ∧ p < o + r.len
  | .w n, o, p, h => by
    have h1 := bit1.mp h
    have := Re.len_pos (.w n)
    have : (ltr n).length = (Re.w n).len := rfl
    (with_reducible exact Ln.o477 ‹_› ‹_› ‹_›)
  | .cat a b, o, p, h => by
    rw [Re.en_c] at h
    rw [Re.len_cat]
    rcases or_bit.mp h with h | h
    · have := en_in a o p h; (with_reducible exact Ln.o476 ‹_›)
    · have := en_in b _ p h; (with_reducible exact Ln.o492 ‹_›)
  | .alt a b, o, p, h => by
    rw [Re.en_a] at h
    rw [Re.len_alt]
    rcases or_bit.mp h with h | h
    · have := en_in a o p h; (with_reducible exact Ln.o476 ‹_›)
    · have := en_in b _ p h; (with_reducible exact Ln.o492 ‹_›)
  | .star a, o, p, h => en_in a o p h
/-- an edge goes from a word's end to a word's start, or inside a word -/
theorem edge_kind : ∀ (r : Re) (o p q : Nat), Ed r o p q → ((r.en o).testBit p = true ∧ (r.st o).testBit q = true) ∨ ((r.en o).testBit p = false ∧ q = p + 1)
  | .w n, o, p, q, h => by
    obtain ⟨h1, rfl, rfl⟩ := Ed_w.mp h
    refine .inr ⟨?_, rfl⟩
    rw [Re.en_w, ltr_len, if_pos h1]
    cases e : (1 <<< (p + 2 - 1)).testBit p with
    | false => rfl
    | true => have := bit1.mp e; (with_reducible exact (Ln.o548 ‹_›).elim)
  | .cat a b, o, p, q, h => by
    have hp := h.lt
    rw [Re.en_c, Re.st_c]
    rcases Ed_cat.mp h with h | h | ⟨h1, h2⟩
    · have hlt := h.lt
      rcases edge_kind a o p q h with ⟨h1, h2⟩ | ⟨h1, h2⟩
      · exact .inl ⟨or_bit.mpr (.inl h1), or_bit.mpr (.inl h2)⟩
      · refine .inr ⟨?_, h2⟩
        rw [Nat.testBit_or, h1, Bool.false_or]
        cases e : (b.en (o + a.len)).testBit p with
        | false => rfl
        | true => have := en_in b _ p e; (with_reducible exact (Ln.o475 ‹_› ‹_›).elim)
    · have hge := h.1
      rcases edge_kind b _ p q h with ⟨h1, h2⟩ | ⟨h1, h2⟩
      · exact .inl ⟨or_bit.mpr (.inr h1), or_bit.mpr (.inr h2)⟩
      · refine .inr ⟨?_, h2⟩
        rw [Nat.testBit_or, h1, Bool.or_false]
        cases e : (a.en o).testBit p with
        | false => rfl
        | true => have := en_in a _ p e; (with_reducible exact (Ln.o484 ‹_› ‹_›).elim)
    · exact .inl ⟨or_bit.mpr (.inl (lst_en a o p h1)), or_bit.mpr (.inr (fst_st b _ q h2))⟩
  | .alt a b, o, p, q, h => by
    rw [Re.en_a, Re.st_a]
    rcases Ed_alt.mp h with h | h
    · have hlt := h.lt
      rcases edge_kind a o p q h with ⟨h1, h2⟩ | ⟨h1, h2⟩
      · exact .inl ⟨or_bit.mpr (.inl h1), or_bit.mpr (.inl h2)⟩
      · refine .inr ⟨?_, h2⟩
        rw [Nat.testBit_or, h1, Bool.false_or]
        cases e : (b.en (o + a.len)).testBit p with
        | false => rfl
        | true => have := en_in b _ p e; (with_reducible exact (Ln.o475 ‹_› ‹_›).elim)
    · have hge := h.1
      rcases edge_kind b _ p q h with ⟨h1, h2⟩ | ⟨h1, h2⟩
      · exact .inl ⟨or_bit.mpr (.inr h1), or_bit.mpr (.inr h2)⟩
      · refine .inr ⟨?_, h2⟩
        rw [Nat.testBit_or, h1, Bool.or_false]
        cases e : (a.en o).testBit p with
        | false => rfl
        | true => have := en_in a _ p e; (with_reducible exact (Ln.o484 ‹_› ‹_›).elim)
  | .star a, o, p, q, h => by
    rw [Re.en_s, Re.st_s]
    rcases Ed_star.mp h with h | ⟨h1, h2⟩
    · exact edge_kind a o p q h
    · exact .inl ⟨lst_en a o p h1, fst_st a o q h2⟩
/-- each follower's flag has at most four places -/
theorem fol_cnt (r : Re) (o i : Nat) : cnt ((r.fol o).getD i 0) ≤ max 1 r.nw := by
  cases e : (r.en o).testBit (o + i) with
  | true =>
    refine Nat.le_trans (cnt_le_of (g := r.st o) fun q hq => ?_) (Nat.le_trans (cnt_st r o) (Nat.le_max_right _ _))
    rcases edge_kind r o (o + i) q ⟨Nat.le_add_right _ _, by rw [Nat.add_sub_cancel_left]; exact hq⟩ with h | h
    · exact h.2
    · rw [e] at h; exact absurd h.1 (by decide)
  | false =>
    refine Nat.le_trans (cnt_le_of (g := 1 <<< (o + i + 1)) fun q hq => ?_) (Nat.le_trans (cnt_one _) (Nat.le_max_left _ _))
    rcases edge_kind r o (o + i) q ⟨Nat.le_add_right _ _, by rw [Nat.add_sub_cancel_left]; exact hq⟩ with h | h
    · rw [e] at h; exact absurd h.1 (by decide)
    · exact bit1.mpr h.2
theorem len_le_nw : ∀ r : Re, r.len ≤ 2 * r.nw
  | .w n => by rw [Re.len_w, Re.nw_w]; split <;> (first | with_reducible exact Ln.o545 | with_reducible exact Ln.o554)
  | .cat a b => by have := len_le_nw a; have := len_le_nw b; rw [Re.len_cat, Re.nw_c]; (with_reducible exact Ln.o555 ‹_› ‹_›)
  | .alt a b => by have := len_le_nw a; have := len_le_nw b; rw [Re.len_alt, Re.nw_a]; (with_reducible exact Ln.o555 ‹_› ‹_›)
  | .star a => by have := len_le_nw a; rw [Re.len_star, Re.nw_s]; omega
theorem le255 {f : Nat} (h : ∀ p, f.testBit p = true → p < 8) : f ≤ 255 := by
  have : f < 2 ^ 8 := Nat.lt_pow_two_of_testBit f fun i hi => by
    cases e : f.testBit i with
    | false => rfl
    | true => exact absurd (h i e) (by (with_reducible exact Ln.o542 ‹_›))
  (with_reducible exact Ln.o556 ‹_›)
theorem nmsTo_len (f : Nat) : ∀ n, n ≤ 8 → (nmsTo f n).length = ((List.range n).filter f.testBit).length
  | 0, _ => rfl
  | n + 1, h => by
    rw [show nmsTo f (n + 1) = nmsTo f n ++ (if f.testBit n then [nms.getD n Str.empty] else []) from rfl, List.length_append, nmsTo_len f n (by (with_reducible exact Ln.o540 ‹_›)), List.range_succ, List.filter_append, List.length_append]
    congr 1
    cases e : f.testBit n with
    | true => simp [e]
    | false => simp [e]
theorem nms_cnt (f : Nat) : (nmsTo f 8).length = cnt f := nmsTo_len f 8 (Nat.le_refl _)
theorem getD_set {fs : List Nat} {p i v : Nat} : (fs.set p v).getD i 0 = if i = p ∧ i < fs.length then v else fs.getD i 0 := by
  simp only [List.getD_eq_getElem?_getD, List.getElem?_set]
  by_cases h : p = i
  · subst h
    by_cases h2 : p < fs.length
    · simp [h2]
    · simp [h2]
  · have h' : ¬ i = p := fun e => h e.symm
    simp [h, h']
theorem orList_get : ∀ (ps fs : List Nat) (f i : Nat), ps.Nodup → (orList fs ps f).getD i 0 = if i ∈ ps ∧ i < fs.length then fs.getD i 0 ||| f else fs.getD i 0
  | [], fs, f, i, _ => by simp [orList]
  | p :: r, fs, f, i, h => by
    have hn := List.nodup_cons.mp h
    show (orList (fs.set p (fs.getD p 0 ||| f)) r f).getD i 0 = _
    rw [orList_get r _ f i hn.2, List.length_set, getD_set]
    by_cases hip : i = p
    · subst hip
      simp [hn.1]
    · simp [hip]
theorem orAt_get : ∀ (fs : List Nat) (o m d i : Nat), (orAt fs o m d).getD i 0 = if m.testBit (o + i) = true ∧ i < fs.length then fs.getD i 0 ||| d else fs.getD i 0
  | [], _, _, _, i => by simp [orAt_n]
  | x :: r, o, m, d, 0 => by
    simp [orAt_c]
  | x :: r, o, m, d, i + 1 => by
    simp only [orAt_c, List.getD_cons_succ, List.length_cons]
    rw [orAt_get r (o + 1) m d i, show o + 1 + i = o + (i + 1) by (with_reducible exact Ln.o177)]
    simp
theorem eq_of_getD {l l' : List Nat} (h1 : l.length = l'.length) (h : ∀ i, i < l.length → l.getD i 0 = l'.getD i 0) : l = l' := by
  refine List.ext_getElem h1 fun i h2 h3 => ?_
  have := h i h2
  rwa [List.getD_eq_getElem?_getD, List.getD_eq_getElem?_getD, getElem?_pos l i h2, getElem?_pos l' i h3] at this
theorem bitsOf_mem {l p : Nat} : p ∈ bitsOf l ↔ p < 8 ∧ l.testBit p = true := by
  unfold bitsOf; rw [List.mem_filter, List.mem_range]
theorem orList_eq {fs : List Nat} {l f : Nat} (h : fs.length ≤ 8) : orList fs (bitsOf l) f = orAt fs 0 l f := by
  refine eq_of_getD (by rw [orList_length, orAt_length]) fun i hi => ?_
  rw [orList_length] at hi
  rw [orList_get (bitsOf l) fs f i (show (bitsOf l).Nodup from List.nodup_range.filter _), orAt_get, Nat.zero_add]
  simp only [bitsOf_mem]
  by_cases hb : l.testBit i = true
  · rw [if_pos ⟨⟨by (with_reducible exact Ln.o534 ‹_› ‹_›), hb⟩, hi⟩, if_pos ⟨hb, hi⟩]
  · rw [if_neg (fun x => hb x.1.2), if_neg (fun x => hb x.1)]
inductive Run : List Nat → MS → MS → Prop
  | nil {a : MS} : Run [] a a
  | cons {t : Nat} {ts : List Nat} {a b c : MS} : MTurn t a b → Run ts b c → Run (t :: ts) a c
theorem Run.app {ts us : List Nat} {a b c : MS} (h : Run ts a b) (h' : Run us b c) : Run (ts ++ us) a c := by
  induction h with
  | nil => exact h'
  | cons h1 _ ih => exact .cons h1 (ih h')
theorem Run.fn {ts : List Nat} {a b : MS} (h : Run ts a b) : ∃ M : Nat → MS, M 0 = a ∧ (∀ i t, ts[i]? = some t → MTurn t (M i) (M (i + 1))) ∧ M ts.length = b := by
  induction h with
  | @nil a => exact ⟨fun _ => a, rfl, fun i t h => by simp at h, rfl⟩
  | @cons t ts a b c h1 _ ih =>
    obtain ⟨M, m1, m2, m3⟩ := ih
    refine ⟨fun i => match i with | 0 => a | i + 1 => M i, rfl, fun i u hu => ?_, m3⟩
    cases i with
    | zero =>
      simp at hu
      subst hu
      show MTurn t a (M 0)
      rw [m1]; exact h1
    | succ i => exact m2 i u (by simpa using hu)
theorem ap_ltr : ∀ n : _root_.Fin 41, (apB n.val).toList.map (·.toNat) = ltr n.val ∧ (apB n.val).size = (ltr n.val).length := by decide +kernel
theorem ap_ltr' {n : Nat} (h : n ≤ 40) : (apB n).toList.map (·.toNat) = ltr n ∧ (apB n).size = (ltr n).length := ap_ltr ⟨n, by (with_reducible exact Ln.o380 ‹_›)⟩
theorem ahead_ok {r : Re} {o : Nat} {fs : List Nat} (hn : r.nw ≤ 4) (h8 : o + r.len ≤ 8) (hf : o + r.len ≤ fs.length) : AheadOk (r.lst o) fs := by
  refine ⟨le255 fun p hp => ?_, ?_, fun p hp => ?_⟩
  · have := r.lst_in o p hp; (with_reducible exact Ln.o550 ‹_› ‹_›)
  · rw [nms_cnt]
    exact Nat.le_trans (cnt_le_of (lst_en r o)) (Nat.le_trans (cnt_en r o) hn)
  · have := r.lst_in o p hp; (with_reducible exact Ln.o547 ‹_› ‹_›)
theorem orAt_pre {fs gs : List Nat} {m d : Nat} (h : ∀ p, m.testBit p = true → fs.length ≤ p) : orAt (fs ++ gs) 0 m d = fs ++ orAt gs fs.length m d := by
  rw [orAt_append, Nat.zero_add]
  congr 1
  exact orAt_none fs 0 m d fun p hp hh => by have := h p hp; (with_reducible exact (Ln.o537 ‹_› ‹_›).elim)
theorem run_re : ∀ (r : Re) (ls fs : List Nat) (P : List (Bool × Nat × Nat)), r.ok → fs.length = ls.length → ls.length + r.len ≤ 8 → P.length + r.nw ≤ 8 → r.nw ≤ 4 →
    Run r.post ⟨ls, fs, P⟩ ⟨ls ++ r.ls, fs ++ r.fol ls.length, P ++ [(r.nul, r.fst ls.length, r.lst ls.length)]⟩
  | .w n, ls, fs, P, hok, hl, h8, hP, _ => by
    have hn : 1 ≤ n ∧ n ≤ 40 := hok
    have e := ap_ltr' hn.2
    have h := MTurn.word (t := n) (ls := ls) (fs := fs) (P := P) hn.1 hn.2 hl (by (with_reducible exact Ln.o535 ‹_›)) (by rw [Re.nw_w] at hP; (with_reducible exact Ln.o540 ‹_›))
    rw [e.1, e.2] at h
    exact .cons h .nil
  | .cat a b, ls, fs, P, hok, hl, h8, hP, h4 => by
    have hok : a.ok ∧ b.ok := hok
    rw [Re.len_cat] at h8
    rw [Re.nw_c] at hP h4
    have pa := a.nw_pos
    have pb := b.nw_pos
    have ra := run_re a ls fs P hok.1 hl (by (with_reducible exact Ln.o541 ‹_›)) (by (with_reducible exact Ln.o541 ‹_›)) (by (with_reducible exact Ln.o521 ‹_›))
    have rb := run_re b (ls ++ a.ls) (fs ++ a.fol ls.length) (P ++ [(a.nul, a.fst ls.length, a.lst ls.length)]) hok.2 (by rw [List.length_append, List.length_append, Re.fol_len, hl]; rfl)
      (by rw [List.length_append]; show ls.length + a.len + b.len ≤ 8; (with_reducible exact Ln.o544 ‹_›)) (by rw [List.length_append]; simp only [List.length_cons, List.length_nil]; (with_reducible exact Ln.o549 ‹_› ‹_›)) (by (with_reducible exact Ln.o517 ‹_›))
    rw [show (ls ++ a.ls).length = ls.length + a.len from List.length_append] at rb
    rw [List.append_assoc P, List.append_assoc fs] at rb
    have hfl : (fs ++ (a.fol ls.length ++ b.fol (ls.length + a.len))).length = ls.length + a.len + b.len := by
      rw [List.length_append, List.length_append, Re.fol_len, Re.fol_len]; (with_reducible exact Ln.o551 ‹_›)
    have t := MTurn.cat (ls := ls ++ a.ls ++ b.ls) (fs := fs ++ (a.fol ls.length ++ b.fol (ls.length + a.len))) (P := P) (e := a.nul) (f := a.fst ls.length) (l := a.lst ls.length) (e' := b.nul) (f' := b.fst (ls.length + a.len)) (l' := b.lst (ls.length + a.len)) (by rw [hfl]; (with_reducible exact Ln.o544 ‹_›)) (by (with_reducible exact Ln.o535 ‹_›)) (ahead_ok (by (with_reducible exact Ln.o521 ‹_›)) (by (with_reducible exact Ln.o541 ‹_›)) (by rw [hfl]; (with_reducible exact Ln.o553)))
    rw [orList_eq (by rw [hfl]; (with_reducible exact Ln.o544 ‹_›)), orAt_pre (fun p hp => by have := a.lst_in _ p hp; (with_reducible exact Ln.o536 ‹_› ‹_›)), hl] at t
    have := (ra.app rb).app (.cons t .nil)
    rw [List.append_assoc ls] at this
    exact this
  | .alt a b, ls, fs, P, hok, hl, h8, hP, h4 => by
    have hok : a.ok ∧ b.ok := hok
    rw [Re.len_alt] at h8
    rw [Re.nw_a] at hP h4
    have pa := a.nw_pos
    have pb := b.nw_pos
    have ra := run_re a ls fs P hok.1 hl (by (with_reducible exact Ln.o541 ‹_›)) (by (with_reducible exact Ln.o541 ‹_›)) (by (with_reducible exact Ln.o521 ‹_›))
    have rb := run_re b (ls ++ a.ls) (fs ++ a.fol ls.length) (P ++ [(a.nul, a.fst ls.length, a.lst ls.length)]) hok.2 (by rw [List.length_append, List.length_append, Re.fol_len, hl]; rfl)
      (by rw [List.length_append]; show ls.length + a.len + b.len ≤ 8; (with_reducible exact Ln.o544 ‹_›)) (by rw [List.length_append]; simp only [List.length_cons, List.length_nil]; (with_reducible exact Ln.o549 ‹_› ‹_›)) (by (with_reducible exact Ln.o517 ‹_›))
    rw [show (ls ++ a.ls).length = ls.length + a.len from List.length_append] at rb
    rw [List.append_assoc P, List.append_assoc fs] at rb
    have hfl : (fs ++ (a.fol ls.length ++ b.fol (ls.length + a.len))).length = ls.length + a.len + b.len := by
      rw [List.length_append, List.length_append, Re.fol_len, Re.fol_len]; (with_reducible exact Ln.o551 ‹_›)
    have t := MTurn.alt (ls := ls ++ a.ls ++ b.ls) (fs := fs ++ (a.fol ls.length ++ b.fol (ls.length + a.len))) (P := P) (e := a.nul) (f := a.fst ls.length) (l := a.lst ls.length) (e' := b.nul) (f' := b.fst (ls.length + a.len)) (l' := b.lst (ls.length + a.len)) (by rw [hfl]; (with_reducible exact Ln.o544 ‹_›)) (by (with_reducible exact Ln.o535 ‹_›))
    have := (ra.app rb).app (.cons t .nil)
    rw [List.append_assoc ls] at this
    exact this
  | .star a, ls, fs, P, hok, hl, h8, hP, h4 => by
    have hok : a.ok := hok
    rw [Re.len_star] at h8
    rw [Re.nw_s] at hP h4
    have pa := a.nw_pos
    have ra := run_re a ls fs P hok hl (by omega) (by omega) (by omega)
    have hfl : (fs ++ a.fol ls.length).length = ls.length + a.len := by rw [List.length_append, Re.fol_len]; (with_reducible exact Ln.o533 ‹_›)
    have t := MTurn.star (ls := ls ++ a.ls) (fs := fs ++ a.fol ls.length) (P := P) (e := a.nul) (f := a.fst ls.length) (l := a.lst ls.length) (by rw [hfl]; omega) (by (with_reducible exact Ln.o535 ‹_›)) (ahead_ok (by omega) (by omega) (by rw [hfl]; (with_reducible exact Ln.o546)))
    rw [orList_eq (by rw [hfl]; omega), orAt_pre (fun p hp => by have := a.lst_in _ p hp; (with_reducible exact Ln.o536 ‹_› ‹_›)), hl] at t
    exact ra.app (.cons t .nil)
theorem mach (r : Re) (hok : r.ok) (hn : r.nw ≤ 4) : ∃ M : Nat → MS, M 0 = ⟨[], [], []⟩ ∧ (∀ i t, r.post[i]? = some t → MTurn t (M i) (M (i + 1))) ∧ M r.post.length = ⟨r.ls, r.fol 0, [(r.nul, r.fst 0, r.lst 0)]⟩ := by
  have hl := len_le_nw r
  have h := run_re r [] [] [] hok rfl (by simp; (with_reducible exact Ln.o552 ‹_› ‹_›)) (by simp; (with_reducible exact Ln.o543 ‹_›)) hn
  exact h.fn
end Mine
end
section
open PySem PySem.W PyProof.Rows PySem.Spec PySem.Calls PyProof.Rows.LCg
set_option maxRecDepth 100000
namespace Mine
/-! two sorted lists of the same texts are one -/
noncomputable def leS (a b : Str) : Prop := tl a ≤ tl b
theorem leS_of {a b : Str} (h : (!ltCps b.cps.toList a.cps.toList) = true) : leS a b := by
  rw [ltCps_eq] at h
  have : ¬ (tl b < tl a) := fun hlt => by
    rw [decide_eq_true (show b.cps.toList < a.cps.toList from hlt)] at h
    exact absurd h (by decide)
  exact List.not_lt.mp this
theorem rising_le : ∀ (l : List Str) (p : Str), risingS p l = true → (∀ x ∈ l, leS p x) ∧ l.Pairwise leS
  | [], _, _ => ⟨List.forall_mem_nil _, .nil⟩
  | x :: r, p, h => by
    rw [risingS, Bool.and_eq_true] at h
    have h1 := leS_of h.1
    have ih := rising_le r x h.2
    refine ⟨fun y hy => ?_, List.pairwise_cons.mpr ⟨ih.1, ih.2⟩⟩
    rcases List.mem_cons.mp hy with rfl | hy
    · exact h1
    · exact List.le_trans h1 (ih.1 y hy)
theorem sorted_pw {l : List Str} (h : sortedS l = true) : l.Pairwise leS := by
  cases l with
  | nil => exact .nil
  | cons x r =>
    have := rising_le r x h
    exact List.pairwise_cons.mpr ⟨this.1, this.2⟩
theorem pw_eq : ∀ {A B : List Str}, A.Pairwise leS → B.Pairwise leS → A.Nodup → B.Nodup → (∀ k, k ∈ A ↔ k ∈ B) → A = B
  | [], [], _, _, _, _, _ => rfl
  | [], b :: B, _, _, _, _, h => by have := (h b).mpr (.head _); cases this
  | a :: A, [], _, _, _, _, h => by have := (h a).mp (.head _); cases this
  | a :: A, b :: B, pa, pb, na, nb, h => by
    have pa' := List.pairwise_cons.mp pa
    have pb' := List.pairwise_cons.mp pb
    have na' := List.nodup_cons.mp na
    have nb' := List.nodup_cons.mp nb
    have hab : a = b := by
      have h1 : leS a b := by
        rcases List.mem_cons.mp ((h b).mpr (.head _)) with e | hm
        · rw [e]; exact List.le_refl _
        · exact pa'.1 b hm
      have h2 : leS b a := by
        rcases List.mem_cons.mp ((h a).mp (.head _)) with e | hm
        · rw [e]; exact List.le_refl _
        · exact pb'.1 a hm
      exact tl_inj (List.le_antisymm h1 h2)
    subst hab
    congr 1
    refine pw_eq pa'.2 pb'.2 na'.2 nb'.2 fun k => ⟨fun hk => ?_, fun hk => ?_⟩
    · rcases List.mem_cons.mp ((h k).mp (.tail _ hk)) with e | hm
      · subst e; exact absurd hk na'.1
      · exact hm
    · rcases List.mem_cons.mp ((h k).mpr (.tail _ hk)) with e | hm
      · subst e; exact absurd hk nb'.1
      · exact hm
theorem sorted_eq {A B : List Str} (h1 : sortedS A = true) (h2 : sortedS B = true) (n1 : A.Nodup) (n2 : B.Nodup) (h : ∀ k, k ∈ A ↔ k ∈ B) : A = B := pw_eq (sorted_pw h1) (sorted_pw h2) n1 n2 h

/-! what the machine takes is the language -/
theorem placesL_mem {f : Nat} {k : Int} : k ∈ placesL f ↔ ∃ p : Nat, k = (p : Int) ∧ f.testBit p = true ∧ p < 8 := by
  constructor
  · exact fun h => by cases placesL_nat h with | mk p a b => exact ⟨p, rfl, a, b⟩
  · rintro ⟨p, rfl, h, h8⟩
    rw [placesL_bits]
    exact List.mem_map.mpr ⟨p, bitsOf_mem.mpr ⟨h8, h⟩, rfl⟩
theorem placesL_cnt (f : Nat) : (placesL f).length = cnt f := by rw [placesL_bits, List.length_map]; rfl
theorem Pt.len {R : Nat → Nat → Prop} {L : Nat → Nat} {p q : Nat} {k : List Nat} (H : Pt R L p q k) : 1 ≤ k.length := by
  cases H <;> simp
theorem fol_bits {r : Re} {p q : Nat} (h : ((r.fol 0).getD p 0).testBit q = true) : Ed r 0 p q := ⟨Nat.zero_le _, by rw [Nat.sub_zero]; exact h⟩
theorem rows_mem (r : Re) (h8 : r.len ≤ 8) : ∀ (i : Nat) (x : Str) (z : Int), (x, z) ∈ rowsK r.ls (r.fol 0) (r.fst 0) i ↔ ∃ p q : Nat, z = (q : Int) ∧ (r.fst 0).testBit p = true ∧ Pt (Ed r 0) (fun i => r.ls.getD i 0) p q (tl x) ∧ x.length = i + 1
  | 0, x, z => by
    rw [rowsK, rows0, List.mem_map]
    constructor
    · rintro ⟨k, hk, e⟩
      obtain ⟨p, rfl, hp, _⟩ := placesL_mem.mp hk
      cases e
      exact ⟨p, p, rfl, hp, .one, rfl⟩
    · rintro ⟨p, q, rfl, hp, H, hl⟩
      have hl : (tl x).length = 1 := hl
      generalize hk : tl x = k at H hl
      cases H with
      | one =>
        have := r.fst_in 0 p hp
        refine ⟨(p : Int), placesL_mem.mpr ⟨p, rfl, hp, by (with_reducible exact Ln.o559 ‹_› ‹_›)⟩, ?_⟩
        rw [show x = mkS [r.ls.getD p 0] from tl_inj (by rw [tl_mkS]; exact hk)]
        rfl
      | snoc H2 _ =>
        have := H2.len
        rw [List.length_append, List.length_singleton] at hl
        (with_reducible exact (Ln.o567 ‹_› ‹_›).elim)
  | i + 1, x, z => by
    rw [rowsK, List.mem_flatMap]
    constructor
    · rintro ⟨⟨x', z'⟩, hx', hm⟩
      obtain ⟨p, q', rfl, hp, H, hl⟩ := (rows_mem r h8 i x' z').mp hx'
      obtain ⟨k, hk, e⟩ := List.mem_map.mp hm
      obtain ⟨q, rfl, hq, _⟩ := placesL_mem.mp hk
      cases e
      refine ⟨p, q, rfl, hp, ?_, ?_⟩
      · rw [tl_append]
        exact H.snoc (fol_bits hq)
      · rw [Str.length_append, hl]; rfl
    · rintro ⟨p, q, rfl, hp, H, hl⟩
      have hl : (tl x).length = i + 1 + 1 := hl
      generalize hk : tl x = k at H hl
      cases H with
      | one => simp at hl
      | @snoc q' _ k' H2 hr =>
        have hl' : k'.length = i + 1 := by rw [List.length_append] at hl; simpa using hl
        have hin := Ed_in r 0 q' q hr
        refine ⟨(mkS k', (q' : Int)), (rows_mem r h8 i _ _).mpr ⟨p, q', rfl, hp, by rw [tl_mkS]; exact H2, by rw [← tl_length, tl_mkS]; exact hl'⟩, List.mem_map.mpr ⟨(q : Int), placesL_mem.mpr ⟨q, rfl, ?_, by (with_reducible exact Ln.o559 ‹_› ‹_›)⟩, ?_⟩⟩
        · have := hr.2
          rw [Nat.sub_zero] at this
          exact this
        · rw [show x = mkS k' ++ mkS [r.ls.getD q 0] from tl_inj (by rw [tl_append, tl_mkS, tl_mkS]; exact hk)]
          rfl
theorem taken_mem (ls fs : List Nat) (e : Bool) (f1 f2 : Nat) (k : Str) : ∀ i, k ∈ takenK ls fs e f1 f2 i ↔ (e = true ∧ k = Str.empty) ∨ ∃ j, j < i ∧ ∃ z, (k, z) ∈ rowsK ls fs f1 j ∧ z ∈ placesL f2
  | 0 => by
    rw [takenK]
    cases e <;> simp
  | i + 1 => by
    rw [takenK, List.mem_append, taken_mem ls fs e f1 f2 k i, List.mem_map]
    constructor
    · rintro ((h | ⟨j, hj, h⟩) | ⟨⟨x, z⟩, hm, rfl⟩)
      · exact .inl h
      · exact .inr ⟨j, by (with_reducible exact Ln.o116 ‹_›), h⟩
      · obtain ⟨h1, h2⟩ := List.mem_filter.mp hm
        exact .inr ⟨i, by (with_reducible exact Ln.o119), z, h1, List.contains_iff_mem.mp h2⟩
    · rintro (h | ⟨j, hj, z, h1, h2⟩)
      · exact .inl (.inl h)
      · rcases Nat.lt_or_ge j i with hlt | hge
        · exact .inl (.inr ⟨j, hlt, z, h1, h2⟩)
        · have : j = i := by (with_reducible exact Ln.o562 ‹_› ‹_›)
          subst this
          exact .inr ⟨(k, z), List.mem_filter.mpr ⟨h1, List.contains_iff_mem.mpr h2⟩, rfl⟩
theorem taken_lang (r : Re) (_hok : r.ok) (hn : r.nw ≤ 4) (k : Str) : k ∈ takenK r.ls (r.fol 0) r.nul (r.fst 0) (r.lst 0) 4 ↔ Lang r (tl k) ∧ k.length ≤ 4 := by
  have h8 : r.len ≤ 8 := by have := len_le_nw r; (with_reducible exact Ln.o552 ‹_› ‹_›)
  rw [taken_mem, ← glu r 0 (fun i => r.ls.getD i 0) (fun i n h => by rw [Nat.zero_add, List.getD_eq_getElem?_getD, h]; rfl)]
  constructor
  · rintro (⟨h, rfl⟩ | ⟨j, hj, z, h1, h2⟩)
    · exact ⟨.inl ⟨h, rfl⟩, by decide⟩
    · obtain ⟨p, q, rfl, hp, H, hl⟩ := (rows_mem r h8 j k z).mp h1
      obtain ⟨q', e, hq, _⟩ := placesL_mem.mp h2
      have : q' = q := (Int.ofNat.inj e).symm
      subst this
      exact ⟨.inr ⟨p, _, hp, hq, H⟩, by (with_reducible exact Ln.o563 ‹_› ‹_›)⟩
  · rintro ⟨⟨h, e⟩ | ⟨p, q, hp, hq, H⟩, hl⟩
    · exact .inl ⟨h, tl_inj e⟩
    · have h1 := H.len
      rw [tl_length] at h1
      have := r.lst_in 0 q hq
      exact .inr ⟨k.length - 1, by (with_reducible exact Ln.o564 ‹_›), (q : Int), (rows_mem r h8 _ k _).mpr ⟨p, q, rfl, hp, H, by (with_reducible exact Ln.o560 ‹_›)⟩, placesL_mem.mpr ⟨q, rfl, hq, by (with_reducible exact Ln.o559 ‹_› ‹_›)⟩⟩
theorem rows_len4 {ls fs : List Nat} {f1 : Nat} (h1 : cnt f1 ≤ 4) (hf : ∀ i, cnt (fs.getD i 0) ≤ 4) : ∀ i, (rowsK ls fs f1 i).length ≤ 4 ^ (i + 1)
  | 0 => by unfold rowsK rows0; rw [List.length_map, placesL_cnt]; exact h1
  | i + 1 => by
    rw [rowsK, Nat.pow_succ]
    exact Nat.le_trans (flat_len (b := 4) (fun a => by rw [List.length_map, placesL_cnt]; exact hf _) _) (Nat.mul_le_mul_right 4 (rows_len4 h1 hf i))
theorem taken_len4 {ls fs : List Nat} {e : Bool} {f1 f2 : Nat} (h1 : cnt f1 ≤ 4) (hf : ∀ i, cnt (fs.getD i 0) ≤ 4) : (takenK ls fs e f1 f2 4).length ≤ 341 := by
  have r0 := rows_len4 (ls := ls) h1 hf 0
  have r1 := rows_len4 (ls := ls) h1 hf 1
  have r2 := rows_len4 (ls := ls) h1 hf 2
  have r3 := rows_len4 (ls := ls) h1 hf 3
  have hfl : ∀ i, (((rowsK ls fs f1 i).filter fun rp => (placesL f2).contains rp.2).map (·.1)).length ≤ (rowsK ls fs f1 i).length := fun i => by
    rw [List.length_map]; exact List.length_filter_le _ _
  have s0 := hfl 0
  have s1 := hfl 1
  have s2 := hfl 2
  have s3 := hfl 3
  have t0 : (takenK ls fs e f1 f2 0).length ≤ 1 := by rw [takenK]; split <;> simp
  rw [takenK, takenK, takenK, takenK, List.length_append, List.length_append, List.length_append, List.length_append]
  omega
theorem ls_lt : ∀ (r : Re), r.ok → ∀ n ∈ r.ls, n < 128
  | .w m, h, n, hn => by
    have h2 : 1 ≤ m ∧ m ≤ 40 := h
    rw [Re.ls_w, ltr] at hn
    split at hn
    · simp at hn; (with_reducible exact Ln.o565 ‹_› ‹_›)
    · simp at hn; (with_reducible exact Ln.o566 ‹_› ‹_›)
  | .cat a b, h, n, hn => by
    have h2 : a.ok ∧ b.ok := h
    rcases List.mem_append.mp hn with hn | hn
    · exact ls_lt a h2.1 n hn
    · exact ls_lt b h2.2 n hn
  | .alt a b, h, n, hn => by
    have h2 : a.ok ∧ b.ok := h
    rcases List.mem_append.mp hn with hn | hn
    · exact ls_lt a h2.1 n hn
    · exact ls_lt b h2.2 n hn
  | .star a, h, n, hn => ls_lt a h n hn
theorem gl_facts (r : Re) (hok : r.ok) (hn : r.nw ≤ 4) : (∀ f ∈ r.fol 0, f ≤ 255 ∧ (nmsTo f 8).length ≤ 4) ∧ (r.fol 0).length ≤ 8 ∧ (∀ p, (r.fst 0).testBit p = true → p < r.ls.length) ∧ r.ls.length = (r.fol 0).length ∧ (∀ f ∈ r.fol 0, ∀ p, f.testBit p = true → p < (r.fol 0).length) ∧ (∀ n ∈ r.ls, n < 128) ∧
   (takenK r.ls (r.fol 0) r.nul (r.fst 0) (r.lst 0) 4).length + 1 < 4096 ∧ ((r.fst 0) ≤ 255 ∧ (nmsTo (r.fst 0) 8).length ≤ 4) ∧ ((r.lst 0) ≤ 255 ∧ (nmsTo (r.lst 0) 8).length ≤ 4) := by
  have h8 : r.len ≤ 8 := by have := len_le_nw r; (with_reducible exact Ln.o552 ‹_› ‹_›)
  have hmax : max 1 r.nw ≤ 4 := by (with_reducible exact Ln.o558 ‹_›)
  have hcf : ∀ i, cnt ((r.fol 0).getD i 0) ≤ 4 := fun i => Nat.le_trans (fol_cnt r 0 i) hmax
  have hgf : ∀ f ∈ r.fol 0, ∃ i, f = (r.fol 0).getD i 0 := fun f hf => by
    obtain ⟨i, hi, e⟩ := List.mem_iff_getElem.mp hf
    exact ⟨i, by rw [List.getD_eq_getElem?_getD, getElem?_pos _ i hi, e]; rfl⟩
  have hbits : ∀ f ∈ r.fol 0, ∀ p, f.testBit p = true → p < r.len := fun f hf p hp => by
    obtain ⟨i, rfl⟩ := hgf f hf
    have := Ed_in r 0 i p (fol_bits hp)
    (with_reducible exact Ln.o557 ‹_›)
  have hc1 : cnt (r.fst 0) ≤ 4 := Nat.le_trans (cnt_le_of (fst_st r 0)) (Nat.le_trans (cnt_st r 0) hn)
  have hc2 : cnt (r.lst 0) ≤ 4 := Nat.le_trans (cnt_le_of (lst_en r 0)) (Nat.le_trans (cnt_en r 0) hn)
  refine ⟨fun f hf => ⟨le255 fun p hp => by have := hbits f hf p hp; (with_reducible exact Ln.o534 ‹_› ‹_›), ?_⟩, by rw [Re.fol_len]; exact h8, fun p hp => ?_, by rw [Re.fol_len]; rfl, fun f hf p hp => by rw [Re.fol_len]; exact hbits f hf p hp, ls_lt r hok, ?_,
    ⟨le255 fun p hp => by have := r.fst_in 0 p hp; (with_reducible exact Ln.o559 ‹_› ‹_›), by rw [nms_cnt]; exact hc1⟩, ⟨le255 fun p hp => by have := r.lst_in 0 p hp; (with_reducible exact Ln.o559 ‹_› ‹_›), by rw [nms_cnt]; exact hc2⟩⟩
  · rw [nms_cnt]
    obtain ⟨i, rfl⟩ := hgf f hf
    exact hcf i
  · have := r.fst_in 0 p hp
    show p < r.len
    (with_reducible exact Ln.o557 ‹_›)
  · have := taken_len4 (ls := r.ls) (e := r.nul) (f2 := r.lst 0) hc1 hcf
    (with_reducible exact Ln.o561 ‹_›)
end Mine
end
section
open PySem PySem.W PyProof.Rows PySem.Spec PySem.Calls PyProof.Rows.LCg
set_option maxRecDepth 100000
namespace Mine
theorem lit6 {h₀ h : Heap} {L l : Addr} {a b c d e f : Tok} {news : List (Addr × Obj)} (N : News h₀ L h ((l, W.listOf #[.int 5 a, .int 85 b, .int 3 c, .int 4 d, .int 10 e, .int 2 f] 0) :: news)) : LitI h l [5, 85, 3, 4, 10, 2] :=
  ⟨[.int 5 a, .int 85 b, .int 3 c, .int 4 d, .int 10 e, .int 2 f], isList_of N (.head _), .cons _ _ (.cons _ _ (.cons _ _ (.cons _ _ (.cons _ _ (.cons _ _ .nil)))))⟩
section
local macro_rules
  | `(tactic| walk_at "call builtin:len") => `(tactic| (first | (refine' PyProof.Rows.len_list ?ln1 ?ln2 ?_; (case ln1 => exact isList_of (by k_asm) (by k_mem)); (case ln2 => omega)) | (refine StopHere.in ?_)))
  | `(tactic| walk_at $k) => if "exec For|exec For Name Call cons nil|exec For Name BinOp cons nil|compareOp Eq ref ref|subscriptTail Name Constant ref int|subscriptTail Name Constant|call ref|call builtin:list.pop|call builtin:list.append|subscriptTail Name Slice ref ref|subscriptTail List Slice ref ref|binaryOp Add ref ref".splitOn "|" |>.contains k.getString then `(tactic| (refine StopHere.in ?_)) else throw .unsupportedSyntax
set_option maxHeartbeats 8000000 in
theorem law_walk : PySem.Challenge.rw_wb0017_01.Holds := by
  w_on
  refine holds_law hd_said fun _ => ?_
  refine holds_open hd_left (Hook.of _) (Hook.keeps _) (fun s e => xl_of s (Bool.and_eq_true_iff.mp e).1) XL.keeps (by rfl) (by rfl) (by rfl) (fun s e => recFacts_of (Bool.and_eq_true_iff.mp e).2) (by rfl) (by decide +kernel) (by decide +kernel) ⟨rfl, rfl, rfl, rfl, rfl, by decide +kernel⟩ ?hw ?hc
  case hw => w_witness2
  w_strict (k_go0)
  rename World => w
  rename Fr _ _ _ _ => F0
  rename News _ _ _ _ => N0
  rename Below _ _ _ _ => B0
  rename Frag.In _ _ => X0
  rename Top _ _ _ _ _ _ => T0
  rename IntsAre _ _ => hI
  rename Heap.IsList _ _ _ => hL
  rename ¬ _ < _ => hcnd
  have B1 := StopHere.in B0
  clear B0
  w_strict (k_steps)
  rename Fr _ _ _ _ => F1
  rename News _ _ _ _ => N1
  rename_i Dt _ _ _ _ Dp _ qDp _ _
  have r1 : @Ne Nat Dt Dp := Nat.ne_of_lt qDp
  refine StopHere.out ?_
  refine wpAny_For ?_
  w_strict (k_steps)
  rename Fr _ _ _ _ => F1
  rename News _ _ _ _ => N1
  rename List Int => ns
  rename List Value => vs0
  have hnl := hI.length
  refine StopHere.out ?_
  refine' kmk_slice_ints (ms := ns.take 6) (vs := vs0) ?sF ?sN ?sl .none (.int 6 _) hI (kmk_upto hI (by decide)) rfl ?sQ ?ss ?st ?sz
  case sF => exact F1
  case sN => exact N1
  case sl => exact hL.at fun o e => F1.keep _ o e
  case ss => with_unfolding_all rfl
  case st => intro _; with_unfolding_all rfl
  case sz => rw [sizeLine_eq, List.size_toArray, hnl]; (with_reducible exact Ln.o591 ‹_›)
  intro D1 ws1 h1 F2 N2 l1 hI1 _ hle1
  have hlt1 : (ns.take 6).length ≤ 6 := by rw [List.length_take]; (with_reducible exact Ln.o574)
  clear F1 N1
  w_strict (k_steps)
  rename Fr _ _ _ _ => F3
  refine StopHere.out ?_
  refine' PyProof.Rows.len_list (items := vs0.toArray) ?tln1 ?tln2 ?tln3
  case tln1 => exact hL.at fun o e => F3.keep _ o e
  case tln2 => rw [List.size_toArray, hnl]; (with_reducible exact Ln.o590 ‹_›)
  rw [show vs0.toArray.size = ns.length by rw [List.size_toArray, hnl]]
  w_strict (k_steps)
  rename Fr _ _ _ _ => F3
  rename News _ _ _ _ => N3
  refine StopHere.out ?_
  obtain ⟨zs6, hz6, hI6⟩ := lit6 N3
  have hzl := hI6.length
  refine' kmk_slice_ints (ms := ([5, 85, 3, 4, 10, 2] : List Int).drop ns.length) (vs := zs6) (ns := [5, 85, 3, 4, 10, 2]) ?uF ?uN ?ul (.int (ns.length : Int) _) .none hI6 ?uK rfl ?uQ ?us ?ut ?uz
  case uF => exact F3
  case uN => exact N3
  case ul => exact hz6
  case uK => exact kmk_from hI6 (Int.natCast_nonneg _)
  case us => with_unfolding_all rfl
  case ut => intro _; with_unfolding_all rfl
  case uz => rw [sizeLine_eq, List.size_toArray, hzl]; decide
  intro D2 ws2 h2 F4 N4 l2 hI2 _ hle2
  clear F3 N3
  have hlt2 : (([5, 85, 3, 4, 10, 2] : List Int).drop ns.length).length ≤ 6 := by rw [List.length_drop]; simp
  w_strict (k_steps)
  rename Fr _ _ _ _ => F3
  rename News _ _ _ _ => N3
  refine StopHere.out ?_
  refine' kmk_add_lit (its := ws1.toArray) (its2 := ws2.toArray) (zs := ws1 ++ ws2) ?taF ?taN ?taA ?taB rfl ?taQ ?taz
  case taF => exact F3
  case taN => exact N3
  case taA => exact isList_of N3 (.tail _ (.tail _ (.head _)))
  case taB => exact isList_of N3 (.head _)
  case taz => have e1 := hI1.length; have e2 := hI2.length; rw [sizeLine_eq]; show ws1.length + ws2.length ≤ _; (with_reducible exact Ln.o615 ‹_› ‹_› ‹_› ‹_›)
  intro D3 h3 F5 N5 l3
  generalize hdrw : ns.take 6 ++ ([5, 85, 3, 4, 10, 2] : List Int).drop ns.length = draws
  have hI3 : IntsAre (ws1 ++ ws2) draws := hdrw ▸ hI1.append hI2
  have hdl : draws.length ≤ 12 := by rw [← hdrw, List.length_append]; (with_reducible exact Ln.o619 ‹_› ‹_›)
  have hdl1 : 1 ≤ draws.length := by rw [← hdrw, List.length_append, List.length_take, List.length_drop]; simp only [List.length_cons, List.length_nil]; (with_reducible exact Ln.o600)
  have d1 : @Ne Nat D3 Dt := Nat.ne_of_gt (l3 _ (.tail _ (.tail _ (.tail _ (.tail _ (.head _))))))
  have d2 : @Ne Nat D3 Dp := Nat.ne_of_gt (l3 _ (.tail _ (.tail _ (.tail _ (.head _)))))
  have N6 := News.sub (news' := (D3, W.listOf (ws1 ++ ws2).toArray 0) :: (Dt, W.listOf #[] 0) :: (Dp, W.listOf #[] 0) :: []) N5 (by walk_at "SUB")
  clear N5
  refine forK_listN rfl (fun i mm nw => LwJ Dt Dp D3 (ws1 ++ ws2).toArray i mm nw) [(D3, W.listOf (ws1 ++ ws2).toArray 0)] (isList_of N6 (.head _)) (.inr ⟨_, .head _⟩) ?_ F5 N6 (LwJ.of _ [] [] 0 0 [] [] _ (ovr_of (fa_cons rfl (fa_cons rfl (fa_cons rfl fa_nil))) (fun _ _ => rfl)) .nil .nil (by decide) fa_nil (Nat.le_refl _) (fun h => absurd h (Nat.lt_irrefl _)) fa_nil fa_nil fa_nil) ?_ ?_
  · rintro i mm nw ⟨mc, ut, up, ct, cp, tn, rs, tw, _⟩ p hp
    rw [List.mem_singleton.mp hp]; exact .head _
  · rintro R' I i v h tk dr mm nw oI hIs hi hv ⟨mc, ut, up, ct, cp, tn, rs, tw, hut, hup, hw4, hok, hlen, hne, t1, t2, t3⟩ hnI F2 N2
    obtain ⟨x, tx, hx⟩ := ints_item hI3 (i := i) (by simpa using hv)
    have hi12 : i < 12 := by have h9 := hI3.length; rw [List.size_toArray] at hi; (with_reducible exact Ln.o577 ‹_› ‹_› ‹_›)
    clear N6
    first | refine off3 hnI ?_ | refine ltt3 hnI ?_
    intro i1 i2 i3 i4
    have mk : StopMark := trivial
    w_strict (k_steps)
    refine StopHere.out ?_
    rename StopMark => mk2; clear mk2
    rename Fr _ _ _ _ => F3
    rename News _ _ _ _ => N3
    have hupl := hup.length
    have hrl := len_le_nws rs
    have hupz : up.toArray.size ≤ 4 := by rw [List.size_toArray, hupl]; (with_reducible exact Ln.o586 ‹_› ‹_›)
    have hkd := fmod5 x
    generalize hkx : x.fmod 5 = kd at F3 hkd
    refine test_if F3 N3 (decide (rs.length = 0 ∨ (kd < 4 ∧ (kd < 2 ∨ rs.length = 1) ∧ nws rs < 4))) ?_ ?_ ?_
    · w_strict (k_steps)
      rename Fr _ _ _ _ => F4
      rename News _ _ _ _ => N4
      have hdl0 : Heap.IsList _ Dp up.toArray := isList_of N4 (.tail _ (.tail _ (.tail _ (.tail _ (.head _)))))
      have hdl1 := isList_of N4 (.head _)
      refine StopHere.out ?_
      refine eq_nil hdl0 hdl1 (by show (4 + _ : Nat) < 9900; decide) ?_
      have hus : up.toArray.size = rs.length := by rw [List.size_toArray, hupl]
      generalize hc0 : decide (up.length = 0) = c0
      cases c0
      · have hc1 : ¬ up.length = 0 := of_decide_eq_false hc0
        w_strict (k_steps)
        all_goals try (refine StopHere.out ?_; refine' PyProof.Rows.len_list (items := up.toArray) ?ln1 ?ln2 ?ln3)
        case ln1 => exact hdl0
        case ln2 => (with_reducible exact Ln.o589 ‹_›)
        case ln3 =>
          w_strict (k_steps)
          all_goals exact TestQ.mk' (by first | (symm; rw [decide_eq_true_iff]; (with_reducible exact Ln.o620 ‹_› ‹_› ‹_› ‹_›)) | (symm; rw [decide_eq_false_iff_not]; (first | with_reducible exact Ln.o613 ‹_› ‹_› ‹_› | omega))) F4 N4 (fun p hp => .tail _ hp)
        all_goals exact TestQ.mk' (by first | (symm; rw [decide_eq_true_iff]; (with_reducible exact Ln.o601 ‹_› ‹_›)) | (symm; rw [decide_eq_false_iff_not]; omega)) F4 N4 (fun p hp => .tail _ hp)
      · have hc1 : up.length = 0 := of_decide_eq_true hc0
        w_strict (k_steps)
        all_goals exact TestQ.mk' (by first | (symm; rw [decide_eq_true_iff]; (with_reducible exact Ln.o621 ‹_› ‹_›)) | (symm; rw [decide_eq_false_iff_not]; omega)) F4 N4 (fun p hp => .tail _ hp)
    · intro hb h5 tk5 dr5 F4 N4
      clear F3 N3
      obtain ⟨n, hn, hn1, hn2⟩ := num40 x
      have hbp := of_decide_eq_true hb
      have hw3 : nws rs < 4 := by
        rcases hbp with h0 | h0
        · have : rs = [] := List.length_eq_zero_iff.mp h0
          subst this; decide
        · exact h0.2.2
      w_strict (k_steps)
      rename Fr _ _ _ _ => F6
      rename News _ _ _ _ => N6
      rw [hn]
      refine StopHere.out ?_
      refine' append_in (D := Dt) (ys := ut) (n := ct) (own := [(I, oI), (D3, W.listOf (ws1 ++ ws2).toArray 0)]) (rest := (Dp, W.listOf up.toArray cp) :: tn) ?aF ?aN ?aa ?ab ?aQ ?az
      case aF => exact F6
      case aN => exact N6
      case aa => exact fa_cons (Ne.symm i2) (fa_cons d1 fa_nil)
      case ab => exact fa_cons (Ne.symm r1) t1
      case az => have := hut.length; rw [List.length_map] at this; rw [sizeLine_eq]; (with_reducible exact Ln.o578 ‹_› ‹_› ‹_›)
      intro h6 F7 N7
      refine ints_name2 (xs := (((rs ++ [Re.w n]).flatMap Re.post).map Int.ofNat)) (by rw [List.flatMap_append, List.map_append]; exact ints_snoc hut) N7 ?_
      intro ut2 hut2 N7
      clear F6 N6
      w_strict (k_steps)
      rename Fr _ _ _ _ => F6
      rename News _ _ _ _ => N6
      rw [hn]
      refine StopHere.out ?_
      refine' wrd_spec w n _ hn1 hn2 _ _ _ _ _ _ _ _ _ ?wX ?wT ?wd ?wr
      case wX => exact X0.keeps F6.keep
      case wT => exact T0.keeps F6.keep
      case wd => show _ + 1 < recursionLimit; decide
      intro t8 h8 tk8 dr8 m8 F8
      have F9 := FrUp F6 F8
      have N9 := NewsUp N6 F8
      clear F6 N6
      w_strict (k_steps)
      rename Fr _ _ _ _ => F6
      rename News _ _ _ _ => N6
      rename_i D4 _ q4
      refine and5 q4 ?_
      intro z1 z2 z3 z4 zt
      refine StopHere.out ?_
      refine' append_in (D := Dp) (ys := up) (n := cp) (own := [(D4, W.listOf [Value.str (wordS n) t8].toArray 0), (I, oI), (D3, W.listOf (ws1 ++ ws2).toArray 0), (Dt, W.listOf ut2.toArray (ct + 1))]) (rest := tn) ?bF ?bN ?ba ?bb ?bQ ?bz
      case bF => exact F6
      case bN => exact N6
      case ba => exact fa_cons (Nat.ne_of_gt z4) (fa_cons (Ne.symm i3) (fa_cons d2 (fa_cons r1 fa_nil)))
      case bb => exact t2
      case bz => rw [sizeLine_eq]; (with_reducible exact Ln.o608 ‹_› ‹_› ‹_›)
      intro h9 Fa Na
      simp only [List.cons_append, List.nil_append] at Na
      clear F6 N6
      w_strict (k_steps)
      rename Fr _ _ _ _ => Fc
      rename News _ _ _ _ => Nc
      rw [show ((nws rs : Nat) : Int) + 1 = ((nws (rs ++ [Re.w n]) : Nat) : Int) by rw [nws_snoc]; rfl] at Fc
      refine ForPost.next (news' := (D3, W.listOf (ws1 ++ ws2).toArray 0) :: (Dt, W.listOf ut2.toArray (ct + 1)) :: (Dp, W.listOf (up ++ [Value.ref D4]).toArray (cp + 1)) :: (D4, W.listOf [Value.str (wordS n) t8].toArray 0) :: tn) Fc Nc (.tail _ (.head _)) (fun p hp => ?_) ?_ (LwJ.of _ _ _ _ _ ((D4, W.listOf [Value.str (wordS n) t8].toArray 0) :: tn) (rs ++ [Re.w n]) _ (ovr_of (fa_cons rfl (fa_cons rfl (fa_cons rfl fa_nil))) (fun _ _ => rfl)) ?_ ((hup.mono fun p hp => .tail _ hp).snoc (.head _) (.cons _ _ .nil) (word_ok n)) ?_ ?_ ?_ ?_ (fa_cons (Nat.ne_of_gt z3) t1) (fa_cons (Nat.ne_of_gt z4) t2) (fa_cons (Nat.ne_of_gt z2) t3))
      · revert p; walk_at "SUB"
      · exact fa_cons i1 (fa_cons i2 (fa_cons i3 (fa_cons (Nat.ne_of_gt z1) i4)))
      · exact hut2
      · rw [nws_snoc]; show nws rs + 1 ≤ 4; (with_reducible exact Ln.o617 ‹_›)
      · intro r hr
        rcases List.mem_append.mp hr with hr | hr
        · exact hok r hr
        · rw [List.mem_singleton.mp hr]; exact ⟨hn1, hn2⟩
      · rw [List.flatMap_append, List.length_append]; show _ + 1 ≤ i + 1; (with_reducible exact Ln.o581 ‹_›)
      · intro _ h; simp at h
    · intro hb h5 tk5 dr5 F4 N4
      clear F3 N3
      have hbn := of_decide_eq_false hb
      have hne0 : rs ≠ [] := fun e => hbn (.inl (by rw [e]; rfl))
      obtain ⟨rs0, r⟩ := Sn.of hne0
      have hus : up.toArray.size = (rs0 ++ [r]).length := by rw [List.size_toArray, hupl]
      have mk : StopMark := trivial
      w_strict (k_steps)
      refine StopHere.out ?_
      rename StopMark => mk2; clear mk2
      rename Fr _ _ _ _ => F6
      rename News _ _ _ _ => N6
      have hdl0 : Heap.IsList _ Dp up.toArray := isList_of N6 (.tail _ (.tail _ (.tail _ (.head _))))
      refine test_if F6 N6 (decide (kd = 4 ∨ (rs0 ++ [r]).length = 1 ∨ kd < 2)) ?_ ?_ ?_
      · w_strict (k_steps)
        all_goals try (refine StopHere.out ?_; refine' PyProof.Rows.len_list (items := up.toArray) ?ln1 ?ln2 ?ln3)
        case ln1 => exact hdl0
        case ln2 => (with_reducible exact Ln.o589 ‹_›)
        case ln3 =>
          w_strict (k_steps)
          all_goals exact TestQ.mk' (by first | (symm; rw [decide_eq_true_iff]; (first | with_reducible exact Ln.o568 ‹_› ‹_› | with_reducible exact Ln.o622 ‹_›)) | (symm; rw [decide_eq_false_iff_not]; (with_reducible exact Ln.o583 ‹_› ‹_› ‹_› ‹_›))) F6 N6 (fun p hp => hp)
        all_goals exact TestQ.mk' (by first | (symm; rw [decide_eq_true_iff]; (with_reducible exact Ln.o587 ‹_›)) | (symm; rw [decide_eq_false_iff_not]; omega)) F6 N6 (fun p hp => hp)
      · intro hb2 h6 tk6 dr6 F3 N3
        clear F6 N6 hdl0
        w_strict (k_steps)
        rename Fr _ _ _ _ => F6
        rename News _ _ _ _ => N6
        refine StopHere.out ?_
        refine' append_in (D := Dt) (ys := ut) (n := ct) (own := [(I, oI), (D3, W.listOf (ws1 ++ ws2).toArray 0)]) (rest := (Dp, W.listOf up.toArray cp) :: tn) ?aFS ?aNS ?aaS ?abS ?aQS ?azS
        case aFS => exact F6
        case aNS => exact N6
        case aaS => exact fa_cons (Ne.symm i2) (fa_cons d1 fa_nil)
        case abS => exact fa_cons (Ne.symm r1) t1
        case azS => have := hut.length; rw [List.length_map] at this; rw [sizeLine_eq]; (with_reducible exact Ln.o578 ‹_› ‹_› ‹_›)
        intro h7 F7 N7
        refine ints_name2 (ints_post hut (post_star rs0 r)) N7 ?_
        intro ut2 hut2 N7
        clear F6 N6
        w_strict (k_steps)
        rename Fr _ _ _ _ => F6
        rename News _ _ _ _ => N6
        obtain ⟨up2, D1x, vs1, c1, R1, hup2, hD1, sD1, oD1⟩ := hup.unsnoc
        have hlS := hup2.length
        refine StopHere.out ?_
        refine' pop_3 F6 N6 (Ne.symm i3) d2 r1 t2 ?pzS ?_
        case pzS => rw [sizeLine_eq]; simp only [List.length_append, List.length_cons, List.length_nil] at *; (with_reducible exact Ln.o595 ‹_› ‹_› ‹_›)
        intro h8 F8 N8
        clear F6 N6
        w_strict (k_steps)
        rename Fr _ _ _ _ => F6
        rename News _ _ _ _ => N6
        have hn1 : r.nw ≤ 4 := by rw [nws_snoc] at hw4; (with_reducible exact Ln.o517 ‹_›)
        refine StopHere.out ?_
        refine' of_spec w D1x vs1 R1 oD1.len4 (often_ok oD1 hn1) _ _ _ _ _ _ _ _ _ ?oX ?oT ?oa sD1 ?ou ?od ?or
        case oX => exact X0.keeps F6.keep
        case oT => exact T0.keeps F6.keep
        case oa => exact isList_of N6 (.tail _ (.tail _ (.tail _ (.tail _ hD1))))
        case ou => show _ + 3 < cLine; decide
        case od => show _ + 3 < recursionLimit; decide
        intro l h' tk' dr' m' news' vs2 c2 R2 F9 N9 hl sR hs hnd hm
        have Fx := FrUp F6 F9
        have Nx := NewsUp1 F6 N6 F9 N9 hl
        have nf := new_off N6 N9 hl
        first | refine off4 nf ?_ | refine ltt4 nf ?_
        intro nf1 nf2 nf3 nf4 nft
        clear F6 N6 F9 N9
        w_strict (k_steps)
        rename Fr _ _ _ _ => F6
        rename News _ _ _ _ => N6
        refine StopHere.out ?_
        refine' append_in (D := Dp) (ys := up2) (n := (cp + 1)) (own := [(l, W.listOf vs2.toArray c2), (I, oI), (D3, W.listOf (ws1 ++ ws2).toArray 0), (Dt, W.listOf ut2.toArray (ct + 1))]) (rest := tn) ?bFS ?bNS ?baS ?bbS ?bQS ?bzS
        case bFS => exact F6
        case bNS => exact N6
        case baS => exact fa_cons (Ne.symm nf4) (fa_cons (Ne.symm i3) (fa_cons d2 (fa_cons r1 fa_nil)))
        case bbS => exact t2
        case bzS => rw [sizeLine_eq]; simp only [List.length_append, List.length_cons, List.length_nil] at *; (with_reducible exact Ln.o596 ‹_› ‹_› ‹_›)
        intro h9 Fa Na
        simp only [List.cons_append, List.nil_append] at Na
        clear F6 N6
        w_strict (k_steps)
        rename Fr _ _ _ _ => Fc
        rename News _ _ _ _ => Nc
        rw [show nws (rs0 ++ [r]) = nws (rs0 ++ [Re.star r]) by simp only [nws_snoc, Re.nw]] at Fc
        refine ForPost.next (news' := (D3, W.listOf (ws1 ++ ws2).toArray 0) :: (Dt, W.listOf ut2.toArray (ct + 1)) :: (Dp, W.listOf (up2 ++ [Value.ref l]).toArray ((cp + 1) + 1)) :: (l, W.listOf vs2.toArray c2) :: tn) Fc Nc (.tail _ (.head _)) (fun p hp => ?_) ?_ (LwJ.of _ _ _ _ _ ((l, W.listOf vs2.toArray c2) :: tn) (rs0 ++ [Re.star r]) _ (ovr_of (fa_cons rfl (fa_cons rfl (fa_cons rfl fa_nil))) (fun _ _ => rfl)) hut2 ((hup2.mono fun p hp => .tail _ hp).snoc (.head _) sR (star_ok oD1 hs hnd hm)) ?_ ?_ ?_ (fun _ h => by simp at h) (fa_cons (Ne.symm nf3) t1) (fa_cons (Ne.symm nf4) t2) (fa_cons (Ne.symm nf2) t3))
        · revert p; walk_at "SUB"
        · exact fa_cons i1 (fa_cons i2 (fa_cons i3 (fa_cons (Ne.symm nf1) i4)))
        · simp only [nws_snoc, Re.nw] at hw4 ⊢; omega
        · intro r' hr'
          rcases List.mem_append.mp hr' with hr' | hr'
          · exact hok r' (List.mem_append_left _ hr')
          · rw [List.mem_singleton.mp hr']; exact hok r (List.mem_append_right _ (.head _))
        · rw [post_star, List.length_append]; simp only [List.length_cons, List.length_nil]; (with_reducible exact Ln.o581 ‹_›)
      · intro hb2 h6 tk6 dr6 F3 N3
        clear F6 N6 hdl0
        have hbn2 := of_decide_eq_false hb2
        have hne1 : rs0 ≠ [] := fun e => hbn2 (.inr (.inl (by rw [e]; rfl)))
        obtain ⟨rs1, q⟩ := Sn.of hne1
        have hnw2 : q.nw + r.nw ≤ 4 := by rw [nws_snoc, nws_snoc] at hw4; (with_reducible exact Ln.o606 ‹_›)
        have hk23 : kd = 2 ∨ kd = 3 := by (with_reducible exact Ln.o598 ‹_› ‹_›)
        rcases K23.of hk23 with _ | _
        · w_strict (k_steps)
          rename Fr _ _ _ _ => F6
          rename News _ _ _ _ => N6
          refine StopHere.out ?_
          refine' append_in (D := Dt) (ys := ut) (n := ct) (own := [(I, oI), (D3, W.listOf (ws1 ++ ws2).toArray 0)]) (rest := (Dp, W.listOf up.toArray cp) :: tn) ?aFC ?aNC ?aaC ?abC ?aQC ?azC
          case aFC => exact F6
          case aNC => exact N6
          case aaC => exact fa_cons (Ne.symm i2) (fa_cons d1 fa_nil)
          case abC => exact fa_cons (Ne.symm r1) t1
          case azC => have := hut.length; rw [List.length_map] at this; rw [sizeLine_eq]; (with_reducible exact Ln.o578 ‹_› ‹_› ‹_›)
          intro h7 F7 N7
          refine ints_name2 (ints_post hut (post_cat rs1 q r)) N7 ?_
          intro ut2 hut2 N7
          clear F6 N6
          w_strict (k_steps)
          rename Fr _ _ _ _ => F6
          rename News _ _ _ _ => N6
          obtain ⟨up2, D1x, vs1, c1, R1, hup2, hD1, sD1, oD1⟩ := hup.unsnoc
          have hlC1 := hup2.length
          refine StopHere.out ?_
          refine' pop_3 F6 N6 (Ne.symm i3) d2 r1 t2 ?pzC1 ?_
          case pzC1 => rw [sizeLine_eq]; simp only [List.length_append, List.length_cons, List.length_nil] at *; (with_reducible exact Ln.o585 ‹_› ‹_› ‹_›)
          intro h8 F8 N8
          clear F6 N6
          w_strict (k_steps)
          rename Fr _ _ _ _ => F6
          rename News _ _ _ _ => N6
          obtain ⟨up3, D2x, vs2, c2, R2, hup3, hD2, sD2, oD2⟩ := hup2.unsnoc
          have hlC2 := hup3.length
          refine StopHere.out ?_
          refine' pop_3 F6 N6 (Ne.symm i3) d2 r1 t2 ?pzC2 ?_
          case pzC2 => rw [sizeLine_eq]; simp only [List.length_append, List.length_cons, List.length_nil] at *; (with_reducible exact Ln.o584 ‹_› ‹_› ‹_›)
          intro h8 F9 N9
          clear F6 N6
          w_strict (k_steps)
          rename Fr _ _ _ _ => F6
          rename News _ _ _ _ => N6
          refine StopHere.out ?_
          refine' jo_spec w D2x D1x vs2 vs1 R2 R1 oD2.len4 oD1.len4 (join_bound oD2 oD1 hnw2) _ _ _ _ _ _ _ _ _ ?jX ?jT ?ja ?jb sD2 sD1 ?jd ?jr
          case jX => exact X0.keeps F6.keep
          case jT => exact T0.keeps F6.keep
          case ja => exact isList_of N6 (.tail _ (.tail _ (.tail _ (.tail _ hD2))))
          case jb => exact isList_of N6 (.tail _ (.tail _ (.tail _ (.tail _ hD1))))
          case jd => show _ + 2 < recursionLimit; decide
          intro l h' tk' dr' m' news' vs3 c3 R3 F9 N9 hl sR hs hnd hm
          have Fx := FrUp F6 F9
          have Nx := NewsUp1 F6 N6 F9 N9 hl
          have nf := new_off N6 N9 hl
          first | refine off4 nf ?_ | refine ltt4 nf ?_
          intro nf1 nf2 nf3 nf4 nft
          clear F6 N6 F9 N9
          w_strict (k_steps)
          rename Fr _ _ _ _ => F6
          rename News _ _ _ _ => N6
          refine StopHere.out ?_
          refine' append_in (D := Dp) (ys := up3) (n := (cp + 1 + 1)) (own := [(l, W.listOf vs3.toArray c3), (I, oI), (D3, W.listOf (ws1 ++ ws2).toArray 0), (Dt, W.listOf ut2.toArray (ct + 1))]) (rest := tn) ?bFC ?bNC ?baC ?bbC ?bQC ?bzC
          case bFC => exact F6
          case bNC => exact N6
          case baC => exact fa_cons (Ne.symm nf4) (fa_cons (Ne.symm i3) (fa_cons d2 (fa_cons r1 fa_nil)))
          case bbC => exact t2
          case bzC => rw [sizeLine_eq]; simp only [List.length_append, List.length_cons, List.length_nil] at *; (with_reducible exact Ln.o599 ‹_› ‹_› ‹_›)
          intro h9 Fa Na
          simp only [List.cons_append, List.nil_append] at Na
          clear F6 N6
          w_strict (k_steps)
          rename Fr _ _ _ _ => Fc
          rename News _ _ _ _ => Nc
          rw [show nws ((rs1 ++ [q]) ++ [r]) = nws (rs1 ++ [Re.cat q r]) by simp only [nws_snoc, Re.nw]; (with_reducible exact Ln.o605)] at Fc
          refine ForPost.next (news' := (D3, W.listOf (ws1 ++ ws2).toArray 0) :: (Dt, W.listOf ut2.toArray (ct + 1)) :: (Dp, W.listOf (up3 ++ [Value.ref l]).toArray ((cp + 1 + 1) + 1)) :: (l, W.listOf vs3.toArray c3) :: tn) Fc Nc (.tail _ (.head _)) (fun p hp => ?_) ?_ (LwJ.of _ _ _ _ _ ((l, W.listOf vs3.toArray c3) :: tn) (rs1 ++ [Re.cat q r]) _ (ovr_of (fa_cons rfl (fa_cons rfl (fa_cons rfl fa_nil))) (fun _ _ => rfl)) hut2 ((hup3.mono fun p hp => .tail _ hp).snoc (.head _) sR (cat_ok oD2 oD1 hs hnd hm)) ?_ ?_ ?_ (fun _ h => by simp at h) (fa_cons (Ne.symm nf3) t1) (fa_cons (Ne.symm nf4) t2) (fa_cons (Ne.symm nf2) t3))
          · revert p; walk_at "SUB"
          · exact fa_cons i1 (fa_cons i2 (fa_cons i3 (fa_cons (Ne.symm nf1) i4)))
          · simp only [nws_snoc, Re.nw] at hw4 ⊢; (with_reducible exact Ln.o575 ‹_›)
          · intro r' hr'
            rcases List.mem_append.mp hr' with hr' | hr'
            · exact hok r' (List.mem_append_left _ (List.mem_append_left _ hr'))
            · rw [List.mem_singleton.mp hr']; exact ⟨hok q (List.mem_append_left _ (List.mem_append_right _ (.head _))), hok r (List.mem_append_right _ (.head _))⟩
          · rw [post_cat, List.length_append]; simp only [List.length_cons, List.length_nil]; (with_reducible exact Ln.o581 ‹_›)
        · w_strict (k_steps)
          rename Fr _ _ _ _ => F6
          rename News _ _ _ _ => N6
          refine StopHere.out ?_
          refine' append_in (D := Dt) (ys := ut) (n := ct) (own := [(I, oI), (D3, W.listOf (ws1 ++ ws2).toArray 0)]) (rest := (Dp, W.listOf up.toArray cp) :: tn) ?aFA ?aNA ?aaA ?abA ?aQA ?azA
          case aFA => exact F6
          case aNA => exact N6
          case aaA => exact fa_cons (Ne.symm i2) (fa_cons d1 fa_nil)
          case abA => exact fa_cons (Ne.symm r1) t1
          case azA => have := hut.length; rw [List.length_map] at this; rw [sizeLine_eq]; (with_reducible exact Ln.o578 ‹_› ‹_› ‹_›)
          intro h7 F7 N7
          refine ints_name2 (ints_post hut (post_alt rs1 q r)) N7 ?_
          intro ut2 hut2 N7
          clear F6 N6
          w_strict (k_steps)
          rename Fr _ _ _ _ => F6
          rename News _ _ _ _ => N6
          obtain ⟨up2, D1x, vs1, c1, R1, hup2, hD1, sD1, oD1⟩ := hup.unsnoc
          have hlA1 := hup2.length
          refine StopHere.out ?_
          refine' pop_3 F6 N6 (Ne.symm i3) d2 r1 t2 ?pzA1 ?_
          case pzA1 => rw [sizeLine_eq]; simp only [List.length_append, List.length_cons, List.length_nil] at *; (with_reducible exact Ln.o585 ‹_› ‹_› ‹_›)
          intro h8 F8 N8
          clear F6 N6
          w_strict (k_steps)
          rename Fr _ _ _ _ => F6
          rename News _ _ _ _ => N6
          obtain ⟨up3, D2x, vs2, c2, R2, hup3, hD2, sD2, oD2⟩ := hup2.unsnoc
          have hlA2 := hup3.length
          refine StopHere.out ?_
          refine' pop_3 F6 N6 (Ne.symm i3) d2 r1 t2 ?pzA2 ?_
          case pzA2 => rw [sizeLine_eq]; simp only [List.length_append, List.length_cons, List.length_nil] at *; (with_reducible exact Ln.o584 ‹_› ‹_› ‹_›)
          intro h8 F9 N9
          clear F6 N6
          w_strict (k_steps)
          rename Fr _ _ _ _ => F6
          rename News _ _ _ _ => N6
          refine StopHere.out ?_
          have el2 := sD2.length
          have el1 := sD1.length
          have hR2 := oD2.len (by (with_reducible exact Ln.o521 ‹_›))
          have hR1 := oD1.len (by (with_reducible exact Ln.o517 ‹_›))
          refine' kmk_add_lit (its := vs2.toArray) (its2 := vs1.toArray) (zs := vs2 ++ vs1) ?kF ?kN ?kA ?kB rfl ?kQ ?kz
          case kF => exact F6
          case kN => exact N6
          case kA => exact isList_of N6 (.tail _ (.tail _ (.tail _ (.tail _ hD2))))
          case kB => exact isList_of N6 (.tail _ (.tail _ (.tail _ (.tail _ hD1))))
          case kz => rw [sizeLine_eq]; show vs2.length + vs1.length ≤ _; (with_reducible exact Ln.o616 ‹_› ‹_› ‹_› ‹_›)
          intro D5 h9 F7 N7 l5
          have sS : StrsAre (vs2 ++ vs1) (R2 ++ R1) := strs_append sD1 sD2
          clear F6 N6
          w_strict (k_steps)
          rename Fr _ _ _ _ => F6
          rename News _ _ _ _ => N6
          refine set_K rfl F6 N6 (isList_of N6 (.head _)) sS (by show (vs2 ++ vs1).toArray.size + 1 < 4096; rw [List.size_toArray, List.length_append]; (with_reducible exact Ln.o597 ‹_› ‹_› ‹_› ‹_›)) ?_
          intro h' tk' S F8 N8 hS
          replace N8 := News.sub (news' := (I, oI) :: (D3, W.listOf (ws1 ++ ws2).toArray 0) :: (Dt, W.listOf ut2.toArray (ct + 1)) :: (Dp, W.listOf up3.toArray (cp + 1 + 1)) :: tn) N8 (fun p hp => .tail _ hp)
          clear F6 N6
          w_strict (k_steps)
          refine sorted_K rfl F8 N8 hS ?_
          intro l h2 tk2 dr2 vs3 R3 c3 F9 N9 lz sR hs hnd hm
          clear F8 N8
          w_strict (k_steps)
          rename Fr _ _ _ _ => F6
          rename News _ _ _ _ => N6
          refine StopHere.out ?_
          refine' append_in (D := Dp) (ys := up3) (n := (cp + 1 + 1)) (own := [(l, W.listOf vs3.toArray c3), (I, oI), (D3, W.listOf (ws1 ++ ws2).toArray 0), (Dt, W.listOf ut2.toArray (ct + 1))]) (rest := tn) ?bFA ?bNA ?baA ?bbA ?bQA ?bzA
          case bFA => exact F6
          case bNA => exact N6
          case baA => exact fa_cons (Nat.ne_of_gt (lz _ (.tail _ (.tail _ (.tail _ (.head _)))))) (fa_cons (Ne.symm i3) (fa_cons d2 (fa_cons r1 fa_nil)))
          case bbA => exact t2
          case bzA => rw [sizeLine_eq]; simp only [List.length_append, List.length_cons, List.length_nil] at *; (with_reducible exact Ln.o599 ‹_› ‹_› ‹_›)
          intro h9 Fa Na
          simp only [List.cons_append, List.nil_append] at Na
          clear F6 N6
          w_strict (k_steps)
          rename Fr _ _ _ _ => Fc
          rename News _ _ _ _ => Nc
          rw [show nws ((rs1 ++ [q]) ++ [r]) = nws (rs1 ++ [Re.alt q r]) by simp only [nws_snoc, Re.nw]; (with_reducible exact Ln.o605)] at Fc
          refine ForPost.next (news' := (D3, W.listOf (ws1 ++ ws2).toArray 0) :: (Dt, W.listOf ut2.toArray (ct + 1)) :: (Dp, W.listOf (up3 ++ [Value.ref l]).toArray ((cp + 1 + 1) + 1)) :: (l, W.listOf vs3.toArray c3) :: tn) Fc Nc (.tail _ (.head _)) (fun p hp => ?_) ?_ (LwJ.of _ _ _ _ _ ((l, W.listOf vs3.toArray c3) :: tn) (rs1 ++ [Re.alt q r]) _ (ovr_of (fa_cons rfl (fa_cons rfl (fa_cons rfl fa_nil))) (fun _ _ => rfl)) hut2 ((hup3.mono fun p hp => .tail _ hp).snoc (.head _) sR (alt_ok oD2 oD1 hs hnd hm)) ?_ ?_ ?_ (fun _ h => by simp at h) (fa_cons (Nat.ne_of_gt (lz _ (.tail _ (.tail _ (.head _))))) t1) (fa_cons (Nat.ne_of_gt (lz _ (.tail _ (.tail _ (.tail _ (.head _)))))) t2) (fa_cons (Nat.ne_of_gt (lz _ (.tail _ (.head _)))) t3))
          · revert p; walk_at "SUB"
          · exact fa_cons i1 (fa_cons i2 (fa_cons i3 (fa_cons (Nat.ne_of_gt (lz _ (.head _))) i4)))
          · simp only [nws_snoc, Re.nw] at hw4 ⊢; (with_reducible exact Ln.o575 ‹_›)
          · intro r' hr'
            rcases List.mem_append.mp hr' with hr' | hr'
            · exact hok r' (List.mem_append_left _ (List.mem_append_left _ hr'))
            · rw [List.mem_singleton.mp hr']; exact ⟨hok q (List.mem_append_left _ (List.mem_append_right _ (.head _))), hok r (List.mem_append_right _ (.head _))⟩
          · rw [post_alt, List.length_append]; simp only [List.length_cons, List.length_nil]; (with_reducible exact Ln.o581 ‹_›)
  · rintro h tk dr mm nw ⟨mc, ut, up, ct, cp, tn, rs, tw, hut, hup, hw4, hok, hlen, hne, t1, t2, t3⟩ F2 N2
    have hsz3 : (ws1 ++ ws2).toArray.size = draws.length := by rw [List.size_toArray, hI3.length]
    have hrne : rs ≠ [] := hne (by (with_reducible exact Ln.o580 ‹_› ‹_›))
    have hrpos : 1 ≤ rs.length := by
      cases rs with
      | nil => exact absurd rfl hrne
      | cons => simp
    have hupl := hup.length
    have hrl := len_le_nws rs
    have hupz : up.toArray.size ≤ 4 := by rw [List.size_toArray, hupl]; (with_reducible exact Ln.o586 ‹_› ‹_›)
    clear N6
    w_strict (k_steps)
    refine StopHere.out ?_
    refine wpAny_For ?_
    w_strict (k_steps)
    rename Fr _ _ _ _ => F3
    rename News _ _ _ _ => N3
    have hdl0 : Heap.IsList _ Dp up.toArray := isList_of N3 (.tail _ (.tail _ (.head _)))
    refine StopHere.out ?_
    refine' PyProof.Rows.len_list (items := up.toArray) ?mn1 ?mn2 ?mn3
    case mn1 => exact hdl0
    case mn2 => (with_reducible exact Ln.o589 ‹_›)
    clear hdl0
    w_strict (k_steps)
    rename IsRange _ _ _ _ _ _ _ _ => hR
    rename IntsAre ut _ => hut
    rename Fr _ _ _ _ => F4
    rename News _ _ _ _ => N4
    rw [show ((up.length : Nat) : Int) - 1 = ((rs.length - 1 : Nat) : Int) by rw [hupl]; (with_reducible exact Ln.o588 ‹_›)] at hR
    refine forK_rangeN (n := rs.length - 1) rfl (LwK Dt Dp rs.length) hR (by omega) F4 (News.sub (news' := (Dt, W.listOf ut.toArray ct) :: (Dp, W.listOf up.toArray cp) :: tn) N4 (fun p hp => .tail _ hp)) (LwK.of _ ut up ct cp tn rs (ovr_of (fa_cons rfl (fa_cons rfl fa_nil)) (fun _ _ => rfl)) hut hup hw4 hok (by omega) rfl t1 t2) ?_ ?_
    · rintro R' I i ti h tk dr mm nw oI hIs hi ⟨mc, ut, up, ct, cp, tn, rss, hut, hup, hw4, hok, hlen, hrs, t1, t2⟩ hnI F2 N2
      clear F4 N4
      first | refine off2 hnI ?_ | refine ltt2 hnI ?_
      intro i2 i3 i4
      have hupl := hup.length
      have hrl := len_le_nws rss
      have hne0 : rss ≠ [] := fun e => by rw [e] at hrs; simp at hrs; (with_reducible exact (Ln.o569 ‹_› ‹_›).elim)
      obtain ⟨rs0, r⟩ := Sn.of hne0
      have hne1 : rs0 ≠ [] := fun e => by rw [e] at hrs; simp at hrs; (with_reducible exact (Ln.o607 ‹_› ‹_›).elim)
      obtain ⟨rs1, q⟩ := Sn.of hne1
      have hnw2 : q.nw + r.nw ≤ 4 := by rw [nws_snoc, nws_snoc] at hw4; (with_reducible exact Ln.o606 ‹_›)
      w_strict (k_steps)
      rename Fr _ _ _ _ => F6
      rename News _ _ _ _ => N6
      refine StopHere.out ?_
      refine' append_in (D := Dt) (ys := ut) (n := ct) (own := [(I, oI)]) (rest := (Dp, W.listOf up.toArray cp) :: tn) ?aFE ?aNE ?aaE ?abE ?aQE ?azE
      case aFE => exact F6
      case aNE => exact N6
      case aaE => exact fa_cons (Ne.symm i2) fa_nil
      case abE => exact fa_cons (Ne.symm r1) t1
      case azE => have := hut.length; rw [List.length_map] at this; rw [sizeLine_eq]; omega
      intro h7 F7 N7
      refine ints_name1 (ints_post hut (post_cat rs1 q r)) N7 ?_
      intro ut2 hut2 N7
      clear F6 N6
      w_strict (k_steps)
      rename Fr _ _ _ _ => F6
      rename News _ _ _ _ => N6
      obtain ⟨up2, D1x, vs1, c1, R1, hup2, hD1, sD1, oD1⟩ := hup.unsnoc
      have hlE1 := hup2.length
      refine StopHere.out ?_
      refine' pop_2 F6 N6 (Ne.symm i3) r1 t2 ?pzE1 ?_
      case pzE1 => rw [sizeLine_eq]; simp only [List.length_append, List.length_cons, List.length_nil] at *; (with_reducible exact Ln.o612 ‹_› ‹_› ‹_›)
      intro h8 F8 N8
      clear F6 N6
      w_strict (k_steps)
      rename Fr _ _ _ _ => F6
      rename News _ _ _ _ => N6
      obtain ⟨up3, D2x, vs2, c2, R2, hup3, hD2, sD2, oD2⟩ := hup2.unsnoc
      have hlE2 := hup3.length
      refine StopHere.out ?_
      refine' pop_2 F6 N6 (Ne.symm i3) r1 t2 ?pzE2 ?_
      case pzE2 => rw [sizeLine_eq]; simp only [List.length_append, List.length_cons, List.length_nil] at *; (with_reducible exact Ln.o584 ‹_› ‹_› ‹_›)
      intro h8 F9 N9
      clear F6 N6
      w_strict (k_steps)
      rename Fr _ _ _ _ => F6
      rename News _ _ _ _ => N6
      refine StopHere.out ?_
      refine' jo_spec w D2x D1x vs2 vs1 R2 R1 oD2.len4 oD1.len4 (join_bound oD2 oD1 hnw2) _ _ _ _ _ _ _ _ _ ?eX ?eT ?ea ?eb sD2 sD1 ?ed ?er
      case eX => exact X0.keeps F6.keep
      case eT => exact T0.keeps F6.keep
      case ea => exact isList_of N6 (.tail _ (.tail _ (.tail _ hD2)))
      case eb => exact isList_of N6 (.tail _ (.tail _ (.tail _ hD1)))
      case ed => show _ + 2 < recursionLimit; decide
      intro l h' tk' dr' m' news' vs3 c3 R3 F9 N9 hl sR hs hnd hm
      have Fx := FrUp F6 F9
      have Nx := NewsUp1 F6 N6 F9 N9 hl
      have nf := new_off N6 N9 hl
      first | refine off3 nf ?_ | refine ltt3 nf ?_
      intro nf1 nf3 nf4 nft
      clear F6 N6 F9 N9
      w_strict (k_steps)
      rename Fr _ _ _ _ => F6
      rename News _ _ _ _ => N6
      refine StopHere.out ?_
      refine' append_in (D := Dp) (ys := up3) (n := (cp + 1 + 1)) (own := [(l, W.listOf vs3.toArray c3), (I, oI), (Dt, W.listOf ut2.toArray (ct + 1))]) (rest := tn) ?bFE ?bNE ?baE ?bbE ?bQE ?bzE
      case bFE => exact F6
      case bNE => exact N6
      case baE => exact fa_cons (Ne.symm nf4) (fa_cons (Ne.symm i3) (fa_cons r1 fa_nil))
      case bbE => exact t2
      case bzE => rw [sizeLine_eq]; simp only [List.length_append, List.length_cons, List.length_nil] at *; (with_reducible exact Ln.o571 ‹_› ‹_› ‹_›)
      intro h9 Fa Na
      simp only [List.cons_append, List.nil_append] at Na
      clear F6 N6
      w_strict (k_steps)
      rename Fr _ _ _ _ => Fc
      rename News _ _ _ _ => Nc
      refine ForPost.next (news' := (Dt, W.listOf ut2.toArray (ct + 1)) :: (Dp, W.listOf (up3 ++ [Value.ref l]).toArray (cp + 1 + 1 + 1)) :: (l, W.listOf vs3.toArray c3) :: tn) Fc Nc (.tail _ (.head _)) (fun p hp => ?_) ?_ (LwK.of _ _ _ _ _ ((l, W.listOf vs3.toArray c3) :: tn) (rs1 ++ [Re.cat q r]) (ovr_of (fa_cons rfl (fa_cons rfl fa_nil)) (fun _ _ => rfl)) hut2 ((hup3.mono fun p hp => .tail _ hp).snoc (.head _) sR (cat_ok oD2 oD1 hs hnd hm)) ?_ ?_ ?_ ?_ (fa_cons (Ne.symm nf3) t1) (fa_cons (Ne.symm nf4) t2))
      · revert p; walk_at "SUB"
      · exact fa_cons i2 (fa_cons i3 (fa_cons (Ne.symm nf1) i4))
      · simp only [nws_snoc, Re.nw] at hw4 ⊢; (with_reducible exact Ln.o575 ‹_›)
      · intro r' hr'
        rcases List.mem_append.mp hr' with hr' | hr'
        · exact hok r' (List.mem_append_left _ (List.mem_append_left _ hr'))
        · rw [List.mem_singleton.mp hr']; exact ⟨hok q (List.mem_append_left _ (List.mem_append_right _ (.head _))), hok r (List.mem_append_right _ (.head _))⟩
      · rw [post_cat, List.length_append]; simp only [List.length_cons, List.length_nil]; (with_reducible exact Ln.o593 ‹_›)
      · simp only [List.length_append, List.length_cons, List.length_nil] at hrs ⊢; (with_reducible exact Ln.o602 ‹_›)
    · rintro h tk dr mm nw ⟨mc, ut, up, ct, cp, tn, rss, hut, hup, hw4, hok, hlen, hrs, t1, t2⟩ F2 N2
      obtain ⟨re⟩ := One1.of (by (with_reducible exact Ln.o614 ‹_› ‹_›))
      obtain ⟨D, vs, c, R, hD, sD, oD⟩ := hup.one
      have hut : IntsAre ut (re.post.map Int.ofNat) := by simpa using hut
      have hlen : re.post.length ≤ 16 := by simp at hlen; omega
      have hre := hok re (.head _)
      have hnwr : re.nw ≤ 4 := by simpa [nws] using hw4
      clear F4 N4
      w_strict (k_steps)
      rename Fr _ _ _ _ => F3
      rename News _ _ _ _ => N3
      rename_i Do _ qDo _
      refine and3 qDo ?_
      intro o1 o2 o3
      have o4 := allLt_mem o3
      have s1 : @Ne Nat Do Dp := Nat.ne_of_gt o2
      have s2 : ∀ p ∈ tn, p.1 ≠ Do := fun p hp => Nat.ne_of_lt (o4 p hp)
      refine StopHere.out ?_
      refine wpAny_For ?_
      w_strict (k_steps)
      rename IntsAre ut _ => hut
      rename Fr _ _ _ _ => F4
      rename News _ _ _ _ => N4
      obtain ⟨z0, hz0, hI0⟩ := lit1 N4
      have hzl0 := hI0.length
      have hutl := hut.length
      rw [List.length_map] at hutl
      refine StopHere.out ?_
      refine' kmk_add_lit (its := ut.toArray) (its2 := z0.toArray) (zs := ut ++ z0) ?vF ?vN ?vA ?vB rfl ?vQ ?vz
      case vF => exact F4
      case vN => exact N4
      case vA => exact isList_of N4 (.tail _ (.tail _ (.head _)))
      case vB => exact hz0
      case vz => rw [sizeLine_eq]; show ut.length + z0.length ≤ _; simp only [List.length_cons, List.length_nil] at hzl0; (with_reducible exact Ln.o604 ‹_› ‹_› ‹_›)
      intro D6 h6 F5 N5 l6
      have hI6 : IntsAre (ut ++ z0) (re.post.map Int.ofNat ++ [0]) := hut.append hI0
      have g1 : @Ne Nat D6 Do := Nat.ne_of_gt (l6 _ (.tail _ (.head _)))
      have g2 : @Ne Nat D6 Dp := Nat.ne_of_gt (l6 _ (.tail _ (.tail _ (.tail _ (.head _)))))
      have N6 := News.sub (news' := (D6, W.listOf (ut ++ z0).toArray 0) :: (Do, W.listOf #[] 0) :: (Dp, W.listOf [Value.ref D].toArray cp) :: tn) N5 (by walk_at "SUB")
      clear F4 N4 N5
      refine forK_listN rfl (fun i mm nw => LwO D6 Do Dp (W.listOf (ut ++ z0).toArray 0) (W.listOf [Value.ref D].toArray cp) tn (((re.post.map Int.ofNat ++ [0]).take i).flatMap octs) mm nw) [(D6, W.listOf (ut ++ z0).toArray 0)] (isList_of N6 (.head _)) (.inr ⟨_, .head _⟩) ?_ F5 N6 (LwO.of _ [] 0 (ovr_of (fa_cons rfl (fa_cons rfl fa_nil)) (fun _ _ => rfl)) .nil) ?_ ?_
      · rintro i mm nw ⟨mc, uo, co, _⟩ p hp
        rw [List.mem_singleton.mp hp]; exact .head _
      · rintro R' I i v h tk dr mm nw oI hIs hi hv ⟨mc, uo, co, huo⟩ hnI F2 N2
        obtain ⟨x, tx, hx⟩ := ints_item hI6 (i := i) (by simpa using hv)
        clear N6
        first | refine off3 hnI ?_ | refine ltt3 hnI ?_
        intro i1 i2 i3 i4
        have hxb : 0 ≤ x ∧ x ≤ 300 := by
          have hm := List.mem_of_getElem? hx
          rcases List.mem_append.mp hm with hm | hm
          · obtain ⟨n, hn, rfl⟩ := List.mem_map.mp hm
            have := post_le re hre n hn
            exact ⟨Int.natCast_nonneg _, by show (n : Int) ≤ 300; (with_reducible exact Ln.o594 ‹_›)⟩
          · rw [List.mem_singleton.mp hm]; decide
        w_strict (k_steps)
        rename Fr _ _ _ _ => F4
        rename News _ _ _ _ => N4
        refine StopHere.out ?_
        refine' oct_spec w x _ hxb.1 hxb.2 _ _ _ _ _ _ _ _ _ ?wX2 ?wT2 ?wd2 ?wr2
        case wX2 => exact X0.keeps F4.keep
        case wT2 => exact T0.keeps F4.keep
        case wd2 => show _ + 1 < recursionLimit; decide
        intro l h' tk' dr' m' news' vs3 c3 F9 N9 hl hA3
        have Fx := FrUp F4 F9
        have Nx := NewsUp1 F4 N4 F9 N9 hl
        have nf := new_off N4 N9 hl
        first | refine off4 nf ?_ | refine ltt4 nf ?_
        intro nf1 nf2 nf3 nf4 nft
        clear F4 N4 F9 N9
        w_strict (k_steps)
        rename Fr _ _ _ _ => F4
        rename News _ _ _ _ => N4
        have huol := huo.length
        have hob := octs_le ((re.post.map Int.ofNat ++ [0]).take i)
        have htk9 : ((re.post.map Int.ofNat ++ [0]).take i).length ≤ 17 := by rw [List.length_take, List.length_append, List.length_map]; simp only [List.length_cons, List.length_nil]; (with_reducible exact Ln.o624 ‹_›)
        have hv3l := hA3.length
        have hox := octs_one x
        refine' extend_in (D := Do) (b := l) (ys := uo) (n := co) (its2 := vs3.toArray) (own := [(l, W.listOf vs3.toArray c3), (I, oI), (D6, W.listOf (ut ++ z0).toArray 0)]) (rest := (Dp, W.listOf [Value.ref D].toArray cp) :: tn) ?xF ?xN ?xa ?xb ?xc ?xd ?xz
        case xF => exact F4
        case xN => exact N4
        case xa => exact fa_cons (Ne.symm nf3) (fa_cons (Ne.symm i2) (fa_cons g1 fa_nil))
        case xb => exact fa_cons (Ne.symm s1) s2
        case xc => exact (N4 _ (.head _)).1
        case xz => rw [sizeLine_eq, List.size_toArray]; (with_reducible exact Ln.o570 ‹_› ‹_› ‹_› ‹_› ‹_›)
        intro h8 n8 F9 N9
        replace N9 : News _ _ h8 ((l, W.listOf vs3.toArray c3) :: (I, oI) :: (D6, W.listOf (ut ++ z0).toArray 0) :: (Do, W.listOf (uo ++ vs3).toArray n8) :: (Dp, W.listOf [Value.ref D].toArray cp) :: tn) := N9
        clear F4 N4
        w_strict (k_steps)
        rename Fr _ _ _ _ => Fc
        rename News _ _ _ _ => Nc
        refine ForPost.next (news' := (D6, W.listOf (ut ++ z0).toArray 0) :: (Do, W.listOf (uo ++ vs3).toArray n8) :: (Dp, W.listOf [Value.ref D].toArray cp) :: tn) Fc Nc (.tail _ (.head _)) (fun p hp => .tail _ (.tail _ hp)) ?_ (LwO.of _ (uo ++ vs3) n8 (ovr_of (fa_cons rfl (fa_cons rfl fa_nil)) (fun _ _ => rfl)) ?_)
        · exact fa_cons i1 (fa_cons i2 (fa_cons i3 i4))
        · rw [List.take_add_one, hx, List.flatMap_append]
          exact huo.append (by simpa using hA3)
      · rintro h tk dr mm nw ⟨mc, uo, co, huo⟩ F2 N2
        have e6 : (ut ++ z0).toArray.size = (re.post.map Int.ofNat ++ [0]).length := by rw [List.size_toArray, hI6.length]
        rw [e6, List.take_length] at huo
        clear N6
        w_strict (k_steps)
        rename Fr _ _ _ _ => F4
        rename News _ _ _ _ => N4
        have N5 := News.sub (news' := (Do, W.listOf uo.toArray co) :: (Dp, W.listOf [Value.ref D].toArray cp) :: tn) N4 (fun p hp => .tail _ hp)
        refine StopHere.out ?_
        refine' num_spec w Do uo co (re.post.map Int.ofNat ++ [0]) huo ?nt ?nl ((Dp, W.listOf [Value.ref D].toArray cp) :: tn) _ _ _ _ _ _ _ _ _ _ _ _ _ _ _ _ _ (StopHere.out B1) ?nF X0 ?nN T0 ?nk ?nd ?nr
        case nF => exact F4
        case nN => exact N5
        case nk => rfl
        case nd => show _ + 3 < recursionLimit; decide
        case nt =>
          intro x hm
          rcases List.mem_append.mp hm with hm | hm
          · obtain ⟨n, hn, rfl⟩ := List.mem_map.mp hm
            have := post_le re hre n hn
            exact ⟨Int.natCast_nonneg _, by show (n : Int) ≤ 300; (with_reducible exact Ln.o594 ‹_›)⟩
          · rw [List.mem_singleton.mp hm]; decide
        case nl => rw [List.length_append, List.length_map]; simp only [List.length_cons, List.length_nil]; (with_reducible exact Ln.o603 ‹_›)
        intro h7 tk7 dr7 Dn us cu F7 N7 hus
        clear F4 N4 N5
        w_strict (k_steps)
        rename Fr _ _ _ _ => F4
        rename News _ _ _ _ => N4
        obtain ⟨M, hM0, hMt, hMe⟩ := mach re hre hnwr
        refine StopHere.out ?_
        refine' wpAny_mono (ma_spec w Dn us re.post M hM0 hMt ?pl _ _ _ _ _ _ _ _ _ ?pX ?pT ?pa ?pi ?pd ?pr) (fun _ _ x => x) (fun _ _ x => x.elim)
        case pl => (with_reducible exact Ln.o573 ‹_›)
        case pX => exact X0.keeps F4.keep
        case pT => exact T0.keeps F4.keep
        case pa => exact isList_of N4 (.head _)
        case pi => rw [List.map_append]; exact hus
        case pd => show _ + 4 < recursionLimit; decide
        intro Dl Df Dp2 h8 tk8 dr8 m8 news8 vl vf vp cl cf cp2 ct8 TT F9 N9 hT8 hDl hDf hDp8 iL iF pV
        rw [hMe] at iL iF pV
        obtain ⟨T1, tA, tB, nn, hT1⟩ := pV.one
        have Fx := FrUp F4 F9
        have Nx := NewsUpS F4 N4 F9 N9
        have Ny := News.sub (news' := (TT, { cls := .type "tuple", data := .seq #[.ref Dl, .ref Df, .ref Dp2] ct8 }) :: (Dl, W.listOf vl.toArray cl) :: (Df, W.listOf vf.toArray cf) :: (Dp2, W.listOf [Value.ref T1].toArray cp2) :: (T1, tupObj re.nul (re.fst 0) (re.lst 0) tA tB nn) :: (Dp, W.listOf [Value.ref D].toArray cp) :: (D, W.listOf vs.toArray c) :: []) Nx (fun p hp => by
          simp only [List.mem_cons, List.not_mem_nil, or_false] at hp
          rw [List.mem_append]
          rcases hp with rfl | rfl | rfl | rfl | rfl | rfl | rfl
          · exact .inl hT8
          · exact .inl hDl
          · exact .inl hDf
          · exact .inl hDp8
          · exact .inl hT1
          · exact .inr (.tail _ (.tail _ (.head _)))
          · exact .inr (.tail _ (.tail _ (.tail _ hD))))
        clear F4 N4 F9 N9 Nx
        w_strict (k_steps)
        rename Fr _ _ _ _ => F4
        rename News _ _ _ _ => N4
        refine StopHere.out ?_
        refine' PyProof.Rows.len_list (items := #[Value.ref T1]) ?yn1 ?yn2 ?yn3
        case yn1 => exact isList_of N4 (.tail _ (.tail _ (.tail _ (.head _))))
        case yn2 => show ((1 : Nat) : Int) < _; decide
        rw [show ((#[Value.ref T1].size : Nat) : Int) = 1 from rfl]
        w_strict (k_steps)
        rename Fr _ _ _ _ => F5
        rename News _ _ _ _ => N5
        refine StopHere.out ?_
        refine' PyProof.Rows.item_list (items := #[Value.ref T1]) (x := .ref T1) ?ib1 (by decide) (by decide) rfl ?ib2
        case ib1 => exact isList_of N5 (.tail _ (.tail _ (.tail _ (.head _))))
        w_strict (k_steps)
        rename Fr _ _ _ _ => F6
        rename News _ _ _ _ => N6
        refine and9 (gl_facts re hre hnwr) ?_
        intro q1 q2 q3 q4 q5 q6 q7 q8 q9
        refine StopHere.out ?_
        refine' wpAny_mono (ta_spec w Dl Df T1 vl vf re.ls (re.fol 0) re.nul (re.fst 0) (re.lst 0) tA tB q1 q2 q3 q4 q5 q6 q7 q8 q9 _ _ _ _ _ _ _ _ _ ?rX ?rT ?ra ?rb iL iF ?rd ?re ?rr) (fun _ _ x => x) (fun _ _ x => x.elim)
        case rX => exact X0.keeps F6.keep
        case rT => exact T0.keeps F6.keep
        case ra => exact isList_of N6 (.tail _ (.head _))
        case rb => exact isList_of N6 (.tail _ (.tail _ (.head _)))
        case rd => exact ⟨_, (N6 _ (.tail _ (.tail _ (.tail _ (.tail _ (.head _)))))).1, rfl, _, rfl⟩
        case re => show _ + 4 < recursionLimit; decide
        intro l h' tk' dr' m' news' vs2 c2 R1 F9 N9 hl sA hs1 hn1 hm1
        have Fx := FrUp F6 F9
        have Nx := NewsUp1 F6 N6 F9 N9 hl
        clear F6 N6 F9 N9
        w_strict (k_steps)
        rename Fr _ _ _ _ => F6
        rename News _ _ _ _ => N6
        refine StopHere.out ?_
        refine' PyProof.Rows.item_list (items := #[Value.ref D]) (x := .ref D) ?ic1 (by decide) (by decide) rfl ?ic2
        case ic1 => exact isList_of N6 (.tail _ (.tail _ (.tail _ (.tail _ (.tail _ (.tail _ (.head _)))))))
        w_strict (k_steps)
        rename Fr _ _ _ _ => F6
        rename News _ _ _ _ => N6
        have heq : R1 = R := sorted_eq hs1 oD.1 hn1 oD.2.1 fun k => (hm1 k).trans ((taken_lang re hre hnwr k).trans (oD.2.2 k).symm)
        have hl1 : Heap.IsList _ l vs2.toArray := isList_of N6 (.head _)
        have hl2 : Heap.IsList _ D vs.toArray := isList_of N6 (.tail _ (.tail _ (.tail _ (.tail _ (.tail _ (.tail _ (.tail _ (.head _))))))))
        refine StopHere.out ?_
        refine eq_strs hl1 sA hl2 sD (by show (4 + _ : Nat) < 9900; decide) ?_
        rw [decide_eq_true heq]
        w_strict (k_steps)
end
end Mine
end
theorem PySem.Challenge.cw_wb0017_01_holds : PySem.Challenge.rw_wb0017_01.Holds :=
  Mine.law_walk
