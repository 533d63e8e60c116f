import PyProof.Rows.All
import Wide.All
import OpenK.AllK
import Wide.FinOn
import PySem.Challenge.RW_dn0043_09
open PySem PySem.W PyProof.Rows
set_option Elab.async false
set_option maxRecDepth 100000
set_option genSizeOf false
set_option genInjectivity false
namespace Mine
namespace Ar
set_option genSizeOf false
set_option genInjectivity false
set_option genSizeOf false
set_option genInjectivity false

inductive FT | lf (k i j : Nat) | op (k : Nat) (a b : FT)
noncomputable abbrev sel {α : Sort u} (a b c d e f : α) (g : Nat → α) (k : Nat) : α :=
  Nat.rec a (fun k _ => Nat.rec b (fun k _ => Nat.rec c (fun k _ => Nat.rec d (fun k _ => Nat.rec e (fun k _ => Nat.rec f (fun k _ => g k) k) k) k) k) k) k
theorem selP {P : Nat → Prop} (a : P 0) (b : P 1) (c : P 2) (d : P 3) (e : P 4) (f : P 5) (g : ∀ k, P (k + 6)) (k : Nat) : P k :=
  Nat.casesOn k a fun k => Nat.casesOn k b fun k => Nat.casesOn k c fun k => Nat.casesOn k d fun k => Nat.casesOn k e fun k => Nat.casesOn k f g
noncomputable def FT.n (i : Nat) : FT := .lf 0 i 0
noncomputable def FT.z (i : Nat) : FT := .lf 1 i 0
noncomputable def FT.k (i : Nat) : FT := .lf 2 i 0
noncomputable def FT.pw (i j : Nat) : FT := .lf 3 i j
noncomputable def FT.ad (a b : FT) : FT := .op 0 a b
noncomputable def FT.sb (a b : FT) : FT := .op 1 a b
noncomputable def FT.mn (a b : FT) : FT := .op 2 a b
noncomputable def FT.mx (a b : FT) : FT := .op 3 a b
noncomputable def FT.ng (a : FT) : FT := .op 4 a a
noncomputable def FT.up (a : FT) : FT := .op 5 a a
noncomputable def FT.ml (k : Nat) (a : FT) : FT := .op (k + 6) a a
noncomputable def gN (l : List Nat) : Nat → Nat := List.rec (fun _ => 0) (fun x _ ih i => Nat.rec x (fun i _ => ih i) i) l
noncomputable def gZ (l : List Int) : Nat → Int := List.rec (fun _ => 0) (fun x _ ih i => Nat.rec x (fun i _ => ih i) i) l
noncomputable def FT.dN (N : List Nat) (t : FT) : Nat :=
  FT.rec (fun k i j => sel (gN N i) 0 i (i ^ j) 0 0 (fun _ => 0) k) (fun k _ _ a b => sel (a + b) (a - b) (min a b) (max a b) 0 0 (fun k => k * a) k) t
noncomputable def FT.dZ (N : List Nat) (Z : List Int) (t : FT) : Int :=
  FT.rec (fun k i j => sel 0 (gZ Z i) (Int.ofNat i) ((Int.ofNat i) ^ j) 0 0 (fun _ => 0) k)
    (fun k x _ a b => sel (a + b) (a - b) (min a b) (max a b) (-a) ((x.dN N : Nat) : Int) (fun k => Int.ofNat k * a) k) t
noncomputable abbrev LF := Int × List Int
noncomputable def evl (l : List Int) : (Nat → Int) → Int := List.rec (fun _ => 0) (fun a _ ih r => a * r 0 + ih fun j => r (j + 1)) l
noncomputable def fev (p : LF) (r : Nat → Int) : Int := p.1 + evl p.2 r
noncomputable def ladd (a : List Int) : List Int → List Int := List.rec (fun b => b) (fun x a ih b => List.casesOn b (x :: a) fun y b => (x + y) :: ih b) a
noncomputable def lun (i : Nat) : List Int := Nat.rec [1] (fun _ l => 0 :: l) i
noncomputable def fad (p q : LF) : LF := (p.1 + q.1, ladd p.2 q.2)
noncomputable def fsc (c : Int) (p : LF) : LF := (c * p.1, p.2.map (c * ·))
noncomputable def fsb (p q : LF) : LF := fad p (fsc (-1) q)
noncomputable def f1 (p : LF) : LF := (p.1 - 1, p.2)
theorem a4 (a b c d : Int) : a + b + (c + d) = a + c + (b + d) := by rw [Int.add_assoc, Int.add_left_comm b, ← Int.add_assoc]
theorem evl_ladd (a : List Int) : ∀ (b : List Int) (r), evl (ladd a b) r = evl a r + evl b r := by
  induction a with
  | nil => exact fun b r => (Int.zero_add _).symm
  | cons x a ih =>
    intro b r
    cases b with
    | nil => exact (Int.add_zero _).symm
    | cons y b => exact (congr (congrArg HAdd.hAdd (Int.add_mul x y _)) (ih b _)).trans (a4 ..)
theorem evl_sc (c : Int) (a : List Int) : ∀ r, evl (a.map (c * ·)) r = c * evl a r := by
  induction a with
  | nil => exact fun r => (Int.mul_zero c).symm
  | cons x a ih => exact fun r => (congr (congrArg HAdd.hAdd (Int.mul_assoc ..)) (ih _)).trans (Int.mul_add ..).symm
theorem evl_un (i : Nat) : ∀ (r : Nat → Int), evl (lun i) r = r i := by
  induction i with
  | zero => exact fun r => (Int.add_zero _).trans (Int.one_mul _)
  | succ i ih => exact fun r => (congr (congrArg HAdd.hAdd (Int.zero_mul _)) (ih _)).trans (Int.zero_add _)
theorem fev_ad (p q r) : fev (fad p q) r = fev p r + fev q r := (congrArg (_ + ·) (evl_ladd ..)).trans (a4 ..)
theorem fev_sc (c p r) : fev (fsc c p) r = c * fev p r := (congrArg (_ + ·) (evl_sc ..)).trans (Int.mul_add ..).symm
theorem fev_sb (p q r) : fev (fsb p q) r = fev p r - fev q r := (fev_ad ..).trans (congrArg (_ + ·) ((fev_sc ..).trans (Int.neg_one_mul _)))
theorem F0 {p q : LF} {r} (h : fev p r ≤ fev q r) : 0 ≤ fev (fsb q p) r := by rw [fev_sb]; exact Int.sub_nonneg_of_le h
theorem F1 {p q : LF} {r} (h : fev p r < fev q r) : 0 ≤ fev (f1 (fsb q p)) r := by
  have e : fev (f1 (fsb q p)) r = fev (fsb q p) r - 1 := Int.add_right_comm ..
  rw [e, fev_sb]; exact Int.le_sub_one_of_lt (Int.sub_pos_of_lt h)
noncomputable abbrev Alt := List LF × LF
noncomputable def prod {α β γ : Type} (xs : List α) (ys : List β) (f : α → β → List γ) : List γ := xs.flatMap fun x => ys.flatMap fun y => f x y
theorem mem_prod {α β γ : Type} {xs : List α} {ys : List β} {f : α → β → List γ} {x y z} (hx : x ∈ xs) (hy : y ∈ ys) (hz : z ∈ f x y) : z ∈ prod xs ys f :=
  List.mem_flatMap.mpr ⟨x, hx, List.mem_flatMap.mpr ⟨y, hy, hz⟩⟩
noncomputable def cst (c : Int) : List Alt := [([], (c, []))]
noncomputable def var (i : Nat) : List Alt := [([], (0, lun i))]
noncomputable def two (g : List LF) (p q v w : LF) : List Alt := [(p :: g, v), (q :: g, w)]
noncomputable def nrm (t : FT) : Bool → List Alt :=
  FT.rec (fun k i j => sel (fun s => cond s (cst 0) (var (2 * i))) (fun s => cond s (var (2 * i + 1)) (cst 0)) (fun _ => cst (Int.ofNat i)) (fun _ => cst (Int.ofNat (i ^ j))) (fun _ => cst 0) (fun _ => cst 0) (fun _ _ => cst 0) k)
    (fun k _ _ a b => sel (fun s => prod (a s) (b s) fun x y => [(x.1 ++ y.1, fad x.2 y.2)])
      (fun s => prod (a s) (b s) fun x y => cond s [(x.1 ++ y.1, fsb x.2 y.2)] (two (x.1 ++ y.1) (fsb x.2 y.2) (f1 (fsb y.2 x.2)) (fsb x.2 y.2) (0, [])))
      (fun s => prod (a s) (b s) fun x y => two (x.1 ++ y.1) (fsb y.2 x.2) (fsb x.2 y.2) x.2 y.2)
      (fun s => prod (a s) (b s) fun x y => two (x.1 ++ y.1) (fsb y.2 x.2) (fsb x.2 y.2) y.2 x.2)
      (fun s => cond s ((a s).map fun x => (x.1, fsc (-1) x.2)) (cst 0))
      (fun s => cond s (a false) (cst 0))
      (fun k s => (a s).map fun x => (x.1, fsc (Int.ofNat k) x.2)) k) t
noncomputable def dV (N : List Nat) (Z : List Int) (s : Bool) (t : FT) : Int := cond s (t.dZ N Z) ((t.dN N : Nat) : Int)
noncomputable def rho (N : List Nat) (Z : List Int) (j : Nat) : Int := if j % 2 = 0 then ((gN N (j / 2) : Nat) : Int) else gZ Z (j / 2)
theorem rho0 (N Z i) : rho N Z (2 * i) = (gN N i : Int) := by unfold rho; rw [if_pos (Nat.mul_mod_right 2 i), Nat.mul_div_cancel_left i Nat.two_pos]
theorem rho1 (N Z i) : rho N Z (2 * i + 1) = gZ Z i := by
  unfold rho; rw [Nat.mul_add_mod, Nat.mul_add_div Nat.two_pos]; exact if_neg Nat.one_ne_zero
noncomputable def Good (r : Nat → Int) (v : Int) (a : Alt) : Prop := (∀ g ∈ a.1, 0 ≤ fev g r) ∧ fev a.2 r = v
theorem all_cons {r : Nat → Int} {p : LF} {l : List LF} (h : 0 ≤ fev p r) (hl : ∀ g ∈ l, 0 ≤ fev g r) : ∀ g ∈ p :: l, 0 ≤ fev g r :=
  fun g hg => (List.mem_cons.mp hg).elim (fun e => e ▸ h) (hl g)
theorem one {α} {P : α → Prop} {x : α} (h : P x) : ∃ z ∈ [x], P z := ⟨x, .head _, h⟩
theorem fst {α} {P : α → Prop} {x y : α} (h : P x) : ∃ z ∈ [x, y], P z := ⟨x, .head _, h⟩
theorem snd {α} {P : α → Prop} {x y : α} (h : P y) : ∃ z ∈ [x, y], P z := ⟨y, .tail _ (.head _), h⟩
theorem nil_ok {r : Nat → Int} : ∀ g ∈ ([] : List LF), 0 ≤ fev g r := fun _ h => nomatch h
noncomputable def Ok (r : Nat → Int) (v : Int) (l : List Alt) : Prop := ∃ x ∈ l, Good r v x
theorem ok_c (r c) : Ok r c (cst c) := one ⟨nil_ok, Int.add_zero _⟩
theorem ok_v (r i) : Ok r (r i) (var i) := one ⟨nil_ok, (Int.zero_add _).trans (evl_un ..)⟩
theorem ok_map {r v l} {c : Int} (h : Ok r v l) : Ok r (c * v) (l.map (fun x => (x.1, fsc c x.2))) :=
  h.elim fun x hx => ⟨_, List.mem_map.mpr ⟨x, hx.1, rfl⟩, hx.2.1, (fev_sc ..).trans (congrArg (c * ·) hx.2.2)⟩
theorem ok_prod {r v w l m} {γ} {P : γ → Prop} {f : Alt → Alt → List γ} (h1 : Ok r v l) (h2 : Ok r w m)
    (h : ∀ x y, fev x.2 r = v → fev y.2 r = w → (∀ g ∈ x.1 ++ y.1, 0 ≤ fev g r) → ∃ z ∈ f x y, P z) : ∃ z ∈ prod l m f, P z :=
  h1.elim fun x hx => h2.elim fun y hy => (h x y hx.2.2 hy.2.2 (fun g hg => (List.mem_append.mp hg).elim (hx.2.1 g) (hy.2.1 g))).elim fun z hz => ⟨z, mem_prod hx.1 hy.1 hz.1, hz.2⟩
theorem ok_two {r : Nat → Int} {v g p q x y} (hg : ∀ c ∈ g, 0 ≤ fev c r) (h : (0 ≤ fev p r ∧ fev x r = v) ∨ (0 ≤ fev q r ∧ fev y r = v)) : Ok r v (two g p q x y) :=
  h.elim (fun h => fst ⟨all_cons h.1 hg, h.2⟩) fun h => snd ⟨all_cons h.1 hg, h.2⟩
theorem Ok.to {r v w l} (h : Ok r v l) (e : v = w) : Ok r w l := e ▸ h
theorem castmin (a b : Nat) : min (a : Int) b = ((min a b : Nat) : Int) := (Nat.le_total a b).elim
  (fun h => (Int.min_eq_left (Int.ofNat_le.mpr h)).trans (congrArg Int.ofNat (Nat.min_eq_left h).symm)) fun h => (Int.min_eq_right (Int.ofNat_le.mpr h)).trans (congrArg Int.ofNat (Nat.min_eq_right h).symm)
theorem castmax (a b : Nat) : max (a : Int) b = ((max a b : Nat) : Int) := (Nat.le_total a b).elim
  (fun h => (Int.max_eq_right (Int.ofNat_le.mpr h)).trans (congrArg Int.ofNat (Nat.max_eq_right h).symm)) fun h => (Int.max_eq_left (Int.ofNat_le.mpr h)).trans (congrArg Int.ofNat (Nat.max_eq_left h).symm)
theorem nrm_ok (N : List Nat) (Z : List Int) (t : FT) : ∀ (s : Bool), Ok (rho N Z) (dV N Z s t) (nrm t s) := by
  induction t with
  | lf k i j =>
    refine selP (P := fun k => ∀ s, Ok (rho N Z) (dV N Z s (.lf k i j)) (nrm (.lf k i j) s)) ?_ ?_ ?_ ?_ ?_ ?_ (fun k => ?_) k
    · exact fun s => s.casesOn ((ok_v (rho N Z) (2 * i)).to (rho0 ..)) (ok_c ..)
    · exact fun s => s.casesOn (ok_c ..) ((ok_v (rho N Z) (2 * i + 1)).to (rho1 ..))
    · exact fun s => s.casesOn (ok_c ..) (ok_c ..)
    · exact fun s => s.casesOn (ok_c ..) ((ok_c ..).to (Int.natCast_pow i j))
    · exact fun s => s.casesOn (ok_c ..) (ok_c ..)
    · exact fun s => s.casesOn (ok_c ..) (ok_c ..)
    · exact fun s => s.casesOn (ok_c ..) (ok_c ..)
  | op k a b iha ihb =>
    refine selP (P := fun k => ∀ s, Ok (rho N Z) (dV N Z s (.op k a b)) (nrm (.op k a b) s)) ?_ ?_ ?_ ?_ ?_ ?_ (fun k => ?_) k
    · exact fun s => Ok.to (l := nrm (.op 0 a b) s) (v := dV N Z s a + dV N Z s b) (ok_prod (iha s) (ihb s) fun x y h1 h2 h => one ⟨h, (fev_ad ..).trans (congr (congrArg _ h1) h2)⟩) (s.casesOn (Int.natCast_add ..).symm rfl)
    · exact fun s => ok_prod (iha s) (ihb s) fun x y => s.casesOn
        (fun h1 h2 h => ok_two h <| (Nat.lt_or_ge (a.dN N) (b.dN N)).elim
          (fun hl => .inr ⟨F1 (by rw [h1, h2]; exact Int.ofNat_lt.mpr hl), congrArg Int.ofNat (Nat.sub_eq_zero_of_le (Nat.le_of_lt hl)).symm⟩)
          fun hl => .inl ⟨F0 (by rw [h1, h2]; exact Int.ofNat_le.mpr hl), by rw [fev_sb, h1, h2]; exact (Int.ofNat_sub hl).symm⟩)
        fun h1 h2 h => one ⟨h, by rw [fev_sb, h1, h2]; rfl⟩
    · exact fun s => Ok.to (l := nrm (.op 2 a b) s) (v := min (dV N Z s a) (dV N Z s b)) (ok_prod (iha s) (ihb s) fun x y h1 h2 h => ok_two h (h1 ▸ h2 ▸ (Int.le_total (fev x.2 (rho N Z)) (fev y.2 (rho N Z))).imp
        (fun hl => ⟨F0 hl, (Int.min_eq_left hl).symm⟩) fun hl => ⟨F0 hl, (Int.min_eq_right hl).symm⟩)) (s.casesOn (castmin ..) rfl)
    · exact fun s => Ok.to (l := nrm (.op 3 a b) s) (v := max (dV N Z s a) (dV N Z s b)) (ok_prod (iha s) (ihb s) fun x y h1 h2 h => ok_two h (h1 ▸ h2 ▸ (Int.le_total (fev x.2 (rho N Z)) (fev y.2 (rho N Z))).imp
        (fun hl => ⟨F0 hl, (Int.max_eq_right hl).symm⟩) fun hl => ⟨F0 hl, (Int.max_eq_left hl).symm⟩)) (s.casesOn (castmax ..) rfl)
    · exact fun s => s.casesOn (ok_c ..) ((ok_map (iha true)).to (Int.neg_one_mul _))
    · exact fun s => s.casesOn (ok_c ..) (iha false)
    · exact fun s => (ok_map (iha s)).to (s.casesOn (Int.natCast_mul ..).symm rfl)
inductive FP | tf (v : Bool) | at (k : Nat) (s : Bool) (a b : FT) | cn (k : Nat) (p q : FP)
noncomputable def FP.tt : FP := .tf true
noncomputable def FP.ff : FP := .tf false
noncomputable def FP.le (s : Bool) (a b : FT) : FP := .at 0 s a b
noncomputable def FP.lt (s : Bool) (a b : FT) : FP := .at 1 s a b
noncomputable def FP.eq (s : Bool) (a b : FT) : FP := .at 2 s a b
noncomputable def FP.an (p q : FP) : FP := .cn 0 p q
noncomputable def FP.o (p q : FP) : FP := .cn 1 p q
noncomputable def FP.im (p q : FP) : FP := .cn 2 p q
noncomputable def FP.no (p : FP) : FP := .cn 2 p .ff
noncomputable abbrev sel3 {α : Sort u} (a b c : α) (k : Nat) : α := Nat.rec a (fun k _ => Nat.rec b (fun _ _ => c) k) k
theorem sel3P {P : Nat → Prop} (a : P 0) (b : P 1) (c : ∀ k, P (k + 2)) (k : Nat) : P k := Nat.casesOn k a fun k => Nat.casesOn k b c
noncomputable def FP.den (N : List Nat) (Z : List Int) (F : FP) : Prop :=
  FP.rec (fun v => cond v True False)
    (fun k s a b => sel3 (cond s (a.dZ N Z ≤ b.dZ N Z) (a.dN N ≤ b.dN N)) (cond s (a.dZ N Z < b.dZ N Z) (a.dN N < b.dN N)) (cond s (a.dZ N Z = b.dZ N Z) (a.dN N = b.dN N)) k)
    (fun k _ _ p q => sel3 (p ∧ q) (p ∨ q) (p → q) k) F
noncomputable def both (xs ys : List (List LF)) : List (List LF) := prod xs ys fun x y => [x ++ y]
noncomputable def dnf (F : FP) : Bool → List (List LF) :=
  FP.rec (fun v t => cond v (cond t [[]] []) (cond t [] [[]]))
    (fun k s a b t => prod (nrm a s) (nrm b s) fun x y => sel3
      [cond t (fsb y.2 x.2) (f1 (fsb x.2 y.2)) :: (x.1 ++ y.1)]
      [cond t (f1 (fsb y.2 x.2)) (fsb x.2 y.2) :: (x.1 ++ y.1)]
      (cond t [fsb x.2 y.2 :: fsb y.2 x.2 :: (x.1 ++ y.1)] [f1 (fsb x.2 y.2) :: (x.1 ++ y.1), f1 (fsb y.2 x.2) :: (x.1 ++ y.1)]) k)
    (fun k _ _ p q t => sel3 (cond t (both (p true) (q true)) (p false ++ q false)) (cond t (p true ++ q true) (both (p false) (q false))) (cond t (p false ++ q true) (both (p true) (q false))) k) F
noncomputable def Hit (r : Nat → Int) (l : List (List LF)) : Prop := ∃ c ∈ l, ∀ g ∈ c, 0 ≤ fev g r
theorem Hit.l {r l m} (h : Hit r l) : Hit r (l ++ m) := h.elim fun c hc => ⟨c, List.mem_append.mpr (.inl hc.1), hc.2⟩
theorem Hit.r {r l m} (h : Hit r m) : Hit r (l ++ m) := h.elim fun c hc => ⟨c, List.mem_append.mpr (.inr hc.1), hc.2⟩
theorem Hit.both {r l m} (h1 : Hit r l) (h2 : Hit r m) : Hit r (both l m) :=
  h1.elim fun x hx => h2.elim fun y hy => ⟨x ++ y, mem_prod hx.1 hy.1 (.head _), fun g hg => (List.mem_append.mp hg).elim (hx.2 g) (hy.2 g)⟩
noncomputable def Tr (P : Prop) (b : Bool) : Prop := cond b P (¬ P)
theorem Tr.cast {P Q : Prop} {b} (e : P ↔ Q) (h : Tr Q b) : Tr P b := (propext e : P = Q) ▸ h
theorem den_le {N Z s a b} : dV N Z s a ≤ dV N Z s b ↔ FP.den N Z (.at 0 s a b) := s.casesOn Int.ofNat_le Iff.rfl
theorem den_lt {N Z s a b} : dV N Z s a < dV N Z s b ↔ FP.den N Z (.at 1 s a b) := s.casesOn Int.ofNat_lt Iff.rfl
theorem den_eq {N Z s a b} : dV N Z s a = dV N Z s b ↔ FP.den N Z (.at 2 s a b) := s.casesOn Int.ofNat_inj Iff.rfl
theorem dnf_ok (N : List Nat) (Z : List Int) (F : FP) : ∀ (b : Bool), Tr (F.den N Z) b → Hit (rho N Z) (dnf F b) := by
  induction F with
  | tf v => exact fun b => v.casesOn (b.casesOn (fun _ => one nil_ok) fun h => h.elim) (b.casesOn (fun h => (h trivial).elim) fun _ => one nil_ok)
  | «at» k s a b =>
    refine sel3P (P := fun k => ∀ t, Tr (FP.den N Z (.at k s a b)) t → Hit (rho N Z) (dnf (.at k s a b) t)) ?_ ?_ (fun k => ?_) k
    · exact fun t h => ok_prod (nrm_ok N Z a s) (nrm_ok N Z b s) fun x y h1 h2 hg => one (all_cons (by
        have h := Tr.cast den_le h; rw [← h1, ← h2] at h
        cases t; exact F1 (Int.not_le.mp h); exact F0 h) hg)
    · exact fun t h => ok_prod (nrm_ok N Z a s) (nrm_ok N Z b s) fun x y h1 h2 hg => one (all_cons (by
        have h := Tr.cast den_lt h; rw [← h1, ← h2] at h
        cases t; exact F0 (Int.not_lt.mp h); exact F1 h) hg)
    · exact fun t h => ok_prod (nrm_ok N Z a s) (nrm_ok N Z b s) fun x y h1 h2 hg => by
        have h := Tr.cast (P := dV N Z s a = dV N Z s b) den_eq h; rw [← h1, ← h2] at h
        cases t
        · exact (Int.lt_or_gt_of_ne h).elim (fun h => snd (all_cons (F1 h) hg)) fun h => fst (all_cons (F1 h) hg)
        · exact one (all_cons (F0 (Int.le_of_eq h.symm)) (all_cons (F0 (Int.le_of_eq h)) hg))
  | cn k p q hp hq =>
    refine sel3P (P := fun k => ∀ t, Tr (FP.den N Z (.cn k p q)) t → Hit (rho N Z) (dnf (.cn k p q) t)) ?_ ?_ (fun k => ?_) k
    · exact fun t => t.casesOn (fun h => (Classical.em (p.den N Z)).elim (fun x => (hq false fun y => h ⟨x, y⟩).r) fun x => (hp false x).l) fun h => (hp true h.1).both (hq true h.2)
    · exact fun t => t.casesOn (fun h => (hp false fun x => h (.inl x)).both (hq false fun x => h (.inr x))) fun h => Or.elim h (fun h => (hp true h).l) fun h => (hq true h).r
    · exact fun t => t.casesOn (fun h => (hp true (Classical.byContradiction fun x => h fun y => absurd y x)).both (hq false fun x => h fun _ => x))
        fun h => (Classical.em (p.den N Z)).elim (fun x => (hq true (h x)).r) fun x => (hp false x).l
noncomputable def zer (l : List Int) : Bool := l.all (· == 0)
noncomputable def bad (c : LF) : Bool := decide (c.1 < 0) && zer c.2
noncomputable def hdc (c : LF) : Int := c.2.headD 0
noncomputable def tlc (c : LF) : LF := (c.1, c.2.tail)
noncomputable def gcl (l : List Int) : Nat := l.foldl (fun g a => Nat.gcd g a.natAbs) 0
noncomputable def tg (g : Nat) (c : LF) : LF := cond (decide (1 < g) && c.2.all (fun a => a == Int.ofNat g * (a / Int.ofNat g))) (c.1 / Int.ofNat g, c.2.map (· / Int.ofNat g)) c
noncomputable def tight (c : LF) : LF := tg (gcl c.2) c
noncomputable def keepc (c : LF) : Bool := !(decide (0 ≤ c.1) && zer c.2)
noncomputable def elim (cs : List LF) : List LF :=
  (cs.filter (fun c => hdc c == 0)).map tlc ++ (cs.filter (fun c => decide (0 < hdc c))).flatMap fun p => ((cs.filter (fun c => decide (hdc c < 0))).map fun q => tight (fad (fsc (-(hdc q)) (tlc p)) (fsc (hdc p) (tlc q)))).filter keepc
noncomputable def fmo (m : Nat) : List LF → Bool := Nat.rec (fun cs => cs.any bad) (fun _ ih cs => cs.any bad || ih (elim cs)) m
theorem evl_zer (l : List Int) : ∀ (r), zer l = true → evl l r = 0 := by
  induction l with
  | nil => exact fun _ _ => rfl
  | cons x l ih =>
    intro r h
    have h := (Bool.and_eq_true _ _).mp h
    exact (congr (congrArg HAdd.hAdd ((congrArg (· * r 0) (eq_of_beq h.1)).trans (Int.zero_mul _))) (ih _ h.2)).trans (Int.add_zero 0)
theorem fev_ht (c : LF) (r) : fev c r = hdc c * r 0 + fev (tlc c) (fun j => r (j + 1)) := by
  obtain ⟨k, l⟩ := c
  cases l with
  | nil => exact (Int.zero_add _).symm.trans (congrArg (· + fev (k, []) r) (Int.zero_mul (r 0)).symm)
  | cons a l => exact Int.add_left_comm ..
theorem evl_div (g : Int) (l : List Int) : ∀ (r), l.all (fun a => a == g * (a / g)) = true → evl l r = g * evl (l.map (· / g)) r := by
  induction l with
  | nil => exact fun _ _ => (Int.mul_zero g).symm
  | cons x l ih =>
    intro r h
    have h := (Bool.and_eq_true _ _).mp h
    exact (congr (congrArg HAdd.hAdd ((congrArg (· * r 0) (eq_of_beq h.1)).trans (Int.mul_assoc ..))) (ih _ h.2)).trans (Int.mul_add ..).symm
theorem tg_ok (g c r) (h : 0 ≤ fev c r) : 0 ≤ fev (tg g c) r := by
  unfold tg
  cases hc : (decide (1 < g) && c.2.all (fun a => a == Int.ofNat g * (a / Int.ofNat g))) with
  | false => exact h
  | true =>
    have hc := (Bool.and_eq_true _ _).mp hc
    have hg : (0 : Int) < Int.ofNat g := Int.ofNat_lt.mpr (Nat.lt_trans Nat.zero_lt_one (of_decide_eq_true hc.1))
    unfold fev at h
    rw [evl_div _ _ _ hc.2] at h
    have := Int.ediv_nonneg h (Int.le_of_lt hg)
    rw [Int.add_mul_ediv_left _ _ (Int.ne_of_gt hg)] at this
    exact this
theorem elim_ok {cs : List LF} {r : Nat → Int} (h : ∀ g ∈ cs, 0 ≤ fev g r) (g) (hg : g ∈ elim cs) : 0 ≤ fev g (fun j => r (j + 1)) := by
  refine (List.mem_append.mp hg).elim (fun hg => (List.mem_map.mp hg).elim fun c hc => ?_) fun hg => (List.mem_flatMap.mp hg).elim fun p hp => (List.mem_map.mp (List.mem_filter.mp hp.2).1).elim fun q hq => ?_
  · have hc1 := List.mem_filter.mp hc.1
    have h0 := h c hc1.1
    rw [fev_ht, eq_of_beq hc1.2, Int.zero_mul, Int.zero_add] at h0
    exact hc.2 ▸ h0
  · have hp1 := List.mem_filter.mp hp.1
    have hq1 := List.mem_filter.mp hq.1
    have h1 := Int.mul_nonneg (Int.neg_nonneg_of_nonpos (Int.le_of_lt (of_decide_eq_true hq1.2))) (h p hp1.1)
    have h2 := Int.add_nonneg h1 (Int.mul_nonneg (Int.le_of_lt (of_decide_eq_true hp1.2)) (h q hq1.1))
    rw [fev_ht p, fev_ht q, Int.mul_add, Int.mul_add, a4, ← Int.mul_assoc, ← Int.mul_assoc, ← Int.add_mul, Int.neg_mul, Int.mul_comm (hdc q), Int.add_left_neg, Int.zero_mul, Int.zero_add, ← fev_sc, ← fev_sc] at h2
    exact hq.2 ▸ tg_ok _ _ _ (by rw [fev_ad]; exact h2)
theorem bad_ok {cs : List LF} {r : Nat → Int} (h : ∀ g ∈ cs, 0 ≤ fev g r) (hb : cs.any bad = true) : False :=
  (List.any_eq_true.mp hb).elim fun c hc => by
    have hb := (Bool.and_eq_true _ _).mp hc.2
    have h0 := h c hc.1
    unfold fev at h0; rw [evl_zer _ _ hb.2, Int.add_zero] at h0
    exact absurd h0 (Int.not_le.mpr (of_decide_eq_true hb.1))
theorem fmo_ok (m : Nat) : ∀ (cs : List LF) (r : Nat → Int), (∀ g ∈ cs, 0 ≤ fev g r) → fmo m cs = true → False := by
  induction m with
  | zero => exact fun cs r h hb => bad_ok h hb
  | succ m ih => exact fun cs r h hb => ((Bool.or_eq_true _ _).mp hb).elim (bad_ok h) (ih _ _ (elim_ok h))
noncomputable def pos (m : Nat) : List LF := Nat.rec [] (fun m ih => (0, lun (2 * m)) :: ih) m
theorem pos_ok (N Z) (m) : ∀ g ∈ pos m, 0 ≤ fev g (rho N Z) := by
  induction m with
  | zero => exact nil_ok
  | succ m ih => exact all_cons (by rw [show fev (0, lun (2 * m)) (rho N Z) = _ from (Int.zero_add _).trans ((evl_un ..).trans (rho0 N Z m))]; exact Int.natCast_nonneg _) ih
noncomputable def FP.chk (m : Nat) (F : FP) : Bool := (dnf F false).all fun c => fmo (2 * m) (pos m ++ c.map tight)
theorem arith (N : List Nat) (Z : List Int) (m : Nat) (F : FP) (h : F.chk m = true) : F.den N Z :=
  Classical.byContradiction fun hn => (dnf_ok N Z F false hn).elim fun c hc => fmo_ok _ _ (rho N Z) (fun g hg => (List.mem_append.mp hg).elim (pos_ok N Z m g) fun hg => (List.mem_map.mp hg).elim fun d hd => hd.2 ▸ tg_ok _ _ _ (hc.2 d hd.1)) (List.all_eq_true.mp h c hc.1)
theorem divN (a k : Nat) (h : 0 < k) : k * (a / k) ≤ a ∧ a < k * (a / k) + k := ⟨Nat.mul_div_le a k, Nat.lt_mul_div_succ a h⟩
theorem modN (a k : Nat) (h : 0 < k) : a % k < k ∧ k * (a / k) + a % k = a := ⟨Nat.mod_lt a h, Nat.div_add_mod a k⟩
theorem divZ (a k : Int) (h : 0 < k) : k * (a / k) ≤ a ∧ a < k * (a / k) + k := ⟨Int.mul_ediv_self_le (Int.ne_of_gt h), Int.lt_mul_ediv_self_add h⟩
theorem modZ (a k : Int) (h : 0 < k) : (0 ≤ a % k ∧ a % k < k) ∧ k * (a / k) + a % k = a := ⟨⟨Int.emod_nonneg a (Int.ne_of_gt h), Int.emod_lt_of_pos a h⟩, Int.mul_ediv_add_emod a k⟩
theorem toN (a : Int) : (0 ≤ a ∧ ((a.toNat : Nat) : Int) = a) ∨ (a < 0 ∧ a.toNat = 0) := (Int.lt_or_le a 0).symm.imp (fun h => ⟨h, Int.toNat_of_nonneg h⟩) fun h => ⟨h, Int.toNat_of_nonpos (Int.le_of_lt h)⟩
theorem absN (a : Int) : (0 ≤ a ∧ ((a.natAbs : Nat) : Int) = a) ∨ (a < 0 ∧ ((a.natAbs : Nat) : Int) = -a) := (Int.lt_or_le a 0).symm.imp (fun h => ⟨h, Int.natAbs_of_nonneg h⟩) fun h => ⟨h, Int.ofNat_natAbs_of_nonpos (Int.le_of_lt h)⟩
end Ar
theorem o9_1 {x1 x2 : Nat} {x0 : Int} (h0 : Int.toNat x0 < x1) (h1 : x1 ≤ 16777216) (h2 : x2 = x1) : x0 < (2 : Int) ^ 63 := Ar.arith [x2, x1, Int.toNat x0] [x0] 3 (.im (.o (.an (.le true (.k 0) (.z 0)) (.eq true (.up (.n 2)) (.z 0))) (.an (.lt true (.z 0) (.k 0)) (.eq false (.n 2) (.k 0)))) (.im (.lt false (.n 2) (.n 1)) (.im (.le false (.n 1) (.k 16777216)) (.im (.eq false (.n 0) (.n 1)) (.lt true (.z 0) (.pw 2 63)))))) (by kernel_rfl) (Ar.toN x0) h0 h1 h2
theorem o9_2 {x0 : Int} (h0 : ¬ (0 : Int) ≤ x0) : x0 < (0 : Int) := Ar.arith [] [x0] 1 (.im (.no (.le true (.k 0) (.z 0))) (.lt true (.z 0) (.k 0))) (Eq.refl true) h0
theorem o9_3 {x0 x2 : Nat} {x1 : Int} (h0 : (-(x2 : Int)) ≤ x1) (h1 : x0 = x2) : (-(x0 : Int)) ≤ x1 := Ar.arith [x0, x2] [x1] 2 (.im (.le true (.ng (.up (.n 1))) (.z 0)) (.im (.eq false (.n 0) (.n 1)) (.le true (.ng (.up (.n 0))) (.z 0)))) (Eq.refl true) h0 h1
theorem o9_4 {x1 x2 : Nat} {x0 : Int} (h0 : (-(x1 : Int)) ≤ x0) (h1 : x1 ≤ 16777216) (h2 : x2 = x1) : (-(2 : Int) ^ 63) ≤ x0 := Ar.arith [x1, x2] [x0] 2 (.im (.le true (.ng (.up (.n 0))) (.z 0)) (.im (.le false (.n 0) (.k 16777216)) (.im (.eq false (.n 1) (.n 0)) (.le true (.ng (.pw 2 63)) (.z 0))))) (Eq.refl true) h0 h1 h2
theorem o9_5 {x0 : Int} (h0 : (0 : Int) ≤ x0) : (-(2 : Int) ^ 63) ≤ x0 := Ar.arith [] [x0] 1 (.im (.le true (.k 0) (.z 0)) (.le true (.ng (.pw 2 63)) (.z 0))) (Eq.refl true) h0
theorem o9_6 {x1 x2 : Nat} {x0 : Int} (h0 : Int.toNat x0 < x1) (h1 : x1 ≤ 1000) (h2 : x2 = x1) : x0 < (2 : Int) ^ 63 := Ar.arith [x2, x1, Int.toNat x0] [x0] 3 (.im (.o (.an (.le true (.k 0) (.z 0)) (.eq true (.up (.n 2)) (.z 0))) (.an (.lt true (.z 0) (.k 0)) (.eq false (.n 2) (.k 0)))) (.im (.lt false (.n 2) (.n 1)) (.im (.le false (.n 1) (.k 1000)) (.im (.eq false (.n 0) (.n 1)) (.lt true (.z 0) (.pw 2 63)))))) (by kernel_rfl) (Ar.toN x0) h0 h1 h2
theorem o9_7 {x0 : Int} (h0 : (0 : Int) ≤ x0) : ¬ x0 < (0 : Int) := Ar.arith [] [x0] 1 (.im (.le true (.k 0) (.z 0)) (.no (.lt true (.z 0) (.k 0)))) (Eq.refl true) h0
theorem o9_8 {x1 x2 : Nat} {x0 : Int} (h0 : (0 : Int) ≤ x0) (h1 : Int.toNat x0 < x2) (h2 : x1 = x2) : (0 : Int) ≤ x0 ∧ x0 < (x1 : Int) := Ar.arith [x2, x1, Int.toNat x0] [x0] 3 (.im (.o (.an (.le true (.k 0) (.z 0)) (.eq true (.up (.n 2)) (.z 0))) (.an (.lt true (.z 0) (.k 0)) (.eq false (.n 2) (.k 0)))) (.im (.le true (.k 0) (.z 0)) (.im (.lt false (.n 2) (.n 0)) (.im (.eq false (.n 1) (.n 0)) (.an (.le true (.k 0) (.z 0)) (.lt true (.z 0) (.up (.n 1)))))))) (by kernel_rfl) (Ar.toN x0) h0 h1 h2
theorem o9_9 {x1 x2 : Nat} {x0 : Int} (h0 : (-(x1 : Int)) ≤ x0) (h1 : x1 ≤ 1000) (h2 : x2 = x1) : (-(2 : Int) ^ 63) ≤ x0 := Ar.arith [x1, x2] [x0] 2 (.im (.le true (.ng (.up (.n 0))) (.z 0)) (.im (.le false (.n 0) (.k 1000)) (.im (.eq false (.n 1) (.n 0)) (.le true (.ng (.pw 2 63)) (.z 0))))) (Eq.refl true) h0 h1 h2
theorem o9_10 {x0 : Int} (h0 : ¬ (0 : Int) ≤ x0) : x0 < (2 : Int) ^ 63 := Ar.arith [] [x0] 1 (.im (.no (.le true (.k 0) (.z 0))) (.lt true (.z 0) (.pw 2 63))) (Eq.refl true) h0
theorem o9_11 {x1 x2 : Nat} {x0 : Int} (h0 : (-(x1 : Int)) ≤ x0) (h1 : x2 = x1) (h2 : ¬ (0 : Int) ≤ x0) : (0 : Int) ≤ x0 + (x1 : Int) ∧ x0 + (x1 : Int) < (x1 : Int) := Ar.arith [x1, x2] [x0] 2 (.im (.le true (.ng (.up (.n 0))) (.z 0)) (.im (.eq false (.n 1) (.n 0)) (.im (.no (.le true (.k 0) (.z 0))) (.an (.le true (.k 0) (.ad (.z 0) (.up (.n 0)))) (.lt true (.ad (.z 0) (.up (.n 0))) (.up (.n 0))))))) (Eq.refl true) h0 h1 h2
theorem o9_12 {x0 x1 : Nat} (h0 : x1 < x0) : x0 + 1 - (x1 + 1) < x0 + 1 - x1 := Ar.arith [x0, x1] [] 2 (.im (.lt false (.n 1) (.n 0)) (.lt false (.sb (.ad (.n 0) (.k 1)) (.ad (.n 1) (.k 1))) (.sb (.ad (.n 0) (.k 1)) (.n 1)))) (Eq.refl true) h0
theorem o9_13 {x0 x1 : Nat} (h0 : x0 ≤ x1) (h1 : ¬ x0 < x1) : x0 = x1 := Ar.arith [x0, x1] [] 2 (.im (.le false (.n 0) (.n 1)) (.im (.no (.lt false (.n 0) (.n 1))) (.eq false (.n 0) (.n 1)))) (Eq.refl true) h0 h1
theorem o9_14 {x0 x1 x2 x3 : Nat} (h0 : x0 ≤ x2) (h1 : x2 < x3) (h2 : x3 ≤ x1) : x0 ≤ x1 := Ar.arith [x0, x1, x2, x3] [] 4 (.im (.le false (.n 0) (.n 2)) (.im (.lt false (.n 2) (.n 3)) (.im (.le false (.n 3) (.n 1)) (.le false (.n 0) (.n 1))))) (Eq.refl true) h0 h1 h2
theorem o9_15 {x0 x1 : Nat} (h0 : x0 ≤ x1) : x0 ≤ x1 := Ar.arith [x0, x1] [] 2 (.im (.le false (.n 0) (.n 1)) (.le false (.n 0) (.n 1))) (Eq.refl true) h0
theorem o9_16 {x0 x1 : Nat} (h0 : x0 = x1) (h1 : x1 ≤ 16777216) : (x0 : Int) < (2 : Int) ^ 63 := Ar.arith [x0, x1] [] 2 (.im (.eq false (.n 0) (.n 1)) (.im (.le false (.n 1) (.k 16777216)) (.lt true (.up (.n 0)) (.pw 2 63)))) (Eq.refl true) h0 h1
theorem o9_17 {x0 x1 : Nat} (h0 : (x0 : Int) < (x1 : Int)) : x0 < x1 := Ar.arith [x0, x1] [] 2 (.im (.lt true (.up (.n 0)) (.up (.n 1))) (.lt false (.n 0) (.n 1))) (Eq.refl true) h0
theorem o9_18 {x1 x2 : Nat} {x0 : Int} (h0 : x0 < (x1 : Int)) (h1 : x1 ≤ 16777216) (h2 : x2 = x1) : x0 < (2 : Int) ^ 63 := Ar.arith [x1, x2] [x0] 2 (.im (.lt true (.z 0) (.up (.n 0))) (.im (.le false (.n 0) (.k 16777216)) (.im (.eq false (.n 1) (.n 0)) (.lt true (.z 0) (.pw 2 63))))) (Eq.refl true) h0 h1 h2
theorem o9_19 {x1 : Nat} {x0 : Int} (h0 : x0 < (x1 : Int)) : x0 < (x1 : Int) := Ar.arith [x1] [x0] 1 (.im (.lt true (.z 0) (.up (.n 0))) (.lt true (.z 0) (.up (.n 0)))) (Eq.refl true) h0
theorem o9_20 {x1 x2 : Nat} {x0 : Int} (h0 : x0 ≤ (x1 : Int)) (h1 : x1 ≤ 16777216) (h2 : x2 = x1) : x0 < (2 : Int) ^ 63 := Ar.arith [x1, x2] [x0] 2 (.im (.le true (.z 0) (.up (.n 0))) (.im (.le false (.n 0) (.k 16777216)) (.im (.eq false (.n 1) (.n 0)) (.lt true (.z 0) (.pw 2 63))))) (Eq.refl true) h0 h1 h2
theorem o9_21 {x1 x2 : Nat} {x0 : Int} (h0 : x0 ≤ (x2 : Int)) (h1 : x1 = x2) (h2 : x2 ≤ 16777216) : Int.toNat x0 ≤ x1 := Ar.arith [Int.toNat x0, x1, x2] [x0] 3 (.im (.o (.an (.le true (.k 0) (.z 0)) (.eq true (.up (.n 0)) (.z 0))) (.an (.lt true (.z 0) (.k 0)) (.eq false (.n 0) (.k 0)))) (.im (.le true (.z 0) (.up (.n 2))) (.im (.eq false (.n 1) (.n 2)) (.im (.le false (.n 2) (.k 16777216)) (.le false (.n 0) (.n 1)))))) (by kernel_rfl) (Ar.toN x0) h0 h1 h2
theorem o9_22 {x1 x2 x3 : Nat} {x0 : Int} (h0 : x0 ≤ (x1 : Int)) (h1 : x1 < x2) (h2 : x1 ≤ 16777216) (h3 : x3 = x1) : min (Int.toNat x0) x1 + (x1 - Int.toNat x0 + 1) ≤ x2 := Ar.arith [x2, Int.toNat x0, x1, x3] [x0] 4 (.im (.o (.an (.le true (.k 0) (.z 0)) (.eq true (.up (.n 1)) (.z 0))) (.an (.lt true (.z 0) (.k 0)) (.eq false (.n 1) (.k 0)))) (.im (.le true (.z 0) (.up (.n 2))) (.im (.lt false (.n 2) (.n 0)) (.im (.le false (.n 2) (.k 16777216)) (.im (.eq false (.n 3) (.n 2)) (.le false (.ad (.mn (.n 1) (.n 2)) (.ad (.sb (.n 2) (.n 1)) (.k 1))) (.n 0))))))) (by kernel_rfl) (Ar.toN x0) h0 h1 h2 h3
theorem o9_23 {x0 x1 : Nat} (h0 : (0 : Int) = (x1 : Int) - (x0 : Int)) : x0 ≤ x1 := Ar.arith [x0, x1] [] 2 (.im (.eq true (.k 0) (.sb (.up (.n 1)) (.up (.n 0)))) (.le false (.n 0) (.n 1))) (Eq.refl true) h0
theorem o9_24 {x0 x1 x2 : Nat} (h0 : (-((x2 : Int) + (1 : Int))) = (x0 : Int) - (x1 : Int)) : x0 < x1 := Ar.arith [x0, x1, x2] [] 3 (.im (.eq true (.ng (.ad (.up (.n 2)) (.k 1))) (.sb (.up (.n 0)) (.up (.n 1)))) (.lt false (.n 0) (.n 1))) (Eq.refl true) h0
theorem o9_25 {x0 x1 x2 : Nat} (h0 : (x2 : Int) + (1 : Int) = (x1 : Int) - (x0 : Int)) : x0 ≤ x1 := Ar.arith [x0, x1, x2] [] 3 (.im (.eq true (.ad (.up (.n 2)) (.k 1)) (.sb (.up (.n 1)) (.up (.n 0)))) (.le false (.n 0) (.n 1))) (Eq.refl true) h0
theorem o9_26 {x0 x1 : Nat} : (x0 : Int) - (x1 : Int) = ((x0 + 1 : Nat) : Int) - ((x1 + 1 : Nat) : Int) := Ar.arith [x0, x1] [] 2 (.eq true (.sb (.up (.n 0)) (.up (.n 1))) (.sb (.up (.ad (.n 0) (.k 1))) (.up (.ad (.n 1) (.k 1))))) (Eq.refl true)
theorem o9_27 {x0 x1 : Int} (h0 : x0 < x1) : x0 = min x1 x0 := Ar.arith [] [x0, x1] 2 (.im (.lt true (.z 0) (.z 1)) (.eq true (.z 0) (.mn (.z 1) (.z 0)))) (Eq.refl true) h0
theorem o9_28 {x0 x1 : Int} (h0 : ¬ x1 < x0) : x0 = min x0 x1 := Ar.arith [] [x0, x1] 2 (.im (.no (.lt true (.z 1) (.z 0))) (.eq true (.z 0) (.mn (.z 0) (.z 1)))) (Eq.refl true) h0
theorem o9_29 {x0 x1 : Nat} (h0 : x0 = x1) : x0 ≤ x1 := Ar.arith [x0, x1] [] 2 (.im (.eq false (.n 0) (.n 1)) (.le false (.n 0) (.n 1))) (Eq.refl true) h0
theorem o9_30 {x0 : Nat} (h0 : x0 ≤ 0) : x0 = 0 := Ar.arith [x0] [] 1 (.im (.le false (.n 0) (.k 0)) (.eq false (.n 0) (.k 0))) (Eq.refl true) h0
theorem o9_31 {x0 x1 : Nat} (h0 : x0 < x1 + 1) : x0 ≤ x1 := Ar.arith [x0, x1] [] 2 (.im (.lt false (.n 0) (.ad (.n 1) (.k 1))) (.le false (.n 0) (.n 1))) (Eq.refl true) h0
theorem o9_32 {x0 x1 x2 : Int} (h0 : x0 ≤ x2) (h1 : x2 < x1) : x0 ≤ x1 := Ar.arith [] [x0, x1, x2] 3 (.im (.le true (.z 0) (.z 2)) (.im (.lt true (.z 2) (.z 1)) (.le true (.z 0) (.z 1)))) (Eq.refl true) h0 h1
theorem o9_33 {x0 x1 : Nat} (h0 : x1 + 1 ≤ x0) (h1 : x0 ≤ x1 + 1) : x0 = x1 + 1 := Ar.arith [x0, x1] [] 2 (.im (.le false (.ad (.n 1) (.k 1)) (.n 0)) (.im (.le false (.n 0) (.ad (.n 1) (.k 1))) (.eq false (.n 0) (.ad (.n 1) (.k 1))))) (Eq.refl true) h0 h1
theorem o9_34 {x0 x1 : Nat} (h0 : x0 ≤ x1) : x0 ≤ x1 + 1 := Ar.arith [x0, x1] [] 2 (.im (.le false (.n 0) (.n 1)) (.le false (.n 0) (.ad (.n 1) (.k 1)))) (Eq.refl true) h0
theorem o9_35 {x0 x1 : Int} (h0 : ¬ x1 < x0) : x0 ≤ x1 := Ar.arith [] [x0, x1] 2 (.im (.no (.lt true (.z 1) (.z 0))) (.le true (.z 0) (.z 1))) (Eq.refl true) h0
theorem o9_36 {x0 x1 x2 : Int} (h0 : x0 < x2) (h1 : x2 ≤ x1) : x0 ≤ x1 := Ar.arith [] [x0, x1, x2] 3 (.im (.lt true (.z 0) (.z 2)) (.im (.le true (.z 2) (.z 1)) (.le true (.z 0) (.z 1)))) (Eq.refl true) h0 h1
theorem o9_37 {x0 x1 : Nat} (h0 : 0 < x1) (h1 : x0 = x1) : 0 < x0 := Ar.arith [x0, x1] [] 2 (.im (.lt false (.k 0) (.n 1)) (.im (.eq false (.n 0) (.n 1)) (.lt false (.k 0) (.n 0)))) (Eq.refl true) h0 h1
theorem o9_39 {x0 x1 x2 x3 : Nat} (h0 : 0 < x1) (h1 : x0 < x1) (h2 : x2 = x1) (h3 : x3 = x1) : x0 ≤ x1 - 1 := Ar.arith [x0, x1, x2, x3] [] 4 (.im (.lt false (.k 0) (.n 1)) (.im (.lt false (.n 0) (.n 1)) (.im (.eq false (.n 2) (.n 1)) (.im (.eq false (.n 3) (.n 1)) (.le false (.n 0) (.sb (.n 1) (.k 1))))))) (by kernel_rfl) h0 h1 h2 h3
theorem o9_40 {x0 x1 : Nat} (h0 : x0 + 1 = x1 + 1) : x0 = x1 := Ar.arith [x0, x1] [] 2 (.im (.eq false (.ad (.n 0) (.k 1)) (.ad (.n 1) (.k 1))) (.eq false (.n 0) (.n 1))) (Eq.refl true) h0
theorem o9_41 {x0 x1 : Nat} (h0 : x0 = x1) : x0 + 1 = x1 + 1 := Ar.arith [x0, x1] [] 2 (.im (.eq false (.n 0) (.n 1)) (.eq false (.ad (.n 0) (.k 1)) (.ad (.n 1) (.k 1)))) (Eq.refl true) h0
theorem o9_42 {x0 x1 : Nat} (h0 : x0 + 1 < x1) : x0 < x1 := Ar.arith [x0, x1] [] 2 (.im (.lt false (.ad (.n 0) (.k 1)) (.n 1)) (.lt false (.n 0) (.n 1))) (Eq.refl true) h0
theorem o9_43 {x0 x1 x2 x3 x4 : Nat} (h0 : x0 = x2 + x3) (h1 : x1 = x2 + x3 + x4) : x0 ≤ x1 := Ar.arith [x4, x0, x1, x2, x3] [] 5 (.im (.eq false (.n 1) (.ad (.n 3) (.n 4))) (.im (.eq false (.n 2) (.ad (.ad (.n 3) (.n 4)) (.n 0))) (.le false (.n 1) (.n 2)))) (Eq.refl true) h0 h1
theorem o9_44 {x0 x1 x2 : Nat} (h0 : x0 ≤ x1 ∧ x1 < x0 + x2) (h1 : x1 < x0) : False := Ar.arith [x0, x1, x2] [] 3 (.im (.an (.le false (.n 0) (.n 1)) (.lt false (.n 1) (.ad (.n 0) (.n 2)))) (.im (.lt false (.n 1) (.n 0)) .ff)) (Eq.refl true) h0 h1
theorem o9_45 {x0 x1 x2 : Nat} (h0 : x0 + (x0 + x1) - 1 - x2 < x0) (h1 : x0 ≤ x2 ∧ x2 < x0 + x1) : False := Ar.arith [x1, x0, x2] [] 3 (.im (.lt false (.sb (.sb (.ad (.n 1) (.ad (.n 1) (.n 0))) (.k 1)) (.n 2)) (.n 1)) (.im (.an (.le false (.n 1) (.n 2)) (.lt false (.n 2) (.ad (.n 1) (.n 0)))) .ff)) (by kernel_rfl) h0 h1
theorem o9_46 {x0 x1 x2 : Nat} (h0 : x0 ≤ x1 ∧ x1 < x0 + x2) (h1 : ¬ x1 < x0 + x2) : False := Ar.arith [x0, x1, x2] [] 3 (.im (.an (.le false (.n 0) (.n 1)) (.lt false (.n 1) (.ad (.n 0) (.n 2)))) (.im (.no (.lt false (.n 1) (.ad (.n 0) (.n 2)))) .ff)) (Eq.refl true) h0 h1
theorem o9_47 {x0 x1 x2 : Nat} (h0 : x0 ≤ x1 ∧ x1 < x0 + x2) (h1 : ¬ x0 + (x0 + x2) - 1 - x1 < x0 + x2) : False := Ar.arith [x1, x0, x2] [] 3 (.im (.an (.le false (.n 1) (.n 0)) (.lt false (.n 0) (.ad (.n 1) (.n 2)))) (.im (.no (.lt false (.sb (.sb (.ad (.n 1) (.ad (.n 1) (.n 2))) (.k 1)) (.n 0)) (.ad (.n 1) (.n 2)))) .ff)) (by kernel_rfl) h0 h1
theorem o9_48 {x0 x1 x2 : Nat} (h0 : x0 < x1 + x2) (h1 : ¬ (x1 ≤ x0 ∧ x0 < x1 + x2)) (h2 : ¬ x0 < x1) : False := Ar.arith [x0, x1, x2] [] 3 (.im (.lt false (.n 0) (.ad (.n 1) (.n 2))) (.im (.no (.an (.le false (.n 1) (.n 0)) (.lt false (.n 0) (.ad (.n 1) (.n 2))))) (.im (.no (.lt false (.n 0) (.n 1))) .ff))) (Eq.refl true) h0 h1 h2
theorem o9_49 {x0 x1 x2 : Nat} (h0 : x1 ≤ x0 ∧ x0 < x1 + x2) : x0 - x1 < x2 := Ar.arith [x0, x1, x2] [] 3 (.im (.an (.le false (.n 1) (.n 0)) (.lt false (.n 0) (.ad (.n 1) (.n 2)))) (.lt false (.sb (.n 0) (.n 1)) (.n 2))) (Eq.refl true) h0
theorem o9_51 {x0 x1 x2 : Nat} (h0 : x1 = x0 + (x2 + 2)) : x0 + 1 < x1 := Ar.arith [x0, x1, x2] [] 3 (.im (.eq false (.n 1) (.ad (.n 0) (.ad (.n 2) (.k 2)))) (.lt false (.ad (.n 0) (.k 1)) (.n 1))) (Eq.refl true) h0
theorem o9_52 {x0 x1 x2 : Nat} (h0 : x1 = x0 + (x2 + 2)) : x0 < x1 := Ar.arith [x0, x1, x2] [] 3 (.im (.eq false (.n 1) (.ad (.n 0) (.ad (.n 2) (.k 2)))) (.lt false (.n 0) (.n 1))) (Eq.refl true) h0
theorem o9_53 {x0 x1 : Nat} (h0 : x1 < x0) : ¬ x0 = x1 := Ar.arith [x0, x1] [] 2 (.im (.lt false (.n 1) (.n 0)) (.no (.eq false (.n 0) (.n 1)))) (Eq.refl true) h0
theorem o9_54 {x0 x1 : Nat} (h0 : x1 < x0) : ¬ x0 + 1 = x1 := Ar.arith [x0, x1] [] 2 (.im (.lt false (.n 1) (.n 0)) (.no (.eq false (.ad (.n 0) (.k 1)) (.n 1)))) (Eq.refl true) h0
theorem o9_55 {x0 x1 : Nat} (h0 : x1 < x0) : x0 = x1 + (x0 - x1 - 1) + 1 := Ar.arith [x0, x1] [] 2 (.im (.lt false (.n 1) (.n 0)) (.eq false (.n 0) (.ad (.ad (.n 1) (.sb (.sb (.n 0) (.n 1)) (.k 1))) (.k 1)))) (by kernel_rfl) h0
theorem o9_56 {x0 x1 : Nat} (h0 : x0 < x0 + x1 + 1) : ¬ x0 = x0 + x1 + 1 := Ar.arith [x0, x1] [] 2 (.im (.lt false (.n 0) (.ad (.ad (.n 0) (.n 1)) (.k 1))) (.no (.eq false (.n 0) (.ad (.ad (.n 0) (.n 1)) (.k 1))))) (Eq.refl true) h0
theorem o9_57 {x0 x1 : Nat} : ¬ x0 + 1 = x0 + (x1 + 1) + 1 := Ar.arith [x0, x1] [] 2 (.no (.eq false (.ad (.n 0) (.k 1)) (.ad (.ad (.n 0) (.ad (.n 1) (.k 1))) (.k 1)))) (Eq.refl true)
theorem o9_58 {x0 x1 : Nat} : x0 ≤ x0 + (x1 + 1) + 1 := Ar.arith [x0, x1] [] 2 (.le false (.n 0) (.ad (.ad (.n 0) (.ad (.n 1) (.k 1))) (.k 1))) (Eq.refl true)
theorem o9_59 {x0 x1 : Nat} : x0 + (x1 + 1) + 1 - x0 = x1 + 2 := Ar.arith [x0, x1] [] 2 (.eq false (.sb (.ad (.ad (.n 0) (.ad (.n 1) (.k 1))) (.k 1)) (.n 0)) (.ad (.n 1) (.k 2))) (Eq.refl true)
theorem o9_60 {x0 x1 x2 : Nat} : x0 + x1 + (x2 + 1) = x0 + (x1 + 1) + x2 := Ar.arith [x0, x1, x2] [] 3 (.eq false (.ad (.ad (.n 0) (.n 1)) (.ad (.n 2) (.k 1))) (.ad (.ad (.n 0) (.ad (.n 1) (.k 1))) (.n 2))) (Eq.refl true)
theorem o9_61 {x0 x1 x2 : Nat} : x0 + x1 + (x2 + 1) - x2 = x0 + x1 + 1 := Ar.arith [x0, x1, x2] [] 3 (.eq false (.sb (.ad (.ad (.n 0) (.n 1)) (.ad (.n 2) (.k 1))) (.n 2)) (.ad (.ad (.n 0) (.n 1)) (.k 1))) (Eq.refl true)
theorem o9_62 {x0 : Nat} (h0 : 0 < x0) : max x0 1 = x0 := Ar.arith [x0] [] 1 (.im (.lt false (.k 0) (.n 0)) (.eq false (.mx (.n 0) (.k 1)) (.n 0))) (Eq.refl true) h0
theorem o9_63 {x0 x1 : Nat} : max x0 (x0 + x1) - x0 = x1 := Ar.arith [x1, x0] [] 2 (.eq false (.sb (.mx (.n 1) (.ad (.n 1) (.n 0))) (.n 1)) (.n 0)) (Eq.refl true)
theorem o9_64 {x0 x1 x2 x3 : Nat} (h0 : x0 < x1 + x2) (h1 : x1 ≤ x0) (h2 : x3 = x0) : x0 - x1 < x2 := Ar.arith [x1, x0, x2, x3] [] 4 (.im (.lt false (.n 1) (.ad (.n 0) (.n 2))) (.im (.le false (.n 0) (.n 1)) (.im (.eq false (.n 3) (.n 1)) (.lt false (.sb (.n 1) (.n 0)) (.n 2))))) (Eq.refl true) h0 h1 h2
theorem o9_65 {x0 x1 x2 : Nat} (h0 : x1 ≤ x0) (h1 : x2 = x0) : x0 - x1 + 1 = x0 + 1 - x1 := Ar.arith [x1, x0, x2] [] 3 (.im (.le false (.n 0) (.n 1)) (.im (.eq false (.n 2) (.n 1)) (.eq false (.ad (.sb (.n 1) (.n 0)) (.k 1)) (.sb (.ad (.n 1) (.k 1)) (.n 0))))) (by kernel_rfl) h0 h1
theorem o9_66 {x0 x1 x2 : Nat} (h0 : x1 ≤ x0) (h1 : x2 = x0) : x0 + 1 - x1 = x0 - x1 + 1 := Ar.arith [x1, x0, x2] [] 3 (.im (.le false (.n 0) (.n 1)) (.im (.eq false (.n 2) (.n 1)) (.eq false (.sb (.ad (.n 1) (.k 1)) (.n 0)) (.ad (.sb (.n 1) (.n 0)) (.k 1))))) (by kernel_rfl) h0 h1
theorem o9_67 {x0 x1 x2 x3 : Nat} (h0 : 0 < x2) (h1 : x2 ≤ x1) (h2 : x3 = x1) : x0 ≤ x0 + x1 := Ar.arith [x0, x1, x2, x3] [] 4 (.im (.lt false (.k 0) (.n 2)) (.im (.le false (.n 2) (.n 1)) (.im (.eq false (.n 3) (.n 1)) (.le false (.n 0) (.ad (.n 0) (.n 1)))))) (Eq.refl true) h0 h1 h2
theorem o9_68 {x0 x1 x2 x3 : Nat} (h0 : 0 < x3) (h1 : x0 = x2) (h2 : x3 ≤ x2) : x0 ≤ x1 + x2 - x1 := Ar.arith [x2, x0, x1, x3] [] 4 (.im (.lt false (.k 0) (.n 3)) (.im (.eq false (.n 1) (.n 0)) (.im (.le false (.n 3) (.n 0)) (.le false (.n 1) (.sb (.ad (.n 2) (.n 0)) (.n 2)))))) (by kernel_rfl) h0 h1 h2
theorem o9_69 {x0 x1 x2 : Nat} (h0 : x2 = x1) : x0 + x1 - x0 - x2 = 0 := Ar.arith [x1, x0, x2] [] 3 (.im (.eq false (.n 2) (.n 0)) (.eq false (.sb (.sb (.ad (.n 1) (.n 0)) (.n 1)) (.n 2)) (.k 0))) (by kernel_rfl) h0
theorem o9_70 {x0 x1 : Nat} : x0 ≤ x0 + x1 := Ar.arith [x0, x1] [] 2 (.le false (.n 0) (.ad (.n 0) (.n 1))) (Eq.refl true)
theorem o9_71 {x0 x1 x2 x3 x4 : Nat} (h0 : 0 < x3) (h1 : x1 < x2) (h2 : x2 = x4) (h3 : x3 ≤ x4) : x0 + x1 - x0 < x2 := Ar.arith [x1, x2, x3, x4, x0] [] 5 (.im (.lt false (.k 0) (.n 2)) (.im (.lt false (.n 0) (.n 1)) (.im (.eq false (.n 1) (.n 3)) (.im (.le false (.n 2) (.n 3)) (.lt false (.sb (.ad (.n 4) (.n 0)) (.n 4)) (.n 1)))))) (Eq.refl true) h0 h1 h2 h3
theorem o9_72 {x0 x1 : Nat} : x0 + x1 - x0 = x1 := Ar.arith [x0, x1] [] 2 (.eq false (.sb (.ad (.n 0) (.n 1)) (.n 0)) (.n 1)) (Eq.refl true)
theorem o9_73 {x0 x1 : Nat} (h0 : x1 = x0) : 0 ≤ x0 := Ar.arith [x0, x1] [] 2 (.im (.eq false (.n 1) (.n 0)) (.le false (.k 0) (.n 0))) (Eq.refl true) h0
theorem o9_74 {x0 : Nat} : x0 ≤ x0 := Ar.arith [x0] [] 1 (.le false (.n 0) (.n 0)) (Eq.refl true)
theorem o9_75 {x0 : Nat} : x0 - 0 ≤ x0 - 0 := Ar.arith [x0] [] 1 (.le false (.sb (.n 0) (.k 0)) (.sb (.n 0) (.k 0))) (Eq.refl true)
theorem o9_76 {x0 : Nat} (h0 : x0 < 0) : False := Ar.arith [x0] [] 1 (.im (.lt false (.n 0) (.k 0)) .ff) (Eq.refl true) h0
theorem o9_77 {x0 x1 x2 : Nat} (h0 : x0 < x1) (h1 : x1 = x2) (h2 : x2 ≤ x0) : False := Ar.arith [x0, x1, x2] [] 3 (.im (.lt false (.n 0) (.n 1)) (.im (.eq false (.n 1) (.n 2)) (.im (.le false (.n 2) (.n 0)) .ff))) (Eq.refl true) h0 h1 h2
theorem o9_78 {x0 x1 x2 x3 : Nat} (h0 : x1 - x0 ≤ x2 - max 0 x2) (h1 : x0 ≤ x1) (h2 : x3 = x2) : x0 = x1 := Ar.arith [x1, x2, x0, x3] [] 4 (.im (.le false (.sb (.n 0) (.n 2)) (.sb (.n 1) (.mx (.k 0) (.n 1)))) (.im (.le false (.n 2) (.n 0)) (.im (.eq false (.n 3) (.n 1)) (.eq false (.n 2) (.n 0))))) (by kernel_rfl) h0 h1 h2
theorem o9_79 {x0 x1 : Nat} (h0 : x0 ≤ x1) (h1 : x1 ≤ x0) : x0 = x1 := Ar.arith [x0, x1] [] 2 (.im (.le false (.n 0) (.n 1)) (.im (.le false (.n 1) (.n 0)) (.eq false (.n 0) (.n 1)))) (Eq.refl true) h0 h1
theorem o9_80 {x0 x1 x2 x3 : Nat} (h0 : x1 ≤ x3) (h1 : x2 = x3) (h2 : ¬ x1 ≤ x0) : (x0 + x1) / 2 < x2 := Ar.arith [x3, x2, (x0 + x1) / 2, x1, x0] [] 5 (.im (.an (.le false (.ml 2 (.n 2)) (.ad (.n 4) (.n 3))) (.lt false (.ad (.n 4) (.n 3)) (.ad (.ml 2 (.n 2)) (.k 2)))) (.im (.le false (.n 3) (.n 0)) (.im (.eq false (.n 1) (.n 0)) (.im (.no (.le false (.n 3) (.n 4))) (.lt false (.n 2) (.n 1)))))) (by kernel_rfl) (Ar.divN (x0 + x1) 2 (by decide)) h0 h1 h2
theorem o9_81 {x0 x1 : Nat} (h0 : ¬ x1 ≤ x0) : x0 ≤ (x0 + x1) / 2 := Ar.arith [x0, (x0 + x1) / 2, x1] [] 3 (.im (.an (.le false (.ml 2 (.n 1)) (.ad (.n 0) (.n 2))) (.lt false (.ad (.n 0) (.n 2)) (.ad (.ml 2 (.n 1)) (.k 2)))) (.im (.no (.le false (.n 2) (.n 0))) (.le false (.n 0) (.n 1)))) (Eq.refl true) (Ar.divN (x0 + x1) 2 (by decide)) h0
theorem o9_82 {x0 x1 x2 x3 : Nat} (h0 : x1 ≤ x2) (h1 : x3 = x2) (h2 : ¬ x1 ≤ x0) : (x0 + x1) / 2 ≤ x2 := Ar.arith [x0, x1, (x0 + x1) / 2, x2, x3] [] 5 (.im (.an (.le false (.ml 2 (.n 2)) (.ad (.n 0) (.n 1))) (.lt false (.ad (.n 0) (.n 1)) (.ad (.ml 2 (.n 2)) (.k 2)))) (.im (.le false (.n 1) (.n 3)) (.im (.eq false (.n 4) (.n 3)) (.im (.no (.le false (.n 1) (.n 0))) (.le false (.n 2) (.n 3)))))) (by kernel_rfl) (Ar.divN (x0 + x1) 2 (by decide)) h0 h1 h2
theorem o9_83 {x0 x1 x2 x3 x4 : Nat} (h0 : x1 - x0 ≤ x2 - x3) (h1 : x3 < x2) (h2 : x4 = x2) (h3 : ¬ x1 ≤ x0) : (x0 + x1) / 2 - x0 ≤ x2 - (x3 + 1) := Ar.arith [x1, (x0 + x1) / 2, x2, x3, x4, x0] [] 6 (.im (.an (.le false (.ml 2 (.n 1)) (.ad (.n 5) (.n 0))) (.lt false (.ad (.n 5) (.n 0)) (.ad (.ml 2 (.n 1)) (.k 2)))) (.im (.le false (.sb (.n 0) (.n 5)) (.sb (.n 2) (.n 3))) (.im (.lt false (.n 3) (.n 2)) (.im (.eq false (.n 4) (.n 2)) (.im (.no (.le false (.n 0) (.n 5))) (.le false (.sb (.n 1) (.n 5)) (.sb (.n 2) (.ad (.n 3) (.k 1))))))))) (by kernel_rfl) (Ar.divN (x0 + x1) 2 (by decide)) h0 h1 h2 h3
theorem o9_84 {x0 x1 : Nat} (h0 : ¬ x1 ≤ x0) : (x0 + x1) / 2 + 1 ≤ x1 := Ar.arith [x0, x1, (x0 + x1) / 2] [] 3 (.im (.an (.le false (.ml 2 (.n 2)) (.ad (.n 0) (.n 1))) (.lt false (.ad (.n 0) (.n 1)) (.ad (.ml 2 (.n 2)) (.k 2)))) (.im (.no (.le false (.n 1) (.n 0))) (.le false (.ad (.n 2) (.k 1)) (.n 1)))) (Eq.refl true) (Ar.divN (x0 + x1) 2 (by decide)) h0
theorem o9_85 {x0 x1 x2 x3 x4 : Nat} (h0 : x0 - x1 ≤ x2 - x3) (h1 : x3 < x2) (h2 : x4 = x2) (h3 : ¬ x0 ≤ x1) : x0 - ((x1 + x0) / 2 + 1) ≤ x2 - (x3 + 1) := Ar.arith [x3, x4, x0, x1, (x1 + x0) / 2, x2] [] 6 (.im (.an (.le false (.ml 2 (.n 4)) (.ad (.n 3) (.n 2))) (.lt false (.ad (.n 3) (.n 2)) (.ad (.ml 2 (.n 4)) (.k 2)))) (.im (.le false (.sb (.n 2) (.n 3)) (.sb (.n 5) (.n 0))) (.im (.lt false (.n 0) (.n 5)) (.im (.eq false (.n 1) (.n 5)) (.im (.no (.le false (.n 2) (.n 3))) (.le false (.sb (.n 2) (.ad (.n 4) (.k 1))) (.sb (.n 5) (.ad (.n 0) (.k 1))))))))) (by kernel_rfl) (Ar.divN (x1 + x0) 2 (by decide)) h0 h1 h2 h3
theorem o9_86 {x0 x1 x2 : Nat} (h0 : x0 < (x1 + x2) / 2 + 1) : x0 ≤ (x1 + x2) / 2 := Ar.arith [x0, x1, x2, (x1 + x2) / 2] [] 4 (.im (.an (.le false (.ml 2 (.n 3)) (.ad (.n 1) (.n 2))) (.lt false (.ad (.n 1) (.n 2)) (.ad (.ml 2 (.n 3)) (.k 2)))) (.im (.lt false (.n 0) (.ad (.n 3) (.k 1))) (.le false (.n 0) (.n 3)))) (Eq.refl true) (Ar.divN (x1 + x2) 2 (by decide)) h0
theorem o9_87 {x0 x1 x2 x3 : Nat} (h0 : x2 ≤ x1) (h1 : x3 = x1) : x0 + x1 = x0 + min x2 x3 + (x3 - x2) := Ar.arith [x1, x3, x0, x2] [] 4 (.im (.le false (.n 3) (.n 0)) (.im (.eq false (.n 1) (.n 0)) (.eq false (.ad (.n 2) (.n 0)) (.ad (.ad (.n 2) (.mn (.n 3) (.n 1))) (.sb (.n 1) (.n 3)))))) (by kernel_rfl) h0 h1
theorem o9_88 {x0 x1 x2 x3 : Nat} (h0 : x2 ≤ x1) (h1 : x3 = x1) : x0 + x1 - (x0 + x2) = x3 - x2 := Ar.arith [x1, x3, x0, x2] [] 4 (.im (.le false (.n 3) (.n 0)) (.im (.eq false (.n 1) (.n 0)) (.eq false (.sb (.ad (.n 2) (.n 0)) (.ad (.n 2) (.n 3))) (.sb (.n 1) (.n 3))))) (by kernel_rfl) h0 h1
theorem o9_89 {x0 x1 x2 : Nat} (h0 : x0 ≤ x2) (h1 : x1 = x2) : min x0 x1 + (x1 - x0 + 1) = x2 + 1 := Ar.arith [x2, x1, x0] [] 3 (.im (.le false (.n 2) (.n 0)) (.im (.eq false (.n 1) (.n 0)) (.eq false (.ad (.mn (.n 2) (.n 1)) (.ad (.sb (.n 1) (.n 2)) (.k 1))) (.ad (.n 0) (.k 1))))) (by kernel_rfl) h0 h1
theorem o9_90 {x0 x1 : Nat} (h0 : x0 < x1) : x0 ≤ x1 - 1 := Ar.arith [x0, x1] [] 2 (.im (.lt false (.n 0) (.n 1)) (.le false (.n 0) (.sb (.n 1) (.k 1)))) (Eq.refl true) h0
theorem o9_91 {x0 x1 : Nat} (h0 : x0 ≤ x1) : max x0 x1 = x1 := Ar.arith [x0, x1] [] 2 (.im (.le false (.n 0) (.n 1)) (.eq false (.mx (.n 0) (.n 1)) (.n 1))) (Eq.refl true) h0
theorem o9_92 {x0 x1 x2 : Nat} (h0 : 1 ≤ x2) (h1 : x0 < x1) (h2 : x2 ≤ x0) : x0 - 1 < x1 := Ar.arith [x1, x0, x2] [] 3 (.im (.le false (.k 1) (.n 2)) (.im (.lt false (.n 1) (.n 0)) (.im (.le false (.n 2) (.n 1)) (.lt false (.sb (.n 1) (.k 1)) (.n 0))))) (Eq.refl true) h0 h1 h2
theorem o9_93 {x0 x1 x2 : Nat} (h0 : 1 ≤ x2) (h1 : x2 ≤ x1) : x0 ≤ x0 + x1 := Ar.arith [x0, x1, x2] [] 3 (.im (.le false (.k 1) (.n 2)) (.im (.le false (.n 2) (.n 1)) (.le false (.n 0) (.ad (.n 0) (.n 1))))) (Eq.refl true) h0 h1
theorem o9_94 {x0 x1 x2 : Nat} (h0 : 1 ≤ x2) (h1 : x2 ≤ x1) : x0 ≤ x0 + x1 - 1 := Ar.arith [x0, x1, x2] [] 3 (.im (.le false (.k 1) (.n 2)) (.im (.le false (.n 2) (.n 1)) (.le false (.n 0) (.sb (.ad (.n 0) (.n 1)) (.k 1))))) (by kernel_rfl) h0 h1
theorem o9_95 {x0 x1 x2 : Nat} (h0 : 1 ≤ x2) (h1 : x2 ≤ x1) : x0 + x1 - 1 - x0 = x1 - 1 := Ar.arith [x0, x1, x2] [] 3 (.im (.le false (.k 1) (.n 2)) (.im (.le false (.n 2) (.n 1)) (.eq false (.sb (.sb (.ad (.n 0) (.n 1)) (.k 1)) (.n 0)) (.sb (.n 1) (.k 1))))) (by kernel_rfl) h0 h1
theorem o9_96 {x0 x1 : Nat} (h0 : x0 < x1) : x0 ≤ x1 := Ar.arith [x0, x1] [] 2 (.im (.lt false (.n 0) (.n 1)) (.le false (.n 0) (.n 1))) (Eq.refl true) h0
theorem o9_97 {x0 x1 x2 : Nat} (h0 : 1 ≤ x2) (h1 : x0 < x1) (h2 : x2 ≤ x0) : min x0 x1 - 1 < x0 := Ar.arith [x1, x0, x2] [] 3 (.im (.le false (.k 1) (.n 2)) (.im (.lt false (.n 1) (.n 0)) (.im (.le false (.n 2) (.n 1)) (.lt false (.sb (.mn (.n 1) (.n 0)) (.k 1)) (.n 1))))) (by kernel_rfl) h0 h1 h2
theorem o9_98 {x0 x1 x2 : Nat} (h0 : 1 ≤ x2) (h1 : x0 < x1) (h2 : x2 ≤ x0) : min x0 x1 - 1 = x0 - 1 := Ar.arith [x1, x0, x2] [] 3 (.im (.le false (.k 1) (.n 2)) (.im (.lt false (.n 1) (.n 0)) (.im (.le false (.n 2) (.n 1)) (.eq false (.sb (.mn (.n 1) (.n 0)) (.k 1)) (.sb (.n 1) (.k 1)))))) (by kernel_rfl) h0 h1 h2
theorem o9_99 {x0 x1 x2 x3 : Nat} (h0 : 0 < x0) (h1 : x1 = x0 + x2) (h2 : x1 = x3) : 1 ≤ x0 := Ar.arith [x0, x1, x2, x3] [] 4 (.im (.lt false (.k 0) (.n 0)) (.im (.eq false (.n 1) (.ad (.n 0) (.n 2))) (.im (.eq false (.n 1) (.n 3)) (.le false (.k 1) (.n 0))))) (Eq.refl true) h0 h1 h2
theorem o9_100 {x0 x1 x2 x3 x4 : Nat} (h0 : x0 ≤ x1) (h1 : x1 ≤ x0 + x2) (h2 : x3 = x0 + x2) (h3 : x3 = x4) : x0 + min (x1 - x0) x2 = x1 := Ar.arith [x1, x2, x3, x4, x0] [] 5 (.im (.le false (.n 4) (.n 0)) (.im (.le false (.n 0) (.ad (.n 4) (.n 1))) (.im (.eq false (.n 2) (.ad (.n 4) (.n 1))) (.im (.eq false (.n 2) (.n 3)) (.eq false (.ad (.n 4) (.mn (.sb (.n 0) (.n 4)) (.n 1))) (.n 0)))))) (by kernel_rfl) h0 h1 h2 h3
theorem o9_101 {x0 x1 x2 : Nat} (h0 : x0 + (x1 + 1) = x2) : x0 + (x1 + 1) ≤ x2 := Ar.arith [x0, x1, x2] [] 3 (.im (.eq false (.ad (.n 0) (.ad (.n 1) (.k 1))) (.n 2)) (.le false (.ad (.n 0) (.ad (.n 1) (.k 1))) (.n 2))) (Eq.refl true) h0
theorem o9_102 {x0 x1 x2 x3 : Nat} (h0 : x2 + (x3 + 1) = x1) : x0 + x1 - (x0 + (x2 + (x3 + 1))) = 0 := Ar.arith [x1, x0, x2, x3] [] 4 (.im (.eq false (.ad (.n 2) (.ad (.n 3) (.k 1))) (.n 0)) (.eq false (.sb (.ad (.n 1) (.n 0)) (.ad (.n 1) (.ad (.n 2) (.ad (.n 3) (.k 1))))) (.k 0))) (Eq.refl true) h0
theorem o9_103 {x0 x1 x2 x3 : Nat} (h0 : x1 + (x2 + 1) = x3) : x0 + (x1 + x2) ≤ x0 + x3 - 1 := Ar.arith [x1, x0, x2, x3] [] 4 (.im (.eq false (.ad (.n 0) (.ad (.n 2) (.k 1))) (.n 3)) (.le false (.ad (.n 1) (.ad (.n 0) (.n 2))) (.sb (.ad (.n 1) (.n 3)) (.k 1)))) (Eq.refl true) h0
theorem o9_104 {x0 x1 x2 x3 : Nat} (h0 : x2 + (x3 + 1) = x1) : x0 + x1 - 1 - (x0 + (x2 + x3)) = 0 := Ar.arith [x2, x0, x3, x1] [] 4 (.im (.eq false (.ad (.n 0) (.ad (.n 2) (.k 1))) (.n 3)) (.eq false (.sb (.sb (.ad (.n 1) (.n 3)) (.k 1)) (.ad (.n 1) (.ad (.n 0) (.n 2)))) (.k 0))) (by kernel_rfl) h0
theorem o9_105 {x0 x1 x2 : Nat} (h0 : x0 + (x1 + 1) = x2) : x0 + (x1 + 1) = x2 := Ar.arith [x0, x1, x2] [] 3 (.im (.eq false (.ad (.n 0) (.ad (.n 1) (.k 1))) (.n 2)) (.eq false (.ad (.n 0) (.ad (.n 1) (.k 1))) (.n 2))) (Eq.refl true) h0
theorem o9_106 {x0 x1 x2 x3 x4 : Nat} (h0 : x3 + x4 = x1) (h1 : x4 = x2 + 1) : x0 + x1 - (x2 + 1) = x0 + x3 := Ar.arith [x3, x4, x0, x1, x2] [] 5 (.im (.eq false (.ad (.n 0) (.n 1)) (.n 3)) (.im (.eq false (.n 1) (.ad (.n 4) (.k 1))) (.eq false (.sb (.ad (.n 2) (.n 3)) (.ad (.n 4) (.k 1))) (.ad (.n 2) (.n 0))))) (by kernel_rfl) h0 h1
theorem o9_107 {x0 x1 x2 x3 : Nat} (h0 : x2 + x3 = x1) : x0 + x1 = x0 + x2 + x3 := Ar.arith [x0, x1, x2, x3] [] 4 (.im (.eq false (.ad (.n 2) (.n 3)) (.n 1)) (.eq false (.ad (.n 0) (.n 1)) (.ad (.ad (.n 0) (.n 2)) (.n 3)))) (Eq.refl true) h0
theorem o9_108 {x0 x1 : Nat} (h0 : x0 = x1) (h1 : ¬ 0 < x1) : x0 = 0 := Ar.arith [x0, x1] [] 2 (.im (.eq false (.n 0) (.n 1)) (.im (.no (.lt false (.k 0) (.n 1))) (.eq false (.n 0) (.k 0)))) (Eq.refl true) h0 h1
theorem o9_109 {x0 x1 x2 x3 x4 : Nat} (h0 : x2 + x3 = x0) (h1 : x0 < x1) (h2 : x3 = x4 + 1) : x0 ≤ x1 := Ar.arith [x0, x1, x2, x3, x4] [] 5 (.im (.eq false (.ad (.n 2) (.n 3)) (.n 0)) (.im (.lt false (.n 0) (.n 1)) (.im (.eq false (.n 3) (.ad (.n 4) (.k 1))) (.le false (.n 0) (.n 1))))) (Eq.refl true) h0 h1 h2
theorem o9_110 {x0 x1 x2 : Nat} (h0 : x0 + (x1 + 1) = x2) : x0 + (x1 + 2) = x2 + 1 := Ar.arith [x0, x1, x2] [] 3 (.im (.eq false (.ad (.n 0) (.ad (.n 1) (.k 1))) (.n 2)) (.eq false (.ad (.n 0) (.ad (.n 1) (.k 2))) (.ad (.n 2) (.k 1)))) (Eq.refl true) h0
theorem o9_111 {x0 x1 : Nat} (h0 : x0 = x1) : x0 = x1 := Ar.arith [x0, x1] [] 2 (.im (.eq false (.n 0) (.n 1)) (.eq false (.n 0) (.n 1))) (Eq.refl true) h0
theorem o9_119 {x0 x1 : Nat} (h0 : 1 ≤ x0) (h1 : min x0 x1 = 0) (h2 : x0 ≤ x1) : False := Ar.arith [x1, x0] [] 2 (.im (.le false (.k 1) (.n 1)) (.im (.eq false (.mn (.n 1) (.n 0)) (.k 0)) (.im (.le false (.n 1) (.n 0)) .ff))) (by kernel_rfl) h0 h1 h2
theorem o9_120 {x0 x1 : Nat} (h0 : x0 ≤ x1) (h1 : ¬ x0 = x1) : x0 < x1 := Ar.arith [x0, x1] [] 2 (.im (.le false (.n 0) (.n 1)) (.im (.no (.eq false (.n 0) (.n 1))) (.lt false (.n 0) (.n 1)))) (Eq.refl true) h0 h1
theorem o9_121 {x0 : Nat} (h0 : 1 ≤ x0) : x0 - 1 < x0 := Ar.arith [x0] [] 1 (.im (.le false (.k 1) (.n 0)) (.lt false (.sb (.n 0) (.k 1)) (.n 0))) (Eq.refl true) h0
theorem o9_122 {x0 x1 : Nat} (h0 : x0 < x1) : min x0 x1 = x0 := Ar.arith [x0, x1] [] 2 (.im (.lt false (.n 0) (.n 1)) (.eq false (.mn (.n 0) (.n 1)) (.n 0))) (Eq.refl true) h0
theorem o9_123 {x0 x1 : Nat} (h0 : 1 < x1) : x0 ≤ x0 + x1 - 1 := Ar.arith [x0, x1] [] 2 (.im (.lt false (.k 1) (.n 1)) (.le false (.n 0) (.sb (.ad (.n 0) (.n 1)) (.k 1)))) (Eq.refl true) h0
theorem o9_124 {x0 x1 : Nat} (h0 : 1 < x1) : x0 + x1 - 1 - x0 = x1 - 1 := Ar.arith [x1, x0] [] 2 (.im (.lt false (.k 1) (.n 0)) (.eq false (.sb (.sb (.ad (.n 1) (.n 0)) (.k 1)) (.n 1)) (.sb (.n 0) (.k 1)))) (by kernel_rfl) h0
theorem o9_125 {x0 : Nat} (h0 : 1 < x0) : 0 < x0 := Ar.arith [x0] [] 1 (.im (.lt false (.k 1) (.n 0)) (.lt false (.k 0) (.n 0))) (Eq.refl true) h0
theorem o9_126 {x0 : Nat} : 0 ≤ x0 := Ar.arith [x0] [] 1 (.le false (.k 0) (.n 0)) (Eq.refl true)
theorem o9_127 {x0 : Nat} (h0 : 1 ≤ x0) (h1 : ¬ 1 < x0) : x0 = 1 := Ar.arith [x0] [] 1 (.im (.le false (.k 1) (.n 0)) (.im (.no (.lt false (.k 1) (.n 0))) (.eq false (.n 0) (.k 1)))) (Eq.refl true) h0 h1
theorem o9_128 {x0 x1 : Nat} (h0 : 2 ≤ x0) (h1 : x0 < 64) (h2 : x1 = x0) : x0 = x0 - 1 + 1 := Ar.arith [x0, x1] [] 2 (.im (.le false (.k 2) (.n 0)) (.im (.lt false (.n 0) (.k 64)) (.im (.eq false (.n 1) (.n 0)) (.eq false (.n 0) (.ad (.sb (.n 0) (.k 1)) (.k 1)))))) (by kernel_rfl) h0 h1 h2
theorem o9_129 {x0 x1 x2 : Nat} (h0 : 2 ≤ x0) (h1 : x0 < 64) (h2 : x1 = x0) (h3 : x2 = x0) (h4 : max 0 x0 = 0) : False := Ar.arith [x0, x1, x2] [] 3 (.im (.le false (.k 2) (.n 0)) (.im (.lt false (.n 0) (.k 64)) (.im (.eq false (.n 1) (.n 0)) (.im (.eq false (.n 2) (.n 0)) (.im (.eq false (.mx (.k 0) (.n 0)) (.k 0)) .ff))))) (by kernel_rfl) h0 h1 h2 h3 h4
theorem o9_130 {x0 x1 x2 x3 : Nat} (h0 : 2 ≤ x0) (h1 : x0 < 64) (h2 : x1 = x0) (h3 : x2 = x0) (h4 : x3 = x0) : ¬ x0 ≤ 0 := Ar.arith [x0, x1, x2, x3] [] 4 (.im (.le false (.k 2) (.n 0)) (.im (.lt false (.n 0) (.k 64)) (.im (.eq false (.n 1) (.n 0)) (.im (.eq false (.n 2) (.n 0)) (.im (.eq false (.n 3) (.n 0)) (.no (.le false (.n 0) (.k 0)))))))) (by kernel_rfl) h0 h1 h2 h3 h4
theorem o9_131 {x0 x1 x2 : Nat} (h0 : 2 ≤ x0) (h1 : x0 < 64) (h2 : x1 = x0) (h3 : x2 = x0) (h4 : 0 = x0) : False := Ar.arith [x0, x1, x2] [] 3 (.im (.le false (.k 2) (.n 0)) (.im (.lt false (.n 0) (.k 64)) (.im (.eq false (.n 1) (.n 0)) (.im (.eq false (.n 2) (.n 0)) (.im (.eq false (.k 0) (.n 0)) .ff))))) (by kernel_rfl) h0 h1 h2 h3 h4
theorem o9_132 : 1 ≤ 1 := Ar.arith [] [] 0 (.le false (.k 1) (.k 1)) (Eq.refl true)
theorem o9_133 {x0 x1 x2 x3 x4 x5 : Nat} (h0 : x1 = x2) (h1 : x3 = x2) (h2 : x4 = x2) (h3 : x5 + x0 = x2) (h4 : ¬ x5 < x2) : x0 = 0 := Ar.arith [x5, x0, x1, x2, x3, x4] [] 6 (.im (.eq false (.n 2) (.n 3)) (.im (.eq false (.n 4) (.n 3)) (.im (.eq false (.n 5) (.n 3)) (.im (.eq false (.ad (.n 0) (.n 1)) (.n 3)) (.im (.no (.lt false (.n 0) (.n 3))) (.eq false (.n 1) (.k 0))))))) (by kernel_rfl) h0 h1 h2 h3 h4
theorem o9_134 {x0 x1 : Int} : x0 < x1 → ¬ x1 < x0 := Ar.arith [] [x0, x1] 2 (.im (.lt true (.z 0) (.z 1)) (.no (.lt true (.z 1) (.z 0)))) (Eq.refl true)
theorem o9_135 {x0 x1 x2 : Int} (h0 : ¬ x0 < x2) (h1 : ¬ x2 < x1) (h2 : ¬ x2 = x1) : ¬ x0 = x1 := Ar.arith [] [x2, x0, x1] 3 (.im (.no (.lt true (.z 1) (.z 0))) (.im (.no (.lt true (.z 0) (.z 2))) (.im (.no (.eq true (.z 0) (.z 2))) (.no (.eq true (.z 1) (.z 2)))))) (by kernel_rfl) h0 h1 h2
theorem o9_136 {x0 x1 x2 : Int} (h0 : ¬ x0 < x2) (h1 : ¬ x2 < x1) : ¬ x0 < x1 := Ar.arith [] [x0, x1, x2] 3 (.im (.no (.lt true (.z 0) (.z 2))) (.im (.no (.lt true (.z 2) (.z 1))) (.no (.lt true (.z 0) (.z 1))))) (Eq.refl true) h0 h1
theorem o9_137 {x0 x1 : Int} (h0 : x0 < x1) : x0 ≤ x1 := Ar.arith [] [x0, x1] 2 (.im (.lt true (.z 0) (.z 1)) (.le true (.z 0) (.z 1))) (Eq.refl true) h0
theorem o9_138 {x0 x1 x2 : Int} (h0 : x0 ≤ x2) (h1 : x2 ≤ x1) : x0 ≤ x1 := Ar.arith [] [x0, x1, x2] 3 (.im (.le true (.z 0) (.z 2)) (.im (.le true (.z 2) (.z 1)) (.le true (.z 0) (.z 1)))) (Eq.refl true) h0 h1
theorem o9_139 {x0 : Nat} (h0 : 1 = x0) (h1 : 2 ≤ x0) : False := Ar.arith [x0] [] 1 (.im (.eq false (.k 1) (.n 0)) (.im (.le false (.k 2) (.n 0)) .ff)) (Eq.refl true) h0 h1
theorem o9_140 {x0 : Nat} (h0 : 0 = x0) (h1 : 2 ≤ x0) : False := Ar.arith [x0] [] 1 (.im (.eq false (.k 0) (.n 0)) (.im (.le false (.k 2) (.n 0)) .ff)) (Eq.refl true) h0 h1
theorem o9_141 {x0 x1 x2 : Nat} (h0 : x2 + 3 ≤ x1) (h1 : x0 < x2) : x0 + 3 < x1 := Ar.arith [x0, x1, x2] [] 3 (.im (.le false (.ad (.n 2) (.k 3)) (.n 1)) (.im (.lt false (.n 0) (.n 2)) (.lt false (.ad (.n 0) (.k 3)) (.n 1)))) (Eq.refl true) h0 h1
theorem o9_142 {x0 x1 x2 : Nat} (h0 : x2 + 4 ≤ x1) (h1 : x0 < x2) : x0 + 3 + 1 < x1 := Ar.arith [x0, x1, x2] [] 3 (.im (.le false (.ad (.n 2) (.k 4)) (.n 1)) (.im (.lt false (.n 0) (.n 2)) (.lt false (.ad (.ad (.n 0) (.k 3)) (.k 1)) (.n 1)))) (Eq.refl true) h0 h1
theorem o9_143 {x0 x1 x2 x3 x4 x5 : Nat} (h0 : x0 < x4 ∧ x2 < x5) (h1 : x4 + 1 ≤ x1) (h2 : x5 + 3 ≤ x3) : x0 + 1 < x1 ∧ x2 + 3 < x3 := Ar.arith [x0, x1, x2, x3, x4, x5] [] 6 (.im (.an (.lt false (.n 0) (.n 4)) (.lt false (.n 2) (.n 5))) (.im (.le false (.ad (.n 4) (.k 1)) (.n 1)) (.im (.le false (.ad (.n 5) (.k 3)) (.n 3)) (.an (.lt false (.ad (.n 0) (.k 1)) (.n 1)) (.lt false (.ad (.n 2) (.k 3)) (.n 3)))))) (by kernel_rfl) h0 h1 h2
theorem o9_144 : (-(2 : Int) ^ 62) ≤ (0 : Int) := Ar.arith [] [] 0 (.le true (.ng (.pw 2 62)) (.k 0)) (Eq.refl true)
theorem o9_145 : (0 : Int) < (2 : Int) ^ 62 := Ar.arith [] [] 0 (.lt true (.k 0) (.pw 2 62)) (Eq.refl true)
theorem o9_146 {x0 : Nat} (h0 : x0 < 2 ^ 60) : (-(2 : Int) ^ 62) ≤ (x0 : Int) := Ar.arith [x0] [] 1 (.im (.lt false (.n 0) (.pw 2 60)) (.le true (.ng (.pw 2 62)) (.up (.n 0)))) (Eq.refl true) h0
theorem o9_147 {x0 : Nat} (h0 : x0 < 2 ^ 60) : (x0 : Int) < (2 : Int) ^ 62 := Ar.arith [x0] [] 1 (.im (.lt false (.n 0) (.pw 2 60)) (.lt true (.up (.n 0)) (.pw 2 62))) (Eq.refl true) h0
theorem o9_148 {x0 : Nat} : (x0 : Int) - (0 : Int) = (x0 : Int) := Ar.arith [x0] [] 1 (.eq true (.sb (.up (.n 0)) (.k 0)) (.up (.n 0))) (Eq.refl true)
theorem o9_149 {x0 : Nat} (h0 : x0 < 2 ^ 60) (h1 : ¬ (0 : Int) < (x0 : Int)) : (0 : Int) = (x0 : Int) := Ar.arith [x0] [] 1 (.im (.lt false (.n 0) (.pw 2 60)) (.im (.no (.lt true (.k 0) (.up (.n 0)))) (.eq true (.k 0) (.up (.n 0))))) (Eq.refl true) h0 h1
theorem o9_150 {x0 x1 : Nat} (h0 : (x1 : Int) < (x0 : Int)) : (x0 : Int) - (x1 : Int) = ((x0 - x1 : Nat) : Int) := Ar.arith [x0, x1] [] 2 (.im (.lt true (.up (.n 1)) (.up (.n 0))) (.eq true (.sb (.up (.n 0)) (.up (.n 1))) (.up (.sb (.n 0) (.n 1))))) (Eq.refl true) h0
theorem o9_151 {x0 x1 : Nat} (h0 : ¬ (x1 : Int) < (x0 : Int)) : (0 : Int) = ((x0 - x1 : Nat) : Int) := Ar.arith [x0, x1] [] 2 (.im (.no (.lt true (.up (.n 1)) (.up (.n 0)))) (.eq true (.k 0) (.up (.sb (.n 0) (.n 1))))) (Eq.refl true) h0
theorem o9_152 {x0 x1 : Nat} (h0 : x1 < x0) : (x0 - 1) / 2 < x0 := Ar.arith [x0, (x0 - 1) / 2, x1] [] 3 (.im (.an (.le false (.ml 2 (.n 1)) (.sb (.n 0) (.k 1))) (.lt false (.sb (.n 0) (.k 1)) (.ad (.ml 2 (.n 1)) (.k 2)))) (.im (.lt false (.n 2) (.n 0)) (.lt false (.n 1) (.n 0)))) (by kernel_rfl) (Ar.divN (x0 - 1) 2 (by decide)) h0
theorem o9_154 {x0 x1 x2 : Nat} (h0 : 2 * x2 + 1 < x0) (h1 : x1 < x0 ∧ x2 < x1) : x0 - x1 < x0 - x2 := Ar.arith [x1, x0, x2] [] 3 (.im (.lt false (.ad (.ml 2 (.n 2)) (.k 1)) (.n 1)) (.im (.an (.lt false (.n 0) (.n 1)) (.lt false (.n 2) (.n 0))) (.lt false (.sb (.n 1) (.n 0)) (.sb (.n 1) (.n 2))))) (by kernel_rfl) h0 h1
theorem o9_155 {x0 x1 x2 : Nat} (h0 : x0 < x1) (h1 : x2 < x0) : (x0 - 1) / 2 < x1 := Ar.arith [x0, (x0 - 1) / 2, x1, x2] [] 4 (.im (.an (.le false (.ml 2 (.n 1)) (.sb (.n 0) (.k 1))) (.lt false (.sb (.n 0) (.k 1)) (.ad (.ml 2 (.n 1)) (.k 2)))) (.im (.lt false (.n 0) (.n 2)) (.im (.lt false (.n 3) (.n 0)) (.lt false (.n 1) (.n 2))))) (by kernel_rfl) (Ar.divN (x0 - 1) 2 (by decide)) h0 h1
theorem o9_156 {x0 x1 : Nat} (h0 : x1 < x0) : x0 ≠ (x0 - 1) / 2 := Ar.arith [x0, x1, (x0 - 1) / 2] [] 3 (.im (.an (.le false (.ml 2 (.n 2)) (.sb (.n 0) (.k 1))) (.lt false (.sb (.n 0) (.k 1)) (.ad (.ml 2 (.n 2)) (.k 2)))) (.im (.lt false (.n 1) (.n 0)) (.no (.eq false (.n 0) (.n 2))))) (by kernel_rfl) (Ar.divN (x0 - 1) 2 (by decide)) h0
theorem o9_157 {x0 x1 x2 x3 : Nat} (h0 : x0 - x3 = x2) (h1 : x1 < x0 ∧ x3 < x1) (h2 : x3 < x0) : x0 - x1 < x2 := Ar.arith [x0, x2, x1, x3] [] 4 (.im (.eq false (.sb (.n 0) (.n 3)) (.n 1)) (.im (.an (.lt false (.n 2) (.n 0)) (.lt false (.n 3) (.n 2))) (.im (.lt false (.n 3) (.n 0)) (.lt false (.sb (.n 0) (.n 2)) (.n 1))))) (by kernel_rfl) h0 h1 h2
theorem o9_158 {x0 x1 x2 : Nat} (h0 : x0 < x1 ∧ x2 < x0) : x0 < x1 := Ar.arith [x0, x1, x2] [] 3 (.im (.an (.lt false (.n 0) (.n 1)) (.lt false (.n 2) (.n 0))) (.lt false (.n 0) (.n 1))) (Eq.refl true) h0
theorem o9_159 {x0 x1 x2 : Nat} (h0 : x1 < x2 ∧ x0 < x1) : x0 ≠ x1 := Ar.arith [x0, x1, x2] [] 3 (.im (.an (.lt false (.n 1) (.n 2)) (.lt false (.n 0) (.n 1))) (.no (.eq false (.n 0) (.n 1)))) (Eq.refl true) h0
theorem o9_160 {x0 x1 : Nat} (h0 : 0 < x1) (h1 : x0 ≤ (x1 - 1) / 2) : x0 ≤ x1 := Ar.arith [x1, x0, (x1 - 1) / 2] [] 3 (.im (.an (.le false (.ml 2 (.n 2)) (.sb (.n 0) (.k 1))) (.lt false (.sb (.n 0) (.k 1)) (.ad (.ml 2 (.n 2)) (.k 2)))) (.im (.lt false (.k 0) (.n 0)) (.im (.le false (.n 1) (.n 2)) (.le false (.n 1) (.n 0))))) (by kernel_rfl) (Ar.divN (x1 - 1) 2 (by decide)) h0 h1
theorem o9_161 {x0 : Nat} (h0 : 0 < x0) : (x0 - 1) / 2 < x0 := Ar.arith [x0, (x0 - 1) / 2] [] 2 (.im (.an (.le false (.ml 2 (.n 1)) (.sb (.n 0) (.k 1))) (.lt false (.sb (.n 0) (.k 1)) (.ad (.ml 2 (.n 1)) (.k 2)))) (.im (.lt false (.k 0) (.n 0)) (.lt false (.n 1) (.n 0)))) (by kernel_rfl) (Ar.divN (x0 - 1) 2 (by decide)) h0
theorem o9_162 {x0 : Nat} (h0 : 0 < x0) : ¬ x0 = (x0 - 1) / 2 := Ar.arith [x0, (x0 - 1) / 2] [] 2 (.im (.an (.le false (.ml 2 (.n 1)) (.sb (.n 0) (.k 1))) (.lt false (.sb (.n 0) (.k 1)) (.ad (.ml 2 (.n 1)) (.k 2)))) (.im (.lt false (.k 0) (.n 0)) (.no (.eq false (.n 0) (.n 1))))) (by kernel_rfl) (Ar.divN (x0 - 1) 2 (by decide)) h0
theorem o9_163 {x0 x1 : Nat} (h0 : 0 < x1) (h1 : x0 ≤ (x1 - 1) / 2) : x0 < x1 := Ar.arith [x1, x0, (x1 - 1) / 2] [] 3 (.im (.an (.le false (.ml 2 (.n 2)) (.sb (.n 0) (.k 1))) (.lt false (.sb (.n 0) (.k 1)) (.ad (.ml 2 (.n 2)) (.k 2)))) (.im (.lt false (.k 0) (.n 0)) (.im (.le false (.n 1) (.n 2)) (.lt false (.n 1) (.n 0))))) (by kernel_rfl) (Ar.divN (x1 - 1) 2 (by decide)) h0 h1
theorem o9_164 {x0 x1 : Nat} (h0 : 0 < x0) (h1 : x0 < x1) (h2 : x0 ≠ (x0 - 1) / 2) : (x0 - 1) / 2 < x1 := Ar.arith [x0, (x0 - 1) / 2, x1] [] 3 (.im (.an (.le false (.ml 2 (.n 1)) (.sb (.n 0) (.k 1))) (.lt false (.sb (.n 0) (.k 1)) (.ad (.ml 2 (.n 1)) (.k 2)))) (.im (.lt false (.k 0) (.n 0)) (.im (.lt false (.n 0) (.n 2)) (.im (.no (.eq false (.n 0) (.n 1))) (.lt false (.n 1) (.n 2)))))) (by kernel_rfl) (Ar.divN (x0 - 1) 2 (by decide)) h0 h1 h2
theorem o9_169 {x0 x1 x2 : Nat} (h0 : (x1 - 1) / 2 = (x0 - 1) / 2) (h1 : 0 < x1) (h2 : x2 < (x0 - 1) / 2) : ¬ x0 = (x0 - 1) / 2 := Ar.arith [x1, (x1 - 1) / 2, x2, x0, (x0 - 1) / 2] [] 5 (.im (.an (.le false (.ml 2 (.n 4)) (.sb (.n 3) (.k 1))) (.lt false (.sb (.n 3) (.k 1)) (.ad (.ml 2 (.n 4)) (.k 2)))) (.im (.an (.le false (.ml 2 (.n 1)) (.sb (.n 0) (.k 1))) (.lt false (.sb (.n 0) (.k 1)) (.ad (.ml 2 (.n 1)) (.k 2)))) (.im (.eq false (.n 1) (.n 4)) (.im (.lt false (.k 0) (.n 0)) (.im (.lt false (.n 2) (.n 4)) (.no (.eq false (.n 3) (.n 4)))))))) (by kernel_rfl) (Ar.divN (x0 - 1) 2 (by decide)) (Ar.divN (x1 - 1) 2 (by decide)) h0 h1 h2
theorem o9_170 {x0 x1 x2 : Nat} (h0 : (x1 - 1) / 2 = (x0 - 1) / 2) (h1 : x2 < (x0 - 1) / 2) : 0 < (x0 - 1) / 2 := Ar.arith [x2, x0, (x0 - 1) / 2, x1, (x1 - 1) / 2] [] 5 (.im (.an (.le false (.ml 2 (.n 2)) (.sb (.n 1) (.k 1))) (.lt false (.sb (.n 1) (.k 1)) (.ad (.ml 2 (.n 2)) (.k 2)))) (.im (.an (.le false (.ml 2 (.n 4)) (.sb (.n 3) (.k 1))) (.lt false (.sb (.n 3) (.k 1)) (.ad (.ml 2 (.n 4)) (.k 2)))) (.im (.eq false (.n 4) (.n 2)) (.im (.lt false (.n 0) (.n 2)) (.lt false (.k 0) (.n 2)))))) (by kernel_rfl) (Ar.divN (x0 - 1) 2 (by decide)) (Ar.divN (x1 - 1) 2 (by decide)) h0 h1
theorem o9_171 {x0 x1 x2 : Nat} (h0 : (x1 - 1) / 2 = (x0 - 1) / 2) (h1 : 0 < x1) (h2 : x2 < (x0 - 1) / 2) : (x0 - 1) / 2 ≠ x0 := Ar.arith [x1, (x1 - 1) / 2, x2, x0, (x0 - 1) / 2] [] 5 (.im (.an (.le false (.ml 2 (.n 4)) (.sb (.n 3) (.k 1))) (.lt false (.sb (.n 3) (.k 1)) (.ad (.ml 2 (.n 4)) (.k 2)))) (.im (.an (.le false (.ml 2 (.n 1)) (.sb (.n 0) (.k 1))) (.lt false (.sb (.n 0) (.k 1)) (.ad (.ml 2 (.n 1)) (.k 2)))) (.im (.eq false (.n 1) (.n 4)) (.im (.lt false (.k 0) (.n 0)) (.im (.lt false (.n 2) (.n 4)) (.no (.eq false (.n 4) (.n 3)))))))) (by kernel_rfl) (Ar.divN (x0 - 1) 2 (by decide)) (Ar.divN (x1 - 1) 2 (by decide)) h0 h1 h2
theorem o9_173 {x0 x1 x2 : Nat} (h0 : (x1 - 1) / 2 = (x2 - 1) / 2) (h1 : x0 < (x2 - 1) / 2) : x0 ≤ (x1 - 1) / 2 := Ar.arith [x2, (x2 - 1) / 2, x0, x1, (x1 - 1) / 2] [] 5 (.im (.an (.le false (.ml 2 (.n 4)) (.sb (.n 3) (.k 1))) (.lt false (.sb (.n 3) (.k 1)) (.ad (.ml 2 (.n 4)) (.k 2)))) (.im (.an (.le false (.ml 2 (.n 1)) (.sb (.n 0) (.k 1))) (.lt false (.sb (.n 0) (.k 1)) (.ad (.ml 2 (.n 1)) (.k 2)))) (.im (.eq false (.n 4) (.n 1)) (.im (.lt false (.n 2) (.n 1)) (.le false (.n 2) (.n 4)))))) (by kernel_rfl) (Ar.divN (x1 - 1) 2 (by decide)) (Ar.divN (x2 - 1) 2 (by decide)) h0 h1
theorem o9_174 {x0 : Nat} : (2 * x0 + 1 - 1) / 2 = x0 := Ar.arith [x0, (2 * x0 + 1 - 1) / 2] [] 2 (.im (.an (.le false (.ml 2 (.n 1)) (.sb (.ad (.ml 2 (.n 0)) (.k 1)) (.k 1))) (.lt false (.sb (.ad (.ml 2 (.n 0)) (.k 1)) (.k 1)) (.ad (.ml 2 (.n 1)) (.k 2)))) (.eq false (.n 1) (.n 0))) (by kernel_rfl) (Ar.divN (2 * x0 + 1 - 1) 2 (by decide))
theorem o9_175 {x0 : Nat} : 0 < 2 * x0 + 1 := Ar.arith [x0] [] 1 (.lt false (.k 0) (.ad (.ml 2 (.n 0)) (.k 1))) (Eq.refl true)
theorem o9_176 {x0 x1 : Nat} (h0 : (x0 - 1) / 2 = x1) (h1 : 0 < x0) : x0 = 2 * x1 + 1 ∨ x0 = 2 * x1 + 2 := Ar.arith [x0, x1, (x0 - 1) / 2] [] 3 (.im (.an (.le false (.ml 2 (.n 2)) (.sb (.n 0) (.k 1))) (.lt false (.sb (.n 0) (.k 1)) (.ad (.ml 2 (.n 2)) (.k 2)))) (.im (.eq false (.n 2) (.n 1)) (.im (.lt false (.k 0) (.n 0)) (.o (.eq false (.n 0) (.ad (.ml 2 (.n 1)) (.k 1))) (.eq false (.n 0) (.ad (.ml 2 (.n 1)) (.k 2))))))) (by kernel_rfl) (Ar.divN (x0 - 1) 2 (by decide)) h0 h1
theorem o9_177 {x0 : Nat} : (2 * x0 + 2 - 1) / 2 = x0 := Ar.arith [x0, (2 * x0 + 2 - 1) / 2] [] 2 (.im (.an (.le false (.ml 2 (.n 1)) (.sb (.ad (.ml 2 (.n 0)) (.k 2)) (.k 1))) (.lt false (.sb (.ad (.ml 2 (.n 0)) (.k 2)) (.k 1)) (.ad (.ml 2 (.n 1)) (.k 2)))) (.eq false (.n 1) (.n 0))) (by kernel_rfl) (Ar.divN (2 * x0 + 2 - 1) 2 (by decide))
theorem o9_178 {x0 : Nat} : 0 < 2 * x0 + 2 := Ar.arith [x0] [] 1 (.lt false (.k 0) (.ad (.ml 2 (.n 0)) (.k 2))) (Eq.refl true)
theorem o9_179 {x0 x1 x2 x3 : Nat} (h0 : x3 < x0) (h1 : x0 - x3 = x2) (h2 : x1 < x0 ∧ x3 < x1) (h3 : (x1 - 1) / 2 = x3) (h4 : 0 < x1) : x0 - x1 < x2 := Ar.arith [x0, x1, x2, x3, (x1 - 1) / 2] [] 5 (.im (.an (.le false (.ml 2 (.n 4)) (.sb (.n 1) (.k 1))) (.lt false (.sb (.n 1) (.k 1)) (.ad (.ml 2 (.n 4)) (.k 2)))) (.im (.lt false (.n 3) (.n 0)) (.im (.eq false (.sb (.n 0) (.n 3)) (.n 2)) (.im (.an (.lt false (.n 1) (.n 0)) (.lt false (.n 3) (.n 1))) (.im (.eq false (.n 4) (.n 3)) (.im (.lt false (.k 0) (.n 1)) (.lt false (.sb (.n 0) (.n 1)) (.n 2)))))))) (by kernel_rfl) (Ar.divN (x1 - 1) 2 (by decide)) h0 h1 h2 h3 h4
theorem o9_183 {x0 x1 x2 : Nat} (h0 : (x1 - 1) / 2 = x2) (h1 : x0 < x2) : x0 ≤ (x1 - 1) / 2 := Ar.arith [x1, x2, x0, (x1 - 1) / 2] [] 4 (.im (.an (.le false (.ml 2 (.n 3)) (.sb (.n 0) (.k 1))) (.lt false (.sb (.n 0) (.k 1)) (.ad (.ml 2 (.n 3)) (.k 2)))) (.im (.eq false (.n 3) (.n 1)) (.im (.lt false (.n 2) (.n 1)) (.le false (.n 2) (.n 3))))) (by kernel_rfl) (Ar.divN (x1 - 1) 2 (by decide)) h0 h1
theorem o9_186 {x0 x1 x2 : Nat} (h0 : x1 < x0 ∧ x2 < x1) : ¬ x0 ≤ x1 := Ar.arith [x0, x1, x2] [] 3 (.im (.an (.lt false (.n 1) (.n 0)) (.lt false (.n 2) (.n 1))) (.no (.le false (.n 0) (.n 1)))) (Eq.refl true) h0
theorem o9_187 {x0 x1 : Nat} (h0 : ¬ 2 * x1 + 1 < x0) : x0 ≤ 2 * x1 + 1 := Ar.arith [x0, x1] [] 2 (.im (.no (.lt false (.ad (.ml 2 (.n 1)) (.k 1)) (.n 0))) (.le false (.n 0) (.ad (.ml 2 (.n 1)) (.k 1)))) (Eq.refl true) h0
theorem o9_188 {x0 x1 : Nat} (h0 : (x1 - 1) / 2 ≠ x0) (h1 : x0 ≤ (x1 - 1) / 2) : x0 + 1 ≤ (x1 - 1) / 2 := Ar.arith [x0, x1, (x1 - 1) / 2] [] 3 (.im (.an (.le false (.ml 2 (.n 2)) (.sb (.n 1) (.k 1))) (.lt false (.sb (.n 1) (.k 1)) (.ad (.ml 2 (.n 2)) (.k 2)))) (.im (.no (.eq false (.n 2) (.n 0))) (.im (.le false (.n 0) (.n 2)) (.le false (.ad (.n 0) (.k 1)) (.n 2))))) (by kernel_rfl) (Ar.divN (x1 - 1) 2 (by decide)) h0 h1
theorem o9_189 {x0 x1 x2 : Nat} (h0 : x0 ≤ 2 * x1 + 1) (h1 : 0 < x2) (h2 : x2 ≠ x1) (h3 : x2 < x0) (h4 : (x2 - 1) / 2 = x1) : False := Ar.arith [x2, x1, x0, (x2 - 1) / 2] [] 4 (.im (.an (.le false (.ml 2 (.n 3)) (.sb (.n 0) (.k 1))) (.lt false (.sb (.n 0) (.k 1)) (.ad (.ml 2 (.n 3)) (.k 2)))) (.im (.le false (.n 2) (.ad (.ml 2 (.n 1)) (.k 1))) (.im (.lt false (.k 0) (.n 0)) (.im (.no (.eq false (.n 0) (.n 1))) (.im (.lt false (.n 0) (.n 2)) (.im (.eq false (.n 3) (.n 1)) .ff)))))) (by kernel_rfl) (Ar.divN (x2 - 1) 2 (by decide)) h0 h1 h2 h3 h4
theorem o9_190 {x0 x1 : Nat} (h0 : (x1 - 1) / 2 = x0) (h1 : 0 < x1) : ¬ x0 = x1 := Ar.arith [x1, x0, (x1 - 1) / 2] [] 3 (.im (.an (.le false (.ml 2 (.n 2)) (.sb (.n 0) (.k 1))) (.lt false (.sb (.n 0) (.k 1)) (.ad (.ml 2 (.n 2)) (.k 2)))) (.im (.eq false (.n 2) (.n 1)) (.im (.lt false (.k 0) (.n 0)) (.no (.eq false (.n 1) (.n 0)))))) (by kernel_rfl) (Ar.divN (x1 - 1) 2 (by decide)) h0 h1
theorem o9_191 {x0 x1 x2 : Nat} (h0 : (x0 - 1) / 2 = x1) (h1 : 0 < x0) (h2 : x0 < x2) (h3 : x2 ≤ 2 * x1 + 1) : False := Ar.arith [x0, x1, x2, (x0 - 1) / 2] [] 4 (.im (.an (.le false (.ml 2 (.n 3)) (.sb (.n 0) (.k 1))) (.lt false (.sb (.n 0) (.k 1)) (.ad (.ml 2 (.n 3)) (.k 2)))) (.im (.eq false (.n 3) (.n 1)) (.im (.lt false (.k 0) (.n 0)) (.im (.lt false (.n 0) (.n 2)) (.im (.le false (.n 2) (.ad (.ml 2 (.n 1)) (.k 1))) .ff))))) (by kernel_rfl) (Ar.divN (x0 - 1) 2 (by decide)) h0 h1 h2 h3
theorem o9_192 {x0 x1 : Nat} (h0 : x0 < x1 + 1) (h1 : x0 ≠ x1) : x0 < x1 := Ar.arith [x0, x1] [] 2 (.im (.lt false (.n 0) (.ad (.n 1) (.k 1))) (.im (.no (.eq false (.n 0) (.n 1))) (.lt false (.n 0) (.n 1)))) (Eq.refl true) h0 h1
theorem o9_193 {x0 x1 : Nat} (h0 : 0 < x0) (h1 : x0 < x1 + 1) (h2 : x0 ≠ x1) : (x0 - 1) / 2 < x1 := Ar.arith [x1, x0, (x0 - 1) / 2] [] 3 (.im (.an (.le false (.ml 2 (.n 2)) (.sb (.n 1) (.k 1))) (.lt false (.sb (.n 1) (.k 1)) (.ad (.ml 2 (.n 2)) (.k 2)))) (.im (.lt false (.k 0) (.n 1)) (.im (.lt false (.n 1) (.ad (.n 0) (.k 1))) (.im (.no (.eq false (.n 1) (.n 0))) (.lt false (.n 2) (.n 0)))))) (by kernel_rfl) (Ar.divN (x0 - 1) 2 (by decide)) h0 h1 h2
theorem o9_194 {x0 x1 : Nat} (h0 : (x0 - 1) / 2 = x1) (h1 : 0 < x0) (h2 : x0 < x1 + 1) : False := Ar.arith [x0, x1, (x0 - 1) / 2] [] 3 (.im (.an (.le false (.ml 2 (.n 2)) (.sb (.n 0) (.k 1))) (.lt false (.sb (.n 0) (.k 1)) (.ad (.ml 2 (.n 2)) (.k 2)))) (.im (.eq false (.n 2) (.n 1)) (.im (.lt false (.k 0) (.n 0)) (.im (.lt false (.n 0) (.ad (.n 1) (.k 1))) .ff)))) (by kernel_rfl) (Ar.divN (x0 - 1) 2 (by decide)) h0 h1 h2
theorem o9_195 {x0 x1 : Nat} (h0 : 0 < x0) (h1 : x0 < x1) : (x0 - 1) / 2 < x1 := Ar.arith [x0, (x0 - 1) / 2, x1] [] 3 (.im (.an (.le false (.ml 2 (.n 1)) (.sb (.n 0) (.k 1))) (.lt false (.sb (.n 0) (.k 1)) (.ad (.ml 2 (.n 1)) (.k 2)))) (.im (.lt false (.k 0) (.n 0)) (.im (.lt false (.n 0) (.n 2)) (.lt false (.n 1) (.n 2))))) (by kernel_rfl) (Ar.divN (x0 - 1) 2 (by decide)) h0 h1
theorem o9_196 {x0 : Nat} (h0 : 0 < x0) : ¬ 0 = x0 := Ar.arith [x0] [] 1 (.im (.lt false (.k 0) (.n 0)) (.no (.eq false (.k 0) (.n 0)))) (Eq.refl true) h0
theorem o9_197 {x0 : Nat} (h0 : 1 ≤ (x0 - 1) / 2) : ¬ 0 = (x0 - 1) / 2 := Ar.arith [(x0 - 1) / 2, x0] [] 2 (.im (.an (.le false (.ml 2 (.n 0)) (.sb (.n 1) (.k 1))) (.lt false (.sb (.n 1) (.k 1)) (.ad (.ml 2 (.n 0)) (.k 2)))) (.im (.le false (.k 1) (.n 0)) (.no (.eq false (.k 0) (.n 0))))) (by kernel_rfl) (Ar.divN (x0 - 1) 2 (by decide)) h0
theorem o9_198 {x0 : Nat} (h0 : 1 ≤ (x0 - 1) / 2) : 0 ≤ (x0 - 1) / 2 := Ar.arith [(x0 - 1) / 2, x0] [] 2 (.im (.an (.le false (.ml 2 (.n 0)) (.sb (.n 1) (.k 1))) (.lt false (.sb (.n 1) (.k 1)) (.ad (.ml 2 (.n 0)) (.k 2)))) (.im (.le false (.k 1) (.n 0)) (.le false (.k 0) (.n 0)))) (by kernel_rfl) (Ar.divN (x0 - 1) 2 (by decide)) h0
theorem o9_199 {x0 x1 x2 x3 : Nat} (h0 : 2 * x3 + 1 < x0) (h1 : x0 - x3 = x2) (h2 : x1 < x0 ∧ x3 < x1) : x0 - x1 < x2 := Ar.arith [x1, x0, x2, x3] [] 4 (.im (.lt false (.ad (.ml 2 (.n 3)) (.k 1)) (.n 1)) (.im (.eq false (.sb (.n 1) (.n 3)) (.n 2)) (.im (.an (.lt false (.n 0) (.n 1)) (.lt false (.n 3) (.n 0))) (.lt false (.sb (.n 1) (.n 0)) (.n 2))))) (by kernel_rfl) h0 h1 h2
theorem o9_200 {x0 x1 : Nat} (h0 : x0 < x1) : (x0 + x1) / 2 - x0 < x1 - x0 := Ar.arith [x1, (x0 + x1) / 2, x0] [] 3 (.im (.an (.le false (.ml 2 (.n 1)) (.ad (.n 2) (.n 0))) (.lt false (.ad (.n 2) (.n 0)) (.ad (.ml 2 (.n 1)) (.k 2)))) (.im (.lt false (.n 2) (.n 0)) (.lt false (.sb (.n 1) (.n 2)) (.sb (.n 0) (.n 2))))) (by kernel_rfl) (Ar.divN (x0 + x1) 2 (by decide)) h0
theorem o9_201 {x0 x1 : Nat} (h0 : x1 < x0) : x0 - ((x1 + x0) / 2 + 1) < x0 - x1 := Ar.arith [x0, (x1 + x0) / 2, x1] [] 3 (.im (.an (.le false (.ml 2 (.n 1)) (.ad (.n 2) (.n 0))) (.lt false (.ad (.n 2) (.n 0)) (.ad (.ml 2 (.n 1)) (.k 2)))) (.im (.lt false (.n 2) (.n 0)) (.lt false (.sb (.n 0) (.ad (.n 1) (.k 1))) (.sb (.n 0) (.n 2))))) (by kernel_rfl) (Ar.divN (x1 + x0) 2 (by decide)) h0
theorem o9_202 {x0 x1 x2 : Nat} (h0 : x1 - x0 = x2) (h1 : x0 < x1) : (x0 + x1) / 2 - x0 < x2 := Ar.arith [x1, (x0 + x1) / 2, x2, x0] [] 4 (.im (.an (.le false (.ml 2 (.n 1)) (.ad (.n 3) (.n 0))) (.lt false (.ad (.n 3) (.n 0)) (.ad (.ml 2 (.n 1)) (.k 2)))) (.im (.eq false (.sb (.n 0) (.n 3)) (.n 2)) (.im (.lt false (.n 3) (.n 0)) (.lt false (.sb (.n 1) (.n 3)) (.n 2))))) (by kernel_rfl) (Ar.divN (x0 + x1) 2 (by decide)) h0 h1
theorem o9_203 {x0 x1 : Nat} (h0 : x0 < x1) : x0 ≤ (x0 + x1) / 2 := Ar.arith [x0, (x0 + x1) / 2, x1] [] 3 (.im (.an (.le false (.ml 2 (.n 1)) (.ad (.n 0) (.n 2))) (.lt false (.ad (.n 0) (.n 2)) (.ad (.ml 2 (.n 1)) (.k 2)))) (.im (.lt false (.n 0) (.n 2)) (.le false (.n 0) (.n 1)))) (Eq.refl true) (Ar.divN (x0 + x1) 2 (by decide)) h0
theorem o9_204 {x0 x1 x2 : Nat} (h0 : x0 ≤ x1 ∧ x1 ≤ (x0 + x2) / 2) : x0 ≤ x1 ∧ x1 ≤ x2 := Ar.arith [x1, x0, x2, (x0 + x2) / 2] [] 4 (.im (.an (.le false (.ml 2 (.n 3)) (.ad (.n 1) (.n 2))) (.lt false (.ad (.n 1) (.n 2)) (.ad (.ml 2 (.n 3)) (.k 2)))) (.im (.an (.le false (.n 1) (.n 0)) (.le false (.n 0) (.n 3))) (.an (.le false (.n 1) (.n 0)) (.le false (.n 0) (.n 2))))) (by kernel_rfl) (Ar.divN (x0 + x2) 2 (by decide)) h0
theorem o9_205 {x0 x1 x2 : Nat} (h0 : x0 - x1 = x2) (h1 : x1 < x0) : x0 - ((x1 + x0) / 2 + 1) < x2 := Ar.arith [(x1 + x0) / 2, x0, x2, x1] [] 4 (.im (.an (.le false (.ml 2 (.n 0)) (.ad (.n 3) (.n 1))) (.lt false (.ad (.n 3) (.n 1)) (.ad (.ml 2 (.n 0)) (.k 2)))) (.im (.eq false (.sb (.n 1) (.n 3)) (.n 2)) (.im (.lt false (.n 3) (.n 1)) (.lt false (.sb (.n 1) (.ad (.n 0) (.k 1))) (.n 2))))) (by kernel_rfl) (Ar.divN (x1 + x0) 2 (by decide)) h0 h1
theorem o9_206 {x0 x1 : Nat} (h0 : x0 < x1) : (x0 + x1) / 2 + 1 ≤ x1 := Ar.arith [x0, x1, (x0 + x1) / 2] [] 3 (.im (.an (.le false (.ml 2 (.n 2)) (.ad (.n 0) (.n 1))) (.lt false (.ad (.n 0) (.n 1)) (.ad (.ml 2 (.n 2)) (.k 2)))) (.im (.lt false (.n 0) (.n 1)) (.le false (.ad (.n 2) (.k 1)) (.n 1)))) (Eq.refl true) (Ar.divN (x0 + x1) 2 (by decide)) h0
theorem o9_207 {x0 x1 x2 : Nat} (h0 : (x0 + x2) / 2 + 1 ≤ x1 ∧ x1 ≤ x2) (h1 : x0 < x2) : x0 ≤ x1 ∧ x1 ≤ x2 := Ar.arith [x1, x2, (x0 + x2) / 2, x0] [] 4 (.im (.an (.le false (.ml 2 (.n 2)) (.ad (.n 3) (.n 1))) (.lt false (.ad (.n 3) (.n 1)) (.ad (.ml 2 (.n 2)) (.k 2)))) (.im (.an (.le false (.ad (.n 2) (.k 1)) (.n 0)) (.le false (.n 0) (.n 1))) (.im (.lt false (.n 3) (.n 1)) (.an (.le false (.n 3) (.n 0)) (.le false (.n 0) (.n 1)))))) (by kernel_rfl) (Ar.divN (x0 + x2) 2 (by decide)) h0 h1
theorem o9_208 {x0 x1 : Nat} (h0 : x0 < x1) : x0 ≤ x0 ∧ x0 ≤ x1 := Ar.arith [x0, x1] [] 2 (.im (.lt false (.n 0) (.n 1)) (.an (.le false (.n 0) (.n 0)) (.le false (.n 0) (.n 1)))) (Eq.refl true) h0
theorem o9_209 {x0 x1 : Nat} (h0 : x0 ≤ x1) (h1 : ¬ x0 < x1) : x0 ≤ x0 ∧ x0 ≤ x1 := Ar.arith [x0, x1] [] 2 (.im (.le false (.n 0) (.n 1)) (.im (.no (.lt false (.n 0) (.n 1))) (.an (.le false (.n 0) (.n 0)) (.le false (.n 0) (.n 1))))) (Eq.refl true) h0 h1
theorem o9_210 {x0 x1 x2 : Nat} (h0 : x0 < x1) (h1 : x1 ≤ x2) : (x0 + x1) / 2 < x2 := Ar.arith [(x0 + x1) / 2, x0, x2, x1] [] 4 (.im (.an (.le false (.ml 2 (.n 0)) (.ad (.n 1) (.n 3))) (.lt false (.ad (.n 1) (.n 3)) (.ad (.ml 2 (.n 0)) (.k 2)))) (.im (.lt false (.n 1) (.n 3)) (.im (.le false (.n 3) (.n 2)) (.lt false (.n 0) (.n 2))))) (Eq.refl true) (Ar.divN (x0 + x1) 2 (by decide)) h0 h1
theorem o9_211 {x0 x1 x2 : Nat} (h0 : x0 < x1) (h1 : x1 ≤ x2) : (x0 + x1) / 2 ≤ x2 := Ar.arith [(x0 + x1) / 2, x0, x2, x1] [] 4 (.im (.an (.le false (.ml 2 (.n 0)) (.ad (.n 1) (.n 3))) (.lt false (.ad (.n 1) (.n 3)) (.ad (.ml 2 (.n 0)) (.k 2)))) (.im (.lt false (.n 1) (.n 3)) (.im (.le false (.n 3) (.n 2)) (.le false (.n 0) (.n 2))))) (Eq.refl true) (Ar.divN (x0 + x1) 2 (by decide)) h0 h1
theorem o9_212 {x0 x1 : Int} (h0 : x1 = x0) : x0 ≤ x1 := Ar.arith [] [x0, x1] 2 (.im (.eq true (.z 1) (.z 0)) (.le true (.z 0) (.z 1))) (Eq.refl true) h0
theorem o9_213 {x0 x1 : Nat} (h0 : x0 < 2 ^ x1) : x0 < 2 ^ x1 * 2 := Ar.arith [x0, 2 ^ x1, 2 ^ x1 * 2] [] 3 (.im (.eq false (.n 2) (.ml 2 (.n 1))) (.im (.lt false (.n 0) (.n 1)) (.lt false (.n 0) (.n 2)))) (Eq.refl true) (Nat.mul_comm (2 ^ x1) 2) h0
theorem o9_214 {x0 x1 : Nat} (h0 : x0 < x1 + 1) (h1 : x1 ≤ x0) : x0 = x1 := Ar.arith [x0, x1] [] 2 (.im (.lt false (.n 0) (.ad (.n 1) (.k 1))) (.im (.le false (.n 1) (.n 0)) (.eq false (.n 0) (.n 1)))) (Eq.refl true) h0 h1
theorem o9_215 {x0 x1 : Nat} (h0 : x0 < 2 ^ x1) : x0 + 2 ^ x1 < 2 ^ x1 * 2 := Ar.arith [x0, 2 ^ x1, 2 ^ x1 * 2] [] 3 (.im (.eq false (.n 2) (.ml 2 (.n 1))) (.im (.lt false (.n 0) (.n 1)) (.lt false (.ad (.n 0) (.n 1)) (.n 2)))) (Eq.refl true) (Nat.mul_comm (2 ^ x1) 2) h0
theorem o9_217 {x0 x1 x2 x3 : Nat} (h0 : (x1 : Int) = (x0 : Int) ∧ (x2 : Int) = (x3 : Int)) : x0 = x1 := Ar.arith [x0, x1, x2, x3] [] 4 (.im (.an (.eq true (.up (.n 1)) (.up (.n 0))) (.eq true (.up (.n 2)) (.up (.n 3)))) (.eq false (.n 0) (.n 1))) (Eq.refl true) h0
theorem o9_218 {x0 x1 x2 x3 : Nat} (h0 : (x2 : Int) = (x3 : Int) ∧ (x1 : Int) = (x0 : Int)) : x0 = x1 := Ar.arith [x0, x1, x2, x3] [] 4 (.im (.an (.eq true (.up (.n 2)) (.up (.n 3))) (.eq true (.up (.n 1)) (.up (.n 0)))) (.eq false (.n 0) (.n 1))) (Eq.refl true) h0
theorem o9_219 {x0 : Int} (h0 : (-(1000 : Int)) < x0 ∧ x0 < (1000 : Int)) : (-(2 : Int) ^ 63) ≤ x0 := Ar.arith [] [x0] 1 (.im (.an (.lt true (.ng (.k 1000)) (.z 0)) (.lt true (.z 0) (.k 1000))) (.le true (.ng (.pw 2 63)) (.z 0))) (Eq.refl true) h0
theorem o9_220 {x0 : Int} (h0 : (-(1000 : Int)) < x0 ∧ x0 < (1000 : Int)) : x0 < (2 : Int) ^ 63 := Ar.arith [] [x0] 1 (.im (.an (.lt true (.ng (.k 1000)) (.z 0)) (.lt true (.z 0) (.k 1000))) (.lt true (.z 0) (.pw 2 63))) (Eq.refl true) h0
theorem o9_221 {x0 : Int} (h0 : (-(1000 : Int)) < x0 ∧ x0 < (1000 : Int)) : x0 < (0 : Int) ∨ (0 : Int) ≤ x0 := Ar.arith [] [x0] 1 (.im (.an (.lt true (.ng (.k 1000)) (.z 0)) (.lt true (.z 0) (.k 1000))) (.o (.lt true (.z 0) (.k 0)) (.le true (.k 0) (.z 0)))) (Eq.refl true) h0
theorem o9_222 {x0 x1 x2 : Nat} (h0 : x0 = x1) (h1 : x2 < 2) (h2 : x2 = x1) : x0 < 2 := Ar.arith [x0, x1, x2] [] 3 (.im (.eq false (.n 0) (.n 1)) (.im (.lt false (.n 2) (.k 2)) (.im (.eq false (.n 2) (.n 1)) (.lt false (.n 0) (.k 2))))) (by kernel_rfl) h0 h1 h2
theorem o9_223 {x0 : Nat} (h0 : x0 + 1 + 1 < 2) : False := Ar.arith [x0] [] 1 (.im (.lt false (.ad (.ad (.n 0) (.k 1)) (.k 1)) (.k 2)) .ff) (Eq.refl true) h0
theorem o9_224 {x0 x1 x2 : Nat} (h0 : x1 = x0) (h1 : x2 = x0) (h2 : ¬ x1 < 2) : 2 ≤ x0 := Ar.arith [x1, x0, x2] [] 3 (.im (.eq false (.n 0) (.n 1)) (.im (.eq false (.n 2) (.n 1)) (.im (.no (.lt false (.n 0) (.k 2))) (.le false (.k 2) (.n 1))))) (Eq.refl true) h0 h1 h2
theorem o9_225 {x0 x1 x2 : Nat} (h0 : x0 < x2) (h1 : x2 = x1) : x0 < x1 := Ar.arith [x0, x1, x2] [] 3 (.im (.lt false (.n 0) (.n 2)) (.im (.eq false (.n 2) (.n 1)) (.lt false (.n 0) (.n 1)))) (Eq.refl true) h0 h1
theorem o9_226 {x0 x1 x2 x3 : Nat} (h0 : x3 = x1) (h1 : x3 ≤ x2) : min (x0 + 1) x1 ≤ x2 := Ar.arith [x0, x1, x2, x3] [] 4 (.im (.eq false (.n 3) (.n 1)) (.im (.le false (.n 3) (.n 2)) (.le false (.mn (.ad (.n 0) (.k 1)) (.n 1)) (.n 2)))) (by kernel_rfl) h0 h1
theorem o9_227 {x0 x1 : Nat} (h0 : x0 + 1 ≤ x1) : x0 ≤ x1 := Ar.arith [x0, x1] [] 2 (.im (.le false (.ad (.n 0) (.k 1)) (.n 1)) (.le false (.n 0) (.n 1))) (Eq.refl true) h0
theorem o9_228 {x0 x1 : Nat} (h0 : x0 + 1 ≤ x1) : x0 + 1 ≤ x1 + 1 := Ar.arith [x0, x1] [] 2 (.im (.le false (.ad (.n 0) (.k 1)) (.n 1)) (.le false (.ad (.n 0) (.k 1)) (.ad (.n 1) (.k 1)))) (Eq.refl true) h0
theorem o9_229 {x0 x1 : Nat} : ((x0 + 1 + x1 : Nat) : Int) = ((x0 + (x1 + 1) : Nat) : Int) := Ar.arith [x0, x1] [] 2 (.eq true (.up (.ad (.ad (.n 0) (.k 1)) (.n 1))) (.up (.ad (.n 0) (.ad (.n 1) (.k 1))))) (Eq.refl true)
theorem o9_230 {x0 x1 : Nat} (h0 : x1 < x0) : (0 : Int) ≤ (x0 : Int) - (1 : Int) := Ar.arith [x0, x1] [] 2 (.im (.lt false (.n 1) (.n 0)) (.le true (.k 0) (.sb (.up (.n 0)) (.k 1)))) (Eq.refl true) h0
theorem o9_231 {x0 x1 : Nat} (h0 : x1 < x0) : ((x0 : Int) - (1 : Int)) / (2 : Int) = (((x0 - 1) / 2 : Nat) : Int) := Ar.arith [(x0 - 1) / 2, x0, x1] [((x0 : Int) - (1 : Int)) / (2 : Int)] 3 (.im (.an (.le true (.ml 2 (.z 0)) (.sb (.up (.n 1)) (.k 1))) (.lt true (.sb (.up (.n 1)) (.k 1)) (.ad (.ml 2 (.z 0)) (.k 2)))) (.im (.an (.le false (.ml 2 (.n 0)) (.sb (.n 1) (.k 1))) (.lt false (.sb (.n 1) (.k 1)) (.ad (.ml 2 (.n 0)) (.k 2)))) (.im (.lt false (.n 2) (.n 1)) (.eq true (.z 0) (.up (.n 0)))))) (by kernel_rfl) (Ar.divZ ((x0 : Int) - (1 : Int)) (2 : Int) (by decide)) (Ar.divN (x0 - 1) 2 (by decide)) h0
theorem o9_232 {x0 : Nat} : (0 : Int) ≤ (x0 : Int) := Ar.arith [x0] [] 1 (.le true (.k 0) (.up (.n 0))) (Eq.refl true)
theorem o9_233 {x0 x1 : Nat} (h0 : x0 < x1) : (x0 : Int) < (x1 : Int) := Ar.arith [x0, x1] [] 2 (.im (.lt false (.n 0) (.n 1)) (.lt true (.up (.n 0)) (.up (.n 1)))) (Eq.refl true) h0
theorem o9_234 {x0 x1 x2 : Nat} (h0 : 2 * x0 + 1 < x2) (h1 : x2 = x1) : (2 : Int) * (x0 : Int) + (1 : Int) < (x1 : Int) := Ar.arith [x0, x1, x2] [] 3 (.im (.lt false (.ad (.ml 2 (.n 0)) (.k 1)) (.n 2)) (.im (.eq false (.n 2) (.n 1)) (.lt true (.ad (.ml 2 (.up (.n 0))) (.k 1)) (.up (.n 1))))) (Eq.refl true) h0 h1
theorem o9_235 {x0 x1 x2 x3 : Nat} (h0 : x1 < x3) (h1 : x2 < x1) (h2 : x2 < x3) (h3 : x3 = x0) : x0 - x1 < x0 - x2 := Ar.arith [x2, x3, x0, x1] [] 4 (.im (.lt false (.n 3) (.n 1)) (.im (.lt false (.n 0) (.n 3)) (.im (.lt false (.n 0) (.n 1)) (.im (.eq false (.n 1) (.n 2)) (.lt false (.sb (.n 2) (.n 3)) (.sb (.n 2) (.n 0))))))) (by kernel_rfl) h0 h1 h2 h3
theorem o9_236 {x0 x1 x2 : Nat} (h0 : 2 * x0 + 2 < x2) (h1 : x2 = x1) : (2 : Int) * (x0 : Int) + (1 : Int) + (1 : Int) < (x1 : Int) := Ar.arith [x0, x1, x2] [] 3 (.im (.lt false (.ad (.ml 2 (.n 0)) (.k 2)) (.n 2)) (.im (.eq false (.n 2) (.n 1)) (.lt true (.ad (.ad (.ml 2 (.up (.n 0))) (.k 1)) (.k 1)) (.up (.n 1))))) (Eq.refl true) h0 h1
theorem o9_237 {x0 : Nat} : (2 : Int) * (x0 : Int) + (1 : Int) = ((2 * x0 + 1 : Nat) : Int) := Ar.arith [x0] [] 1 (.eq true (.ad (.ml 2 (.up (.n 0))) (.k 1)) (.up (.ad (.ml 2 (.n 0)) (.k 1)))) (Eq.refl true)
theorem o9_238 {x0 : Nat} : (2 : Int) * (x0 : Int) + (1 : Int) + (1 : Int) = ((2 * x0 + 2 : Nat) : Int) := Ar.arith [x0] [] 1 (.eq true (.ad (.ad (.ml 2 (.up (.n 0))) (.k 1)) (.k 1)) (.up (.ad (.ml 2 (.n 0)) (.k 2)))) (Eq.refl true)
theorem o9_239 {x0 x1 x2 : Nat} (h0 : 2 * x1 + 1 < x2) (h1 : x2 = x0) (h2 : ¬ 2 * x1 + 2 < x2) : (x0 : Int) ≤ (2 : Int) * (x1 : Int) + (1 : Int) + (1 : Int) := Ar.arith [x0, x1, x2] [] 3 (.im (.lt false (.ad (.ml 2 (.n 1)) (.k 1)) (.n 2)) (.im (.eq false (.n 2) (.n 0)) (.im (.no (.lt false (.ad (.ml 2 (.n 1)) (.k 2)) (.n 2))) (.le true (.up (.n 0)) (.ad (.ad (.ml 2 (.up (.n 1))) (.k 1)) (.k 1)))))) (Eq.refl true) h0 h1 h2
theorem o9_240 {x0 x1 x2 : Nat} (h0 : x2 = x0) (h1 : ¬ 2 * x1 + 1 < x2) : (x0 : Int) ≤ (2 : Int) * (x1 : Int) + (1 : Int) := Ar.arith [x0, x1, x2] [] 3 (.im (.eq false (.n 2) (.n 0)) (.im (.no (.lt false (.ad (.ml 2 (.n 1)) (.k 1)) (.n 2))) (.le true (.up (.n 0)) (.ad (.ml 2 (.up (.n 1))) (.k 1))))) (Eq.refl true) h0 h1
theorem o9_241 {x0 : Nat} : (0 : Int) < ((x0 + 1 : Nat) : Int) := Ar.arith [x0] [] 1 (.lt true (.k 0) (.up (.ad (.n 0) (.k 1)))) (Eq.refl true)
theorem o9_242 {x0 x1 : Nat} (h0 : x0 < x1) : x0 < x1 := Ar.arith [x0, x1] [] 2 (.im (.lt false (.n 0) (.n 1)) (.lt false (.n 0) (.n 1))) (Eq.refl true) h0
theorem o9_243 {x0 x1 : Nat} : ((x0 : Int) + (x1 : Int)) / (2 : Int) = (((x0 + x1) / 2 : Nat) : Int) := Ar.arith [(x0 + x1) / 2, x0, x1] [((x0 : Int) + (x1 : Int)) / (2 : Int)] 3 (.im (.an (.le true (.ml 2 (.z 0)) (.ad (.up (.n 1)) (.up (.n 2)))) (.lt true (.ad (.up (.n 1)) (.up (.n 2))) (.ad (.ml 2 (.z 0)) (.k 2)))) (.im (.an (.le false (.ml 2 (.n 0)) (.ad (.n 1) (.n 2))) (.lt false (.ad (.n 1) (.n 2)) (.ad (.ml 2 (.n 0)) (.k 2)))) (.eq true (.z 0) (.up (.n 0))))) (by kernel_rfl) (Ar.divZ ((x0 : Int) + (x1 : Int)) (2 : Int) (by decide)) (Ar.divN (x0 + x1) 2 (by decide))
theorem o9_244 {x0 x1 : Nat} : (((x0 + x1) / 2 : Nat) : Int) + (1 : Int) = (((x0 + x1) / 2 + 1 : Nat) : Int) := Ar.arith [x0, x1, (x0 + x1) / 2] [] 3 (.im (.an (.le false (.ml 2 (.n 2)) (.ad (.n 0) (.n 1))) (.lt false (.ad (.n 0) (.n 1)) (.ad (.ml 2 (.n 2)) (.k 2)))) (.eq true (.ad (.up (.n 2)) (.k 1)) (.up (.ad (.n 2) (.k 1))))) (Eq.refl true) (Ar.divN (x0 + x1) 2 (by decide))
theorem o9_245 {x0 x1 : Nat} (h0 : x1 ≤ x0) (h1 : ¬ x1 < x0) : x0 ≤ x1 := Ar.arith [x0, x1] [] 2 (.im (.le false (.n 1) (.n 0)) (.im (.no (.lt false (.n 1) (.n 0))) (.le false (.n 0) (.n 1)))) (Eq.refl true) h0 h1
theorem o9_246 {x0 x1 : Nat} (h0 : 0 ≤ x0 ∧ x0 ≤ x1) : (0 : Int) ≤ (x0 : Int) := Ar.arith [x0, x1] [] 2 (.im (.an (.le false (.k 0) (.n 0)) (.le false (.n 0) (.n 1))) (.le true (.k 0) (.up (.n 0)))) (Eq.refl true) h0
theorem o9_247 {x0 x1 : Nat} (h0 : 0 ≤ x0 ∧ x0 ≤ x1) : (x0 : Int) ≤ (x1 : Int) := Ar.arith [x0, x1] [] 2 (.im (.an (.le false (.k 0) (.n 0)) (.le false (.n 0) (.n 1))) (.le true (.up (.n 0)) (.up (.n 1)))) (Eq.refl true) h0
theorem o9_248 {x0 : Nat} : min (9 : Int) ((2 : Int) + (x0 : Int) / (3 : Int)) = ((min 9 (2 + x0 / 3) : Nat) : Int) := Ar.arith [x0 / 3, x0] [(x0 : Int) / (3 : Int)] 2 (.im (.an (.le true (.ml 3 (.z 0)) (.up (.n 1))) (.lt true (.up (.n 1)) (.ad (.ml 3 (.z 0)) (.k 3)))) (.im (.an (.le false (.ml 3 (.n 0)) (.n 1)) (.lt false (.n 1) (.ad (.ml 3 (.n 0)) (.k 3)))) (.eq true (.mn (.k 9) (.ad (.k 2) (.z 0))) (.up (.mn (.k 9) (.ad (.k 2) (.n 0))))))) (by kernel_rfl) (Ar.divZ (x0 : Int) (3 : Int) (by decide)) (Ar.divN x0 3 (by decide))
theorem o9_249 {x0 : Nat} (h0 : x0 ≤ 63) : 2 ≤ min 9 (2 + x0 / 3) := Ar.arith [x0, x0 / 3] [] 2 (.im (.an (.le false (.ml 3 (.n 1)) (.n 0)) (.lt false (.n 0) (.ad (.ml 3 (.n 1)) (.k 3)))) (.im (.le false (.n 0) (.k 63)) (.le false (.k 2) (.mn (.k 9) (.ad (.k 2) (.n 1)))))) (Eq.refl true) (Ar.divN x0 3 (by decide)) h0
theorem o9_250 {x0 : Nat} : min 9 (2 + x0 / 3) ≤ 9 := Ar.arith [x0, x0 / 3] [] 2 (.im (.an (.le false (.ml 3 (.n 1)) (.n 0)) (.lt false (.n 0) (.ad (.ml 3 (.n 1)) (.k 3)))) (.le false (.mn (.k 9) (.ad (.k 2) (.n 1))) (.k 9))) (Eq.refl true) (Ar.divN x0 3 (by decide))
theorem o9_251 {x0 : Nat} (h0 : 2 ≤ x0) (h1 : x0 ≤ 9) : x0 < 2 ^ 60 := Ar.arith [x0] [] 1 (.im (.le false (.k 2) (.n 0)) (.im (.le false (.n 0) (.k 9)) (.lt false (.n 0) (.pw 2 60)))) (Eq.refl true) h0 h1
theorem o9_252 {x0 : Nat} (h0 : 2 ≤ x0) (h1 : x0 ≤ 9) : x0 ≤ 16777216 := Ar.arith [x0] [] 1 (.im (.le false (.k 2) (.n 0)) (.im (.le false (.n 0) (.k 9)) (.le false (.n 0) (.k 16777216)))) (Eq.refl true) h0 h1
theorem o9_253 {x0 : Nat} (h0 : 2 ≤ x0) (h1 : x0 ≤ 9) : ¬ x0 = 0 := Ar.arith [x0] [] 1 (.im (.le false (.k 2) (.n 0)) (.im (.le false (.n 0) (.k 9)) (.no (.eq false (.n 0) (.k 0))))) (Eq.refl true) h0 h1
theorem o9_254 {x0 x1 : Nat} (h0 : 2 ≤ x0) (h1 : x0 ≤ 9) (h2 : x1 = x0) : x0 < 2 ^ 60 := Ar.arith [x0, x1] [] 2 (.im (.le false (.k 2) (.n 0)) (.im (.le false (.n 0) (.k 9)) (.im (.eq false (.n 1) (.n 0)) (.lt false (.n 0) (.pw 2 60))))) (Eq.refl true) h0 h1 h2
theorem o9_255 {x0 x1 : Nat} (h0 : 2 ≤ x0) (h1 : x0 ≤ 9) (h2 : x1 = x0) : x0 ≤ 16777216 := Ar.arith [x0, x1] [] 2 (.im (.le false (.k 2) (.n 0)) (.im (.le false (.n 0) (.k 9)) (.im (.eq false (.n 1) (.n 0)) (.le false (.n 0) (.k 16777216))))) (Eq.refl true) h0 h1 h2
theorem o9_256 {x0 x1 : Nat} (h0 : 2 ≤ x0) (h1 : x0 ≤ 9) (h2 : x1 = x0) : ¬ x0 = 0 := Ar.arith [x0, x1] [] 2 (.im (.le false (.k 2) (.n 0)) (.im (.le false (.n 0) (.k 9)) (.im (.eq false (.n 1) (.n 0)) (.no (.eq false (.n 0) (.k 0)))))) (Eq.refl true) h0 h1 h2
theorem o9_257 {x0 : Int} (h0 : x0 < (0 : Int)) : (1 : Int) ≤ (1 : Int) + (-x0) := Ar.arith [] [x0] 1 (.im (.lt true (.z 0) (.k 0)) (.le true (.k 1) (.ad (.k 1) (.ng (.z 0))))) (Eq.refl true) h0
theorem o9_258 {x0 : Int} (h0 : ¬ x0 < (0 : Int)) : (1 : Int) ≤ (1 : Int) + x0 := Ar.arith [] [x0] 1 (.im (.no (.lt true (.z 0) (.k 0))) (.le true (.k 1) (.ad (.k 1) (.z 0)))) (Eq.refl true) h0
theorem o9_259 {x0 x1 x2 x3 : Nat} (h0 : x0 = x2) (h1 : x1 = x2) (h2 : x3 = x2) : x0 = x1 := Ar.arith [x0, x1, x2, x3] [] 4 (.im (.eq false (.n 0) (.n 2)) (.im (.eq false (.n 1) (.n 2)) (.im (.eq false (.n 3) (.n 2)) (.eq false (.n 0) (.n 1))))) (by kernel_rfl) h0 h1 h2
theorem o9_260 {x0 x1 x2 x3 : Nat} (h0 : 2 ≤ x1) (h1 : x1 ≤ 9) (h2 : x2 = x1) (h3 : x3 = x1) (h4 : x0 = x1) : 2 ≤ x0 := Ar.arith [x0, x1, x2, x3] [] 4 (.im (.le false (.k 2) (.n 1)) (.im (.le false (.n 1) (.k 9)) (.im (.eq false (.n 2) (.n 1)) (.im (.eq false (.n 3) (.n 1)) (.im (.eq false (.n 0) (.n 1)) (.le false (.k 2) (.n 0))))))) (by kernel_rfl) h0 h1 h2 h3 h4
theorem o9_261 {x0 x1 x2 x3 : Nat} (h0 : 2 ≤ x1) (h1 : x1 ≤ 9) (h2 : x2 = x1) (h3 : x3 = x1) (h4 : x0 = x1) : x0 ≤ 9 := Ar.arith [x0, x1, x2, x3] [] 4 (.im (.le false (.k 2) (.n 1)) (.im (.le false (.n 1) (.k 9)) (.im (.eq false (.n 2) (.n 1)) (.im (.eq false (.n 3) (.n 1)) (.im (.eq false (.n 0) (.n 1)) (.le false (.n 0) (.k 9))))))) (by kernel_rfl) h0 h1 h2 h3 h4
theorem o9_262 {x0 : Nat} {x1 x2 : Int} (h0 : (x0 : Int) ≤ x2) (h1 : (1 : Int) ≤ x1) : ((x0 + 1 : Nat) : Int) ≤ x1 + x2 := Ar.arith [x0] [x1, x2] 2 (.im (.le true (.up (.n 0)) (.z 1)) (.im (.le true (.k 1) (.z 0)) (.le true (.up (.ad (.n 0) (.k 1))) (.ad (.z 0) (.z 1))))) (Eq.refl true) h0 h1
theorem o9_263 {x1 x2 x3 : Nat} {x0 : Int} (h0 : 2 ≤ x1) (h1 : x1 ≤ 9) (h2 : x2 = x1) (h3 : x3 = x1) (h4 : (x3 : Int) ≤ x0) : x0 ≠ (0 : Int) := Ar.arith [x3, x1, x2] [x0] 3 (.im (.le false (.k 2) (.n 1)) (.im (.le false (.n 1) (.k 9)) (.im (.eq false (.n 2) (.n 1)) (.im (.eq false (.n 0) (.n 1)) (.im (.le true (.up (.n 0)) (.z 0)) (.no (.eq true (.z 0) (.k 0)))))))) (by kernel_rfl) h0 h1 h2 h3 h4
theorem o9_264 {x0 x1 x2 : Nat} (h0 : 2 ≤ x0) (h1 : x0 ≤ 9) (h2 : x1 = x0) (h3 : x2 = x0) : x0 ≤ 16777216 := Ar.arith [x0, x1, x2] [] 3 (.im (.le false (.k 2) (.n 0)) (.im (.le false (.n 0) (.k 9)) (.im (.eq false (.n 1) (.n 0)) (.im (.eq false (.n 2) (.n 0)) (.le false (.n 0) (.k 16777216)))))) (Eq.refl true) h0 h1 h2 h3
theorem o9_265 {x0 x1 x2 : Int} : x0 + (x1 + x2) = x1 + (x0 + x2) := Ar.arith [] [x0, x1, x2] 3 (.eq true (.ad (.z 0) (.ad (.z 1) (.z 2))) (.ad (.z 1) (.ad (.z 0) (.z 2)))) (Eq.refl true)
theorem o9_266 {x0 x1 : Int} (h0 : (0 : Int) ≤ x1) (h1 : (1 : Int) ≤ x0) : (0 : Int) ≤ x0 + x1 := Ar.arith [] [x0, x1] 2 (.im (.le true (.k 0) (.z 1)) (.im (.le true (.k 1) (.z 0)) (.le true (.k 0) (.ad (.z 0) (.z 1))))) (Eq.refl true) h0 h1
theorem o9_267 {x0 : Int} (h0 : (0 : Int) ≤ x0) : (0 : Int) ≤ (0 : Int) + x0 := Ar.arith [] [x0] 1 (.im (.le true (.k 0) (.z 0)) (.le true (.k 0) (.ad (.k 0) (.z 0)))) (Eq.refl true) h0
theorem o9_268 {x0 x1 : Int} (h0 : x1 < x0) : ¬ x0 ≤ x1 := Ar.arith [] [x0, x1] 2 (.im (.lt true (.z 1) (.z 0)) (.no (.le true (.z 0) (.z 1)))) (Eq.refl true) h0
theorem o9_269 {x0 x1 : Int} (h0 : (0 : Int) < x0) (h1 : (0 : Int) ≤ x1) : (0 : Int) ≤ x0 + x1 := Ar.arith [] [x0, x1] 2 (.im (.lt true (.k 0) (.z 0)) (.im (.le true (.k 0) (.z 1)) (.le true (.k 0) (.ad (.z 0) (.z 1))))) (Eq.refl true) h0 h1
theorem o9_270 {x0 : Nat} (h0 : 0 = x0) (h1 : 1 ≤ x0) : False := Ar.arith [x0] [] 1 (.im (.eq false (.k 0) (.n 0)) (.im (.le false (.k 1) (.n 0)) .ff)) (Eq.refl true) h0 h1
theorem o9_271 {x0 x1 : Int} (h0 : x0 ≤ x1) : x0 ≤ x1 := Ar.arith [] [x0, x1] 2 (.im (.le true (.z 0) (.z 1)) (.le true (.z 0) (.z 1))) (Eq.refl true) h0
theorem o9_272 {x0 x1 x2 : Nat} (h0 : x1 + x2 = x0) : x0 = x1 + x2 := Ar.arith [x0, x1, x2] [] 3 (.im (.eq false (.ad (.n 1) (.n 2)) (.n 0)) (.eq false (.n 0) (.ad (.n 1) (.n 2)))) (Eq.refl true) h0
theorem o9_273 {x0 x1 : Nat} (h0 : x0 ≤ x1) : x0 + 1 ≤ x1 + 1 := Ar.arith [x0, x1] [] 2 (.im (.le false (.n 0) (.n 1)) (.le false (.ad (.n 0) (.k 1)) (.ad (.n 1) (.k 1)))) (Eq.refl true) h0
theorem o9_274 {x0 x1 x2 x3 : Nat} (h0 : 1 ≤ x0) (h1 : x1 = x2 + 0) (h2 : x3 = x2 + x0) (h3 : x3 ≤ x1) : False := Ar.arith [x0, x1, x3, x2] [] 4 (.im (.le false (.k 1) (.n 0)) (.im (.eq false (.n 1) (.ad (.n 3) (.k 0))) (.im (.eq false (.n 2) (.ad (.n 3) (.n 0))) (.im (.le false (.n 2) (.n 1)) .ff)))) (by kernel_rfl) h0 h1 h2 h3
theorem o9_275 {x0 x1 : Nat} (h0 : x0 + x1 = 0) : x0 = 0 := Ar.arith [x0, x1] [] 2 (.im (.eq false (.ad (.n 0) (.n 1)) (.k 0)) (.eq false (.n 0) (.k 0))) (Eq.refl true) h0
theorem o9_276 {x0 x1 x2 x3 x4 : Int} (h0 : x0 + x1 ≤ x4 + x3) (h1 : x4 ≤ x2) : x0 + x1 ≤ x2 + x3 := Ar.arith [] [x0, x1, x2, x3, x4] 5 (.im (.le true (.ad (.z 0) (.z 1)) (.ad (.z 4) (.z 3))) (.im (.le true (.z 4) (.z 2)) (.le true (.ad (.z 0) (.z 1)) (.ad (.z 2) (.z 3))))) (Eq.refl true) h0 h1
theorem o9_277 {x0 x1 x2 : Int} (h0 : x0 ≤ x2) (h1 : ¬ x1 ≤ x2) : x0 < x1 := Ar.arith [] [x0, x1, x2] 3 (.im (.le true (.z 0) (.z 2)) (.im (.no (.le true (.z 1) (.z 2))) (.lt true (.z 0) (.z 1)))) (Eq.refl true) h0 h1
theorem o9_278 {x0 x1 x2 : Int} (h0 : (0 : Int) ≤ x2) (h1 : x0 ≤ x1) : x0 ≤ x1 + x2 := Ar.arith [] [x0, x1, x2] 3 (.im (.le true (.k 0) (.z 2)) (.im (.le true (.z 0) (.z 1)) (.le true (.z 0) (.ad (.z 1) (.z 2))))) (Eq.refl true) h0 h1
theorem o9_279 {x0 x1 : Int} (h0 : x1 < x0) : (0 : Int) < x0 - x1 := Ar.arith [] [x0, x1] 2 (.im (.lt true (.z 1) (.z 0)) (.lt true (.k 0) (.sb (.z 0) (.z 1)))) (Eq.refl true) h0
theorem o9_280 {x0 x1 x2 x3 : Int} : x0 + x1 + (x2 - x1 + x3) ≤ x0 + (x2 + x3) := Ar.arith [] [x0, x1, x2, x3] 4 (.le true (.ad (.ad (.z 0) (.z 1)) (.ad (.sb (.z 2) (.z 1)) (.z 3))) (.ad (.z 0) (.ad (.z 2) (.z 3)))) (Eq.refl true)
theorem o9_281 {x0 x1 x2 x3 x4 : Int} (h0 : x2 ≤ x4) : x0 + x1 + (x2 - x1 + x3) ≤ x0 + (x4 + x3) := Ar.arith [] [x0, x1, x2, x3, x4] 5 (.im (.le true (.z 2) (.z 4)) (.le true (.ad (.ad (.z 0) (.z 1)) (.ad (.sb (.z 2) (.z 1)) (.z 3))) (.ad (.z 0) (.ad (.z 4) (.z 3))))) (Eq.refl true) h0
theorem o9_282 {x0 x1 x2 x3 x4 x5 : Int} (h0 : x0 + x1 ≤ x2 + (x4 + x5)) : x0 + x1 ≤ x2 + x3 + (x4 - x3 + x5) := Ar.arith [] [x0, x1, x2, x3, x4, x5] 6 (.im (.le true (.ad (.z 0) (.z 1)) (.ad (.z 2) (.ad (.z 4) (.z 5)))) (.le true (.ad (.z 0) (.z 1)) (.ad (.ad (.z 2) (.z 3)) (.ad (.sb (.z 4) (.z 3)) (.z 5))))) (Eq.refl true) h0
theorem o9_283 {x0 x1 x2 x3 x4 : Int} (h0 : (0 : Int) ≤ x3) (h1 : x0 + x1 ≤ x2 + x4) : x0 + x1 ≤ x2 + x3 + x4 := Ar.arith [] [x0, x1, x2, x3, x4] 5 (.im (.le true (.k 0) (.z 3)) (.im (.le true (.ad (.z 0) (.z 1)) (.ad (.z 2) (.z 4))) (.le true (.ad (.z 0) (.z 1)) (.ad (.ad (.z 2) (.z 3)) (.z 4))))) (Eq.refl true) h0 h1
theorem o9_284 {x0 x1 x2 x3 : Int} (h0 : (0 : Int) ≤ x3) (h1 : x0 ≤ x1 + x2) : x0 + (0 : Int) ≤ x1 + x2 + x3 := Ar.arith [] [x0, x1, x2, x3] 4 (.im (.le true (.k 0) (.z 3)) (.im (.le true (.z 0) (.ad (.z 1) (.z 2))) (.le true (.ad (.z 0) (.k 0)) (.ad (.ad (.z 1) (.z 2)) (.z 3))))) (Eq.refl true) h0 h1
theorem o9_285 {x0 : Int} (h0 : (1 : Int) ≤ x0) : (0 : Int) < x0 := Ar.arith [] [x0] 1 (.im (.le true (.k 1) (.z 0)) (.lt true (.k 0) (.z 0))) (Eq.refl true) h0
theorem o9_286 {x0 x1 x2 : Int} (h0 : (0 : Int) ≤ x2) : x0 + (x1 + (0 : Int)) ≤ x0 + (x1 + x2) := Ar.arith [] [x0, x1, x2] 3 (.im (.le true (.k 0) (.z 2)) (.le true (.ad (.z 0) (.ad (.z 1) (.k 0))) (.ad (.z 0) (.ad (.z 1) (.z 2))))) (Eq.refl true) h0
theorem o9_287 {x0 x1 x2 x3 : Nat} (h0 : 1 ≤ x2) (h1 : x3 = x0 + 1) (h2 : x3 = x1 + x2) : x0 = x1 + (x2 - 1) := Ar.arith [x2, x0, x1, x3] [] 4 (.im (.le false (.k 1) (.n 0)) (.im (.eq false (.n 3) (.ad (.n 1) (.k 1))) (.im (.eq false (.n 3) (.ad (.n 2) (.n 0))) (.eq false (.n 1) (.ad (.n 2) (.sb (.n 0) (.k 1))))))) (by kernel_rfl) h0 h1 h2
theorem o9_288 {x0 : Nat} (h0 : 1 ≤ x0) (h1 : ¬ x0 = 1) : 1 ≤ x0 - 1 := Ar.arith [x0] [] 1 (.im (.le false (.k 1) (.n 0)) (.im (.no (.eq false (.n 0) (.k 1))) (.le false (.k 1) (.sb (.n 0) (.k 1))))) (by kernel_rfl) h0 h1
theorem o9_289 {x0 : Nat} (h0 : 1 ≤ x0) : x0 - 1 + 1 = x0 := Ar.arith [x0] [] 1 (.im (.le false (.k 1) (.n 0)) (.eq false (.ad (.sb (.n 0) (.k 1)) (.k 1)) (.n 0))) (Eq.refl true) h0
theorem o9_290 {x0 x1 x2 x3 x4 : Int} (h0 : x0 + x2 ≤ x3 + x4) : x0 + (x1 + x2) ≤ x3 + (x1 + x4) := Ar.arith [] [x0, x1, x2, x3, x4] 5 (.im (.le true (.ad (.z 0) (.z 2)) (.ad (.z 3) (.z 4))) (.le true (.ad (.z 0) (.ad (.z 1) (.z 2))) (.ad (.z 3) (.ad (.z 1) (.z 4))))) (Eq.refl true) h0
theorem o9_291 {x0 x1 x2 : Int} (h0 : x0 ≤ x2) (h1 : x1 = x2) : x0 ≤ x1 := Ar.arith [] [x0, x1, x2] 3 (.im (.le true (.z 0) (.z 2)) (.im (.eq true (.z 1) (.z 2)) (.le true (.z 0) (.z 1)))) (Eq.refl true) h0 h1
theorem o9_292 {x0 x1 x2 x3 x4 : Int} (h0 : x0 + x1 ≤ x2 + (x3 + x4)) : x0 + x1 ≤ x2 + x3 + x4 := Ar.arith [] [x0, x1, x2, x3, x4] 5 (.im (.le true (.ad (.z 0) (.z 1)) (.ad (.z 2) (.ad (.z 3) (.z 4)))) (.le true (.ad (.z 0) (.z 1)) (.ad (.ad (.z 2) (.z 3)) (.z 4)))) (Eq.refl true) h0
theorem o9_293 {x0 x1 x2 : Int} (h0 : (0 : Int) < x2) (h1 : x0 ≤ x1) : x0 ≤ x1 + x2 := Ar.arith [] [x0, x1, x2] 3 (.im (.lt true (.k 0) (.z 2)) (.im (.le true (.z 0) (.z 1)) (.le true (.z 0) (.ad (.z 1) (.z 2))))) (Eq.refl true) h0 h1
theorem o9_294 {x0 x1 x2 : Nat} (h0 : x0 = x1 + 1 + x2) : x0 = x1 + (x2 + 1) := Ar.arith [x0, x1, x2] [] 3 (.im (.eq false (.n 0) (.ad (.ad (.n 1) (.k 1)) (.n 2))) (.eq false (.n 0) (.ad (.n 1) (.ad (.n 2) (.k 1))))) (Eq.refl true) h0
theorem o9_295 {x0 : Nat} (h0 : 1 ≤ x0) : 1 ≤ x0 + 1 := Ar.arith [x0] [] 1 (.im (.le false (.k 1) (.n 0)) (.le false (.k 1) (.ad (.n 0) (.k 1)))) (Eq.refl true) h0
theorem o9_296 {x0 x1 x2 : Nat} (h0 : x2 = x0 + 1) (h1 : x2 = x1 + 1) : x0 = x1 := Ar.arith [x0, x1, x2] [] 3 (.im (.eq false (.n 2) (.ad (.n 0) (.k 1))) (.im (.eq false (.n 2) (.ad (.n 1) (.k 1))) (.eq false (.n 0) (.n 1)))) (by kernel_rfl) h0 h1
theorem o9_297 {x0 x1 x2 : Int} : x0 + x1 + x2 ≤ x0 + (x1 + x2) := Ar.arith [] [x0, x1, x2] 3 (.le true (.ad (.ad (.z 0) (.z 1)) (.z 2)) (.ad (.z 0) (.ad (.z 1) (.z 2)))) (Eq.refl true)
theorem o9_298 {x0 x1 x2 x3 : Int} (h0 : x1 ≤ x3) : x0 + x1 + x2 ≤ x0 + (x3 + x2) := Ar.arith [] [x0, x1, x2, x3] 4 (.im (.le true (.z 1) (.z 3)) (.le true (.ad (.ad (.z 0) (.z 1)) (.z 2)) (.ad (.z 0) (.ad (.z 3) (.z 2))))) (Eq.refl true) h0
theorem o9_299 {x0 x1 : Nat} (h0 : x0 < x1 + 1) (h1 : ¬ x0 < x1) : x0 = x1 := Ar.arith [x0, x1] [] 2 (.im (.lt false (.n 0) (.ad (.n 1) (.k 1))) (.im (.no (.lt false (.n 0) (.n 1))) (.eq false (.n 0) (.n 1)))) (Eq.refl true) h0 h1
theorem o9_300 {x0 x1 x2 : Int} (h0 : x1 ≤ x2) : x0 + x1 ≤ x0 + (x2 + (0 : Int)) := Ar.arith [] [x0, x1, x2] 3 (.im (.le true (.z 1) (.z 2)) (.le true (.ad (.z 0) (.z 1)) (.ad (.z 0) (.ad (.z 2) (.k 0))))) (Eq.refl true) h0
theorem o9_301 {x0 x1 x2 x3 : Int} (h0 : (0 : Int) ≤ x3) (h1 : x0 + x1 ≤ x2) : x0 + x1 ≤ x2 + x3 := Ar.arith [] [x0, x1, x2, x3] 4 (.im (.le true (.k 0) (.z 3)) (.im (.le true (.ad (.z 0) (.z 1)) (.z 2)) (.le true (.ad (.z 0) (.z 1)) (.ad (.z 2) (.z 3))))) (Eq.refl true) h0 h1
theorem o9_302 {x0 x1 : Nat} (h0 : 2 ≤ x0) (h1 : x0 = x1) (h2 : x0 ≤ 9) : x0 < 2 ^ 60 := Ar.arith [x0, x1] [] 2 (.im (.le false (.k 2) (.n 0)) (.im (.eq false (.n 0) (.n 1)) (.im (.le false (.n 0) (.k 9)) (.lt false (.n 0) (.pw 2 60))))) (Eq.refl true) h0 h1 h2
theorem o9_303 {x0 x1 x2 x3 : Nat} (h0 : x0 < x2) (h1 : x1 = x3) (h2 : x2 < x1) : x0 < x1 := Ar.arith [x0, x1, x2, x3] [] 4 (.im (.lt false (.n 0) (.n 2)) (.im (.eq false (.n 1) (.n 3)) (.im (.lt false (.n 2) (.n 1)) (.lt false (.n 0) (.n 1))))) (Eq.refl true) h0 h1 h2
theorem o9_304 {x0 x1 x2 x3 : Nat} (h0 : x1 = x2) (h1 : 2 ≤ x1) (h2 : x1 ≤ 9) (h3 : x0 < x1) (h4 : x3 = x0) : x0 < 16777216 := Ar.arith [x2, x1, x0, x3] [] 4 (.im (.eq false (.n 1) (.n 0)) (.im (.le false (.k 2) (.n 1)) (.im (.le false (.n 1) (.k 9)) (.im (.lt false (.n 2) (.n 1)) (.im (.eq false (.n 3) (.n 2)) (.lt false (.n 2) (.k 16777216))))))) (by kernel_rfl) h0 h1 h2 h3 h4
theorem o9_305 {x0 x1 x2 : Nat} (h0 : 2 ≤ x0) (h1 : x0 = x1) (h2 : x0 ≤ 9) (h3 : x2 = x0) : x0 < 64 := Ar.arith [x0, x1, x2] [] 3 (.im (.le false (.k 2) (.n 0)) (.im (.eq false (.n 0) (.n 1)) (.im (.le false (.n 0) (.k 9)) (.im (.eq false (.n 2) (.n 0)) (.lt false (.n 0) (.k 64)))))) (Eq.refl true) h0 h1 h2 h3
theorem o9_306 {x0 x1 x2 : Nat} (h0 : 2 ≤ x0) (h1 : x0 = x1) (h2 : x0 ≤ 9) (h3 : x2 = x0) : x0 ≤ 16777216 := Ar.arith [x0, x1, x2] [] 3 (.im (.le false (.k 2) (.n 0)) (.im (.eq false (.n 0) (.n 1)) (.im (.le false (.n 0) (.k 9)) (.im (.eq false (.n 2) (.n 0)) (.le false (.n 0) (.k 16777216)))))) (Eq.refl true) h0 h1 h2 h3
theorem o9_307 {x0 x1 x2 : Nat} (h0 : 2 ≤ x0) (h1 : x0 = x1) (h2 : x0 ≤ 9) (h3 : x2 = x0) : (-(2 : Int) ^ 62) ≤ (x0 : Int) := Ar.arith [x0, x1, x2] [] 3 (.im (.le false (.k 2) (.n 0)) (.im (.eq false (.n 0) (.n 1)) (.im (.le false (.n 0) (.k 9)) (.im (.eq false (.n 2) (.n 0)) (.le true (.ng (.pw 2 62)) (.up (.n 0))))))) (Eq.refl true) h0 h1 h2 h3
theorem o9_308 {x0 x1 x2 : Nat} (h0 : 2 ≤ x0) (h1 : x0 = x1) (h2 : x0 ≤ 9) (h3 : x2 = x0) : (x0 : Int) < (2 : Int) ^ 62 := Ar.arith [x0, x1, x2] [] 3 (.im (.le false (.k 2) (.n 0)) (.im (.eq false (.n 0) (.n 1)) (.im (.le false (.n 0) (.k 9)) (.im (.eq false (.n 2) (.n 0)) (.lt true (.up (.n 0)) (.pw 2 62)))))) (Eq.refl true) h0 h1 h2 h3
theorem o9_309 {x0 x1 x2 : Nat} (h0 : x0 = x1) (h1 : 2 ≤ x0) (h2 : x0 ≤ 9) (h3 : x2 = x0) (h4 : ¬ (0 : Int) < (x0 : Int)) : (0 : Int) = (x0 : Int) := Ar.arith [x0, x1, x2] [] 3 (.im (.eq false (.n 0) (.n 1)) (.im (.le false (.k 2) (.n 0)) (.im (.le false (.n 0) (.k 9)) (.im (.eq false (.n 2) (.n 0)) (.im (.no (.lt true (.k 0) (.up (.n 0)))) (.eq true (.k 0) (.up (.n 0)))))))) (by kernel_rfl) h0 h1 h2 h3 h4
theorem o9_310 {x0 x1 x2 : Nat} (h0 : 2 ≤ x0) (h1 : x0 = x1) (h2 : x0 ≤ 9) (h3 : x2 = x0) : x0 ≤ 2 ^ 24 := Ar.arith [x0, x1, x2] [] 3 (.im (.le false (.k 2) (.n 0)) (.im (.eq false (.n 0) (.n 1)) (.im (.le false (.n 0) (.k 9)) (.im (.eq false (.n 2) (.n 0)) (.le false (.n 0) (.pw 2 24)))))) (Eq.refl true) h0 h1 h2 h3
theorem o9_311 {x0 x1 : Nat} (h0 : x0 < 880 ∧ x1 < 8800) : x0 < 960 := Ar.arith [x0, x1] [] 2 (.im (.an (.lt false (.n 0) (.k 880)) (.lt false (.n 1) (.k 8800))) (.lt false (.n 0) (.k 960))) (Eq.refl true) h0
theorem o9_312 {x0 x1 : Nat} (h0 : x1 < 880 ∧ x0 < 8800) : x0 + 1 + 1 < 9500 := Ar.arith [x0, x1] [] 2 (.im (.an (.lt false (.n 1) (.k 880)) (.lt false (.n 0) (.k 8800))) (.lt false (.ad (.ad (.n 0) (.k 1)) (.k 1)) (.k 9500))) (Eq.refl true) h0
theorem o9_314 {x0 x1 x2 : Nat} (h0 : 2 ≤ x1) (h1 : x0 = x1) (h2 : x1 = x2) (h3 : x1 ≤ 9) : 0 < x0 := Ar.arith [x0, x1, x2] [] 3 (.im (.le false (.k 2) (.n 1)) (.im (.eq false (.n 0) (.n 1)) (.im (.eq false (.n 1) (.n 2)) (.im (.le false (.n 1) (.k 9)) (.lt false (.k 0) (.n 0)))))) (by kernel_rfl) h0 h1 h2 h3
theorem o9_315 {x0 x1 x2 x3 : Nat} (h0 : x0 < x2) (h1 : x2 = x1) (h2 : x3 = x2) : x0 < x1 := Ar.arith [x0, x1, x2, x3] [] 4 (.im (.lt false (.n 0) (.n 2)) (.im (.eq false (.n 2) (.n 1)) (.im (.eq false (.n 3) (.n 2)) (.lt false (.n 0) (.n 1))))) (Eq.refl true) h0 h1 h2
theorem o9_316 {x0 x1 x2 : Nat} (h0 : x0 + 1 + x1 < x2) (h1 : x0 < x2) : x0 < x0 + 1 + x1 := Ar.arith [x0, x1, x2] [] 3 (.im (.lt false (.ad (.ad (.n 0) (.k 1)) (.n 1)) (.n 2)) (.im (.lt false (.n 0) (.n 2)) (.lt false (.n 0) (.ad (.ad (.n 0) (.k 1)) (.n 1))))) (Eq.refl true) h0 h1
theorem o9_317 {x2 x3 x4 : Nat} {x0 x1 : Int} (h0 : x2 + 1 + x3 < x4) (h1 : x2 < x4) (h2 : ¬ x1 < x0) : x0 ≤ x1 := Ar.arith [x2, x3, x4] [x0, x1] 3 (.im (.lt false (.ad (.ad (.n 0) (.k 1)) (.n 1)) (.n 2)) (.im (.lt false (.n 0) (.n 2)) (.im (.no (.lt true (.z 1) (.z 0))) (.le true (.z 0) (.z 1))))) (Eq.refl true) h0 h1 h2
theorem o9_318 {x0 x1 : Int} (h0 : x1 ≤ x0) : (0 : Int) ≤ x0 - x1 := Ar.arith [] [x0, x1] 2 (.im (.le true (.z 1) (.z 0)) (.le true (.k 0) (.sb (.z 0) (.z 1)))) (Eq.refl true) h0
theorem o9_319 {x0 x1 x2 : Int} (h0 : x0 < x1 + x2) : x0 - x1 < x2 := Ar.arith [] [x0, x1, x2] 3 (.im (.lt true (.z 0) (.ad (.z 1) (.z 2))) (.lt true (.sb (.z 0) (.z 1)) (.z 2))) (Eq.refl true) h0
theorem o9_320 {x0 x1 : Int} : x0 + (x1 - x0) = x1 := Ar.arith [] [x0, x1] 2 (.eq true (.ad (.z 0) (.sb (.z 1) (.z 0))) (.z 1)) (Eq.refl true)
theorem o9_322 {x0 x1 x2 x3 x4 x5 x6 : Nat} (h0 : x1 = x2) (h1 : 2 ≤ x1) (h2 : x1 ≤ 9) (h3 : x3 = x1) (h4 : x0 = x4 + 1) (h5 : x5 + 1 = x6 + (x4 + 1 + 1)) (h6 : x5 + 1 ≤ x1) : x0 < 16777216 := Ar.arith [x6, x5, x4, x3, x2, x1, x0] [] 7 (.im (.eq false (.n 5) (.n 4)) (.im (.le false (.k 2) (.n 5)) (.im (.le false (.n 5) (.k 9)) (.im (.eq false (.n 3) (.n 5)) (.im (.eq false (.n 6) (.ad (.n 2) (.k 1))) (.im (.eq false (.ad (.n 1) (.k 1)) (.ad (.n 0) (.ad (.ad (.n 2) (.k 1)) (.k 1)))) (.im (.le false (.ad (.n 1) (.k 1)) (.n 5)) (.lt false (.n 6) (.k 16777216))))))))) (by kernel_rfl) h0 h1 h2 h3 h4 h5 h6
theorem o9_323 {x0 x1 x2 x3 : Int} (h0 : x0 + x1 ≤ x3) (h1 : x3 ≤ x2) : x0 + x1 ≤ x2 := Ar.arith [] [x0, x1, x2, x3] 4 (.im (.le true (.ad (.z 0) (.z 1)) (.z 3)) (.im (.le true (.z 3) (.z 2)) (.le true (.ad (.z 0) (.z 1)) (.z 2)))) (Eq.refl true) h0 h1
theorem o9_324 {x0 x1 x2 x3 x4 x5 x6 : Nat} (h0 : x1 = x2) (h1 : 2 ≤ x1) (h2 : x1 ≤ 9) (h3 : x3 = x1) (h4 : x4 = x5 + (x6 + 1)) (h5 : x0 = x5) (h6 : x4 ≤ x1) : x0 < 16777216 := Ar.arith [x6, x5, x4, x3, x2, x1, x0] [] 7 (.im (.eq false (.n 5) (.n 4)) (.im (.le false (.k 2) (.n 5)) (.im (.le false (.n 5) (.k 9)) (.im (.eq false (.n 3) (.n 5)) (.im (.eq false (.n 2) (.ad (.n 1) (.ad (.n 0) (.k 1)))) (.im (.eq false (.n 6) (.n 1)) (.im (.le false (.n 2) (.n 5)) (.lt false (.n 6) (.k 16777216))))))))) (by kernel_rfl) h0 h1 h2 h3 h4 h5 h6
theorem o9_325 {x0 x1 : Nat} (h0 : x0 + 1 = x1 + 1) : x0 < x1 + 1 := Ar.arith [x0, x1] [] 2 (.im (.eq false (.ad (.n 0) (.k 1)) (.ad (.n 1) (.k 1))) (.lt false (.n 0) (.ad (.n 1) (.k 1)))) (Eq.refl true) h0
theorem o9_326 {x0 x1 x2 : Int} (h0 : ¬ x1 + x2 ≤ x0) : x0 < x1 + x2 := Ar.arith [] [x0, x1, x2] 3 (.im (.no (.le true (.ad (.z 1) (.z 2)) (.z 0))) (.lt true (.z 0) (.ad (.z 1) (.z 2)))) (Eq.refl true) h0
theorem o9_327 {x0 x1 x2 x3 x4 : Nat} (h0 : x0 = x2) (h1 : x1 = x3) (h2 : x4 = x2 + 0) (h3 : x4 = x1) : x0 = x1 := Ar.arith [x0, x1, x2, x3, x4] [] 5 (.im (.eq false (.n 0) (.n 2)) (.im (.eq false (.n 1) (.n 3)) (.im (.eq false (.n 4) (.ad (.n 2) (.k 0))) (.im (.eq false (.n 4) (.n 1)) (.eq false (.n 0) (.n 1)))))) (by kernel_rfl) h0 h1 h2 h3
theorem o9_328 {x0 : Nat} : 0 < x0 + 1 := Ar.arith [x0] [] 1 (.lt false (.k 0) (.ad (.n 0) (.k 1))) (Eq.refl true)
theorem o9_329 {x0 x1 : Nat} (h0 : x0 < 2 ^ x1 * 2) : x0 / 2 < 2 ^ x1 := Ar.arith [x0 / 2, 2 ^ x1 * 2, x0, 2 ^ x1] [] 4 (.im (.an (.le false (.ml 2 (.n 0)) (.n 2)) (.lt false (.n 2) (.ad (.ml 2 (.n 0)) (.k 2)))) (.im (.eq false (.n 1) (.ml 2 (.n 3))) (.im (.lt false (.n 2) (.n 1)) (.lt false (.n 0) (.n 3))))) (by kernel_rfl) (Ar.divN x0 2 (by decide)) (Nat.mul_comm (2 ^ x1) 2) h0
theorem o9_330 {x0 x1 : Nat} (h0 : x0 < x1) : x0 + 1 < x1 + 1 := Ar.arith [x0, x1] [] 2 (.im (.lt false (.n 0) (.n 1)) (.lt false (.ad (.n 0) (.k 1)) (.ad (.n 1) (.k 1)))) (Eq.refl true) h0
theorem o9_331 {x0 : Nat} (h0 : x0 % 2 ≠ 1) (h1 : x0 / 2 = 0) : x0 = 0 := Ar.arith [x0 % 2, x0, x0 / 2] [] 3 (.im (.an (.le false (.ml 2 (.n 2)) (.n 1)) (.lt false (.n 1) (.ad (.ml 2 (.n 2)) (.k 2)))) (.im (.an (.lt false (.n 0) (.k 2)) (.eq false (.ad (.ml 2 (.n 2)) (.n 0)) (.n 1))) (.im (.no (.eq false (.n 0) (.k 1))) (.im (.eq false (.n 2) (.k 0)) (.eq false (.n 1) (.k 0)))))) (by kernel_rfl) (Ar.divN x0 2 (by decide)) (Ar.modN x0 2 (by decide)) h0 h1
theorem o9_333 {x0 : Nat} (h0 : 1 ≤ x0) (h1 : x0 < 1) : False := Ar.arith [x0] [] 1 (.im (.le false (.k 1) (.n 0)) (.im (.lt false (.n 0) (.k 1)) .ff)) (Eq.refl true) h0 h1
theorem o9_334 {x0 x1 : Nat} (h0 : x0 < x1) : x0 < x1 + 1 := Ar.arith [x0, x1] [] 2 (.im (.lt false (.n 0) (.n 1)) (.lt false (.n 0) (.ad (.n 1) (.k 1)))) (Eq.refl true) h0
theorem o9_335 {x0 : Nat} : (x0 : Int) + (1 : Int) = ((x0 + 1 : Nat) : Int) := Ar.arith [x0] [] 1 (.eq true (.ad (.up (.n 0)) (.k 1)) (.up (.ad (.n 0) (.k 1)))) (Eq.refl true)
theorem o9_336 {x0 x1 x2 : Nat} (h0 : 2 ≤ x0) (h1 : x0 = x1) (h2 : x0 ≤ 9) (h3 : x2 = x0) : x0 + 1 < 2 ^ 60 := Ar.arith [x0, x1, x2] [] 3 (.im (.le false (.k 2) (.n 0)) (.im (.eq false (.n 0) (.n 1)) (.im (.le false (.n 0) (.k 9)) (.im (.eq false (.n 2) (.n 0)) (.lt false (.ad (.n 0) (.k 1)) (.pw 2 60)))))) (Eq.refl true) h0 h1 h2 h3
theorem o9_337 {x0 x1 x2 : Nat} (h0 : 2 ≤ x0) (h1 : x0 = x1) (h2 : x0 ≤ 9) (h3 : x2 = x0) : x0 + 1 ≤ 16777216 := Ar.arith [x0, x1, x2] [] 3 (.im (.le false (.k 2) (.n 0)) (.im (.eq false (.n 0) (.n 1)) (.im (.le false (.n 0) (.k 9)) (.im (.eq false (.n 2) (.n 0)) (.le false (.ad (.n 0) (.k 1)) (.k 16777216)))))) (Eq.refl true) h0 h1 h2 h3
theorem o9_338 {x0 x1 x2 x3 : Nat} (h0 : x0 = x1) (h1 : 2 ≤ x0) (h2 : x0 ≤ 9) (h3 : x2 = x0) (h4 : x3 = x0 + 1) : (0 : Int) ≤ (x0 : Int) := Ar.arith [x0, x1, x2, x3] [] 4 (.im (.eq false (.n 0) (.n 1)) (.im (.le false (.k 2) (.n 0)) (.im (.le false (.n 0) (.k 9)) (.im (.eq false (.n 2) (.n 0)) (.im (.eq false (.n 3) (.ad (.n 0) (.k 1))) (.le true (.k 0) (.up (.n 0)))))))) (by kernel_rfl) h0 h1 h2 h3 h4
theorem o9_339 {x0 x1 x2 x3 : Nat} (h0 : x0 = x1) (h1 : 2 ≤ x0) (h2 : x0 ≤ 9) (h3 : x2 = x0) (h4 : x3 = x0 + 1) : (x0 : Int) ≤ (1000000 : Int) := Ar.arith [x0, x1, x2, x3] [] 4 (.im (.eq false (.n 0) (.n 1)) (.im (.le false (.k 2) (.n 0)) (.im (.le false (.n 0) (.k 9)) (.im (.eq false (.n 2) (.n 0)) (.im (.eq false (.n 3) (.ad (.n 0) (.k 1))) (.le true (.up (.n 0)) (.k 1000000))))))) (by kernel_rfl) h0 h1 h2 h3 h4
theorem o9_340 {x0 : Nat} (h0 : 2 ^ x0 ≤ 512) : 2 ^ x0 < 2 ^ 60 := Ar.arith [2 ^ x0] [] 1 (.im (.le false (.n 0) (.k 512)) (.lt false (.n 0) (.pw 2 60))) (Eq.refl true) h0
theorem o9_341 {x0 x1 : Nat} (h0 : x0 < 2 ^ x1 - 1) : x0 + 1 < 2 ^ x1 := Ar.arith [x0, 2 ^ x1] [] 2 (.im (.lt false (.n 0) (.sb (.n 1) (.k 1))) (.lt false (.ad (.n 0) (.k 1)) (.n 1))) (Eq.refl true) h0
theorem o9_342 {x0 x1 x2 x3 : Nat} (h0 : x0 = x1) (h1 : 2 ≤ x0) (h2 : x0 ≤ 9) (h3 : x2 = x0) (h4 : x3 = x0 + 1) : x0 < 2 ^ 60 := Ar.arith [x0, x1, x2, x3] [] 4 (.im (.eq false (.n 0) (.n 1)) (.im (.le false (.k 2) (.n 0)) (.im (.le false (.n 0) (.k 9)) (.im (.eq false (.n 2) (.n 0)) (.im (.eq false (.n 3) (.ad (.n 0) (.k 1))) (.lt false (.n 0) (.pw 2 60))))))) (by kernel_rfl) h0 h1 h2 h3 h4
theorem o9_343 {x0 x1 x2 x3 : Nat} (h0 : x0 = x1) (h1 : 2 ≤ x0) (h2 : x0 ≤ 9) (h3 : x2 = x0) (h4 : x3 = x0 + 1) : x0 ≤ 16777216 := Ar.arith [x0, x1, x2, x3] [] 4 (.im (.eq false (.n 0) (.n 1)) (.im (.le false (.k 2) (.n 0)) (.im (.le false (.n 0) (.k 9)) (.im (.eq false (.n 2) (.n 0)) (.im (.eq false (.n 3) (.ad (.n 0) (.k 1))) (.le false (.n 0) (.k 16777216))))))) (by kernel_rfl) h0 h1 h2 h3 h4
theorem o9_344 {x0 x1 x2 x3 x4 : Nat} (h0 : x1 = x2) (h1 : 2 ≤ x1) (h2 : x1 ≤ 9) (h3 : x3 = x1) (h4 : x4 = x1 + 1) (h5 : x0 < x1) : (x0 : Int) ≤ (1000000 : Int) := Ar.arith [x4, x3, x2, x1, x0] [] 5 (.im (.eq false (.n 3) (.n 2)) (.im (.le false (.k 2) (.n 3)) (.im (.le false (.n 3) (.k 9)) (.im (.eq false (.n 1) (.n 3)) (.im (.eq false (.n 0) (.ad (.n 3) (.k 1))) (.im (.lt false (.n 4) (.n 3)) (.le true (.up (.n 4)) (.k 1000000)))))))) (by kernel_rfl) h0 h1 h2 h3 h4 h5
theorem o9_345 {x0 x1 x2 x3 x4 : Nat} (h0 : x1 = x2) (h1 : 2 ≤ x1) (h2 : x1 ≤ 9) (h3 : x3 = x1) (h4 : x4 = x1 + 1) (h5 : x0 < x1) : x0 ≤ 9 := Ar.arith [x4, x3, x2, x1, x0] [] 5 (.im (.eq false (.n 3) (.n 2)) (.im (.le false (.k 2) (.n 3)) (.im (.le false (.n 3) (.k 9)) (.im (.eq false (.n 1) (.n 3)) (.im (.eq false (.n 0) (.ad (.n 3) (.k 1))) (.im (.lt false (.n 4) (.n 3)) (.le false (.n 4) (.k 9)))))))) (by kernel_rfl) h0 h1 h2 h3 h4 h5
theorem o9_346 {x0 : Nat} (h0 : (2 : Int) ^ Int.toNat (x0 : Int) = ((2 ^ x0 : Nat) : Int)) (h1 : 2 ^ x0 ≤ 512) (h2 : 0 < 2 ^ x0) : ((2 ^ x0 : Nat) : Int) ≠ (0 : Int) := Ar.arith [2 ^ x0] [(2 : Int) ^ Int.toNat (x0 : Int)] 1 (.im (.eq true (.z 0) (.up (.n 0))) (.im (.le false (.n 0) (.k 512)) (.im (.lt false (.k 0) (.n 0)) (.no (.eq true (.up (.n 0)) (.k 0)))))) (Eq.refl true) h0 h1 h2
theorem o9_347 {x0 : Nat} (h0 : (2 : Int) ^ Int.toNat (x0 : Int) = ((2 ^ x0 : Nat) : Int)) (h1 : 2 ^ x0 ≤ 512) (h2 : 0 < 2 ^ x0) : Int.natAbs ((2 ^ x0 : Nat) : Int) < 1073741824 := Ar.arith [Int.natAbs ((2 ^ x0 : Nat) : Int), 2 ^ x0] [(2 : Int) ^ Int.toNat (x0 : Int)] 2 (.im (.o (.an (.le true (.k 0) (.up (.n 1))) (.eq true (.up (.n 0)) (.up (.n 1)))) (.an (.lt true (.up (.n 1)) (.k 0)) (.eq true (.up (.n 0)) (.ng (.up (.n 1)))))) (.im (.eq true (.z 0) (.up (.n 1))) (.im (.le false (.n 1) (.k 512)) (.im (.lt false (.k 0) (.n 1)) (.lt false (.n 0) (.k 1073741824)))))) (by kernel_rfl) (Ar.absN ((2 ^ x0 : Nat) : Int)) h0 h1 h2
theorem o9_348 {x0 : Nat} (h0 : x0 + 1 = 0) : False := Ar.arith [x0] [] 1 (.im (.eq false (.ad (.n 0) (.k 1)) (.k 0)) .ff) (Eq.refl true) h0
theorem o9_349 {x0 x1 x2 x3 x4 : Nat} (h0 : x1 = x2) (h1 : 2 ≤ x1) (h2 : x1 ≤ 9) (h3 : x3 = x1) (h4 : x4 = x1 + 1) (h5 : x0 ≤ x1) : x0 ≤ 16777216 := Ar.arith [x4, x3, x2, x1, x0] [] 5 (.im (.eq false (.n 3) (.n 2)) (.im (.le false (.k 2) (.n 3)) (.im (.le false (.n 3) (.k 9)) (.im (.eq false (.n 1) (.n 3)) (.im (.eq false (.n 0) (.ad (.n 3) (.k 1))) (.im (.le false (.n 4) (.n 3)) (.le false (.n 4) (.k 16777216)))))))) (by kernel_rfl) h0 h1 h2 h3 h4 h5
theorem o9_350 {x0 x1 x2 x3 x4 : Nat} (h0 : x0 ≤ x2) (h1 : x1 = x2 + 1) (h2 : x2 = x3) (h3 : x4 = x2) : x0 < x1 := Ar.arith [x0, x1, x2, x3, x4] [] 5 (.im (.le false (.n 0) (.n 2)) (.im (.eq false (.n 1) (.ad (.n 2) (.k 1))) (.im (.eq false (.n 2) (.n 3)) (.im (.eq false (.n 4) (.n 2)) (.lt false (.n 0) (.n 1)))))) (Eq.refl true) h0 h1 h2 h3
theorem o9_351 {x0 x1 x2 : Nat} (h0 : 2 ^ x1 ≤ 512) (h1 : x2 + 1 < 2 ^ x1) (h2 : x0 < x2 + 1) : x0 < 16777216 := Ar.arith [x0, 2 ^ x1, x2] [] 3 (.im (.le false (.n 1) (.k 512)) (.im (.lt false (.ad (.n 2) (.k 1)) (.n 1)) (.im (.lt false (.n 0) (.ad (.n 2) (.k 1))) (.lt false (.n 0) (.k 16777216))))) (Eq.refl true) h0 h1 h2
theorem o9_352 {x0 : Nat} (h0 : 2 ^ x0 ≤ 512) (h1 : 0 < 2 ^ x0) : 2 ^ x0 - 1 + 1 = 2 ^ x0 := Ar.arith [2 ^ x0] [] 1 (.im (.le false (.n 0) (.k 512)) (.im (.lt false (.k 0) (.n 0)) (.eq false (.ad (.sb (.n 0) (.k 1)) (.k 1)) (.n 0)))) (Eq.refl true) h0 h1
theorem o9_353 {x0 x1 x2 x3 x4 : Nat} (h0 : x0 < x2) (h1 : x1 = x2 + 1) (h2 : x2 = x3) (h3 : x4 = x2) : 1 + x0 < x1 := Ar.arith [x0, x1, x2, x3, x4] [] 5 (.im (.lt false (.n 0) (.n 2)) (.im (.eq false (.n 1) (.ad (.n 2) (.k 1))) (.im (.eq false (.n 2) (.n 3)) (.im (.eq false (.n 4) (.n 2)) (.lt false (.ad (.k 1) (.n 0)) (.n 1)))))) (Eq.refl true) h0 h1 h2 h3
theorem o9_354 {x0 x1 x2 x3 x4 : Nat} (h0 : x0 < x2) (h1 : x1 = x2 + 1) (h2 : x2 = x3) (h3 : x4 = x2) : x0 + 1 < x1 := Ar.arith [x0, x1, x2, x3, x4] [] 5 (.im (.lt false (.n 0) (.n 2)) (.im (.eq false (.n 1) (.ad (.n 2) (.k 1))) (.im (.eq false (.n 2) (.n 3)) (.im (.eq false (.n 4) (.n 2)) (.lt false (.ad (.n 0) (.k 1)) (.n 1)))))) (Eq.refl true) h0 h1 h2 h3
theorem o9_355 {x0 x1 x2 x3 x4 : Nat} (h0 : x0 = x2 + 1) (h1 : x2 = x3) (h2 : x2 ≤ x1) (h3 : x4 = x2) : x0 ≤ 1 + x1 := Ar.arith [x0, x1, x2, x3, x4] [] 5 (.im (.eq false (.n 0) (.ad (.n 2) (.k 1))) (.im (.eq false (.n 2) (.n 3)) (.im (.le false (.n 2) (.n 1)) (.im (.eq false (.n 4) (.n 2)) (.le false (.n 0) (.ad (.k 1) (.n 1))))))) (Eq.refl true) h0 h1 h2 h3
theorem o9_356 {x0 x1 x2 x3 x4 : Nat} (h0 : x0 < x2) (h1 : x1 = x2) (h2 : x2 = x3) (h3 : x4 = x2 + 1) : x0 < x1 := Ar.arith [x0, x1, x2, x3, x4] [] 5 (.im (.lt false (.n 0) (.n 2)) (.im (.eq false (.n 1) (.n 2)) (.im (.eq false (.n 2) (.n 3)) (.im (.eq false (.n 4) (.ad (.n 2) (.k 1))) (.lt false (.n 0) (.n 1)))))) (Eq.refl true) h0 h1 h2 h3
theorem o9_357 {x0 x1 x2 x3 x4 : Nat} (h0 : x0 = x2) (h1 : x2 = x3) (h2 : x2 ≤ x1) (h3 : x4 = x2 + 1) : x0 ≤ x1 := Ar.arith [x0, x1, x2, x3, x4] [] 5 (.im (.eq false (.n 0) (.n 2)) (.im (.eq false (.n 2) (.n 3)) (.im (.le false (.n 2) (.n 1)) (.im (.eq false (.n 4) (.ad (.n 2) (.k 1))) (.le false (.n 0) (.n 1)))))) (Eq.refl true) h0 h1 h2 h3
theorem o9_358 {x0 : Nat} (h0 : x0 ≤ 63) : x0 ≤ 16777216 := Ar.arith [x0] [] 1 (.im (.le false (.n 0) (.k 63)) (.le false (.n 0) (.k 16777216))) (Eq.refl true) h0
theorem o9_359 {x0 : Nat} (h0 : ¬ (63 : Int) < (x0 : Int)) : x0 ≤ 63 := Ar.arith [x0] [] 1 (.im (.no (.lt true (.k 63) (.up (.n 0)))) (.le false (.n 0) (.k 63))) (Eq.refl true) h0
theorem hide {T : Prop} (f : ∀ W : Prop, (T → W) → W) : T := f T id


set_option genInjectivity true in
inductive PV where
  | none
  | bool (b : Bool)
  | int (i : Int)
  | str (s : Str)
  | tup (xs : List PV)
  | ref (a : Addr)
  | rng (a b c : Int)
  | val (v : Value)
  | fnc (o : Obj)

mutual
noncomputable def VR (h : Heap) : PV → Value → Prop
  | .none, v => v = .none
  | .bool b, v => v = .bool b
  | .int i, v => ∃ t, v = .int i t
  | .str x, v => ∃ t, v = .str x t
  | .tup xs, v => ∃ a vs n, v = .ref a ∧ IsT h a (List.toArray vs) n ∧ VRs h xs vs
  | .ref a, v => v = .ref a
  | .rng a b c, v => ∃ r t u w, v = .ref r ∧ IsRange h r a b c t u w
  | .val u, v => v = u
  | .fnc o, v => ∃ a fd c oc vs t, v = .ref a ∧ h.get? a = some o ∧ o.cls = .type "function" ∧ o.data = .func fd ∧ fd.code = .ref c ∧ h.get? c = some oc ∧ oc.data = .fields vs ∧ vs[1]? = some (.str fd.qualname t)
noncomputable def VRs (h : Heap) : List PV → List Value → Prop
  | [], vs => vs = []
  | x :: xs, vs => ∃ v r, vs = v :: r ∧ VR h x v ∧ VRs h xs r
end


inductive HO where
  | lst (xs : List PV)
  | fro (xs : List PV)
noncomputable abbrev AH := Addr → Option HO
noncomputable def AH.set (H : AH) (a : Addr) (o : HO) : AH := fun b => if b = a then some o else H b
noncomputable def Mut (H : AH) (b : Addr) : Prop := ∃ xs, H b = some (.lst xs)
noncomputable def HO.isL : HO → Bool
  | .lst _ => true
  | .fro _ => false
noncomputable def HO.items : HO → List PV
  | .lst xs => xs
  | .fro xs => xs


noncomputable def Code (o : Obj) : Prop := ∃ vs q t, o.data = .fields vs ∧ vs[1]? = some (Value.str q t)
noncomputable def Fix (o : Obj) : Prop := ((o.cls = .type "tuple" ∨ o.cls = .type "range" ∨ o.cls = .type "function") ∧ (∀ es n, o.data ≠ .dict es n) ∧ ∀ v, o.data ≠ .cell v) ∨ Code o
noncomputable def IsLst (o : Obj) : Prop := o.cls = .type "list" ∧ ∃ vs n, o.data = .seq vs n
theorem fix_tuple (vs : Array Value) (n : Nat) : Fix { cls := .type "tuple", data := .seq vs n } := .inl ⟨.inl rfl, by simp, by simp⟩
theorem fix_range (fs : Array Value) : Fix { cls := .type "range", data := .fields fs } := .inl ⟨.inr (.inl rfl), by simp, by simp⟩
theorem fix_func {o : Obj} {fd : FuncData} (hc : o.cls = .type "function") (hd : o.data = .func fd) : Fix o := .inl ⟨.inr (.inr hc), by rw [hd]; simp, by rw [hd]; simp⟩
theorem isLst_mk (vs : Array Value) (n : Nat) : IsLst { cls := .type "list", data := .seq vs n } := ⟨rfl, _, _, rfl⟩

inductive LOk (h : Heap) (a : Addr) (xs : List PV) : Prop where
  | mk (vs : List Value) (n : Nat) (hl : IsL h a (List.toArray vs) n) (hv : VRs h xs vs) (hz : xs.length ≤ sizeLine) : LOk h a xs
noncomputable def HOk (base h : Heap) (a : Addr) (o : HO) : Prop := LOk h a o.items ∧ ∀ xs, o = .lst xs → base.get? a = none


noncomputable def DC (o : Obj) : Prop := (∃ es n, o.data = .dict es n) ∨ ∃ v, o.data = .cell v
theorem DC.not_solid {o : Obj} (h : DC o) : ¬ (Fix o ∨ IsLst o) := by
  rintro ((⟨_, h1, h2⟩ | ⟨vs, q, t, h1, _⟩) | ⟨_, vs, n, h1⟩) <;> rcases h with ⟨es, k, h⟩ | ⟨v, h⟩
  · exact h1 _ _ h
  · exact h2 _ h
  all_goals (rw [h1] at h; cases h)

noncomputable def Tab (o : Obj) : Prop := ∃ ps : Array Value, o = { cls := .none, data := .fields ps } ∧ TriplesOk ps.toList
noncomputable def Soft (o : Obj) : Prop := DC o ∨ Tab o
noncomputable def Low (o : Obj) : Prop := Tab o ∨ Code o
theorem fix_code {o : Obj} (h : Code o) : Fix o := .inr h
theorem Low.not_dc {o : Obj} (h : Low o) : ¬ DC o := by
  rintro (⟨es, n, hd⟩ | ⟨v, hd⟩) <;> rcases h with ⟨ps, rfl, _⟩ | ⟨vs, _, _, h, _⟩
  · cases hd
  · rw [h] at hd; cases hd
  · cases hd
  · rw [h] at hd; cases hd
theorem Low.not_lst {o : Obj} (h : Low o) : ¬ IsLst o := by
  rintro ⟨_, vs, n, hd⟩
  rcases h with ⟨ps, rfl, _⟩ | ⟨vs, _, _, h, _⟩
  · cases hd
  · rw [hd] at h; cases h
theorem triples_one {l : List Value} (h : TriplesOk l) (q : Str) (t : Tok) : l[1]? ≠ some (.str q t) := by
  unfold TriplesOk at h
  split at h
  · simp
  · simp
  · exact h.elim
theorem Soft.not_solid {o : Obj} (h : Soft o) : ¬ (Fix o ∨ IsLst o) := by
  rcases h with h | ⟨ps, rfl, ht⟩
  · exact h.not_solid
  · rintro ((⟨h | h | h, _⟩ | ⟨vs, q, t, h, h1⟩) | ⟨h, _⟩)
    any_goals cases h
    exact triples_one ht q t (by rw [Array.getElem?_toList]; exact h1)
theorem fix_not_lst {o : Obj} (h : Fix o) : ¬ IsLst o := by
  rintro ⟨hc, vs, n, hd⟩
  rcases h with ⟨h | h | h, _⟩ | ⟨vs', q, t, h, _⟩
  · rw [hc] at h; simp at h
  · rw [hc] at h; simp at h
  · rw [hc] at h; simp at h
  · rw [hd] at h; cases h
theorem fix_not_soft {o : Obj} (h : Fix o) : ¬ Soft o := fun hd => hd.not_solid (.inl h)

noncomputable def Near (h : Heap) (b : Addr) (o : Obj) : Prop := ∃ o', h.get? b = some o' ∧ (o' = o ∨ (DC o ∧ o'.data = o.data) ∨ (Tab o ∧ Tab o'))
theorem DC.of {o o' : Obj} (h : DC o) (e : o'.data = o.data) : DC o' := by unfold DC; rw [e]; exact h
theorem Tab.not_dc {o : Obj} (h : Tab o) : ¬ DC o := Low.not_dc (.inl h)
theorem Near.of {h : Heap} {b : Addr} {o : Obj} (e : h.get? b = some o) : Near h b o := ⟨o, e, .inl rfl⟩
theorem Near.hard {h : Heap} {b : Addr} {o : Obj} (n : Near h b o) (hd : ¬ Soft o) : h.get? b = some o := by
  obtain ⟨o', e, rfl | ⟨h, _⟩ | ⟨h, _⟩⟩ := n
  · exact e
  · exact absurd (.inl h) hd
  · exact absurd (.inr h) hd
theorem Near.data {h : Heap} {b : Addr} {o : Obj} (n : Near h b o) (hd : DC o) : ∃ o', h.get? b = some o' ∧ o'.data = o.data := by
  obtain ⟨o', e, rfl | ⟨_, h⟩ | ⟨h, _⟩⟩ := n
  · exact ⟨_, e, rfl⟩
  · exact ⟨_, e, h⟩
  · exact absurd hd h.not_dc
theorem Near.step {h h' : Heap} {b : Addr} {o : Obj} (n : Near h b o) (k : ∀ o', h.get? b = some o' → Near h' b o') : Near h' b o := by
  obtain ⟨o', e, q⟩ := n
  obtain ⟨o'', e', q'⟩ := k o' e
  refine ⟨o'', e', ?_⟩
  rcases q with rfl | ⟨hd, hq⟩ | ⟨ht, hq⟩
  · exact q'
  · rcases q' with rfl | ⟨_, hq'⟩ | ⟨ht', _⟩
    · exact .inr (.inl ⟨hd, hq⟩)
    · exact .inr (.inl ⟨hd, hq'.trans hq⟩)
    · exact absurd (hd.of hq) ht'.not_dc
  · rcases q' with rfl | ⟨hd', _⟩ | ⟨_, ht'⟩
    · exact .inr (.inr ⟨ht, hq⟩)
    · exact absurd hd' hq.not_dc
    · exact .inr (.inr ⟨ht, ht'⟩)
theorem Near.ne {h : Heap} {b : Addr} {o : Obj} (n : Near h b o) (e : h.get? b = none) : False := by
  obtain ⟨o', e', _⟩ := n; rw [e] at e'; cases e'

structure Cx where
  prog : Program
  w : World
  K : Frag
  base : Heap
  kin : K.In base
  mg : Str → Option Value
  mb : Str → Option Value
  g : base.Ns mainGlobals mg
  b : base.Ns builtinsNs mb
  nolimit : base.NoLimit
  builtins : ∀ x : Str, x ≠ "__name__" → mb x = bootBuiltins x
  
  D : Addr → Obj → Prop
  dD : ∀ b o, D b o → base.get? b = none ∧ DC o
  
  T : Addr → Prop
  tq : Addr → Nat → Nat → Str
  dT : ∀ P, T P → base.get? P = none

theorem Cx.mg_of (G : Cx) {x : Str} {r : Option Value} (e : nsIn G.K mainGlobals x = some r) : G.mg x = r := by
  refine hide fun WW9 hW9 => ?_
  obtain ⟨o, es, ep, ho, hd, hk, hm⟩ := G.g
  refine hW9 ?_
  clear hW9 WW9
  unfold nsIn at e
  split at e
  · rename_i c d es' n sl hl
    have h2 := G.kin _ _ hl
    rw [ho] at h2; cases h2
    cases hd
    rw [← hm x]
    unfold nsFind findBy
    split at e
    · rename_i en he; cases e
      rw [← Array.find?_toList]; rw [he]; rfl
    · rename_i he
      split at e
      · cases e
      · cases e; rw [← Array.find?_toList, he]; rfl
  · cases e

noncomputable def HR (G : Cx) (H : AH) (h : Heap) : Prop := ∀ a o, H a = some o → HOk G.base h a o

noncomputable def DOk (G : Cx) (h : Heap) : Prop := ∀ b o, G.D b o → ∃ o', h.get? b = some o' ∧ o'.data = o.data
theorem DOk.all {G : Cx} {h h' : Heap} (x : DOk G h) (k : ∀ b o, h.get? b = some o → h'.get? b = some o) : DOk G h' := fun b o e => by
  obtain ⟨o', h1, h2⟩ := x b o e; exact ⟨o', k _ _ h1, h2⟩
theorem DOk.dc {G : Cx} {h h' : Heap} (x : DOk G h) (k : ∀ b o, DC o → (∃ o', G.D b o') → h.get? b = some o → h'.get? b = some o) : DOk G h' := fun b o e => by
  obtain ⟨o', h1, h2⟩ := x b o e; exact ⟨o', k _ _ ((G.dD b o e).2.of h2) ⟨o, e⟩ h1, h2⟩
noncomputable def TOk (G : Cx) (h : Heap) : Prop := ∀ P, G.T P → ∃ ps : Array Value, h.get? P = some { cls := .none, data := .fields ps } ∧ TriplesOk ps.toList ∧ ∀ pos cv, codeAmong pos ps.toList = some cv →
  ∃ c o vs t, cv = .ref c ∧ h.get? c = some o ∧ o.data = .fields vs ∧ vs[1]? = some (.str (G.tq P pos.line pos.col) t)
theorem TOk.keep {G : Cx} {h h' : Heap} (x : TOk G h) (k : ∀ b o, Low o → h.get? b = some o → h'.get? b = some o) : TOk G h' := fun P hP => by
  obtain ⟨ps, h1, h2, h3⟩ := x P hP
  refine ⟨ps, k _ _ (.inl ⟨_, rfl, h2⟩) h1, h2, fun pos cv e => ?_⟩
  obtain ⟨c, o, vs, t, g1, g2, g4, g5⟩ := h3 pos cv e
  exact ⟨c, o, vs, t, g1, k _ _ (.inr ⟨vs, _, _, g4, g5⟩) g2, g4, g5⟩
structure OkH (G : Cx) (H : AH) (s : Shared) : Prop where
  keep : ∀ b o, G.base.get? b = some o → s.heap.get? b = some o
  hr : HR G H s.heap
  gens : s.gens = #[]
  dat : DOk G s.heap
  tab : TOk G s.heap


noncomputable def DomLe (H : AH) (h : Heap) (H' : AH) : Prop := ∀ b o, H' b = some o → h.get? b = none ∨ ∃ o', H b = some o' ∧ (o.isL = true → o'.isL = true)
theorem DomLe.refl (H : AH) (h : Heap) : DomLe H h H := fun _ o e => .inr ⟨o, e, id⟩
theorem DomLe.mut {H H' : AH} {h : Heap} (x : DomLe H h H') {b : Addr} (hm : Mut H' b) : Mut H b ∨ h.get? b = none := by
  obtain ⟨xs, hx⟩ := hm
  rcases x b _ hx with h | ⟨o', h1, h2⟩
  · exact .inr h
  · cases o' with
    | lst ys => exact .inl ⟨ys, h1⟩
    | fro ys => exact absurd (h2 rfl) (by simp [HO.isL])
theorem DomLe.none {H H' : AH} {h : Heap} (x : DomLe H h H') {b : Addr} {o : Obj} (hb : H b = .none) (ho : h.get? b = some o) : H' b = .none := by
  cases e : H' b with
  | none => rfl
  | some o' =>
    rcases x b _ e with h | ⟨o'', h1, _⟩
    · rw [h] at ho; cases ho
    · rw [hb] at h1; cases h1
theorem DomLe.trans {H H' H'' : AH} {h h' : Heap} (x : DomLe H h H') (y : DomLe H' h' H'') (hn : ∀ b, H b = .none → h'.get? b = .none → h.get? b = .none) (hm : ∀ b o, H b = some (.fro o) → h'.get? b = .none → h.get? b = .none) : DomLe H h H'' := by
  intro b o e
  rcases y b o e with h1 | ⟨o', h1, h2⟩
  · cases hb : H b with
    | none => exact .inl (hn b hb h1)
    | some o' =>
      cases o' with
      | lst ys => exact .inr ⟨_, rfl, fun _ => rfl⟩
      | fro ys => exact .inl (hm b ys hb h1)
  · rcases x b o' h1 with h3 | ⟨o'', h3, h4⟩
    · exact .inl h3
    · exact .inr ⟨o'', h3, fun h => h4 (h2 h)⟩

structure Kp (H : AH) (s : Shared) (H' : AH) (s' : Shared) : Prop where
  os : s'.os = s.os
  kept : ∀ b o, s.heap.get? b = some o → ¬ Mut H b → Near s'.heap b o
  dom : DomLe H s.heap H'

theorem Kp.refl (H : AH) (s : Shared) : Kp H s H s := ⟨rfl, fun _ _ e _ => .of e, DomLe.refl _ _⟩
theorem not_mut_none {H : AH} {b : Addr} (h : H b = .none) : ¬ Mut H b := fun zz0 => by obtain ⟨xs, hx⟩ := zz0; rw [h] at hx; cases hx
theorem not_mut_fro {H : AH} {b : Addr} {ys} (h : H b = some (.fro ys)) : ¬ Mut H b := fun zz0 => by obtain ⟨xs, hx⟩ := zz0; rw [h] at hx; cases hx
theorem Kp.back {H H' : AH} {s s' : Shared} (x : Kp H s H' s') {b : Addr} (hm : ¬ Mut H b) (h : s'.heap.get? b = .none) : s.heap.get? b = .none := by
  cases e : s.heap.get? b with
  | none => rfl
  | some o => exact ((x.kept b o e hm).ne h).elim
theorem Kp.trans {H H' H'' : AH} {s s' s'' : Shared} (x : Kp H s H' s') (y : Kp H' s' H'' s'') : Kp H s H'' s'' := by
  refine ⟨y.os.trans x.os, fun b o e hm => ?_, x.dom.trans y.dom (fun b hb h => x.back (not_mut_none hb) h) fun b o hb h => x.back (not_mut_fro hb) h⟩
  refine (x.kept b o e hm).step fun o' e' => y.kept b o' e' fun hm' => ?_
  rcases x.dom.mut hm' with h | h
  · exact hm h
  · rw [h] at e; cases e

theorem isL_not_mut {G : Cx} {H : AH} {h : Heap} (hr : HR G H h) {b : Addr} {o : Obj} (e : h.get? b = some o) (hc : ¬ IsLst o) : ¬ Mut H b := by
  rintro ⟨xs, hx⟩
  obtain ⟨⟨vs, n, hl, _⟩, _⟩ := hr b _ hx
  rw [hl] at e; cases e; exact hc (isLst_mk _ _)

mutual
theorem VR.mono {h h' : Heap} (k : ∀ b o, Fix o → h.get? b = some o → h'.get? b = some o) : ∀ (p : PV) (v : Value), VR h p v → VR h' p v
  | .none, _, e => e
  | .bool _, _, e => e
  | .int _, _, e => e
  | .str _, _, e => e
  | .ref _, _, e => e
  | .val _, _, e => e
  | .fnc _, _, ⟨a, fd, c, oc, vs, t, e, ha, hc, hd, h1, h2, h4, h5⟩ => ⟨a, fd, c, oc, vs, t, e, k _ _ (fix_func hc hd) ha, hc, hd, h1, k _ _ (fix_code ⟨vs, _, _, h4, h5⟩) h2, h4, h5⟩
  | .rng _ _ _, _, ⟨r, t, u, w, e, hr⟩ => ⟨r, t, u, w, e, k _ _ (fix_range _) hr⟩
  | .tup xs, v, ⟨a, vs, n, e, ht, hs⟩ => ⟨a, vs, n, e, k _ _ (fix_tuple _ _) ht, VRs.mono k xs vs hs⟩
theorem VRs.mono {h h' : Heap} (k : ∀ b o, Fix o → h.get? b = some o → h'.get? b = some o) : ∀ (ps : List PV) (vs : List Value), VRs h ps vs → VRs h' ps vs
  | [], _, e => e
  | p :: ps, vs, ⟨v, r, e, h1, h2⟩ => ⟨v, r, e, VR.mono k p v h1, VRs.mono k ps r h2⟩
end

theorem Kp.tup {G : Cx} {H H' : AH} {s s' : Shared} (x : Kp H s H' s') (hr : HR G H s.heap) : ∀ b o, Fix o → s.heap.get? b = some o → s'.heap.get? b = some o :=
  fun b o hf e => (x.kept b _ e (isL_not_mut hr e (fix_not_lst hf))).hard (fix_not_soft hf)
theorem Kp.vr {G : Cx} {H H' : AH} {s s' : Shared} (x : Kp H s H' s') (ok : OkH G H s) {p : PV} {v : Value} (h : VR s.heap p v) : VR s'.heap p v := VR.mono (x.tup ok.hr) p v h
theorem Kp.vrs {G : Cx} {H H' : AH} {s s' : Shared} (x : Kp H s H' s') (ok : OkH G H s) {p : List PV} {v : List Value} (h : VRs s.heap p v) : VRs s'.heap p v := VRs.mono (x.tup ok.hr) p v h

theorem VRs.length {h : Heap} : ∀ {ps : List PV} {vs : List Value}, VRs h ps vs → vs.length = ps.length
  | [], vs, e => by rw [show vs = [] from e]; rfl
  | p :: ps, vs, ⟨v, r, e, _, h2⟩ => by rw [e, List.length_cons, List.length_cons, VRs.length h2]
theorem VRs.get {h : Heap} : ∀ {ps : List PV} {vs : List Value} {i : Nat} {p : PV}, VRs h ps vs → ps[i]? = some p → ∃ v, vs[i]? = some v ∧ VR h p v
  | [], _, i, p, _, e => by simp at e
  | q :: ps, vs, 0, p, ⟨v, r, e, h1, h2⟩, hp => by
    simp at hp; subst hp; subst e; exact ⟨v, by simp, h1⟩
  | q :: ps, vs, i + 1, p, ⟨v, r, e, h1, h2⟩, hp => by
    simp at hp; subst e
    obtain ⟨u, hu, hv⟩ := VRs.get h2 hp
    exact ⟨u, by simpa using hu, hv⟩
theorem VRs.imp {h h' : Heap} (k : ∀ p v, VR h p v → VR h' p v) : ∀ {ps : List PV} {vs : List Value}, VRs h ps vs → VRs h' ps vs
  | [], _, e => e
  | _ :: _, _, ⟨v, r, e, h1, h2⟩ => ⟨v, r, e, k _ _ h1, VRs.imp k h2⟩
theorem VRs.append {h : Heap} : ∀ {ps qs : List PV} {vs us : List Value}, VRs h ps vs → VRs h qs us → VRs h (ps ++ qs) (vs ++ us)
  | [], qs, vs, us, e, h2 => by rw [show vs = [] from e]; exact h2
  | p :: ps, qs, vs, us, ⟨v, r, e, h1, h2⟩, h3 => by rw [e]; exact ⟨v, r ++ us, rfl, h1, VRs.append h2 h3⟩
theorem VRs.one {h : Heap} {p : PV} {v : Value} (x : VR h p v) : VRs h [p] [v] := ⟨v, [], rfl, x, rfl⟩
theorem VRs.two_inv {h : Heap} {p q : PV} {vs : List Value} (x : VRs h [p, q] vs) : ∃ v u, vs = [v, u] ∧ VR h p v ∧ VR h q u := by
  obtain ⟨v, r, rfl, h1, u, r', rfl, h2, rfl⟩ := x; exact ⟨v, u, rfl, h1, h2⟩
theorem VRs.one_inv {h : Heap} {p : PV} {vs : List Value} (x : VRs h [p] vs) : ∃ v, vs = [v] ∧ VR h p v := by
  obtain ⟨v, r, rfl, h1, rfl⟩ := x; exact ⟨v, rfl, h1⟩
theorem VRs.three_inv {h : Heap} {p q r : PV} {vs : List Value} (x : VRs h [p, q, r] vs) : ∃ v u t, vs = [v, u, t] ∧ VR h p v ∧ VR h q u ∧ VR h r t := by
  obtain ⟨v, _, rfl, h1, u, _, rfl, h2, t, _, rfl, h3, rfl⟩ := x; exact ⟨v, u, t, rfl, h1, h2, h3⟩
theorem VRs.set {h : Heap} : ∀ {ps : List PV} {vs : List Value} {i : Nat} {p : PV} {v : Value}, VRs h ps vs → VR h p v → VRs h (ps.set i p) (vs.set i v)
  | [], vs, i, p, v, e, _ => by rw [show vs = [] from e]; simp; rfl
  | q :: ps, vs, 0, p, v, ⟨u, r, e, h1, h2⟩, hv => by subst e; exact ⟨v, r, rfl, hv, h2⟩
  | q :: ps, vs, i + 1, p, v, ⟨u, r, e, h1, h2⟩, hv => by subst e; exact ⟨u, r.set i v, rfl, h1, VRs.set h2 hv⟩


noncomputable abbrev NoE : Value → Shared → Prop := fun _ _ => False
inductive Post (G : Cx) (H : AH) (s : Shared) (Q : PV → AH → Prop) (v : Value) (s' : Shared) : Prop where
  | mk (p : PV) (H' : AH) (hv : VR s'.heap p v) (ok : OkH G H' s') (k : Kp H s H' s') (hq : Q p H') : Post G H s Q v s'
theorem Post.on {G : Cx} {H : AH} {s s' : Shared} {Q : PV → AH → Prop} {v : Value} {W : Prop} (x : Post G H s Q v s') (f : ∀ p H', VR s'.heap p v → OkH G H' s' → Kp H s H' s' → Q p H' → W) : W := by cases x with | mk p H' h1 h2 h3 h4 => exact f p H' h1 h2 h3 h4
inductive PostB (G : Cx) (H : AH) (s : Shared) (Q : Bool → AH → Prop) (b : Bool) (s' : Shared) : Prop where
  | mk (H' : AH) (ok : OkH G H' s') (k : Kp H s H' s') (hq : Q b H') : PostB G H s Q b s'
theorem PostB.on {G : Cx} {H : AH} {s s' : Shared} {Q : Bool → AH → Prop} {v : Bool} {W : Prop} (x : PostB G H s Q v s') (f : ∀ H', OkH G H' s' → Kp H s H' s' → Q v H' → W) : W := by cases x with | mk H' h2 h3 h4 => exact f H' h2 h3 h4
inductive PostL (G : Cx) (H : AH) (s : Shared) (Q : List PV → AH → Prop) (vs : List Value) (s' : Shared) : Prop where
  | mk (ps : List PV) (H' : AH) (hv : VRs s'.heap ps vs) (ok : OkH G H' s') (k : Kp H s H' s') (hq : Q ps H') : PostL G H s Q vs s'
theorem PostL.on {G : Cx} {H : AH} {s s' : Shared} {Q : List PV → AH → Prop} {v : List Value} {W : Prop} (x : PostL G H s Q v s') (f : ∀ p H', VRs s'.heap p v → OkH G H' s' → Kp H s H' s' → Q p H' → W) : W := by cases x with | mk p H' h1 h2 h3 h4 => exact f p H' h1 h2 h3 h4
inductive PostU (G : Cx) (H : AH) (s : Shared) (Q : AH → Prop) (u : Unit) (s' : Shared) : Prop where
  | mk (H' : AH) (ok : OkH G H' s') (k : Kp H s H' s') (hq : Q H') : PostU G H s Q u s'
theorem PostU.on {G : Cx} {H : AH} {s s' : Shared} {Q : AH → Prop} {v : Unit} {W : Prop} (x : PostU G H s Q v s') (f : ∀ H', OkH G H' s' → Kp H s H' s' → Q H' → W) : W := by cases x with | mk H' h2 h3 h4 => exact f H' h2 h3 h4
theorem Post.trans {G : Cx} {H H1 : AH} {s s1 s2 : Shared} {Q} {v} (k : Kp H s H1 s1) (x : Post G H1 s1 Q v s2) : Post G H s Q v s2 :=
  by obtain ⟨p, H', h1, h2, h3, h4⟩ := x; exact ⟨p, H', h1, h2, k.trans h3, h4⟩
theorem PostB.trans {G : Cx} {H H1 : AH} {s s1 s2 : Shared} {Q} {v} (k : Kp H s H1 s1) (x : PostB G H1 s1 Q v s2) : PostB G H s Q v s2 :=
  by obtain ⟨H', h2, h3, h4⟩ := x; exact ⟨H', h2, k.trans h3, h4⟩
theorem Post.mono {G : Cx} {H : AH} {s s2 : Shared} {Q Q' : PV → AH → Prop} {v} (x : Post G H s Q v s2) (h : ∀ p H, Q p H → Q' p H) : Post G H s Q' v s2 :=
  by obtain ⟨p, H', h1, h2, h3, h4⟩ := x; exact ⟨p, H', h1, h2, h3, h _ _ h4⟩
noncomputable abbrev Ret (G : Cx) (A : Around) (t : Sem Value) (H : AH) (s : Shared) (Q : PV → AH → Prop) : Prop := wpAny (model G.prog G.w) A t (Post G H s Q) NoE s
theorem wpAny_noE {α : Type} {M : Model} {A : Around} {t : Sem α} {Q : α → Shared → Prop} {E : Value → Shared → Prop} {s : Shared} (h : wpAny M A t Q NoE s) : wpAny M A t Q E s := wpAny_mono h (fun _ _ x => x) fun _ _ x => x.elim


theorem OkH.toks {G : Cx} {H : AH} {s : Shared} (ok : OkH G H s) (tk : Nat) : OkH G H { s with toks := tk } := ⟨ok.keep, ok.hr, ok.gens, ok.dat, ok.tab⟩
theorem Kp.toks (H : AH) (s : Shared) (tk : Nat) : Kp H s H { s with toks := tk } := ⟨rfl, fun _ _ e _ => .of e, DomLe.refl _ _⟩
theorem post_here {G : Cx} {H : AH} {s : Shared} {Q : PV → AH → Prop} {p : PV} {v : Value} (ok : OkH G H s) (hv : VR s.heap p v) (hq : Q p H) : Post G H s Q v s :=
  ⟨p, H, hv, ok, Kp.refl H s, hq⟩
theorem post_toks {G : Cx} {H : AH} {s : Shared} {Q : PV → AH → Prop} {p : PV} {v : Value} {tk : Nat} (ok : OkH G H s) (hv : VR s.heap p v) (hq : Q p H) : Post G H s Q v { s with toks := tk } :=
  ⟨p, H, hv, ok.toks tk, Kp.toks H s tk, hq⟩

noncomputable def Op1 (G : Cx) (A : Around) (f : Value → Sem Value) (p : PV) (H : AH) (Q : PV → AH → Prop) : Prop :=
  ∀ s v, OkH G H s → VR s.heap p v → Ret G A (f v) H s Q
noncomputable def Op2 (G : Cx) (A : Around) (f : Value → Value → Sem Value) (p q : PV) (H : AH) (Q : PV → AH → Prop) : Prop :=
  ∀ s v u, OkH G H s → VR s.heap p v → VR s.heap q u → Ret G A (f v u) H s Q
noncomputable def OpL (G : Cx) (A : Around) (f : List Value → Sem Value) (ps : List PV) (H : AH) (Q : PV → AH → Prop) : Prop :=
  ∀ s vs, OkH G H s → VRs s.heap ps vs → Ret G A (f vs) H s Q
noncomputable def OpB (G : Cx) (A : Around) (f : Value → Sem Bool) (p : PV) (H : AH) (Q : Bool → AH → Prop) : Prop :=
  ∀ s v, OkH G H s → VR s.heap p v → wpAny (model G.prog G.w) A (f v) (PostB G H s Q) NoE s

noncomputable def OpS (G : Cx) (A : Around) (f : Value → Value → Value → Sem Unit) (p q r : PV) (H : AH) (Q : AH → Prop) : Prop :=
  ∀ s v u t, OkH G H s → VR s.heap p v → VR s.heap q u → VR s.heap r t → wpAny (model G.prog G.w) A (f v u t) (PostU G H s Q) NoE s


noncomputable abbrev Loc := Str → Option PV
noncomputable def Loc.set (σ : Loc) (x : Str) (v : PV) : Loc := fun y => if y = x then some v else σ y
noncomputable def namesOk (sc : Scope) : Bool := sc.names.all fun p => p.1 != ("__debug__" : Str) && p.1 != ("__classdict__" : Str)


structure Fx where
  A : Around
  env : Env
  W : Addr → Prop
noncomputable def Own (env : Env) (b : Addr) : Prop := b = env.locals ∨ ∃ x, (x, b) ∈ env.cells

structure LR (G : Cx) (F : Fx) (σ : Loc) (h : Heap) : Prop where
  own : ∀ b, F.W b → G.base.get? b = none ∧ ∀ o, ¬ G.D b o
  odd : ∀ b, F.W b → ∃ o, h.get? b = some o ∧ DC o
  wloc : F.W F.env.locals
  fn : F.env.scope.kind = .function
  nok : namesOk F.env.scope = true
  glob : F.env.globals = mainGlobals
  blt : F.env.builtins = builtinsNs
  ns : ∃ m, h.Ns F.env.locals m ∧ ∀ x p, σ x = some p → F.env.kindOf x = some .local → ∃ v, m x = some v ∧ VR h p v
  kinds : ∀ x p, σ x = some p → F.env.kindOf x = some .local ∨ F.env.kindOf x = some .cell ∨ F.env.kindOf x = some .free
  cell : ∀ x, (F.env.kindOf x = some .cell ∨ F.env.kindOf x = some .free) → ∃ c v₀, F.env.cells.lookup x = some c ∧ h.IsCell c v₀ ∧ ∀ p, σ x = some p → ∃ v, v₀ = some v ∧ VR h p v
  apart : F.env.cells.Pairwise fun x y => x.2 ≠ y.2

theorem namesOk_of {sc : Scope} (h : namesOk sc = true) {x : Str} {k : NameKind} (hk : sc.names.lookup x = some k) : (x == ("__debug__" : Str)) = false ∧ (x == ("__classdict__" : Str)) = false := by
  have := List.all_eq_true.mp h _ (mem_of_lookup hk)
  simpa [bne] using this

theorem ns_dc {h : Heap} {a : Addr} {m} (hn : h.Ns a m) : ∃ o, h.get? a = some o ∧ DC o := let ⟨o, es, ep, ho, hd, _⟩ := hn; ⟨o, ho, .inl ⟨es, ep, hd⟩⟩
theorem cell_dc {h : Heap} {a : Addr} {v} (hn : h.IsCell a v) : ∃ o, h.get? a = some o ∧ DC o := let ⟨o, ho, hd⟩ := hn; ⟨o, ho, .inr ⟨v, hd⟩⟩
theorem dc_not_mut {G : Cx} {H : AH} {h : Heap} (hr : HR G H h) {a : Addr} (hn : ∃ o, h.get? a = some o ∧ DC o) : ¬ Mut H a := by
  rintro ⟨xs, hx⟩
  obtain ⟨⟨vs, n, hl, _⟩, _⟩ := hr a _ hx
  obtain ⟨o, ho, hd⟩ := hn
  rw [hl] at ho; cases ho
  exact hd.not_solid (.inr (isLst_mk _ _))

theorem LR.at {G : Cx} {F : Fx} {σ : Loc} {h h' : Heap} (x : LR G F σ h) (hdc : ∀ b o, DC o → h.get? b = some o → ∃ o', h'.get? b = some o' ∧ o'.data = o.data)
    (hv : ∀ p v, VR h p v → VR h' p v) : LR G F σ h' := by
  obtain ⟨hfr, hodd, hwl, hf, hnk, hg, hbl, ⟨m, hn', hm⟩, hk, hce, ha⟩ := x
  refine ⟨hfr, fun b hb => ?_, hwl, hf, hnk, hg, hbl, ⟨m, ?_, fun y p e1 e2 => ?_⟩, hk, fun y hy => ?_, ha⟩
  · obtain ⟨o, ho, hd⟩ := hodd b hb; obtain ⟨o', h1, h2⟩ := hdc b o hd ho; exact ⟨o', h1, hd.of h2⟩
  · obtain ⟨o, es, ep, ho, hd, hr⟩ := hn'; obtain ⟨o', h1, h2⟩ := hdc _ _ (.inl ⟨_, _, hd⟩) ho; exact ⟨o', es, ep, h1, h2.trans hd, hr⟩
  · obtain ⟨v, h1, h2⟩ := hm y p e1 e2; exact ⟨v, h1, hv _ _ h2⟩
  · obtain ⟨c, v₀, h1, ⟨o, ho, hd⟩, h3⟩ := hce y hy
    obtain ⟨o', g1, g2⟩ := hdc _ _ (.inr ⟨_, hd⟩) ho
    refine ⟨c, v₀, h1, ⟨o', g1, g2.trans hd⟩, fun p e => ?_⟩
    obtain ⟨v, e1, e2⟩ := h3 p e; exact ⟨v, e1, hv _ _ e2⟩

theorem LR.kp {G : Cx} {H H' : AH} {s s' : Shared} {F : Fx} {σ : Loc} (x : LR G F σ s.heap) (ok : OkH G H s) (k : Kp H s H' s') : LR G F σ s'.heap :=
  x.at (fun b o hd e => (k.kept b o e (dc_not_mut ok.hr ⟨o, e, hd⟩)).data hd) (fun _ _ h => k.vr ok h)

noncomputable def Ev (G : Cx) (F : Fx) (e : Expr) (σ : Loc) (H : AH) (Q : PV → AH → Prop) : Prop :=
  ∀ s, OkH G H s → LR G F σ s.heap → Ret G F.A (eval e F.env) H s Q
noncomputable def EvB (G : Cx) (F : Fx) (e : Expr) (σ : Loc) (H : AH) (Q : Bool → AH → Prop) : Prop :=
  ∀ s, OkH G H s → LR G F σ s.heap → wpAny (model G.prog G.w) F.A (isTrue e F.env (eval e F.env)) (PostB G H s Q) NoE s
noncomputable def EvL (G : Cx) (F : Fx) (es : List Expr) (σ : Loc) (H : AH) (Q : List PV → AH → Prop) : Prop :=
  ∀ s pos, OkH G H s → LR G F σ s.heap → wpAny (model G.prog G.w) F.A (spliced (backTo pos (starEach es F.env))) (PostL G H s Q) NoE s

inductive PF where
  | next | brk | cont
  | ret (p : PV)
noncomputable def FR (h : Heap) : PF → Flow → Prop
  | .next, f => f = .next
  | .brk, f => f = .brk
  | .cont, f => f = .cont
  | .ret p, f => ∃ v, f = .ret v ∧ VR h p v

structure KpF (W : Addr → Prop) (H : AH) (s : Shared) (H' : AH) (s' : Shared) : Prop where
  os : s'.os = s.os
  kept : ∀ b o, s.heap.get? b = some o → ¬ Mut H b → ¬ W b → Near s'.heap b o
  dom : DomLe H s.heap H'
  live : ∀ b o, s.heap.get? b = some o → ¬ Mut H b → W b → ∃ o', s'.heap.get? b = some o'
theorem Kp.toF {W : Addr → Prop} {H H' : AH} {s s' : Shared} (x : Kp H s H' s') : KpF W H s H' s' := ⟨x.os, fun b o e h _ => x.kept b o e h, x.dom, fun b o e h _ => let ⟨o', h1, _⟩ := x.kept b o e h; ⟨o', h1⟩⟩
theorem KpF.refl (W : Addr → Prop) (H : AH) (s : Shared) : KpF W H s H s := (Kp.refl H s).toF
theorem KpF.nm {W : Addr → Prop} {H H' : AH} {s s' : Shared} (x : KpF W H s H' s') {b : Addr} {o : Obj} (e : s.heap.get? b = some o) (hm : ¬ Mut H b) : ¬ Mut H' b := fun hm' => by
  rcases x.dom.mut hm' with h | h
  · exact hm h
  · rw [h] at e; cases e
theorem KpF.back {W : Addr → Prop} {H H' : AH} {s s' : Shared} (x : KpF W H s H' s') {b : Addr} (hm : ¬ Mut H b) (h : s'.heap.get? b = .none) : s.heap.get? b = .none := by
  cases e : s.heap.get? b with
  | none => rfl
  | some o =>
    by_cases hno : W b
    · obtain ⟨o', ho'⟩ := x.live b o e hm hno; rw [ho'] at h; cases h
    · exact ((x.kept b o e hm hno).ne h).elim
theorem KpF.trans {W : Addr → Prop} {H H' H'' : AH} {s s' s'' : Shared} (x : KpF W H s H' s') (y : KpF W H' s' H'' s'') : KpF W H s H'' s'' := by
  refine ⟨y.os.trans x.os, fun b o e hm hno => (x.kept b o e hm hno).step fun o' e' => y.kept b o' e' (x.nm e hm) hno, x.dom.trans y.dom (fun b hb h => x.back (not_mut_none hb) h) fun b o hb h => x.back (not_mut_fro hb) h, fun b o e hm ho => ?_⟩
  obtain ⟨o', ho'⟩ := x.live b o e hm ho
  exact y.live b o' ho' (x.nm e hm) ho

theorem KpF.odd_kept {G : Cx} {F : Fx} {σ : Loc} {H H' : AH} {s s' : Shared} (x : KpF F.W H s H' s') (lr : LR G F σ s.heap) {b : Addr} {o : Obj} (e : s.heap.get? b = some o) (hm : ¬ Mut H b) (hd : ¬ Soft o) : s'.heap.get? b = some o :=
  (x.kept b o e hm fun hw => by obtain ⟨o', ho', hd'⟩ := lr.odd b hw; rw [ho'] at e; cases e; exact hd (.inl hd')).hard hd
theorem KpF.vr {G : Cx} {F : Fx} {σ : Loc} {H H' : AH} {s s' : Shared} (x : KpF F.W H s H' s') (ok : OkH G H s) (lr : LR G F σ s.heap) {p : PV} {v : Value} (h : VR s.heap p v) : VR s'.heap p v :=
  VR.mono (fun b o hf e => x.odd_kept lr e (isL_not_mut ok.hr e (fix_not_lst hf)) (fix_not_soft hf)) p v h
theorem KpF.vrs {G : Cx} {F : Fx} {σ : Loc} {H H' : AH} {s s' : Shared} (x : KpF F.W H s H' s') (ok : OkH G H s) (lr : LR G F σ s.heap) {p : List PV} {v : List Value} (h : VRs s.heap p v) : VRs s'.heap p v :=
  VRs.mono (fun b o hf e => x.odd_kept lr e (isL_not_mut ok.hr e (fix_not_lst hf)) (fix_not_soft hf)) p v h

inductive PostF (G : Cx) (F : Fx) (H : AH) (s : Shared) (Q : PF → Loc → AH → Prop) (f : Flow) (s' : Shared) : Prop where
  | mk (pf : PF) (σ' : Loc) (H' : AH) (hf : FR s'.heap pf f) (ok : OkH G H' s') (lr : LR G F σ' s'.heap) (k : KpF F.W H s H' s') (hq : Q pf σ' H') : PostF G F H s Q f s'
theorem PostF.on {G : Cx} {F : Fx} {H : AH} {s s' : Shared} {Q : PF → Loc → AH → Prop} {v : Flow} {W : Prop} (x : PostF G F H s Q v s') (f : ∀ pf σ' H', FR s'.heap pf v → OkH G H' s' → LR G F σ' s'.heap → KpF F.W H s H' s' → Q pf σ' H' → W) : W := by cases x with | mk pf p H' h1 h2 h3 h4 h5 => exact f pf p H' h1 h2 h3 h4 h5
theorem PostF.trans {G : Cx} {F : Fx} {H H1 : AH} {s s1 s2 : Shared} {Q} {f} (k : KpF F.W H s H1 s1) (x : PostF G F H1 s1 Q f s2) : PostF G F H s Q f s2 :=
  by obtain ⟨p, σ', H', h1, h2, h3, h4, h5⟩ := x; exact ⟨p, σ', H', h1, h2, h3, k.trans h4, h5⟩
inductive PostS (G : Cx) (F : Fx) (H : AH) (s : Shared) (Q : Loc → AH → Prop) (u : Unit) (s' : Shared) : Prop where
  | mk (σ' : Loc) (H' : AH) (ok : OkH G H' s') (lr : LR G F σ' s'.heap) (k : KpF F.W H s H' s') (hq : Q σ' H') : PostS G F H s Q u s'
theorem PostS.on {G : Cx} {F : Fx} {H : AH} {s s' : Shared} {Q : Loc → AH → Prop} {v : Unit} {W : Prop} (x : PostS G F H s Q v s') (f : ∀ σ' H', OkH G H' s' → LR G F σ' s'.heap → KpF F.W H s H' s' → Q σ' H' → W) : W := by cases x with | mk p H' h2 h3 h4 h5 => exact f p H' h2 h3 h4 h5
theorem PostS.trans {G : Cx} {F : Fx} {H H1 : AH} {s s1 s2 : Shared} {Q} {f} (k : KpF F.W H s H1 s1) (x : PostS G F H1 s1 Q f s2) : PostS G F H s Q f s2 :=
  by obtain ⟨σ', H', h2, h3, h4, h5⟩ := x; exact ⟨σ', H', h2, h3, k.trans h4, h5⟩

noncomputable def Ex (G : Cx) (F : Fx) (st : Stmt) (σ : Loc) (H : AH) (Q : PF → Loc → AH → Prop) : Prop :=
  ∀ s, OkH G H s → LR G F σ s.heap → wpAny (model G.prog G.w) F.A (exec st F.env) (PostF G F H s Q) NoE s
noncomputable def Exs (G : Cx) (F : Fx) (sts : List Stmt) (σ : Loc) (H : AH) (Q : PF → Loc → AH → Prop) : Prop :=
  ∀ s, OkH G H s → LR G F σ s.heap → wpAny (model G.prog G.w) F.A (execs sts F.env) (PostF G F H s Q) NoE s

noncomputable def As (G : Cx) (F : Fx) (t : Expr) (p : PV) (σ : Loc) (H : AH) (Q : Loc → AH → Prop) : Prop :=
  ∀ s v, OkH G H s → LR G F σ s.heap → VR s.heap p v → wpAny (model G.prog G.w) F.A (assign t F.env v) (PostS G F H s Q) NoE s

noncomputable def Sto (F : Fx) (x : Str) : Prop := F.env.kindOf x = some .local ∨ (F.env.kindOf x = some .cell ∧ ∀ c, F.env.cells.lookup x = some c → F.W c)

section
variable {G : Cx} {A : Around} {F : Fx} {σ : Loc} {H : AH}

theorem HR.other {h h' : Heap} (hr : HR G H h) (k : ∀ b o, h.get? b = some o → Fix o ∨ IsLst o → h'.get? b = some o) : HR G H h' := fun a o e => by
  obtain ⟨⟨vs, n, hl, hv, hz⟩, hb⟩ := hr a o e
  exact ⟨⟨vs, n, k _ _ hl (.inr (isLst_mk _ _)), VRs.mono (fun b o hf e => k _ _ e (.inl hf)) _ _ hv, hz⟩, hb⟩


theorem own_store {s : Shared} {a : Addr} {h' : Heap} {oa oa' : Obj} {tk : Nat} (ok : OkH G H s) (lr : LR G F σ s.heap) (hown : F.W a) (hoa : s.heap.get? a = some oa) (hns : DC oa)
    (hs : Heap.SameBut a s.heap h') (hoa' : h'.get? a = some oa') (hns' : DC oa') :
    OkH G H { s with heap := h', toks := tk } ∧ KpF F.W H s H { s with heap := h', toks := tk } ∧ (∀ p v, VR s.heap p v → VR h' p v) ∧ (∀ b, F.W b → ∃ o, h'.get? b = some o ∧ DC o) := by
  have hba := (lr.own a hown).1
  have k : ∀ b o, s.heap.get? b = some o → Fix o ∨ IsLst o → h'.get? b = some o := fun b o e hd => (hs.2 b (by
    rintro rfl; rw [hoa] at e; cases e; exact hns.not_solid hd)).trans e
  refine ⟨⟨fun b o e => (hs.2 b (by rintro rfl; rw [hba] at e; cases e)).trans (ok.keep b o e), ok.hr.other k, ok.gens, ok.dat.dc fun b o _ hD e => (hs.2 b (by rintro rfl; obtain ⟨o', hD⟩ := hD; exact (lr.own _ hown).2 _ hD)).trans e, ok.tab.keep fun b o hl e => (hs.2 b (by rintro rfl; rw [hoa] at e; cases e; exact hl.not_dc hns)).trans e⟩, ⟨rfl, fun b o e _ hno => .of ((hs.2 b (by rintro rfl; exact hno hown)).trans e), DomLe.refl _ _, fun b o e _ _ => ?_⟩,
    fun p v hv => VR.mono (fun b o hf e => k _ _ e (.inl hf)) p v hv, fun b hb => ?_⟩
  · by_cases hb : b = a
    · subst hb; exact ⟨_, hoa'⟩
    · exact ⟨o, (hs.2 b hb).trans e⟩
  · by_cases hba : b = a
    · subst hba; exact ⟨_, hoa', hns'⟩
    · obtain ⟨o, ho, hd⟩ := lr.odd b hb
      exact ⟨o, (hs.2 b hba).trans ho, hd⟩

theorem storeName_ok {x : Str} {p : PV} {v : Value} {s : Shared} {Q : Loc → AH → Prop} (hk : Sto F x)
    (ok : OkH G H s) (lr : LR G F σ s.heap) (hv : VR s.heap p v)
    (h : Q (σ.set x p) H) : wpAny (model G.prog G.w) A (storeName F.env x v) (PostS G F H s Q) NoE s := by
  refine hide fun WW9 hW9 => ?_
  obtain ⟨hfr, hodd, hwl, hf, hnk, hg, hbl, ⟨m, hn, hm⟩, hki, hce, ha⟩ := id lr
  refine hW9 ?_
  clear hW9 WW9
  rcases hk with hk | ⟨hk, hkw⟩
  · refine wpAny_storeName_local hk hn (fun h' hn' hs' => ?_) (by rw [hf]; rfl)
    refine hide fun WW9 hW9 => ?_
    obtain ⟨oa, ho, hd⟩ := ns_dc hn
    refine hW9 ?_
    clear hW9 WW9
    refine hide fun WW9 hW9 => ?_
    obtain ⟨oa', ho', hd'⟩ := ns_dc hn'
    refine hW9 ?_
    clear hW9 WW9
    refine hide fun WW9 hW9 => ?_
    obtain ⟨ok', kp', vr', odd'⟩ := own_store (tk := s.toks + 1) ok lr hwl ho hd hs' ho' hd'
    refine hW9 ?_
    clear hW9 WW9
    refine ⟨_, H, ok', ⟨hfr, odd', hwl, hf, hnk, hg, hbl, ⟨_, hn', fun y q e1 e2 => ?_⟩, fun y q e => ?_, fun y hy => ?_, ha⟩, kp', h⟩
    · unfold Loc.set at e1
      by_cases hy : y = x
      · subst hy; rw [if_pos rfl] at e1; cases e1
        exact ⟨v, if_pos rfl, vr' _ _ hv⟩
      · rw [if_neg hy] at e1 ⊢
        refine hide fun WW9 hW9 => ?_
        obtain ⟨u, h1, h2⟩ := hm y q e1 e2
        refine hW9 ?_
        clear hW9 WW9
        exact ⟨u, h1, vr' _ _ h2⟩
    · unfold Loc.set at e
      by_cases hy : y = x
      · subst hy; exact .inl hk
      · rw [if_neg hy] at e; exact hki y q e
    · refine hide fun WW9 hW9 => ?_
      obtain ⟨c, v₀, h1, h2, h3⟩ := hce y hy
      refine hW9 ?_
      clear hW9 WW9
      have hyx : y ≠ x := by rintro rfl; rw [hk] at hy; rcases hy with hy | hy <;> cases hy
      refine ⟨c, v₀, h1, h2.sameBut hs' ?_, fun q e => ?_⟩
      · rintro rfl; obtain ⟨o, e1, e2⟩ := h2; rw [ho] at e1; cases e1
        obtain ⟨_, _, _, ho2, hd2, _⟩ := hn; rw [ho] at ho2; cases ho2; rw [hd2] at e2; cases e2
      · unfold Loc.set at e; rw [if_neg hyx] at e
        obtain ⟨u, e1, e2⟩ := h3 q e; exact ⟨u, e1, vr' _ _ e2⟩
  · refine hide fun WW9 hW9 => ?_
    obtain ⟨c, v₀, h1, h2, h3⟩ := hce x (.inl hk)
    refine hW9 ?_
    clear hW9 WW9
    have hmem := mem_of_lookup h1
    refine wpAny_storeName_cell hf hk h1 h2 fun h' hc' hs' => ?_
    refine hide fun WW9 hW9 => ?_
    obtain ⟨oa, ho, hd⟩ := id h2
    refine hW9 ?_
    clear hW9 WW9
    refine hide fun WW9 hW9 => ?_
    obtain ⟨oa', ho', hd'⟩ := cell_dc hc'
    refine hW9 ?_
    clear hW9 WW9
    refine hide fun WW9 hW9 => ?_
    obtain ⟨ok', kp', vr', odd'⟩ := own_store (tk := s.toks) ok lr (hkw c h1) ho (.inr ⟨_, hd⟩) hs' ho' hd'
    refine hW9 ?_
    clear hW9 WW9
    have hcL : F.env.locals ≠ c := by
      rintro rfl; obtain ⟨_, _, _, ho2, hd2, _⟩ := hn; rw [ho] at ho2; cases ho2; rw [hd] at hd2; cases hd2
    refine ⟨_, H, ok', ⟨hfr, odd', hwl, hf, hnk, hg, hbl, ⟨m, hn.sameBut hs' hcL, fun y q e1 e2 => ?_⟩, fun y q e => ?_, fun y hy => ?_, ha⟩, kp', h⟩
    · have hyx : y ≠ x := by rintro rfl; rw [hk] at e2; cases e2
      unfold Loc.set at e1; rw [if_neg hyx] at e1
      refine hide fun WW9 hW9 => ?_
      obtain ⟨u, g1, g2⟩ := hm y q e1 e2
      refine hW9 ?_
      clear hW9 WW9
      exact ⟨u, g1, vr' _ _ g2⟩
    · unfold Loc.set at e
      by_cases hy : y = x
      · subst hy; exact .inr (.inl hk)
      · rw [if_neg hy] at e; exact hki y q e
    · by_cases hyx : y = x
      · subst hyx
        refine ⟨c, some v, h1, hc', fun q e => ?_⟩
        unfold Loc.set at e; rw [if_pos rfl] at e; cases e
        exact ⟨v, rfl, vr' _ _ hv⟩
      · refine hide fun WW9 hW9 => ?_
        obtain ⟨c2, v2, g1, g2, g3⟩ := hce y hy
        refine hW9 ?_
        clear hW9 WW9
        refine ⟨c2, v2, g1, g2.sameBut hs' ?_, fun q e => ?_⟩
        · intro e; exact hyx (name_of_addr ha (mem_of_lookup g1) (e ▸ hmem))
        · unfold Loc.set at e; rw [if_neg hyx] at e
          obtain ⟨u, e1, e2⟩ := g3 q e; exact ⟨u, e1, vr' _ _ e2⟩


theorem Ev_Name {x : Str} {pos : Pos} {p : PV} {Q : PV → AH → Prop} (hx : σ x = some p) (h : Q p H) : Ev G F (.Name x pos) σ H Q := by
  intro s ok lr
  obtain ⟨hfr, hodd, hwl, hf, hnk, hg, hbl, ⟨m, hn, hm⟩, hki, hce, ha⟩ := id lr
  rcases hki x p hx with hk | hk | hk
  · obtain ⟨v, h1, h2⟩ := hm x p hx hk
    exact wpAny_Name (wpAny_loadName_local hf hk hn h1 (post_here ok h2 h)) (namesOk_of hnk hk).1
  · obtain ⟨c, v₀, h1, h2, h3⟩ := hce x (.inl hk)
    obtain ⟨v, rfl, hv⟩ := h3 p hx
    exact wpAny_Name (wpAny_loadName_cell hf hk h1 h2 (post_here ok hv h)) (namesOk_of hnk hk).1
  · obtain ⟨c, v₀, h1, h2, h3⟩ := hce x (.inr hk)
    obtain ⟨v, rfl, hv⟩ := h3 p hx
    exact wpAny_Name (wpAny_loadName_free hf hk h1 h2 (post_here ok hv h) (namesOk_of hnk hk).2) (namesOk_of hnk hk).1

theorem Ev_Global {x : Str} {pos : Pos} {a : Addr} {Q : PV → AH → Prop} (hk : F.env.kindOf x = some .globalImplicit) (hx : G.mg x = some (.ref a)) (h : Q (.ref a) H) : Ev G F (.Name x pos) σ H Q := by
  intro s ok lr
  have hg : s.heap.Ns F.env.globals G.mg := by rw [lr.glob]; exact G.g.keeps ok.keep
  exact Calls.Name_function_global lr.fn hk (Calls.loadGlobal_global hg hx (post_here (p := .ref a) ok rfl h)) (namesOk_of lr.nok hk).1

theorem Ev_Builtin {x : Str} {pos : Pos} {v : Value} {Q : PV → AH → Prop} (hk : F.env.kindOf x = some .globalImplicit) (hx : G.mg x = none) (hb : bootBuiltins x = some v) (hn : x ≠ "__name__") (h : Q (.val v) H) :
    Ev G F (.Name x pos) σ H Q := by
  intro s ok lr
  have hg : s.heap.Ns F.env.globals G.mg := by rw [lr.glob]; exact G.g.keeps ok.keep
  have hb' : s.heap.Ns F.env.builtins G.mb := by rw [lr.blt]; exact G.b.keeps ok.keep
  exact Calls.Name_function_global lr.fn hk (Calls.loadGlobal_builtin hg hx hb' ((G.builtins x hn).trans hb) (post_here (p := .val v) ok rfl h)) (namesOk_of lr.nok hk).1

theorem Ev_Int {i : Int} {k : Nat} {pos : Pos} {Q : PV → AH → Prop} (h : Q (.int i) H) : Ev G F (.Constant (.int i) k pos) σ H Q :=
  fun s ok _ => wpAny_Constant_int (post_toks (p := .int i) ok ⟨_, rfl⟩ h)
theorem Ev_Str {x : Str} {k : Nat} {pos : Pos} {Q : PV → AH → Prop} (h : Q (.str x) H) : Ev G F (.Constant (.str x) k pos) σ H Q :=
  fun s ok _ => wpAny_Constant_str (post_toks (p := .str x) ok ⟨_, rfl⟩ h)
theorem Ev_None {k : Nat} {pos : Pos} {Q : PV → AH → Prop} (h : Q .none H) : Ev G F (.Constant .none k pos) σ H Q :=
  fun s ok _ => wpAny_Constant_none (post_here (p := .none) ok rfl h)
theorem Ev_BinOp {l r : Expr} {op : Operator} {pos : Pos} {Q : PV → AH → Prop}
    (h : Ev G F l σ H (fun a H1 => Ev G F r σ H1 (fun b H2 => Op2 G F.A (binaryOp op) a b H2 Q))) : Ev G F (.BinOp l op r pos) σ H Q := by
  intro s ok lr
  refine wpAny_BinOp (wpAny_mono (h s ok lr) (fun a s1 zz2 => zz2.on fun p H1 hv ok1 k1 hq => wpAny_mono (hq s1 ok1 (lr.kp ok k1)) (fun b s2 zz2 => zz2.on fun q H2 hu ok2 k2 hq2 => ?_) fun _ _ x => x) fun _ _ x => x)
  exact wpAny_mono (hq2 s2 a b ok2 (k2.vr ok1 hv) hu) (fun _ _ x => (x.trans k2).trans k1) fun _ _ x => x

theorem Ev_Compare {l r : Expr} {op : CmpOp} {pos : Pos} {Q : PV → AH → Prop}
    (h : Ev G F l σ H (fun a H1 => Ev G F r σ H1 (fun b H2 => Op2 G F.A (compareOp op) a b H2 Q))) (hm : behindInMarks op r = false := by with_unfolding_all rfl) : Ev G F (.Compare l [op] [r] pos) σ H Q := by
  intro s ok lr
  refine wpAny_Compare1 (wpAny_mono (h s ok lr) (fun a s1 zz2 => zz2.on fun p H1 hv ok1 k1 hq => wpAny_mono (hq s1 ok1 (lr.kp ok k1)) (fun b s2 zz2 => zz2.on fun q H2 hu ok2 k2 hq2 => ?_) fun _ _ x => x) fun _ _ x => x) hm
  exact wpAny_mono (hq2 s2 a b ok2 (k2.vr ok1 hv) hu) (fun _ _ x => (x.trans k2).trans k1) fun _ _ x => x

end
end Mine
open PySem PySem.W PyProof.Rows
set_option Elab.async false
set_option maxRecDepth 100000
namespace Mine
section
variable {G : Cx} {A : Around} {F : Fx} {σ : Loc} {H : AH}

theorem H_fresh {s : Shared} (ok : OkH G H s) : H s.heap.objs.size = none := by
  cases e : H s.heap.objs.size with
  | none => rfl
  | some o =>
    obtain ⟨⟨vs, n, hl, _⟩, _⟩ := ok.hr _ _ e
    exact absurd (Heap.lt_size hl) (Nat.lt_irrefl _)

theorem push_ok {s : Shared} (ok : OkH G H s) (o : Obj) : OkH G H { s with heap := s.heap.push o } ∧ Kp H s H { s with heap := s.heap.push o } :=
  ⟨⟨fun b o' e => Heap.get?_push_of_some _ (ok.keep b o' e), ok.hr.other fun b o' e _ => Heap.get?_push_of_some _ e, ok.gens, ok.dat.all fun b o' e => Heap.get?_push_of_some _ e, ok.tab.keep fun b o' _ e => Heap.get?_push_of_some _ e⟩,
    ⟨rfl, fun b o' e _ => .of (Heap.get?_push_of_some _ e), DomLe.refl _ _⟩⟩

theorem push_list {s : Shared} (ok : OkH G H s) {ps : List PV} {vs : List Value} (hv : VRs s.heap ps vs) (hz : ps.length ≤ sizeLine) :
    OkH G (H.set s.heap.objs.size (.lst ps)) { s with heap := s.heap.push { cls := .type "list", data := .seq vs.toArray } } ∧
    Kp H s (H.set s.heap.objs.size (.lst ps)) { s with heap := s.heap.push { cls := .type "list", data := .seq vs.toArray } } := by
  obtain ⟨ok', k'⟩ := push_ok ok { cls := .type "list", data := .seq vs.toArray }
  refine ⟨⟨ok'.keep, fun a o e => ?_, ok'.gens, ok'.dat, ok'.tab⟩, ⟨rfl, k'.kept, fun b o hb => ?_⟩⟩
  · unfold AH.set at e
    by_cases ha : a = s.heap.objs.size
    · rw [if_pos ha] at e; cases e
      refine ⟨⟨vs, 0, by rw [ha]; exact IsL.new _ _, k'.vrs ok hv, hz⟩, fun _ _ => ?_⟩
      cases e : G.base.get? a with
      | none => rfl
      | some o => have := Heap.lt_size (ok.keep _ _ e); rw [ha] at this; exact absurd this (Nat.lt_irrefl _)
    · rw [if_neg ha] at e; exact ok'.hr a o e
  · unfold AH.set at hb
    by_cases ha : b = s.heap.objs.size
    · left
      cases e : s.heap.get? b with
      | none => rfl
      | some o => have := Heap.lt_size e; rw [ha] at this; exact absurd this (Nat.lt_irrefl _)
    · rw [if_neg ha] at hb; exact .inr ⟨o, hb, id⟩


theorem post_list {s : Shared} (ok : OkH G H s) {ps : List PV} {vs : List Value} {Q : PV → AH → Prop} {tk : Nat} (hv : VRs s.heap ps vs) (hz : ps.length ≤ sizeLine)
    (h : ∀ a, H a = none → Q (.ref a) (H.set a (.lst ps))) : Post G H s Q (.ref s.heap.objs.size) { s with heap := s.heap.push { cls := .type "list", data := .seq vs.toArray }, toks := tk } := by
  obtain ⟨ok', k'⟩ := push_list ok hv hz
  exact ⟨.ref s.heap.objs.size, _, rfl, ok'.toks tk, k'.trans (Kp.toks _ _ tk), h _ (H_fresh ok)⟩
theorem post_tuple {s : Shared} (ok : OkH G H s) {ps : List PV} {vs : List Value} {Q : PV → AH → Prop} {tk : Nat} (hv : VRs s.heap ps vs)
    (h : Q (.tup ps) H) : Post G H s Q (.ref s.heap.objs.size) { s with heap := s.heap.push { cls := .type "tuple", data := .seq vs.toArray }, toks := tk } := by
  obtain ⟨ok', k'⟩ := push_ok ok { cls := .type "tuple", data := .seq vs.toArray }
  exact ⟨.tup ps, _, ⟨_, vs, 0, rfl, IsT.new _ _, k'.vrs ok hv⟩, ok'.toks tk, k'.trans (Kp.toks _ _ tk), h⟩


theorem EvL_nil {Q : List PV → AH → Prop} (h : Q [] H) : EvL G F [] σ H Q := fun s pos ok _ => spliced_none ⟨[], H, rfl, ok, Kp.refl H s, h⟩
theorem EvL_cons {e : Expr} {es : List Expr} {Q : List PV → AH → Prop} (h : Ev G F e σ H (fun p H1 => EvL G F es σ H1 (fun ps H2 => Q (p :: ps) H2)))
    (he : starEach (e :: es) F.env = (false, eval e F.env) :: starEach es F.env := by rfl) : EvL G F (e :: es) σ H Q := by
  intro s pos ok lr
  refine spliced_more (wpAny_mono (h s ok lr) (fun a s1 zz2 => zz2.on fun p H1 hv ok1 k1 hq => wpAny_mono (hq s1 pos ok1 (lr.kp ok k1)) (fun b s2 zz2 => zz2.on fun q H2 hu ok2 k2 hq2 => ?_) fun _ _ x => x) fun _ _ x => x) he
  exact ⟨p :: q, H2, ⟨a, b, rfl, k2.vr ok1 hv, hu⟩, ok2, k1.trans k2, hq2⟩

theorem Ev_Tuple {es : List Expr} {k : Nat} {pos : Pos} {Q : PV → AH → Prop} (h : EvL G F es σ H (fun ps H1 => ps.length ≤ sizeLine ∧ Q (.tup ps) H1)) : Ev G F (.Tuple es k pos) σ H Q := by
  intro s ok lr
  refine wpAny_Tuple (wpAny_mono (h s pos ok lr) (fun vs s1 zz2 => zz2.on fun ps H1 hv ok1 k1 zz2_5 => zz2_5.elim fun hz hq => ⟨by rw [hv.length]; exact hz, ?_⟩) fun _ _ x => x)
  exact (post_tuple (tk := s1.toks) ok1 hv hq).trans k1
theorem Ev_List {es : List Expr} {pos : Pos} {Q : PV → AH → Prop} (h : EvL G F es σ H (fun ps H1 => ps.length ≤ sizeLine ∧ ∀ a, H1 a = none → Q (.ref a) (H1.set a (.lst ps)))) : Ev G F (.List es pos) σ H Q := by
  intro s ok lr
  refine wpAny_List (wpAny_mono (h s pos ok lr) (fun vs s1 zz2 => zz2.on fun ps H1 hv ok1 k1 zz2_5 => zz2_5.elim fun hz hq => ⟨by rw [hv.length]; exact hz, ?_⟩) fun _ _ x => x)
  exact (post_list (tk := s1.toks) ok1 hv hz hq).trans k1


theorem EvB_Compare {l r : Expr} {op : CmpOp} {pos : Pos} {Q : Bool → AH → Prop}
    (h : Ev G F l σ H (fun a H1 => Ev G F r σ H1 (fun b H2 => Op2 G F.A (compareOp op) a b H2 (fun p H3 => ∃ c, p = .bool c ∧ Q c H3)))) (hm : behindInMarks op r = false := by with_unfolding_all rfl) :
    EvB G F (.Compare l [op] [r] pos) σ H Q := by
  intro s ok lr
  refine wpAny_isTrue_Compare1 (wpAny_mono (h s ok lr) (fun a s1 zz2 => zz2.on fun p H1 hv ok1 k1 hq => wpAny_mono (hq s1 ok1 (lr.kp ok k1)) (fun b s2 zz2 => zz2.on fun q H2 hu ok2 k2 hq2 => ?_) fun _ _ x => x) fun _ _ x => x) hm
  refine wpAny_mono (hq2 s2 a b ok2 (k2.vr ok1 hv) hu) (fun v s3 zz2 => zz2.on fun r H3 hw ok3 k3 zz2_5 => zz2_5.elim fun c zz2_5 => zz2_5.elim fun hc hq3 => ?_) fun _ _ x => x
  subst hc; rw [show v = .bool c from hw]
  exact wpAny_truthy_bool ⟨H3, ok3, (k1.trans k2).trans k3, hq3⟩
theorem EvB_Not {x : Expr} {pos : Pos} {Q : Bool → AH → Prop} (h : EvB G F x σ H (fun b H1 => Q (!b) H1)) : EvB G F (.UnaryOp .Not x pos) σ H Q :=
  fun s ok lr => wpAny_isTrue_Not (wpAny_mono (h s ok lr) (fun _ _ zz2 => by obtain ⟨H1, ok1, k1, hq⟩ := zz2; exact ⟨H1, ok1, k1, hq⟩) fun _ _ x => x)
theorem EvB_And {x y : Expr} {pos : Pos} {Q : Bool → AH → Prop} (h : EvB G F x σ H (fun b H1 => if b then EvB G F y σ H1 Q else Q false H1)) : EvB G F (.BoolOp .And [x, y] pos) σ H Q := by
  intro s ok lr
  refine wpAny_isTrue_BoolOp (wpAny_allTrue_And_cons (wpAny_mono (h s ok lr) (fun b s1 zz2 => zz2.on fun H1 ok1 k1 hq => ?_) fun _ _ x => x))
  cases b with
  | false => exact ⟨H1, ok1, k1, hq⟩
  | true =>
    refine wpAny_allTrue_And_cons (wpAny_mono (hq s1 ok1 (lr.kp ok k1)) (fun b s2 zz2 => zz2.on fun H2 ok2 k2 hq2 => ?_) fun _ _ x => x)
    cases b with
    | false => exact ⟨H2, ok2, k1.trans k2, hq2⟩
    | true => exact wpAny_allTrue_And_nil ⟨H2, ok2, k1.trans k2, hq2⟩
theorem EvB_Or {x y : Expr} {pos : Pos} {Q : Bool → AH → Prop} (h : EvB G F x σ H (fun b H1 => if b then Q true H1 else EvB G F y σ H1 Q)) : EvB G F (.BoolOp .Or [x, y] pos) σ H Q := by
  intro s ok lr
  refine wpAny_isTrue_BoolOp (wpAny_allTrue_Or_cons (wpAny_mono (h s ok lr) (fun b s1 zz2 => zz2.on fun H1 ok1 k1 hq => ?_) fun _ _ x => x))
  cases b with
  | true => exact ⟨H1, ok1, k1, hq⟩
  | false =>
    refine wpAny_allTrue_Or_cons (wpAny_mono (hq s1 ok1 (lr.kp ok k1)) (fun b s2 zz2 => zz2.on fun H2 ok2 k2 hq2 => ?_) fun _ _ x => x)
    cases b with
    | true => exact ⟨H2, ok2, k1.trans k2, hq2⟩
    | false => exact wpAny_allTrue_Or_nil ⟨H2, ok2, k1.trans k2, hq2⟩
theorem EvB_val {e : Expr} {Q : Bool → AH → Prop} (h : Ev G F e σ H (fun p H1 => OpB G F.A truthy p H1 Q))
    (he : isTrue e F.env (eval e F.env) = (do let v ← eval e F.env; standAt e.pos; holding [v] (truthy v)) := by rfl) : EvB G F e σ H Q := by
  intro s ok lr
  refine wpAny_isTrue_value (wpAny_mono (h s ok lr) (fun v s1 zz2 => by obtain ⟨p, H1, hv, ok1, k1, hq⟩ := zz2; exact wpAny_mono (hq s1 v ok1 hv) (fun _ _ x => x.trans k1) fun _ _ x => x) fun _ _ x => x) he
theorem Ev_IfExp {t b o : Expr} {pos : Pos} {Q : PV → AH → Prop} (h : EvB G F t σ H (fun c H1 => if c then Ev G F b σ H1 Q else Ev G F o σ H1 Q)) : Ev G F (.IfExp t b o pos) σ H Q := by
  intro s ok lr
  refine wpAny_IfExp (wpAny_mono (h s ok lr) (fun c s1 zz2 => zz2.on fun H1 ok1 k1 hq => ?_) fun _ _ x => x)
  cases c with
  | true => exact wpAny_mono (hq s1 ok1 (lr.kp ok k1)) (fun _ _ x => x.trans k1) fun _ _ x => x
  | false => exact wpAny_mono (hq s1 ok1 (lr.kp ok k1)) (fun _ _ x => x.trans k1) fun _ _ x => x


noncomputable def pyIdx {α : Type} (xs : List α) (k : Int) : Option α := if 0 ≤ k then xs[k.toNat]? else if -(xs.length : Int) ≤ k then xs[(k + xs.length).toNat]? else none

theorem Ev_Subscript {v i : Expr} {pos : Pos} {Q : PV → AH → Prop}
    (h : Ev G F v σ H (fun o H1 => Ev G F i σ H1 (fun j H2 => Op2 G F.A (subscriptTail v i) o j H2 Q))) : Ev G F (.Subscript v i pos) σ H Q := by
  intro s ok lr
  refine Subscript_ (wpAny_mono (h s ok lr) (fun a s1 zz2 => zz2.on fun p H1 hv ok1 k1 hq => wpAny_mono (hq s1 ok1 (lr.kp ok k1)) (fun b s2 zz2 => zz2.on fun q H2 hu ok2 k2 hq2 => ?_) fun _ _ x => x) fun _ _ x => x)
  exact wpAny_mono (hq2 s2 a b ok2 (k2.vr ok1 hv) hu) (fun _ _ x => (x.trans k2).trans k1) fun _ _ x => x

theorem getItem_list_ok {s : Shared} {a : Addr} {ho : HO} {k : Int} {t : Tok} {p : PV} {Q : PV → AH → Prop} (ok : OkH G H s) (hH : H a = some ho) (hk : pyIdx ho.items k = some p) (h : Q p H) :
    Ret G A (getItem (.ref a) (.int k t)) H s Q := by
  obtain ⟨⟨vs, n, hl, hv, hz⟩, _⟩ := ok.hr a ho hH
  have hlen := hv.length
  have hz' : ho.items.length ≤ 16777216 := by rw [← sizeLine_eq]; exact hz
  unfold pyIdx at hk
  by_cases h0 : 0 ≤ k
  · rw [if_pos h0] at hk
    obtain ⟨v, h1, h2⟩ := hv.get hk
    have hlt := (List.getElem?_eq_some_iff.mp hk).1
    refine wpAny_getItem_list hl.isList h0 (by exact o9_1 hlt hz' hlen) (x := v) (by simpa using h1) (post_here ok h2 h)
  · rw [if_neg h0] at hk
    by_cases h1 : -(ho.items.length : Int) ≤ k
    · rw [if_pos h1] at hk
      obtain ⟨v, h2, h3⟩ := hv.get hk
      refine wpAny_getItem_list_neg hl.isList (by exact o9_2 h0) (by simp only [List.size_toArray]; exact o9_3 h1 hlen) (by exact o9_4 h1 hz' hlen) (x := v) (by simp only [List.size_toArray, List.getElem?_toArray]; rw [hlen]; exact h2) (post_here ok h3 h)
    · rw [if_neg h1] at hk; cases hk

theorem sub_list {v i : Expr} {a : Addr} {ho : HO} {k : Int} {p : PV} {Q : PV → AH → Prop} (hH : H a = some ho) (hk : pyIdx ho.items k = some p) (h : Q p H)
    (hs : ∀ o j, subscripted i false o j = operate [o, j] (getItem o j) := by intros; rfl) : Op2 G A (subscriptTail v i) (.ref a) (.int k) H Q := by
  rintro s _ _ ok rfl ⟨t, rfl⟩
  obtain ⟨⟨vs, n, hl, hv, hz⟩, _⟩ := id (ok.hr a ho hH)
  exact tail_any (T := "list") ⟨_, hl, rfl⟩ slot_list_getitem.lookup (getItem_list_ok ok hH hk h) (hs _ _)

theorem getItem_tup_ok {s : Shared} {xs : List PV} {v : Value} {k : Int} {t : Tok} {p : PV} {Q : PV → AH → Prop} (ok : OkH G H s) (hv : VR s.heap (.tup xs) v) (hz : xs.length ≤ 1000) (hk : pyIdx xs k = some p) (h : Q p H) :
    Ret G A (getItem v (.int k t)) H s Q := by
  obtain ⟨a, vs, n, rfl, hT, hvs⟩ := hv
  have hlen := hvs.length
  unfold pyIdx at hk
  have key : ∃ j u, seqIndex? k (vs.toArray.size) = some j ∧ vs.toArray[j]? = some u ∧ VR s.heap p u ∧ -2 ^ 63 ≤ k ∧ k < 2 ^ 63 := by
    by_cases h0 : 0 ≤ k
    · rw [if_pos h0] at hk
      obtain ⟨u, h1, h2⟩ := hvs.get hk
      have hlt := (List.getElem?_eq_some_iff.mp hk).1
      refine ⟨k.toNat, u, ?_, by simpa using h1, h2, by exact o9_5 h0, by exact o9_6 hlt hz hlen⟩
      unfold seqIndex?
      simp only [List.size_toArray]
      rw [if_neg (by exact o9_7 h0 : ¬ k < 0), if_pos (by simp only [Bool.and_eq_true, decide_eq_true_eq]; exact o9_8 h0 hlt hlen)]
    · rw [if_neg h0] at hk
      by_cases h1 : -(xs.length : Int) ≤ k
      · rw [if_pos h1] at hk
        obtain ⟨u, h2, h3⟩ := hvs.get hk
        refine ⟨(k + xs.length).toNat, u, ?_, by simpa using h2, h3, by exact o9_9 h1 hz hlen, by exact o9_10 h0⟩
        unfold seqIndex?
        simp only [List.size_toArray]
        rw [if_pos (by exact o9_2 h0 : k < 0), hlen, if_pos (by simp only [Bool.and_eq_true, decide_eq_true_eq]; exact o9_11 h1 hlen h0)]
      · rw [if_neg h1] at hk; cases hk
  obtain ⟨j, u, h1, h2, h3, h4, h5⟩ := key
  exact P.getItem_tuple hT h4 h5 h1 h2 (post_here ok h3 h)

theorem sub_tup {v i : Expr} {xs : List PV} {k : Int} {p : PV} {Q : PV → AH → Prop} (hz : xs.length ≤ 1000) (hk : pyIdx xs k = some p) (h : Q p H)
    (hs : ∀ o j, subscripted i false o j = operate [o, j] (getItem o j) := by intros; rfl) : Op2 G A (subscriptTail v i) (.tup xs) (.int k) H Q := by
  rintro s u _ ok hu ⟨t, rfl⟩
  obtain ⟨a, vs, n, rfl, hT, hvs⟩ := id hu
  exact tail_any (T := "tuple") ⟨_, hT, rfl⟩ PySem.F.slot_tuple_getitem.lookup (getItem_tup_ok ok hu hz hk h) (hs _ _)



theorem Ev_CallG {f : Str} {np pos : Pos} {fa : Addr} {fo : Obj} {fd : FuncData} {e : Expr} {es : List Expr} {Q : PV → AH → Prop} (hk : F.env.kindOf f = some .globalImplicit) (hf : G.mg f = some (.ref fa))
    (hfo : G.base.get? fa = some fo) (hfd : fo.data = .func fd)
    (h : EvL G F (e :: es) σ H (fun ps H1 => OpL G F.A (fun vs => call (.ref fa) vs) ps H1 Q)) (he : starEach (e :: es) F.env = (false, eval e F.env) :: starEach es F.env := by rfl) :
    Ev G F (.Call (.Name f np) (e :: es) [] pos) σ H Q := by
  intro s ok lr
  refine wpAny_Call_NameR (wpAny_mono (Ev_Global (Q := fun p H1 => p = .ref fa ∧ H1 = H) hk hf ⟨rfl, rfl⟩ s ok lr) (fun v s1 zz2 => zz2.on fun p H1 hv ok1 k1 zz2_5 => zz2_5.elim fun hp hH => ?_) fun _ _ x => x)
  subst hp; subst hH
  rw [show v = .ref fa from hv]
  refine callWith_def hfd (wpAny_mono (h s1 pos ok1 (lr.kp ok k1)) (fun vs s2 zz2 => zz2.on fun ps H2 hvs ok2 k2 hq => ⟨ok2.keep _ _ hfo, ?_⟩) fun _ _ x => x) he
  exact wpAny_mono (hq s2 vs ok2 hvs) (fun _ _ x => (x.trans k2).trans k1) fun _ _ x => x


theorem Ev_CallB {f : Str} {np pos : Pos} {id : String} {e : Expr} {es : List Expr} {Q : PV → AH → Prop} (hk : F.env.kindOf f = some .globalImplicit) (hf : G.mg f = none) (hb : bootBuiltins f = some (.builtin id)) (hn : f ≠ "__name__")
    (h : EvL G F (e :: es) σ H (fun ps H1 => OpL G F.A (fun vs => call (.builtin id) vs) ps H1 Q)) (he : starEach (e :: es) F.env = (false, eval e F.env) :: starEach es F.env := by rfl)
    (hplain : ∀ pos, (backTo pos (starEach es F.env)).any (·.1) = false := by intro _; rfl) :
    Ev G F (.Call (.Name f np) (e :: es) [] pos) σ H Q := by
  intro s ok lr
  refine wpAny_Call_NameR (wpAny_mono (Ev_Builtin (Q := fun p H1 => p = .val (.builtin id) ∧ H1 = H) hk hf hb hn ⟨rfl, rfl⟩ s ok lr) (fun v s1 zz2 => zz2.on fun p H1 hv ok1 k1 zz2_5 => zz2_5.elim fun hp hH => ?_) fun _ _ x => x)
  subst hp; subst hH
  rw [show v = .builtin id from hv]
  refine PyProof.Rows.callWith_builtin1 (wpAny_mono (h s1 pos ok1 (lr.kp ok k1)) (fun vs s2 zz2 => zz2.on fun ps H2 hvs ok2 k2 hq => ?_) fun _ _ x => x) he (hplain pos)
  exact wpAny_mono (hq s2 vs ok2 hvs) (fun _ _ x => (x.trans k2).trans k1) fun _ _ x => x


theorem Ev_CallT {f : Str} {np pos : Pos} {T : String} {e : Expr} {es : List Expr} {Q : PV → AH → Prop} (hk : F.env.kindOf f = some .globalImplicit) (hf : G.mg f = none) (hb : bootBuiltins f = some (.type T)) (hn : f ≠ "__name__")
    (h : EvL G F (e :: es) σ H (fun ps H1 => OpL G F.A (fun vs => call (.type T) vs) ps H1 Q)) (he : starEach (e :: es) F.env = (false, eval e F.env) :: starEach es F.env := by rfl)
    (hplain : ∀ pos, (backTo pos (starEach es F.env)).any (·.1) = false := by intro _; rfl) :
    Ev G F (.Call (.Name f np) (e :: es) [] pos) σ H Q := by
  intro s ok lr
  refine wpAny_Call_NameR (wpAny_mono (Ev_Builtin (Q := fun p H1 => p = .val (.type T) ∧ H1 = H) hk hf hb hn ⟨rfl, rfl⟩ s ok lr) (fun v s1 zz2 => zz2.on fun p H1 hv ok1 k1 zz2_5 => zz2_5.elim fun hp hH => ?_) fun _ _ x => x)
  subst hp; subst hH
  rw [show v = .type T from hv]
  refine PySem.Pv.callWith_type1 (wpAny_mono (h s1 pos ok1 (lr.kp ok k1)) (fun vs s2 zz2 => zz2.on fun ps H2 hvs ok2 k2 hq => ?_) fun _ _ x => x) he (hplain pos)
  exact wpAny_mono (hq s2 vs ok2 hvs) (fun _ _ x => (x.trans k2).trans k1) fun _ _ x => x


theorem Ev_MethL {o : Expr} {name : Str} {apos pos : Pos} {id : String} {e : Expr} {es : List Expr} {Q : PV → AH → Prop} (slot : Slot "list" name id) (hty : typeOf (.builtin id) = pure (.type "method_descriptor"))
    (h : Ev G F o σ H (fun p H1 => ∃ a ho, p = .ref a ∧ H1 a = some ho ∧ EvL G F (e :: es) σ H1 (fun ps H2 => OpL G F.A (fun vs => call (.builtin id) vs) (.ref a :: ps) H2 Q)))
    (hbase : attributeBase o name F.env (eval o F.env) = eval o F.env := by rfl) (hline : (apos.endLine == pos.line) = true := by rfl)
    (he : starEach (e :: es) F.env = (false, eval e F.env) :: starEach es F.env := by rfl)
    (hfew : ∀ pos, ((backTo pos (starEach (e :: es) F.env)).all (fun x => !x.1) && (backToKw pos (keywordEach [] F.env)).all (fun x => x.1.isSome)
      && decide ((e :: es).length + ([] : List Keyword).length + (if ([] : List Keyword).isEmpty then 0 else 1) < 30)) = true := by intro _; rfl)
    (hplain : ∀ pos, (backTo pos (starEach (e :: es) F.env)).any (·.1) = false := by intro _; rfl) :
    Ev G F (.Call (.Attribute o name apos) (e :: es) [] pos) σ H Q := by
  intro s ok lr
  refine wpAny_Call_method hbase (hfew pos) hline PySem.F.plainAttrs_list slot hty (wpAny_mono (h s ok lr) (fun v s1 zz2 => zz2.on fun p H1 hv ok1 k1 zz2_5 => zz2_5.elim fun a zz2_5 => zz2_5.elim fun ho zz2_5 => zz2_5.elim fun hp zz2_5 => zz2_5.elim fun hH hq => ?_) fun _ _ x => x)
  subst hp
  rw [show v = .ref a from hv]
  refine hide fun WW9 hW9 => ?_
  obtain ⟨⟨vs, n, hl, _⟩, _⟩ := ok1.hr a ho hH
  refine hW9 ?_
  clear hW9 WW9
  refine ⟨⟨_, hl, rfl⟩, fun b hb => ?_, ?_⟩
  · cases hb; exact ⟨_, hl, rfl⟩
  · refine Calls.callWith_builtin (hplain pos) ?_
    have hs := hq s1 pos ok1 (lr.kp ok k1)
    rw [show backTo pos (starEach (e :: es) F.env) = (false, eval e F.env) :: backTo pos (starEach es F.env) from by rw [he]; rfl] at hs ⊢
    refine Calls.evalArgs_plain (wpAny_mono hs (fun vs s2 zz2 => zz2.on fun ps H2 hvs ok2 k2 hq2 => ?_) fun _ _ x => x)
    exact wpAny_mono (hq2 s2 (.ref a :: vs) ok2 ⟨_, _, rfl, rfl, hvs⟩) (fun _ _ x => (x.trans k2).trans k1) fun _ _ x => x

theorem Ev_MethL0 {o : Expr} {name : Str} {apos pos : Pos} {id : String} {Q : PV → AH → Prop} (slot : Slot "list" name id) (hty : typeOf (.builtin id) = pure (.type "method_descriptor"))
    (h : Ev G F o σ H (fun p H1 => ∃ a ho, p = .ref a ∧ H1 a = some ho ∧ OpL G F.A (fun vs => call (.builtin id) vs) [.ref a] H1 Q))
    (hbase : attributeBase o name F.env (eval o F.env) = eval o F.env := by rfl) (hline : (apos.endLine == pos.line) = true := by rfl) :
    Ev G F (.Call (.Attribute o name apos) [] [] pos) σ H Q := by
  intro s ok lr
  refine wpAny_Call_method (args := []) hbase rfl hline PySem.F.plainAttrs_list slot hty (wpAny_mono (h s ok lr) (fun v s1 zz2 => zz2.on fun p H1 hv ok1 k1 zz2_5 => zz2_5.elim fun a zz2_5 => zz2_5.elim fun ho zz2_5 => zz2_5.elim fun hp zz2_5 => zz2_5.elim fun hH hq => ?_) fun _ _ x => x)
  subst hp
  rw [show v = .ref a from hv]
  refine hide fun WW9 hW9 => ?_
  obtain ⟨⟨vs, n, hl, _⟩, _⟩ := ok1.hr a ho hH
  refine hW9 ?_
  clear hW9 WW9
  refine ⟨⟨_, hl, rfl⟩, fun b hb => ?_, ?_⟩
  · cases hb; exact ⟨_, hl, rfl⟩
  · refine Calls.callWith_builtin rfl (PyProof.Rows.evalArgs_none ?_)
    exact wpAny_mono (hq s1 [.ref a] ok1 ⟨_, _, rfl, rfl, rfl⟩) (fun _ _ x => x.trans k1) fun _ _ x => x


theorem Exs_nil {Q : PF → Loc → AH → Prop} (h : Q .next σ H) : Exs G F [] σ H Q := fun s ok lr => wpAny_execs_nil ⟨.next, σ, H, rfl, ok, lr, KpF.refl F.W H s, h⟩
theorem Exs_cons {st : Stmt} {rest : List Stmt} {Q : PF → Loc → AH → Prop} (h : Ex G F st σ H (fun f σ1 H1 => match f with | .next => Exs G F rest σ1 H1 Q | f => Q f σ1 H1)) : Exs G F (st :: rest) σ H Q := by
  intro s ok lr
  refine wpAny_execs_cons (wpAny_mono (h s ok lr) (fun f s1 zz2 => zz2.on fun pf σ1 H1 hf ok1 lr1 k1 hq => ?_) fun _ _ x => x)
  cases pf with
  | next => rw [show f = .next from hf]; exact wpAny_mono (hq s1 ok1 lr1) (fun _ _ x => x.trans k1) fun _ _ x => x
  | brk => rw [show f = .brk from hf]; exact ⟨.brk, σ1, H1, rfl, ok1, lr1, k1, hq⟩
  | cont => rw [show f = .cont from hf]; exact ⟨.cont, σ1, H1, rfl, ok1, lr1, k1, hq⟩
  | ret p => obtain ⟨v, rfl, hv⟩ := id hf; exact ⟨.ret p, σ1, H1, hf, ok1, lr1, k1, hq⟩

theorem Ex_Expr {e : Expr} {pos : Pos} {Q : PF → Loc → AH → Prop} (h : Ev G F e σ H (fun _ H1 => Q .next σ H1)) (hs : swapsWith e none pos.line F.env = pure false := by rfl) :
    Ex G F (.Expr e pos) σ H Q := fun s ok lr =>
  wpAny_Expr_any (wpAny_mono (h s ok lr) (fun v s1 zz2 => by obtain ⟨p, H1, hv, ok1, k1, hq⟩ := zz2; exact ⟨.next, σ, H1, rfl, ok1, lr.kp ok k1, k1.toF, hq⟩) fun _ _ x => x) (by unfold interactive; rw [lr.fn]; rfl) hs
theorem Ex_Break {pos : Pos} {Q : PF → Loc → AH → Prop} (h : Q .brk σ H) : Ex G F (.Break pos) σ H Q := fun s ok lr => wpAny_Break ⟨.brk, σ, H, rfl, ok, lr, KpF.refl F.W H s, h⟩
theorem Ex_Continue {pos : Pos} {Q : PF → Loc → AH → Prop} (h : Q .cont σ H) : Ex G F (.Continue pos) σ H Q := fun s ok lr => wpAny_Continue ⟨.cont, σ, H, rfl, ok, lr, KpF.refl F.W H s, h⟩
theorem Ex_Return {e : Expr} {pos : Pos} {Q : PF → Loc → AH → Prop} (h : Ev G F e σ H (fun p H1 => Q (.ret p) σ H1)) : Ex G F (.Return (some e) pos) σ H Q := fun s ok lr =>
  wpAny_Return_some (wpAny_mono (h s ok lr) (fun v s1 zz2 => by obtain ⟨p, H1, hv, ok1, k1, hq⟩ := zz2; exact ⟨.ret p, σ, H1, ⟨v, rfl, hv⟩, ok1, lr.kp ok k1, k1.toF, hq⟩) fun _ _ x => x)
theorem Ex_If {t : Expr} {b o : List Stmt} {pos : Pos} {Q : PF → Loc → AH → Prop} (h : EvB G F t σ H (fun c H1 => if c then Exs G F b σ H1 Q else Exs G F o σ H1 Q)) : Ex G F (.If t b o pos) σ H Q := by
  intro s ok lr
  refine wpAny_If (wpAny_mono (h s ok lr) (fun c s1 zz2 => zz2.on fun H1 ok1 k1 hq => ?_) fun _ _ x => x)
  cases c with
  | true => exact wpAny_mono (hq s1 ok1 (lr.kp ok k1)) (fun _ _ x => x.trans k1.toF) fun _ _ x => x
  | false => exact wpAny_mono (hq s1 ok1 (lr.kp ok k1)) (fun _ _ x => x.trans k1.toF) fun _ _ x => x

theorem Ex_Assign {x : Str} {npos pos : Pos} {e : Expr} {Q : PF → Loc → AH → Prop} (hk : Sto F x)
    (h : Ev G F e σ H (fun p H1 => Q .next (σ.set x p) H1)) (hs : swapsWith e (some (.Name x npos)) pos.line F.env = pure false := by rfl) : Ex G F (.Assign [.Name x npos] e pos) σ H Q := by
  intro s ok lr
  refine wpAny_Assign_Name (wpAny_mono (h s ok lr) (fun v s1 zz2 => zz2.on fun p H1 hv ok1 k1 hq => ?_) fun _ _ x => x) hs
  refine wpAny_mono (storeName_ok (Q := fun σ' H' => Q .next σ' H') hk ok1 (lr.kp ok k1) hv hq) (fun _ s2 zz2 => zz2.on fun σ' H2 ok2 lr2 k2 hq2 => ?_) fun _ _ x => x
  exact ⟨.next, σ', H2, rfl, ok2, lr2, k1.toF.trans k2, hq2⟩

theorem Ex_AssignSub {o i : Expr} {spos pos : Pos} {e : Expr} {Q : PF → Loc → AH → Prop}
    (h : Ev G F e σ H (fun p H1 => Ev G F o σ H1 (fun q H2 => Ev G F i σ H2 (fun r H3 => OpS G F.A setItem q r p H3 (fun H4 => Q .next σ H4)))))
    (hs : swapsWith e (some (.Subscript o i spos)) pos.line F.env = pure false := by rfl) : Ex G F (.Assign [.Subscript o i spos] e pos) σ H Q := by
  intro s ok lr
  refine wpAny_Assign_Subscript (wpAny_mono (h s ok lr) (fun v s1 zz2 => zz2.on fun p H1 hv ok1 k1 hq => wpAny_mono (hq s1 ok1 (lr.kp ok k1)) (fun u s2 ⟨q, H2, hu, ok2, k2, hq2⟩ =>
    wpAny_mono (hq2 s2 ok2 ((lr.kp ok k1).kp ok1 k2)) (fun w s3 zz2 => zz2.on fun r H3 hw ok3 k3 hq3 => ?_) fun _ _ x => x) fun _ _ x => x) fun _ _ x => x) hs
  refine wpAny_mono (hq3 s3 u w v ok3 (k3.vr ok2 hu) hw (k3.vr ok2 (k2.vr ok1 hv))) (fun _ s4 zz2 => zz2.on fun H4 ok4 k4 hq4 => ?_) fun _ _ x => x
  have k := ((k1.trans k2).trans k3).trans k4
  exact ⟨.next, σ, H4, rfl, ok4, lr.kp ok k, k.toF, hq4⟩

theorem Ex_AugName {x : Str} {npos pos : Pos} {op : Operator} {e : Expr} {p : PV} {Q : PF → Loc → AH → Prop} (hk : Sto F x) (hx : σ x = some p)
    (h : Ev G F e σ H (fun q H1 => Op2 G F.A (inplaceOp op) p q H1 (fun r H2 => Q .next (σ.set x r) H2))) : Ex G F (.AugAssign (.Name x npos) op e pos) σ H Q := by
  intro s ok lr
  refine wpAny_AugAssign_Name ?_
  have hld : wpAny (model G.prog G.w) F.A (loadName F.env x) (fun v s1 => s1 = s ∧ VR s.heap p v) NoE s := by
    refine hide fun WW9 hW9 => ?_
    obtain ⟨hfr, hodd, hwl, hf, hnk, hg, hbl, ⟨m, hn, hm⟩, hki, hce, ha⟩ := id lr
    refine hW9 ?_
    clear hW9 WW9
    rcases hk with hk | ⟨hk, hkw⟩
    · refine hide fun WW9 hW9 => ?_
      obtain ⟨v, h1, h2⟩ := hm x p hx hk
      refine hW9 ?_
      clear hW9 WW9
      exact wpAny_loadName_local hf hk hn h1 ⟨rfl, h2⟩
    · refine hide fun WW9 hW9 => ?_
      obtain ⟨c, v₀, h1, h2, h3⟩ := hce x (.inl hk)
      refine hW9 ?_
      clear hW9 WW9
      refine hide fun WW9 hW9 => ?_
      obtain ⟨v, eq9_0, hv⟩ := h3 p hx
      refine hW9 ?_
      clear hW9 WW9
      subst eq9_0
      exact wpAny_loadName_cell hf hk h1 h2 ⟨rfl, hv⟩
  refine wpAny_mono hld (fun v s1 zz2 => zz2.elim fun e1 hv => ?_) fun _ _ x => x
  subst e1
  refine wpAny_mono (h _ ok lr) (fun u s1 zz2 => zz2.on fun q H1 hu ok1 k1 hq => ?_) fun _ _ x => x
  refine wpAny_mono (hq s1 v u ok1 (k1.vr ok hv) hu) (fun w s2 zz2 => zz2.on fun r H2 hw ok2 k2 hq2 => ?_) fun _ _ x => x
  refine wpAny_mono (storeName_ok (Q := fun σ' H' => Q .next σ' H') hk ok2 ((lr.kp ok k1).kp ok1 k2) hw hq2) (fun _ s3 zz2 => zz2.on fun σ' H3 ok3 lr3 k3 hq3 => ?_) fun _ _ x => x
  exact ⟨.next, σ', H3, rfl, ok3, lr3, (k1.trans k2).toF.trans k3, hq3⟩
end
end Mine
open PySem PySem.W PyProof.Rows
set_option Elab.async false
set_option maxRecDepth 100000
namespace Mine
section
variable {G : Cx} {A : Around} {F : Fx} {σ : Loc} {H : AH}


theorem Ex_While {t : Expr} {b : List Stmt} {pos : Pos} {Q : PF → Loc → AH → Prop} (I : Nat → Loc → AH → Prop) (n : Nat) (h0 : I n σ H)
    (hI : ∀ n σ' H', I n σ' H' → EvB G F t σ' H' (fun c H1 => if c then Exs G F b σ' H1 (fun f σ2 H2 => match f with
      | .next | .cont => ∃ m, m < n ∧ I m σ2 H2
      | .brk => Q .next σ2 H2
      | .ret p => Q (.ret p) σ2 H2) else Q .next σ' H1)) : Ex G F (.While t b [] pos) σ H Q := by
  intro s ok lr
  refine wpAny_While (codeAny_whileLoop (fun n s' => ∃ σ' H', I n σ' H' ∧ OkH G H' s' ∧ LR G F σ' s'.heap ∧ KpF F.W H s H' s') ?_ n ⟨σ, H, h0, ok, lr, KpF.refl _ _ _⟩)
  intro n s1 zq9
  refine hide fun WW9 hW9 => ?_
  obtain ⟨σ1, H1, hi, ok1, lr1, k1⟩ := zq9
  refine hW9 ?_
  clear hW9 WW9
  refine wpAny_noE (wpAny_mono (hI n σ1 H1 hi s1 ok1 lr1) (fun c s2 zz2 => zz2.on fun H2 ok2 k2 hq => ?_) fun _ _ x => x)
  have lr2 := lr1.kp ok1 k2
  have k12 := k1.trans k2.toF
  cases c with
  | false =>
    simp only [Bool.false_eq_true, if_false] at hq ⊢
    exact wpAny_execs_nil ⟨.next, σ1, H2, rfl, ok2, lr2, k12, hq⟩
  | true =>
    simp only [if_true] at hq ⊢
    refine wpAny_noE (wpAny_mono (hq s2 ok2 lr2) (fun f s3 zz2 => zz2.on fun pf σ3 H3 hf ok3 lr3 k3 hq3 => ?_) fun _ _ x => x)
    cases pf with
    | next => rw [show f = .next from hf]; obtain ⟨m, hm, hi'⟩ := hq3; exact ⟨m, hm, σ3, H3, hi', ok3, lr3, k12.trans k3⟩
    | cont => rw [show f = .cont from hf]; obtain ⟨m, hm, hi'⟩ := hq3; exact ⟨m, hm, σ3, H3, hi', ok3, lr3, k12.trans k3⟩
    | brk => rw [show f = .brk from hf]; exact ⟨.next, σ3, H3, rfl, ok3, lr3, k12.trans k3, hq3⟩
    | ret p => obtain ⟨v, rfl, hv⟩ := id hf; exact ⟨.ret p, σ3, H3, hf, ok3, lr3, k12.trans k3, hq3⟩



noncomputable def Odd (o : Obj) : Prop := ¬ Fix o ∧ ¬ IsLst o ∧ ¬ Soft o ∧ ¬ Low o
structure Src (G : Cx) (A : Around) (target : Expr) (H : AH) (h : Heap) (I : Addr) (xs : List PV) (fp wr : List Addr) (P Md : Nat → Value → Heap → Prop) (St : Nat → Heap → Prop) : Prop where
  K : KTurns G.prog G.w A target I fp wr xs.length P Md St
  st : St 0 h
  odd : ∀ i h, St i h → ∀ b ∈ wr, ∃ o, h.get? b = some o ∧ Odd o
  oddM : ∀ i v h, Md i v h → ∀ b ∈ wr, ∃ o, h.get? b = some o ∧ Odd o
  base : ∀ b ∈ wr, G.base.get? b = none
  self : ∀ (s : Shared) (Q : Value → Shared → Prop) (E : Value → Shared → Prop), St 0 s.heap → Q (.ref I) s → wpAny (model G.prog G.w) A (pyIter (.ref I)) Q E s
  src : ∀ b ∈ fp, b ∈ wr ∨ ∃ o, h.get? b = some o ∧ ¬ Mut H b ∧ ¬ Soft o
  val : ∀ i v h', (∀ b o, Fix o → h.get? b = some o → h'.get? b = some o) → i < xs.length → P i v h' → ∃ x, xs[i]? = some x ∧ VR h' x v


theorem odd_step {s : Shared} {wr : List Addr} {h' : Heap} {tk : Nat} (ok : OkH G H s) (lr : LR G F σ s.heap) (hb : ∀ b ∈ wr, G.base.get? b = none) (hw : ∀ b ∈ wr, ∃ o, s.heap.get? b = some o ∧ Odd o) (hk : ∀ b o, b ∉ wr → s.heap.get? b = some o → h'.get? b = some o) :
    OkH G H { s with heap := h', toks := tk } ∧ LR G F σ h' := by
  have k : ∀ b o, s.heap.get? b = some o → Fix o ∨ IsLst o ∨ DC o → h'.get? b = some o := fun b o e hd => hk b o (fun hm => by
    obtain ⟨o', ho', hod⟩ := hw b hm; rw [ho'] at e; cases e
    rcases hd with h | h | h
    · exact hod.1 h
    · exact hod.2.1 h
    · exact hod.2.2.1 (.inl h)) e
  exact ⟨⟨fun b o e => hk b o (fun hm => by rw [hb b hm] at e; cases e) (ok.keep b o e), ok.hr.other fun b o e hd => k b o e (hd.elim .inl fun h => .inr (.inl h)), ok.gens, ok.dat.dc fun b o hd _ e => k b o e (.inr (.inr hd)), ok.tab.keep fun b o hl e => hk b o (fun hm => by obtain ⟨o', ho', hod⟩ := hw b hm; rw [ho'] at e; cases e; exact hod.2.2.2 hl) e⟩,
    lr.at (fun b o hd e => ⟨o, k b o e (.inr (.inr hd)), rfl⟩) fun p v hv => VR.mono (fun b o hf e => k b o e (.inl hf)) p v hv⟩


structure KpI (W : Addr → Prop) (wr : List Addr) (H : AH) (s : Shared) (H' : AH) (s' : Shared) : Prop where
  os : s'.os = s.os
  kept : ∀ b o, s.heap.get? b = some o → ¬ Mut H b → ¬ W b → b ∉ wr → Near s'.heap b o
  dom : ∀ b o, H' b = some o → s.heap.get? b = none ∨ b ∈ wr ∨ ∃ o', H b = some o' ∧ (o.isL = true → o'.isL = true)
  live : ∀ b o, s.heap.get? b = some o → ¬ Mut H b → W b → b ∉ wr → ∃ o', s'.heap.get? b = some o'
theorem KpI.nm {W : Addr → Prop} {wr : List Addr} {H H' : AH} {s s' : Shared} (x : KpI W wr H s H' s') {b : Addr} {o : Obj} (e : s.heap.get? b = some o) (hm : ¬ Mut H b) (hw : b ∉ wr) : ¬ Mut H' b := fun zz0 => zz0.elim fun xs hx => by
  rcases x.dom b _ hx with h | h | ⟨o', h1, h2⟩
  · rw [h] at e; cases e
  · exact hw h
  · cases o' with
    | lst ys => exact hm ⟨ys, h1⟩
    | fro ys => exact absurd (h2 rfl) (by simp [HO.isL])
theorem KpI.back {W : Addr → Prop} {wr : List Addr} {H H' : AH} {s s' : Shared} (x : KpI W wr H s H' s') {b : Addr} (hm : ¬ Mut H b) (h : s'.heap.get? b = .none) : s.heap.get? b = .none ∨ b ∈ wr := by
  cases e : s.heap.get? b with
  | none => exact .inl rfl
  | some o =>
    by_cases hw : b ∈ wr
    · exact .inr hw
    · by_cases hno : W b
      · obtain ⟨o', ho'⟩ := x.live b o e hm hno hw; rw [ho'] at h; cases h
      · exact ((x.kept b o e hm hno hw).ne h).elim
theorem KpI.trans {W : Addr → Prop} {wr : List Addr} {H H' H'' : AH} {s s' s'' : Shared} (x : KpI W wr H s H' s') (y : KpI W wr H' s' H'' s'') : KpI W wr H s H'' s'' := by
  refine ⟨y.os.trans x.os, fun b o e hm hno hw => (x.kept b o e hm hno hw).step fun o' e' => y.kept b o' e' (x.nm e hm hw) hno hw, fun b o e => ?_, fun b o e hm ho hw => ?_⟩
  · rcases y.dom b o e with h | h | ⟨o', h1, h2⟩
    · cases hb : H b with
      | none => exact (x.back (not_mut_none hb) h).imp id .inl
      | some o' =>
        cases o' with
        | lst ys => exact .inr (.inr ⟨_, rfl, fun _ => rfl⟩)
        | fro ys => exact (x.back (not_mut_fro hb) h).imp id .inl
    · exact .inr (.inl h)
    · rcases x.dom b o' h1 with h3 | h3 | ⟨o'', h3, h4⟩
      · exact .inl h3
      · exact .inr (.inl h3)
      · exact .inr (.inr ⟨o'', h3, fun h => h4 (h2 h)⟩)
  · obtain ⟨o', ho'⟩ := x.live b o e hm ho hw
    exact y.live b o' ho' (x.nm e hm hw) ho hw
theorem KpF.toI {W : Addr → Prop} {wr : List Addr} {H H' : AH} {s s' : Shared} (x : KpF W H s H' s') : KpI W wr H s H' s' :=
  ⟨x.os, fun b o e hm hw _ => x.kept b o e hm hw, fun b o hb => (x.dom b o hb).imp id .inr, fun b o e hm hw _ => x.live b o e hm hw⟩
theorem odd_kpI {W : Addr → Prop} {s : Shared} {wr : List Addr} {h' : Heap} {tk : Nat} (hk : ∀ b o, b ∉ wr → s.heap.get? b = some o → h'.get? b = some o) :
    KpI W wr H s H { s with heap := h', toks := tk } :=
  ⟨rfl, fun b o e _ _ hb => .of (hk b o hb e), fun b o h => .inr (.inr ⟨o, h, id⟩), fun b o e _ _ hb => ⟨o, hk b o hb e⟩⟩

theorem KpI.after {W : Addr → Prop} {wr : List Addr} {H H' : AH} {s0 s s' : Shared} (k : Kp H s0 H s) (x : KpI W wr H s H' s') (hw : ∀ b ∈ wr, s0.heap.get? b = none) : KpF W H s0 H' s' := by
  have nw : ∀ b o, s0.heap.get? b = some o → b ∉ wr := fun b o e hb => by rw [hw b hb] at e; cases e
  refine ⟨x.os.trans k.os, fun b o e hm hno => (k.kept b o e hm).step fun o' e' => x.kept b o' e' hm hno (nw b o e), fun b o hb => ?_, fun b o e hm hno => by
    obtain ⟨o', e', _⟩ := k.kept b o e hm; exact x.live b o' e' hm hno (nw b o e)⟩
  rcases x.dom b o hb with h | h | h
  · cases hb : H b with
    | none => exact .inl (k.back (not_mut_none hb) h)
    | some o' =>
      cases o' with
      | lst ys => exact .inr ⟨_, rfl, fun _ => rfl⟩
      | fro ys => exact .inl (k.back (not_mut_fro hb) h)
  · exact .inl (hw b h)
  · exact .inr h

inductive ForI (G : Cx) (F : Fx) (n : Nat) (fp wr : List Addr) (St : Nat → Heap → Prop) (inv : Nat → Loc → AH → Prop) (H : AH) (s : Shared) (k : Nat) (s' : Shared) : Prop where
  | mk (i : Nat) (σ' : Loc) (H' : AH) (e : k = n + 1 - i) (hi : i ≤ n) (hinv : inv i σ' H') (ok : OkH G H' s') (lr : LR G F σ' s'.heap) (kp : KpI F.W wr H s H' s') (st : St i s'.heap)
      (src : ∀ b ∈ fp, b ∈ wr ∨ ∃ o, s.heap.get? b = some o ∧ s'.heap.get? b = some o ∧ ¬ Mut H' b ∧ ¬ Soft o) (fx : ∀ b o, Fix o → s.heap.get? b = some o → s'.heap.get? b = some o) : ForI G F n fp wr St inv H s k s'
theorem for_src {target : Expr} {body : List Stmt} {I : Addr} {xs : List PV} {fp wr : List Addr} {P Md : Nat → Value → Heap → Prop} {St : Nat → Heap → Prop} {s : Shared} {Q : PF → Loc → AH → Prop} {E : Value → Shared → Prop}
    (S : Src G F.A target H s.heap I xs fp wr P Md St) (ok : OkH G H s) (lr : LR G F σ s.heap) (inv : Nat → Loc → AH → Prop) (h0 : inv 0 σ H)
    (step : ∀ i x σ' H', xs[i]? = some x → inv i σ' H' → As G F target x σ' H' (fun σ2 H2 => Exs G F body σ2 H2 (fun f σ3 H3 => match f with
      | .next | .cont => inv (i + 1) σ3 H3
      | .brk => Q .next σ3 H3
      | .ret p => Q (.ret p) σ3 H3)))
    (fin : ∀ σ' H', inv xs.length σ' H' → Q .next σ' H') :
    codeAny (model G.prog G.w) F.A (.forLoop target (.ref I) body [] F.env) (fun r s' => match r with
      | .ok f => ∃ pf σ' H', FR s'.heap pf f ∧ OkH G H' s' ∧ LR G F σ' s'.heap ∧ KpI F.W wr H s H' s' ∧ Q pf σ' H'
      | .error e => E e s') s := by
  have notW : ∀ (σ' : Loc) (h : Heap) b, LR G F σ' h → (∃ o, h.get? b = some o ∧ ¬ DC o) → ¬ F.W b := fun σ' h b lr' zz4 hw => zz4.elim fun o zz4 => zz4.elim fun ho hd => by
    obtain ⟨o', ho', hd'⟩ := lr'.odd b hw; rw [ho'] at ho; cases ho; exact hd hd'
  refine codeAny_forLoop_any (ForI G F xs.length fp wr St inv H s) ?_ (xs.length + 1)
    ⟨0, σ, H, rfl, Nat.zero_le _, h0, ok, lr, (KpF.refl _ _ _).toI, S.st, fun b hb => (S.src b hb).imp id fun zz0 => by obtain ⟨o, h1, h2, h3⟩ := zz0; exact ⟨o, h1, h1, h2, h3⟩, fun _ _ _ e => e⟩
  intro k s1 zq9
  refine hide fun WW9 hW9 => ?_
  obtain ⟨i, σ1, H1, eq9_0, hi, hinv, ok1, lr1, k1, hst, hsrc, hfix⟩ := zq9
  refine hW9 ?_
  clear hW9 WW9
  subst eq9_0
  have oddM : ∀ b ∈ wr, ¬ Mut H1 b := fun b hb hm => by
    refine hide fun WW9 hW9 => ?_
    obtain ⟨o, ho, hod⟩ := S.odd i _ hst b hb
    refine hW9 ?_
    clear hW9 WW9
    obtain ⟨xs, hx⟩ := hm
    refine hide fun WW9 hW9 => ?_
    obtain ⟨⟨vs, n, hl, _⟩, _⟩ := ok1.hr b _ hx
    refine hW9 ?_
    clear hW9 WW9
    rw [hl] at ho; cases ho; exact hod.2.1 (isLst_mk _ _)
  have fixk : ∀ (h h' : Heap), (∀ b ∈ wr, ∃ o, h.get? b = some o ∧ Odd o) → (∀ b o, b ∉ wr → h.get? b = some o → h'.get? b = some o) → ∀ b o, Fix o → h.get? b = some o → h'.get? b = some o := fun h h' hw hk b o hf e =>
    hk b o (fun hm => by obtain ⟨o', ho', hod⟩ := hw b hm; rw [ho'] at e; cases e; exact hod.1 hf) e
  by_cases hlt : i < xs.length
  · refine wpAny_noE (S.K.item i s1 _ _ hlt hst fun v h2 tk2 hmd hk2 => ?_)
    obtain ⟨ok2, lr2⟩ := odd_step (tk := tk2) ok1 lr1 S.base (S.odd i _ hst) hk2
    have hw2 := S.oddM i v h2 hmd
    refine S.K.go i v _ _ _ hmd fun h3 hP hst3 hk3 => ?_
    obtain ⟨ok3, lr3⟩ := odd_step (s := { s1 with heap := h2, toks := tk2 }) (tk := tk2) ok2 lr2 S.base hw2 hk3
    have k3 : KpI F.W wr H s H1 { s1 with heap := h3, toks := tk2 } := (k1.trans (odd_kpI (tk := tk2) hk2)).trans (odd_kpI (s := { s1 with heap := h2, toks := tk2 }) (tk := tk2) hk3)
    have hfix3 : ∀ b o, Fix o → s.heap.get? b = some o → h3.get? b = some o := fun b o hf e => fixk _ _ hw2 hk3 b o hf (fixk _ _ (S.odd i _ hst) hk2 b o hf (hfix b o hf e))
    refine hide fun WW9 hW9 => ?_
    obtain ⟨x, hx, hv⟩ := S.val i v h3 hfix3 hlt hP
    refine hW9 ?_
    clear hW9 WW9
    have hsrc3 : ∀ b ∈ fp, b ∈ wr ∨ ∃ o, s.heap.get? b = some o ∧ h3.get? b = some o ∧ ¬ Mut H1 b ∧ ¬ Soft o := fun b hb => by
      by_cases hbw : b ∈ wr
      · exact .inl hbw
      · rcases hsrc b hb with h | ⟨o, h1, h2, h3, h4⟩
        · exact .inl h
        · exact .inr ⟨o, h1, hk3 b o hbw (hk2 b o hbw h2), h3, h4⟩
    refine wpAny_noE (wpAny_mono (step i x σ1 H1 hx hinv _ v ok3 lr3 hv) (fun _ s4 zz2 => zz2.on fun σ4 H4 ok4 lr4 k4 hex => ?_) fun _ _ x => x)
    refine wpAny_noE (wpAny_mono (hex s4 ok4 lr4) (fun f s5 zz2 => zz2.on fun pf σ5 H5 hf ok5 lr5 k5 hq5 => ?_) fun _ _ x => x)
    have k45 := k4.trans k5
    have kall := k3.trans k45.toI
    have keep5 : ∀ b o, h3.get? b = some o → ¬ Mut H1 b → ¬ Soft o → s5.heap.get? b = some o := fun b o e hm hd => (k45.kept b o e hm (notW σ1 h3 b lr3 ⟨o, e, fun h => hd (.inl h)⟩)).hard hd
    have st5 : St (i + 1) s5.heap := S.K.frame _ _ _ hst3 fun b hb o e => by
      rcases hsrc3 b hb with h | ⟨o', h1, h2, h3, h4⟩
      · refine hide fun WW9 hW9 => ?_
        obtain ⟨o', ho', hod⟩ := S.odd _ _ hst3 b h
        refine hW9 ?_
        clear hW9 WW9
        rw [ho'] at e; cases e
        exact keep5 b _ ho' (oddM b h) hod.2.2.1
      · rw [h2] at e; cases e; exact keep5 b _ h2 h3 h4
    have src5 : ∀ b ∈ fp, b ∈ wr ∨ ∃ o, s.heap.get? b = some o ∧ s5.heap.get? b = some o ∧ ¬ Mut H5 b ∧ ¬ Soft o := fun b hb => by
      rcases hsrc3 b hb with h | ⟨o', h1, h2, h3, h4⟩
      · exact .inl h
      · exact .inr ⟨o', h1, keep5 b _ h2 h3 h4, k45.nm (s := { s1 with heap := _, toks := tk2 }) h2 h3, h4⟩
    have fix5 : ∀ b o, Fix o → s.heap.get? b = some o → s5.heap.get? b = some o := fun b o hf e =>
      keep5 b o (hfix3 b o hf e) (isL_not_mut ok3.hr (hfix3 b o hf e) (fix_not_lst hf)) (fix_not_soft hf)
    cases pf with
    | next => rw [show f = .next from hf]; exact ⟨xs.length + 1 - (i + 1), by exact o9_12 hlt, i + 1, σ5, H5, rfl, hlt, hq5, ok5, lr5, kall, st5, src5, fix5⟩
    | cont => rw [show f = .cont from hf]; exact ⟨xs.length + 1 - (i + 1), by exact o9_12 hlt, i + 1, σ5, H5, rfl, hlt, hq5, ok5, lr5, kall, st5, src5, fix5⟩
    | brk => rw [show f = .brk from hf]; exact ⟨.next, σ5, H5, rfl, ok5, lr5, kall, hq5⟩
    | ret p => obtain ⟨v, rfl, hv⟩ := id hf; exact ⟨.ret p, σ5, H5, hf, ok5, lr5, kall, hq5⟩
  · have hin : i = xs.length := by exact o9_13 hi hlt
    subst hin
    refine wpAny_noE (S.K.done s1 _ _ hst fun h2 tk2 hk2 => ?_)
    obtain ⟨ok2, lr2⟩ := odd_step (tk := tk2) ok1 lr1 S.base (S.odd _ _ hst) hk2
    exact wpAny_execs_nil ⟨.next, σ1, H1, rfl, ok2, lr2, k1.trans (odd_kpI (tk := tk2) hk2), fin σ1 H1 hinv⟩


inductive PostI (G : Cx) (A : Around) (target : Expr) (H : AH) (s : Shared) (xs : List PV) (it : Value) (s' : Shared) : Prop where
  | mk (I : Addr) (fp wr : List Addr) (P Md : Nat → Value → Heap → Prop) (St : Nat → Heap → Prop) (e : it = .ref I) (ok : OkH G H s') (k : Kp H s H s') (hw : ∀ b ∈ wr, s.heap.get? b = none) (S : Src G A target H s'.heap I xs fp wr P Md St) : PostI G A target H s xs it s'
theorem PostI.on {G : Cx} {A : Around} {target : Expr} {H : AH} {s : Shared} {xs : List PV} {it : Value} {s' : Shared} {W : Prop} (x : PostI G A target H s xs it s') (f : ∀ (I : Addr) (fp wr : List Addr) (P Md : Nat → Value → Heap → Prop) (St : Nat → Heap → Prop), it = .ref I → OkH G H s' → Kp H s H s' → (∀ b ∈ wr, s.heap.get? b = none) → Src G A target H s'.heap I xs fp wr P Md St → W) : W := by cases x with | mk I fp wr P Md St h1 h2 h3 h4 h5 => exact f I fp wr P Md St h1 h2 h3 h4 h5

noncomputable def Iter (G : Cx) (A : Around) (target : Expr) (p : PV) (H : AH) (xs : List PV) : Prop :=
  ∀ s v, OkH G H s → VR s.heap p v → wpAny (model G.prog G.w) A (pyIter v) (PostI G A target H s xs) NoE s

theorem Ex_For {target iter : Expr} {body : List Stmt} {pos : Pos} {Q : PF → Loc → AH → Prop}
    (h : Ev G F iter σ H (fun p H1 => ∃ (xs : List PV) (inv : Nat → Loc → AH → Prop), Iter G F.A target p H1 xs ∧ inv 0 σ H1 ∧
      (∀ i x σ' H', xs[i]? = some x → inv i σ' H' → As G F target x σ' H' (fun σ2 H2 => Exs G F body σ2 H2 (fun f σ3 H3 => match f with
        | .next | .cont => inv (i + 1) σ3 H3
        | .brk => Q .next σ3 H3
        | .ret p => Q (.ret p) σ3 H3))) ∧
      (∀ σ' H', inv xs.length σ' H' → Q .next σ' H')))
    (hs : ∀ x, foldedSetIterable iter F.env x = pure x := by intro _; rfl) : Ex G F (.For target iter body [] pos) σ H Q := by
  intro s ok lr
  refine wpAny_For (wpAny_mono (h s ok lr) (fun v s1 zz2 => zz2.on fun p H1 hv ok1 k1 zz2_5 => zz2_5.elim fun xs zz2_5 => zz2_5.elim fun inv zz2_5 => zz2_5.elim fun hit zz2_5 => zz2_5.elim fun h0 zz2_5 => zz2_5.elim fun hstep hfin => ?_) fun _ _ x => x) hs
  refine wpAny_mono (hit s1 v ok1 hv) (fun it s2 zz2 => zz2.on fun I fp wr P Md St e ok2 k2 hw S => ?_) fun _ _ x => x
  subst e
  refine codeAny_mono (for_src (E := fun e s' => cameBackBy (model G.prog G.w) F.A F.env NoE e s') S ok2 ((lr.kp ok k1).kp ok1 k2) inv h0 hstep hfin) fun r s' hr => ?_
  cases r with
  | error e => exact hr
  | ok f =>
    refine hide fun WW9 hW9 => ?_
    obtain ⟨pf, σ', H', hf, ok', lr', k', hq⟩ := hr
    refine hW9 ?_
    clear hW9 WW9
    exact ⟨pf, σ', H', hf, ok', lr', k1.toF.trans (KpI.after k2 k' hw), hq⟩


noncomputable def AH.frz (H : AH) (a : Addr) : AH := fun b => if b = a then (H a).map (fun o => .fro o.items) else H b
theorem frz_ok {s : Shared} {a : Addr} {ho : HO} (ok : OkH G H s) (hH : H a = some ho) : OkH G (H.set a (.fro ho.items)) s :=
  ⟨ok.keep, fun b o e => by
    unfold AH.set at e
    by_cases hb : b = a
    · rw [if_pos hb] at e; cases e; subst hb
      exact ⟨(ok.hr _ _ hH).1, fun xs e => by cases e⟩
    · rw [if_neg hb] at e; exact ok.hr b o e, ok.gens, ok.dat, ok.tab⟩
theorem frz_mut {a b : Addr} {xs : List PV} : Mut (H.set a (.fro xs)) b ↔ b ≠ a ∧ Mut H b := by
  unfold Mut AH.set
  by_cases hb : b = a
  · simp [hb]
  · simp [hb]
theorem thaw_ok {H' : AH} {s s' : Shared} {a : Addr} {ho : HO} (ok : OkH G H s) (hH : H a = some ho) (ok' : OkH G H' s') (hk : ∀ o, s.heap.get? a = some o → s'.heap.get? a = some o) (hv : ∀ ps vs, VRs s.heap ps vs → VRs s'.heap ps vs) :
    OkH G (H'.set a ho) s' := ⟨ok'.keep, fun b o e => by
    unfold AH.set at e
    by_cases hb : b = a
    · rw [if_pos hb] at e; cases e; subst hb
      obtain ⟨⟨vs, n, hl, hvs, hz⟩, hbase⟩ := ok.hr _ _ hH
      exact ⟨⟨vs, n, hk _ hl, hv _ _ hvs, hz⟩, hbase⟩
    · rw [if_neg hb] at e; exact ok'.hr b o e, ok'.gens, ok'.dat, ok'.tab⟩
theorem lst_not_dc {s : Shared} {a : Addr} {ho : HO} (ok : OkH G H s) (hH : H a = some ho) : ∃ o, s.heap.get? a = some o ∧ ¬ Soft o := by
  obtain ⟨⟨vs, n, hl, _⟩, _⟩ := ok.hr _ _ hH
  exact ⟨_, hl, fun hd => hd.not_solid (.inr (isLst_mk _ _))⟩
theorem KpF.thaw {H' : AH} {s s' : Shared} {a : Addr} {ho : HO} (ok : OkH G H s) (lr : LR G F σ s.heap) (hH : H a = some ho) (k : KpF F.W (H.set a (.fro ho.items)) s H' s') : KpF F.W H s (H'.set a ho) s' ∧ ∀ o, s.heap.get? a = some o → s'.heap.get? a = some o := by
  refine ⟨⟨k.os, fun b o e hm hw => k.kept b o e (fun h => hm (frz_mut.mp h).2) hw, fun b o hb => ?_, fun b o e hm hw => k.live b o e (fun h => hm (frz_mut.mp h).2) hw⟩, fun o e => k.odd_kept lr e (fun h => (frz_mut.mp h).1 rfl) ?_⟩
  · unfold AH.set at hb
    by_cases hba : b = a
    · rw [if_pos hba] at hb; cases hb; subst hba
      exact .inr ⟨_, hH, id⟩
    · rw [if_neg hba] at hb
      rcases k.dom b o hb with h | ⟨o', h1, h2⟩
      · exact .inl h
      · unfold AH.set at h1; rw [if_neg hba] at h1; exact .inr ⟨o', h1, h2⟩
  · obtain ⟨o', ho', hd⟩ := lst_not_dc ok hH
    rw [ho'] at e; cases e; exact hd
theorem PostF.thaw {s s' : Shared} {a : Addr} {ho : HO} {Q : PF → Loc → AH → Prop} {f : Flow} (ok : OkH G H s) (lr : LR G F σ s.heap) (hH : H a = some ho)
    (x : PostF G F (H.set a (.fro ho.items)) s (fun f σ' H' => Q f σ' (H'.set a ho)) f s') : PostF G F H s Q f s' := by
  obtain ⟨pf, σ', H', hf, ok', lr', k', hq⟩ := x
  obtain ⟨k2, ka⟩ := k'.thaw ok lr hH
  exact ⟨pf, σ', _, hf, thaw_ok ok hH ok' ka (fun ps vs h => k'.vrs (frz_ok ok hH) lr h), lr', k2, hq⟩


theorem Ex_hold {st : Stmt} {a : Addr} {ho : HO} {Q : PF → Loc → AH → Prop} (hH : H a = some ho) (h : Ex G F st σ (H.set a (.fro ho.items)) (fun f σ' H' => Q f σ' (H'.set a ho))) : Ex G F st σ H Q :=
  fun s ok lr => wpAny_mono (h s (frz_ok ok hH) lr) (fun _ _ x => x.thaw ok lr hH) fun _ _ x => x


theorem odd_fields {c : String} {fs : Array Value} (h : c ≠ "tuple" ∧ c ≠ "range" ∧ c ≠ "function" ∧ c ≠ "list") (hf : ∀ q t, fs[1]? ≠ some (Value.str q t)) : Odd { cls := .type c, data := .fields fs } := by
  refine ⟨?_, ?_, ?_, ?_⟩
  · rintro (⟨h1 | h1 | h1, _⟩ | ⟨vs, q, t, h1, h2⟩)
    · simp at h1; exact h.1 h1
    · simp at h1; exact h.2.1 h1
    · simp at h1; exact h.2.2.1 h1
    · cases h1; exact hf q t h2
  · rintro ⟨h1, _⟩; simp at h1; exact h.2.2.2 h1
  · rintro ((⟨es, n, h1⟩ | ⟨v, h1⟩) | ⟨ps, h1, _⟩) <;> cases h1
  · rintro (⟨ps, h1, _⟩ | ⟨vs, q, t, h1, h2⟩)
    · cases h1
    · cases h1; exact hf q t h2
theorem listiter_odd {h : Heap} {I l : Addr} {i : Nat} (x : h.IsListIter I l i) : ∃ o, h.get? I = some o ∧ Odd o := by
  obtain ⟨o, ho, hc, hd⟩ := x
  have hnc : ¬ Code o := by
    rintro ⟨vs, q, t, h1, h2⟩
    first
      | (rw [hd] at h1; cases h1; simp at h2)
      | (obtain ⟨_, hd⟩ := hd; rw [hd] at h1; cases h1; simp at h2)
  refine ⟨o, ho, ?_, ?_, ?_, ?_⟩
  · rintro (⟨h1 | h1 | h1, _⟩ | h1)
    any_goals (rw [hc] at h1; simp at h1)
    exact hnc h1
  · rintro ⟨h1, _⟩; rw [hc] at h1; simp at h1
  · rintro ((⟨es, n, h1⟩ | ⟨v, h1⟩) | ⟨ps, rfl, _⟩) <;> (first | (rw [hd] at h1; cases h1) | cases hc)
  · rintro (⟨ps, rfl, _⟩ | h1)
    · cases hc
    · exact hnc h1
end
end Mine
open PySem PySem.W PyProof.Rows
set_option Elab.async false
set_option maxRecDepth 100000
namespace Mine
section
variable {G : Cx} {A : Around} {F : Fx} {σ : Loc} {H : AH}

theorem letOwned_quiet {prog : Program} {w : World} {A : Around} {target : Expr} {I : Addr} {v : Value} {s : Shared} {Q : Unit → Shared → Prop} {E : Value → Shared → Prop} {o : Obj} {T : String}
    (ho : s.heap.get? I = some o) (hc : o.cls = .type T)
    (hT : ["enumerate", "zip", "dict_itemiterator", "dict_reverseitemiterator", "odict_iterator", "itertools.zip_longest", "itertools.pairwise"].contains T = false) (h : Q () s) :
    wpAny (model prog w) A (letOwnedTupleGo target (.ref I) v) Q E s := by
  have key : ∀ a, wpAny (model prog w) A (do
      let o ← load I
      match o.cls, o.data with
      | .type n, .fields vs =>
        if ["enumerate", "zip", "dict_itemiterator", "dict_reverseitemiterator", "odict_iterator", "itertools.zip_longest", "itertools.pairwise"].contains n && vs[0]? == some (rawInt a) then
          rule "for.unpacks-the-owned-tuple"
          updateField I 0 .none
      | _, _ => pure () : Sem Unit) Q E s := fun a => by
    refine wpAny_bind (wpAny_load ho ?_)
    obtain ⟨cl, d, dt, sl⟩ := o
    simp only at hc; subst hc
    cases dt <;> first
      | exact wpAny_pure h
      | (simp only [hT, Bool.false_and, Bool.false_eq_true, if_false]; exact wpAny_pure h)
  unfold letOwnedTupleGo
  split
  · cases v <;> first | exact wpAny_pure h | exact key _
  · cases v <;> first | exact wpAny_pure h | exact key _
  · exact wpAny_pure h

theorem Iter_list {target : Expr} {a : Addr} {ho : HO} (hA : A.handled = none) (hH : H a = some ho) (hnm : ¬ Mut H a) : Iter G A target (.ref a) H ho.items := by
  rintro s _ ok rfl
  refine hide fun WW9 hW9 => ?_
  obtain ⟨⟨vs, n, hl, hv, hz⟩, _⟩ := id (ok.hr a ho hH)
  refine hW9 ?_
  clear hW9 WW9
  refine wpAny_pyIter_list hl.isList ?_
  obtain ⟨ok', k'⟩ := push_ok ok { cls := .type "list_iterator", data := .fields #[.ref a, .int 0 0] }
  have hfr : s.heap.get? s.heap.objs.size = none := by
    cases e : s.heap.get? s.heap.objs.size with
    | none => rfl
    | some o => exact absurd (Heap.lt_size e) (Nat.lt_irrefl _)
  have hne : a ≠ s.heap.objs.size := by intro e; have h2 : s.heap.get? a = some _ := hl; rw [e, hfr] at h2; cases h2
  have hit : (s.heap.push { cls := .type "list_iterator", data := .fields #[.ref a, .int 0 0] }).IsListIter s.heap.objs.size a 0 := ⟨_, Heap.get?_push_size _ rfl, rfl, rfl⟩
  have hl' : IsL (s.heap.push { cls := .type "list_iterator", data := .fields #[.ref a, .int 0 0] }) a vs.toArray n := hl.push _
  refine ⟨_, [s.heap.objs.size, a], [s.heap.objs.size], fun i v _ => vs.toArray[i]? = some v, fun i v h => vs.toArray[i]? = some v ∧ (h.IsListIter s.heap.objs.size a (i + 1) ∧ h.IsList a vs.toArray), fun i h => h.IsListIter s.heap.objs.size a i ∧ h.IsList a vs.toArray, rfl, ok', k', fun b hb => ?_,
    { K := by
        have := KTurns.ofWalks (target := target) (Walks.list (prog := G.prog) (w := G.w) (A := A) hA s.heap.objs.size a hne vs.toArray) (fun i v s Q E st hq => by
          refine hide fun WW9 hW9 => ?_
          obtain ⟨⟨o, ho, hc, hd⟩, _⟩ := st
          refine hW9 ?_
          clear hW9 WW9
          exact letOwned_quiet ho hc (by decide) hq)
        rw [show ho.items.length = vs.toArray.size from by rw [List.size_toArray]; exact hv.length.symm]; exact this
      st := ⟨hit, hl'.isList⟩
      self := fun s' Q E st hq => (Walks.list (prog := G.prog) (w := G.w) (A := A) hA s.heap.objs.size a hne vs.toArray).self 0 s' Q E st hq
      odd := fun i h st b hb => by simp only [List.mem_singleton] at hb; subst hb; exact listiter_odd st.1
      oddM := fun i v h st b hb => by simp only [List.mem_singleton] at hb; subst hb; exact listiter_odd st.2.1
      base := fun b hb => by
        simp only [List.mem_singleton] at hb; subst hb
        cases e : G.base.get? s.heap.objs.size with
        | none => rfl
        | some o => rw [ok.keep _ _ e] at hfr; cases hfr
      src := fun b hb => by
        simp only [List.mem_cons, List.not_mem_nil, or_false] at hb
        rcases hb with rfl | rfl
        · exact .inl (by simp)
        · exact .inr ⟨_, hl', hnm, fun hd => hd.not_solid (.inr (isLst_mk _ _))⟩
      val := fun i v h' hk hi hP => by
        have hvs' : VRs h' ho.items vs := VRs.mono (fun b o hf e => hk b o hf (Heap.get?_push_of_some _ e)) _ _ hv
        obtain ⟨x, hx⟩ : ∃ x, ho.items[i]? = some x := ⟨_, List.getElem?_eq_getElem hi⟩
        refine hide fun WW9 hW9 => ?_
        obtain ⟨u, hu, hr⟩ := hvs'.get hx
        refine hW9 ?_
        clear hW9 WW9
        refine ⟨x, hx, ?_⟩
        have : vs[i]? = some v := by simpa using hP
        rw [hu] at this; cases this; exact hr }⟩
  simp only [List.mem_singleton] at hb; subst hb; exact hfr

noncomputable def rangeL (x c : Int) (n : Nat) : List PV := (List.range n).map fun i : Nat => .int (x + (i : Int) * c)

theorem src_range {target : Expr} {x c : Int} {n : Nat} {s : Shared} (hA : A.handled = none) (ok : OkH G H s) : ∃ fp wr P Md St, OkH G H { s with heap := s.heap.push { cls := .type "range_iterator", data := .fields #[rawInt x, rawInt n, rawInt c] } } ∧
    Kp H s H { s with heap := s.heap.push { cls := .type "range_iterator", data := .fields #[rawInt x, rawInt n, rawInt c] } } ∧ (∀ b ∈ wr, s.heap.get? b = none) ∧
    Src G A target H (s.heap.push { cls := .type "range_iterator", data := .fields #[rawInt x, rawInt n, rawInt c] }) s.heap.objs.size (rangeL x c n) fp wr P Md St := by
  obtain ⟨ok', k'⟩ := push_ok ok { cls := .type "range_iterator", data := .fields #[rawInt x, rawInt n, rawInt c] }
  have hfr : s.heap.get? s.heap.objs.size = none := by
    cases e : s.heap.get? s.heap.objs.size with
    | none => rfl
    | some o => exact absurd (Heap.lt_size e) (Nat.lt_irrefl _)
  have hodd : ∀ (h : Heap) (I : Addr) (x l c : Int), IsRangeIter h I x l c → ∃ o, h.get? I = some o ∧ Odd o := fun h I x l c hi => ⟨_, hi, odd_fields (by decide) (by intro q t h; simp [rawInt] at h)⟩
  refine ⟨[s.heap.objs.size], [s.heap.objs.size], fun i v _ => ∃ t, v = .int (x + (i : Int) * c) t, fun i v h => (∃ t, v = .int (x + (i : Int) * c) t) ∧ IsRangeIter h s.heap.objs.size (x + ((i + 1 : Nat) : Int) * c) ((n : Int) - ((i + 1 : Nat) : Int)) c, fun i h => IsRangeIter h s.heap.objs.size (x + (i : Nat) * c) ((n : Int) - (i : Nat)) c, ok', k', fun b hb => ?_,
    { K := by
        have := KTurns.ofWalks (target := target) (Walks.range (prog := G.prog) (w := G.w) (A := A) hA s.heap.objs.size x c n) (fun i v s Q E st hq => letOwned_quiet st rfl (by decide) hq)
        rw [show (rangeL x c n).length = n from by simp [rangeL]]; exact this
      st := by
        show IsRangeIter _ _ _ _ _
        have := Heap.get?_push_size s.heap (o := { cls := .type "range_iterator", data := .fields #[rawInt x, rawInt n, rawInt c] }) rfl
        simpa [rangeL, IsRangeIter] using this
      self := fun s' Q E st hq => (Walks.range (prog := G.prog) (w := G.w) (A := A) hA s.heap.objs.size x c n).self 0 s' Q E st hq
      odd := fun i h st b hb => by simp only [List.mem_singleton] at hb; subst hb; exact hodd _ _ _ _ _ st
      oddM := fun i v h st b hb => by simp only [List.mem_singleton] at hb; subst hb; exact hodd _ _ _ _ _ st.2
      base := fun b hb => by
        simp only [List.mem_singleton] at hb; subst hb
        cases e : G.base.get? s.heap.objs.size with
        | none => rfl
        | some o => rw [ok.keep _ _ e] at hfr; cases hfr
      src := fun b hb => .inl hb
      val := fun i v h' hk hi hP => by
        obtain ⟨t, rfl⟩ := hP
        refine ⟨.int (x + i * c), ?_, t, rfl⟩
        simp only [rangeL, List.length_map, List.length_range] at hi
        simp [rangeL, hi] }⟩
  simp only [List.mem_singleton] at hb; subst hb; exact hfr
theorem Iter_range {target : Expr} {x y c : Int} {n : Nat} (hA : A.handled = none) (hsm : Builtin.Range.small x y c = true) (hn : Builtin.Range.rangeSize x y c = n) : Iter G A target (.rng x y c) H (rangeL x c n) := by
  rintro s _ ok ⟨r, t, u, w, rfl, hr⟩
  refine wpAny_pyIter_range hr hsm ?_
  rw [hn]
  obtain ⟨fp, wr, P, Md, St, h1, h2, h3, h4⟩ := src_range (target := target) (x := x) (c := c) (n := n) hA ok
  exact ⟨_, fp, wr, P, Md, St, rfl, h1, h2, h3, h4⟩
end
end Mine
open PySem PySem.W PyProof.Rows
set_option Elab.async false
set_option maxRecDepth 100000
namespace Mine
section
variable {G : Cx} {A : Around} {F : Fx} {σ : Loc} {H : AH}


noncomputable def bindσ : List (Str × PV) → Loc → Loc
  | [], σ => σ
  | (n, p) :: r, σ => bindσ r (σ.set n p)
noncomputable def BRel (h : Heap) : List (Str × PV) → List (Str × Value) → Prop
  | [], bs => bs = []
  | (n, p) :: r, bs => ∃ v bs', bs = (n, v) :: bs' ∧ VR h p v ∧ BRel h r bs'
theorem BRel.zip {h : Heap} : ∀ {ns : List Str} {ps : List PV} {vs : List Value}, VRs h ps vs → BRel h (ns.zip ps) (ns.zip vs)
  | [], _, _, _ => rfl
  | n :: ns, [], vs, e => by rw [show vs = [] from e]; rfl
  | n :: ns, p :: ps, _, ⟨v, r, rfl, h1, h2⟩ => ⟨v, ns.zip r, rfl, h1, BRel.zip h2⟩

noncomputable def FW (env : Env) (b : Addr) : Prop := b = env.locals ∨ ∃ x, env.cells.lookup x = some b

theorem bind_locals {h : Heap} {kindOf : Str → Option NameKind} : ∀ (pb : List (Str × PV)) (bs : List (Str × Value)) (σ : Loc) (m : Str → Option Value), BRel h pb bs →
    (∀ x p, σ x = some p → kindOf x = some .local → ∃ v, m x = some v ∧ VR h p v) →
    ∀ x p, bindσ pb σ x = some p → kindOf x = some .local → ∃ v, bindL kindOf bs m x = some v ∧ VR h p v
  | [], bs, σ, m, e, hm => by rw [show bs = [] from e]; exact hm
  | (n, q) :: r, _, σ, m, ⟨v, bs, rfl, hv, hr⟩, hm => by
    refine bind_locals r bs _ _ hr fun x p e hk => ?_
    unfold Loc.set at e
    by_cases hx : x = n
    · subst hx; rw [if_pos rfl] at e; cases e; rw [if_pos hk]; exact ⟨v, if_pos rfl, hv⟩
    · rw [if_neg hx] at e
      obtain ⟨u, h1, h2⟩ := hm x p e hk
      refine ⟨u, ?_, h2⟩
      split
      · exact (if_neg hx).trans h1
      · exact h1
theorem bind_cells {h : Heap} {kindOf : Str → Option NameKind} : ∀ (pb : List (Str × PV)) (bs : List (Str × Value)) (σ : Loc) (m : Str → Option Value), BRel h pb bs →
    (∀ x p, σ x = some p → kindOf x ≠ some .local → ∃ v, m x = some v ∧ VR h p v) →
    ∀ x p, bindσ pb σ x = some p → kindOf x ≠ some .local → ∃ v, bindC kindOf bs m x = some v ∧ VR h p v
  | [], bs, σ, m, e, hm => by rw [show bs = [] from e]; exact hm
  | (n, q) :: r, _, σ, m, ⟨v, bs, rfl, hv, hr⟩, hm => by
    refine bind_cells r bs _ _ hr fun x p e hk => ?_
    unfold Loc.set at e
    by_cases hx : x = n
    · subst hx; rw [if_pos rfl] at e; cases e; rw [if_neg hk]; exact ⟨v, if_pos rfl, hv⟩
    · rw [if_neg hx] at e
      obtain ⟨u, h1, h2⟩ := hm x p e hk
      refine ⟨u, ?_, h2⟩
      split
      · exact h1
      · exact (if_neg hx).trans h1
theorem bind_kinds {K : Str → Prop} : ∀ (pb : List (Str × PV)) (σ : Loc), (∀ x ∈ pb, K x.1) → (∀ x p, σ x = some p → K x) → ∀ x p, bindσ pb σ x = some p → K x
  | [], _, _, h => h
  | (n, q) :: r, σ, h1, h => bind_kinds r _ (fun x hx => h1 x (List.mem_cons_of_mem _ hx)) fun x p e => by
    unfold Loc.set at e
    by_cases hx : x = n
    · subst hx; exact h1 _ List.mem_cons_self
    · rw [if_neg hx] at e; exact h x p e
theorem BRel.names {h : Heap} : ∀ {pb : List (Str × PV)} {bs : List (Str × Value)}, BRel h pb bs → ∀ x ∈ bs, ∃ p, (x.1, p) ∈ pb
  | [], bs, e, x, hx => by rw [show bs = [] from e] at hx; cases hx
  | (n, q) :: r, _, ⟨v, bs, rfl, _, hr⟩, x, hx => by
    rcases List.mem_cons.mp hx with rfl | hx
    · exact ⟨q, List.mem_cons_self⟩
    · obtain ⟨p, hp⟩ := BRel.names hr x hx; exact ⟨p, List.mem_cons_of_mem _ hp⟩
theorem cellsFrom_isSome {x : Str} : ∀ (names : List (Str × NameKind)) (n : Nat) (acc : List (Str × Addr)), ((x, NameKind.cell) ∈ names ∨ (acc.lookup x).isSome = true) → ((cellsFrom n names acc).lookup x).isSome = true
  | [], n, acc, h => by
    rcases h with h | h
    · cases h
    · exact h
  | (y, k) :: r, n, acc, h => by
    unfold cellsFrom
    split
    · rename_i hk
      refine cellsFrom_isSome r _ _ ?_
      by_cases hx : x = y
      · subst hx; right; simp
      · rcases h with h | h
        · rcases List.mem_cons.mp h with e | h
          · cases e; exact absurd rfl hx
          · exact .inl h
        · right; rw [List.lookup_cons, beq_eq_false_iff_ne.mpr hx]; exact h
    · rename_i hk
      refine cellsFrom_isSome r _ _ ?_
      rcases h with h | h
      · rcases List.mem_cons.mp h with e | h
        · cases e; exact absurd rfl hk
        · exact .inl h
      · exact .inr h

theorem call_raw {fa : Addr} {fo : Obj} {fd : FuncData} {body : List Stmt} {ps : List PV} {ns : List Str} {pb : List (Str × PV)} {ar : List Value → Args}
    (hfo : G.K.lookup fa = some fo) (hfd : fo.data = .func fd) (hbody : fd.body = .stmts body) (hclo : fd.closure = []) (hglob : fd.globals = mainGlobals) (hblt : fd.builtins = builtinsNs)
    (hcode : ∃ c o vs t, fd.code = .ref c ∧ G.K.lookup c = some o ∧ o.data = .fields vs ∧ vs[1]? = some (.str fd.qualname t))
    (hco : fd.scope.isCoroutine = false) (hgen : fd.scope.isGenerator = false) (hk : fd.scope.kind = .function) (hnok : namesOk fd.scope = true) (hnf : fd.scope.names.all (fun x => x.2 != .free) = true)
    (hkinds : ns.all (fun x => fd.scope.names.lookup x == some .local || fd.scope.names.lookup x == some .cell) = true)
    (hroom : A.depth < recursionLimit)
    (hns : ∀ x ∈ pb, x.1 ∈ ns)
    (hbind : ∀ h vs, VRs h ps vs → ∃ bs, peek G.K ⟨G.prog, G.w.params⟩ (bindArgs fd (ar vs)) = some bs ∧ ∀ h', (∀ p v, VR h p v → VR h' p v) → BRel h' pb bs)
    {s : Shared} {vs : List Value} {R E : Value → Shared → Prop} (ok : OkH G H s) (hvs : VRs s.heap ps vs)
    (h : ∀ (F : Fx) (s1 : Shared), F.env.scope = fd.scope → F.A = A.deeper F.env → F.W = FW F.env → (F.env.code = fd.code ∧ F.env.qual = fd.qualname ++ ".<locals>." ∧ F.env.frame = some F.env.locals) →
      OkH G H s1 → LR G F (bindσ pb fun _ => none) s1.heap → (∀ b o, s.heap.get? b = some o → s1.heap.get? b = some o) → (∀ b, F.W b → s.heap.get? b = none) → s1.os = s.os →
      wpAny (model G.prog G.w) F.A (execs body F.env) (fun f s' => R (match f with | .ret v => v | _ => .none) s')
        (fun e s' => wpAny (model G.prog G.w) F.A (leaving F.env e) (fun _ s'' => E e s'') (fun e' s'' => E e' s'') s') s1) :
    wpAny (model G.prog G.w) A (call (.ref fa) (ar vs).pos (ar vs).kw) R E s := by
  have X : G.K.In s.heap := G.kin.keeps ok.keep
  refine hide fun WW9 hW9 => ?_
  obtain ⟨c, oc, cvs, ct, hc1, hc2, hc3, hc4⟩ := hcode
  refine hW9 ?_
  clear hW9 WW9
  have hcr : s.heap.CodeRec fd.code fd.qualname := ⟨c, oc, cvs, ct, hc1, X _ _ hc2, hc3, hc4⟩
  refine wpAny_call (codeAny_call_function hroom (X _ _ hfo) hfd hco hgen hbody hcr ?_)
  refine hide fun WW9 hW9 => ?_
  obtain ⟨bs, hpk, hbr⟩ := hbind s.heap vs hvs
  refine hW9 ?_
  clear hW9 WW9
  refine (Looks.of_peek (M := model G.prog G.w) X hpk).here ?_
  rw [hclo]
  have hrel : BRel s.heap pb bs := hbr _ fun _ _ h => h
  have hkn : ∀ n ∈ ns, fd.scope.names.lookup n = some .local ∨ fd.scope.names.lookup n = some .cell := fun n hn => by
    have := List.all_eq_true.mp hkinds n hn
    simpa using this
  have hkp : ∀ x ∈ pb, fd.scope.names.lookup x.1 = some .local ∨ fd.scope.names.lookup x.1 = some .cell := fun x hx => hkn _ (hns x hx)
  refine wpAny_newFunctionEnv_cells hk (fun x hx => ?_) fun env henv s1 C => ?_
  · obtain ⟨p, hp⟩ := hrel.names x hx
    rcases hkp (x.1, p) hp with h | h
    · exact .inl h
    · exact .inr ⟨h, cellsFrom_isSome _ _ _ (.inl (mem_of_lookup h))⟩
  refine hide fun WW9 hW9 => ?_
  obtain ⟨h1, tk1, hs1⟩ := C.toInCall.same
  refine hW9 ?_
  clear hW9 WW9
  have hkeep := C.toInCall.keep
  have hL := C.toInCall.fresh
  have hsc : env.scope = fd.scope := by rw [henv]; rfl
  have hcells : env.cells = cellsFrom (s.heap.objs.size + 1) fd.scope.names [] := by rw [henv]; rfl
  have hwlt : ∀ b, FW env b → s.heap.objs.size ≤ b := fun b hb => by
    rcases hb with rfl | ⟨x, hx⟩
    · exact hL
    · exact Nat.le_of_lt (Nat.lt_of_le_of_lt hL (C.above x b (mem_of_lookup hx)))
  have hold : ∀ b o, s.heap.get? b = some o → ¬ FW env b := fun b o e hb => absurd (Heap.lt_size e) (Nat.not_lt.mpr (hwlt b hb))
  have vr1 : ∀ p v, VR s.heap p v → VR s1.heap p v := fun p v hv => VR.mono (fun b o _ e => hkeep b o e) p v hv
  have hrel1 : BRel s1.heap pb bs := hbr _ vr1
  have ok1 : OkH G H s1 := ⟨fun b o e => hkeep b o (ok.keep b o e), ok.hr.other fun b o e _ => hkeep b o e, by rw [hs1]; exact ok.gens, ok.dat.all hkeep, ok.tab.keep fun b o _ e => hkeep b o e⟩
  have lr1 : LR G ⟨A.deeper env, env, FW env⟩ (bindσ pb fun _ => none) s1.heap := by
    refine ⟨fun b hb => ?_, fun b hb => ?_, .inl rfl, by rw [← hk, hsc], by rw [hsc]; exact hnok, ?_, ?_, ⟨_, C.toInCall.ns, ?_⟩, ?_, fun x hx => ?_, C.apart⟩
    · refine ⟨?_, fun o hD => ?_⟩
      · cases e : G.base.get? b with
        | none => rfl
        | some o => exact absurd hb (hold b o (ok.keep b o e))
      · obtain ⟨o', h1, _⟩ := ok.dat b o hD; exact hold b o' h1 hb
    · rcases hb with rfl | ⟨x, hx⟩
      · exact ns_dc C.toInCall.ns
      · exact cell_dc (C.cell x b hx)
    · show env.globals = _; rw [henv]; exact hglob
    · show env.builtins = _; rw [henv]; exact hblt
    · exact bind_locals _ _ _ _ hrel1 (fun _ _ e => by cases e)
    · intro x p e
      have := bind_kinds (K := fun x => fd.scope.names.lookup x = some .local ∨ fd.scope.names.lookup x = some .cell) _ _ hkp (fun _ _ e => by cases e) x p e
      show env.scope.names.lookup x = _ ∨ env.scope.names.lookup x = _ ∨ _
      rw [hsc]
      exact this.imp id .inl
    · have hx' : fd.scope.names.lookup x = some .cell ∨ fd.scope.names.lookup x = some .free := by
        have : env.scope.names.lookup x = some .cell ∨ env.scope.names.lookup x = some .free := hx
        rwa [hsc] at this
      have hx2 : fd.scope.names.lookup x = some .cell := by
        rcases hx' with h | h
        · exact h
        · have := List.all_eq_true.mp hnf _ (mem_of_lookup h); simp at this
      have hs := cellsFrom_isSome fd.scope.names (s.heap.objs.size + 1) [] (.inl (mem_of_lookup hx2))
      obtain ⟨c, hc⟩ := Option.isSome_iff_exists.mp hs
      rw [← hcells] at hc
      refine ⟨c, _, hc, C.cell x c hc, fun p e => ?_⟩
      have hnl : env.kindOf x ≠ some .local := by
        show env.scope.names.lookup x ≠ _
        rw [hsc, hx2]; intro h; cases h
      exact bind_cells _ _ _ _ hrel1 (fun _ _ e => by cases e) x p e hnl
  refine ⟨G.nolimit.keeps (fun b o e => hkeep b o (ok.keep b o e)), codeAny_func ?_⟩
  exact h ⟨A.deeper env, env, FW env⟩ s1 hsc rfl rfl ⟨by rw [henv]; rfl, by rw [henv]; rfl, by rw [henv]; rfl⟩ ok1 lr1 hkeep (fun b hb => by
    cases e : s.heap.get? b with
    | none => rfl
    | some o => exact absurd hb (hold b o e)) (by rw [hs1])
theorem callee_kp {W : Addr → Prop} {H' : AH} {s s1 s' : Shared} (hkeep : ∀ b o, s.heap.get? b = some o → s1.heap.get? b = some o) (hW : ∀ b, W b → s.heap.get? b = none) (hos : s1.os = s.os) (k : KpF W H s1 H' s') : Kp H s H' s' := by
  refine ⟨k.os.trans hos, fun b o e hm => k.kept b o (hkeep b o e) hm (fun hw => by rw [hW b hw] at e; cases e), fun b o hb => ?_⟩
  rcases k.dom b o hb with h | h
  · left
    cases e : s.heap.get? b with
    | none => rfl
    | some o => rw [hkeep b o e] at h; cases h
  · exact .inr h
theorem call_def {fa : Addr} {fo : Obj} {fd : FuncData} {body : List Stmt} {ps : List PV} {ns : List Str} {pb : List (Str × PV)} {Q : PV → AH → Prop} {ar : List Value → Args}
    (hfo : G.K.lookup fa = some fo) (hfd : fo.data = .func fd) (hbody : fd.body = .stmts body) (hclo : fd.closure = []) (hglob : fd.globals = mainGlobals) (hblt : fd.builtins = builtinsNs)
    (hcode : ∃ c o vs t, fd.code = .ref c ∧ G.K.lookup c = some o ∧ o.data = .fields vs ∧ vs[1]? = some (.str fd.qualname t))
    (hco : fd.scope.isCoroutine = false) (hgen : fd.scope.isGenerator = false) (hk : fd.scope.kind = .function) (hnok : namesOk fd.scope = true) (hnf : fd.scope.names.all (fun x => x.2 != .free) = true)
    (hkinds : ns.all (fun x => fd.scope.names.lookup x == some .local || fd.scope.names.lookup x == some .cell) = true)
    (hroom : A.depth < recursionLimit)
    (hns : ∀ x ∈ pb, x.1 ∈ ns)
    (hbind : ∀ h vs, VRs h ps vs → ∃ bs, peek G.K ⟨G.prog, G.w.params⟩ (bindArgs fd (ar vs)) = some bs ∧ ∀ h', (∀ p v, VR h p v → VR h' p v) → BRel h' pb bs)
    (h : ∀ F : Fx, F.env.scope = fd.scope → F.A = A.deeper F.env → F.W = FW F.env → (F.env.code = fd.code ∧ F.env.qual = fd.qualname ++ ".<locals>." ∧ F.env.frame = some F.env.locals) → Exs G F body (bindσ pb fun _ => none) H (fun f _ H' => match f with | .ret p => Q p H' | _ => Q .none H')) :
    OpL G A (fun vs => call (.ref fa) (ar vs).pos (ar vs).kw) ps H Q := by
  intro s vs ok hvs
  refine call_raw hfo hfd hbody hclo hglob hblt hcode hco hgen hk hnok hnf hkinds hroom hns hbind ok hvs fun F s1 h1 h2 h3 h4 ok1 lr1 hkeep hW hos => wpAny_noE ?_
  refine wpAny_mono (h F h1 h2 h3 h4 s1 ok1 lr1) (fun f s' zz2 => zz2.on fun pf σ' H' hf ok' lr' k' hq => ?_) fun _ _ x => x
  have kp := callee_kp hkeep hW hos k'
  cases pf with
  | next => rw [show f = .next from hf]; exact ⟨.none, H', rfl, ok', kp, hq⟩
  | brk => rw [show f = .brk from hf]; exact ⟨.none, H', rfl, ok', kp, hq⟩
  | cont => rw [show f = .cont from hf]; exact ⟨.none, H', rfl, ok', kp, hq⟩
  | ret p => obtain ⟨v, rfl, hv⟩ := id hf; exact ⟨p, H', hv, ok', kp, hq⟩


theorem As_Name {x : Str} {pos : Pos} {p : PV} {Q : Loc → AH → Prop} (hk : Sto F x) (h : Q (σ.set x p) H) : As G F (.Name x pos) p σ H Q :=
  fun s v ok lr hv => wpAny_assign_Name (storeName_ok hk ok lr hv h)

noncomputable def AsL (G : Cx) (F : Fx) : List Expr → List PV → Loc → AH → (Loc → AH → Prop) → Prop
  | [], [], σ, H, Q => Q σ H
  | t :: ts, p :: ps, σ, H, Q => As G F t p σ H (fun σ1 H1 => AsL G F ts ps σ1 H1 Q)
  | _, _, _, _, _ => False

theorem asL_ok : ∀ (ts : List Expr) (ps : List PV) (vs : List Value) (σ : Loc) (H : AH) (s : Shared) (Q : Loc → AH → Prop), AsL G F ts ps σ H Q → OkH G H s → LR G F σ s.heap → VRs s.heap ps vs →
    (ts.all fun t => match t with | .Starred .. => false | _ => true) = true →
    wpAny (model G.prog G.w) F.A (assignInOrder ((assignEach ts F.env).map (·.2)) vs) (PostS G F H s Q) NoE s
  | [], [], vs, σ, H, s, Q, h, ok, lr, hvs, _ => by
    rw [show vs = [] from hvs]
    exact wpAny_pure ⟨σ, H, ok, lr, KpF.refl _ _ _, h⟩
  | [], p :: ps, vs, σ, H, s, Q, h, ok, lr, hvs, _ => h.elim
  | t :: ts, [], vs, σ, H, s, Q, h, ok, lr, hvs, _ => h.elim
  | t :: ts, p :: ps, vs, σ, H, s, Q, h, ok, lr, ⟨v, r, e, hv, hr⟩, hst => by
    subst e
    rw [List.all_cons, Bool.and_eq_true] at hst
    have he : (assignEach (t :: ts) F.env).map (·.2) = assign t F.env :: (assignEach ts F.env).map (·.2) := by
      cases t <;> first | rfl | (simp at hst)
    rw [he]
    show wpAny _ _ (do holding r (assign t F.env v); assignInOrder ((assignEach ts F.env).map (·.2)) r) _ _ _
    refine wpAny_bind (wpAny_holding (wpAny_mono (h s v ok lr hv) (fun _ s1 zz2 => zz2.on fun σ1 H1 ok1 lr1 k1 hq => ?_) fun _ _ x => x))
    exact wpAny_mono (asL_ok ts ps r σ1 H1 s1 Q hq ok1 lr1 (k1.vrs ok lr hr) hst.2) (fun _ _ x => x.trans k1) fun _ _ x => x

theorem assignEach_len : ∀ (ts : List Expr), (assignEach ts F.env).length = ts.length
  | [] => rfl
  | t :: ts => by cases t <;> (show _ + 1 = _; rw [assignEach_len ts]; rfl)
theorem assignEach_nostar : ∀ (ts : List Expr), (ts.all fun t => match t with | .Starred .. => false | _ => true) = true → (assignEach ts F.env).findIdx? (·.1) = none
  | [], _ => rfl
  | t :: ts, h => by
    rw [List.all_cons, Bool.and_eq_true] at h
    have := assignEach_nostar ts h.2
    cases t <;> first | (show ((false, _) :: assignEach ts F.env).findIdx? (·.1) = none; rw [List.findIdx?_cons]; simp [this]) | (simp at h)

theorem As_Tuple {ts : List Expr} {k : Nat} {pos : Pos} {ps : List PV} {Q : Loc → AH → Prop} (hA : F.A.handled = none) (hl : ts.length = ps.length) (h : AsL G F ts ps σ H Q)
    (hst : (ts.all fun t => match t with | .Starred .. => false | _ => true) = true := by rfl) : As G F (.Tuple ts k pos) (.tup ps) σ H Q := by
  rintro s v ok lr ⟨a, vs, n, rfl, hT, hvs⟩
  refine wpAny_assign_Tuple (t := a) (items := vs.toArray) hA ⟨_, hT, rfl, n, rfl⟩ (by rw [assignEach_len, List.size_toArray, hvs.length]; exact hl) (assignEach_nostar ts hst) fun h' hk => ?_
  have hkeep : ∀ b o, s.heap.get? b = some o → h'.get? b = some o := fun b o e => hk b o (Nat.ne_of_lt (Heap.lt_size e)) e
  have ok1 : OkH G H { s with heap := h' } := ⟨fun b o e => hkeep b o (ok.keep b o e), ok.hr.other fun b o e _ => hkeep b o e, ok.gens, ok.dat.all hkeep, ok.tab.keep fun b o _ e => hkeep b o e⟩
  have k1 : Kp H s H { s with heap := h' } := ⟨rfl, fun b o e _ => .of (hkeep b o e), DomLe.refl _ _⟩
  exact wpAny_mono (asL_ok ts ps vs.toArray.toList σ H _ Q h ok1 (lr.kp ok k1) (k1.vrs ok (by simpa using hvs)) hst) (fun _ _ x => x.trans k1.toF) fun _ _ x => x

theorem Ex_AssignTuple {ts : List Expr} {k : Nat} {tpos pos : Pos} {e : Expr} {Q : PF → Loc → AH → Prop}
    (h : Ev G F e σ H (fun p H1 => As G F (.Tuple ts k tpos) p σ H1 (fun σ2 H2 => Q .next σ2 H2)))
    (hs : swapsWithSole [.Tuple ts k tpos] e pos.line F.env = pure false := by rfl) (hw : swappedStores [.Tuple ts k tpos] e F.env = pure none := by rfl) : Ex G F (.Assign [.Tuple ts k tpos] e pos) σ H Q := by
  intro s ok lr
  refine PyProof.Rows.Assign_Tuple (wpAny_mono (h s ok lr) (fun v s1 zz2 => zz2.on fun p H1 hv ok1 k1 hq => ?_) fun _ _ x => x) hs hw
  refine wpAny_mono (hq s1 v ok1 (lr.kp ok k1) hv) (fun _ s2 zz2 => zz2.on fun σ2 H2 ok2 lr2 k2 hq2 => ?_) fun _ _ x => x
  exact ⟨.next, σ2, H2, rfl, ok2, lr2, k1.toF.trans k2, hq2⟩
end
end Mine
open PySem PySem.W PyProof.Rows
set_option Elab.async false
set_option maxRecDepth 100000
namespace Mine
section
variable {G : Cx} {A : Around} {F : Fx} {σ : Loc} {H : AH}


noncomputable def closL (env : Env) : List (Str × NameKind) → List (Str × Addr) → List (Str × Addr)
  | [], acc => acc
  | (n, k) :: r, acc => if k == .free then closL env r ((n, (env.cells.lookup n).getD 0) :: acc) else closL env r acc
theorem closure_eq (env : Env) (names : List (Str × NameKind)) (acc : List (Str × Addr)) (h : ∀ x ∈ names, x.2 = .free → (env.cells.lookup x.1).isSome = true) :
    (forIn names acc fun (x : Str × NameKind) cs => (if (x.2 == .free) = true then do let c ← cellOf env x.1; pure (.yield ((x.1, c) :: cs)) else pure (.yield cs) : Sem (ForInStep (List (Str × Addr))))) = pure (closL env names acc) := by
  induction names generalizing acc with
  | nil => rfl
  | cons x r ih =>
    obtain ⟨n, k⟩ := x
    rw [List.forIn_cons]
    unfold closL
    by_cases hk : (k == NameKind.free) = true
    · have hk' : k = .free := beq_iff_eq.mp hk
      obtain ⟨c, hc⟩ := Option.isSome_iff_exists.mp (h (n, k) List.mem_cons_self hk')
      simp only [hk, if_true]
      have : cellOf env n = pure c := by unfold cellOf; rw [hc]
      rw [this, hc]
      simp only [Option.getD_some]
      show (pure _ >>= fun r_1 => _) = _
      exact ih _ fun y hy => h y (List.mem_cons_of_mem _ hy)
    · simp only [hk, if_false]
      exact ih _ fun y hy => h y (List.mem_cons_of_mem _ hy)
theorem closureFor_eq (env : Env) (scope : Scope) (h : ∀ x ∈ scope.names, x.2 = .free → (env.cells.lookup x.1).isSome = true) : closureFor scope env = pure (closL env scope.names []) := by
  have := closure_eq env scope.names [] h
  unfold closureFor
  show (forIn scope.names [] _ >>= fun cs => pure cs) = _
  refine (congrArg (fun t => t >>= fun cs => pure cs) this).trans rfl

theorem closL_mem (env : Env) : ∀ (names : List (Str × NameKind)) (acc : List (Str × Addr)), (∀ x ∈ names, x.2 = .free → (env.cells.lookup x.1).isSome = true) → (∀ x c, (x, c) ∈ acc → env.cells.lookup x = some c) →
    ∀ x c, (x, c) ∈ closL env names acc → env.cells.lookup x = some c
  | [], _, _, ha => ha
  | (n, k) :: r, acc, h, ha => by
    unfold closL
    split
    · rename_i hk
      refine closL_mem env r _ (fun y hy => h y (List.mem_cons_of_mem _ hy)) fun x c hm => ?_
      rcases List.mem_cons.mp hm with e | hm
      · cases e
        obtain ⟨c, hc⟩ := Option.isSome_iff_exists.mp (h (n, k) List.mem_cons_self (beq_iff_eq.mp hk))
        rw [hc]; rfl
      · exact ha x c hm
    · exact closL_mem env r acc (fun y hy => h y (List.mem_cons_of_mem _ hy)) ha
theorem closL_has (env : Env) : ∀ (names : List (Str × NameKind)) (acc : List (Str × Addr)) (x : Str), (x, NameKind.free) ∈ names ∨ (acc.lookup x).isSome = true → ((closL env names acc).lookup x).isSome = true
  | [], acc, x, h => by
    rcases h with h | h
    · cases h
    · exact h
  | (n, k) :: r, acc, x, h => by
    unfold closL
    split
    · refine closL_has env r _ x ?_
      by_cases hx : x = n
      · subst hx; right; simp
      · rcases h with h | h
        · rcases List.mem_cons.mp h with e | h
          · cases e; exact absurd rfl hx
          · exact .inl h
        · right; rw [List.lookup_cons, beq_eq_false_iff_ne.mpr hx]; exact h
    · rename_i hk
      refine closL_has env r _ x ?_
      rcases h with h | h
      · rcases List.mem_cons.mp h with e | h
        · cases e; exact absurd rfl hk
        · exact .inl h
      · exact .inr h

theorem closL_names (env : Env) : ∀ (names : List (Str × NameKind)) (acc : List (Str × Addr)), ((names.map (·.1)) ++ acc.map (·.1)).Nodup → ((closL env names acc).map (·.1)).Nodup
  | [], acc, h => by show (acc.map (·.1)).Nodup; simpa using h
  | (n, k) :: r, acc, h => by
    unfold closL
    split
    · refine closL_names env r _ ?_
      simp only [List.map_cons, List.cons_append, List.nodup_cons, List.nodup_append, List.mem_append, List.mem_cons] at h ⊢
      refine ⟨h.2.1, ⟨fun hm => h.1 (.inr hm), h.2.2.1⟩, fun a ha b hb => ?_⟩
      rcases hb with rfl | hb
      · intro e; subst e; exact h.1 (.inl ha)
      · exact h.2.2.2 a ha b hb
    · refine closL_names env r _ ?_
      simp only [List.map_cons, List.cons_append, List.nodup_cons] at h
      exact h.2

theorem cells_spec : ∀ (names : List (Str × NameKind)) (h : Heap) (acc : List (Str × Addr)) (x : Str) (c : Addr), (cellsFrom h.objs.size names acc).lookup x = some c →
    (acc.lookup x = some c ∧ (x, NameKind.cell) ∉ names) ∨ ((x, NameKind.cell) ∈ names ∧ h.objs.size ≤ c ∧ (pushCells h names).IsCell c none)
  | [], h, acc, x, c, e => .inl ⟨e, by simp⟩
  | (n, k) :: r, h, acc, x, c, e => by
    unfold cellsFrom at e; unfold pushCells
    split at e
    · rename_i hk
      rw [if_pos hk]
      have e' : (cellsFrom (h.push { cls := .type "cell", data := .cell none }).objs.size r ((n, h.objs.size) :: acc)).lookup x = some c := by rw [Heap.size_push]; exact e
      rcases cells_spec r _ _ x c e' with ⟨h1, h2⟩ | ⟨h0, h1, h2⟩
      · rw [List.lookup_cons] at h1
        cases hx : x == n with
        | true =>
          rw [hx] at h1; cases h1
          right
          refine ⟨?_, Nat.le_refl _, Heap.IsCell.keeps ⟨_, Heap.get?_push_size _ rfl, rfl⟩ (pushCells_keeps r _)⟩
          rw [beq_iff_eq.mp hx, beq_iff_eq.mp hk]; exact List.mem_cons_self
        | false =>
          rw [hx] at h1
          refine .inl ⟨h1, fun hm => ?_⟩
          rcases List.mem_cons.mp hm with e | hm
          · cases e; simp at hx
          · exact h2 hm
      · right
        rw [Heap.size_push] at h1
        exact ⟨List.mem_cons_of_mem _ h0, Nat.le_of_succ_le h1, h2⟩
    · rename_i hk
      rw [if_neg hk]
      rcases cells_spec r h acc x c e with ⟨h1, h2⟩ | ⟨h0, h1⟩
      · refine .inl ⟨h1, fun hm => ?_⟩
        rcases List.mem_cons.mp hm with e | hm
        · cases e; exact hk rfl
        · exact h2 hm
      · exact .inr ⟨List.mem_cons_of_mem _ h0, h1⟩
theorem cells_apart : ∀ (names : List (Str × NameKind)) (n : Nat) (acc : List (Str × Addr)), (acc.Pairwise fun x y => x.2 ≠ y.2) → (∀ x ∈ acc, x.2 < n) → ((cellsFrom n names acc).Pairwise fun x y => x.2 ≠ y.2)
  | [], _, _, h, _ => h
  | (x, k) :: r, n, acc, h, hlt => by
    unfold cellsFrom
    split
    · refine cells_apart r _ _ (List.pairwise_cons.mpr ⟨fun y hy => Nat.ne_of_gt (hlt y hy), h⟩) fun y hy => ?_
      rcases List.mem_cons.mp hy with rfl | hy
      · exact Nat.lt_succ_self _
      · exact Nat.lt_succ_of_lt (hlt y hy)
    · exact cells_apart r _ _ h hlt
theorem pairwise_of_names {env : Env} (ha : env.cells.Pairwise fun x y => x.2 ≠ y.2) : ∀ (l : List (Str × Addr)), (l.map (·.1)).Nodup → (∀ x c, (x, c) ∈ l → env.cells.lookup x = some c) → l.Pairwise fun x y => x.2 ≠ y.2
  | [], _, _ => .nil
  | (x, c) :: r, hn, hm => by
    rw [List.map_cons, List.nodup_cons] at hn
    refine List.pairwise_cons.mpr ⟨fun y hy e => ?_, pairwise_of_names ha r hn.2 fun x c h => hm x c (List.mem_cons_of_mem _ h)⟩
    have h1 := mem_of_lookup (hm x c List.mem_cons_self)
    have h2 := mem_of_lookup (hm y.1 y.2 (List.mem_cons_of_mem _ hy))
    have e' : c = y.2 := e
    rw [← e'] at h2
    exact hn.1 (by rw [name_of_addr ha h1 h2]; exact List.mem_map.mpr ⟨y, hy, rfl⟩)

theorem newEnv_comp {M : Model} {A : Around} {E : Value → Shared → Prop} {s : Shared} {scope : Scope} {globals : Addr} {cl : List (Str × Addr)} {qual : Str} {env : Env} {Q : Env → Shared → Prop}
    (h : Q (newEnv scope s.heap.objs.size globals (cellsFrom (s.heap.objs.size + 1) scope.names cl) qual none .none (some env) builtinsNs) { s with heap := pushCells (s.heap.push { cls := .type "dict", data := .dict #[] }) scope.names }) :
    wpAny M A (newFunctionEnv scope globals cl [] qual none .none (some env)) Q E s := by
  simp only [newFunctionEnv, Option.isSome_some, if_true]
  refine wpAny_bind (wpAny_alloc ?_)
  refine wpAny_bind (wpAny_layCells _ (fun name kind cells => by cases hkc : kind == NameKind.cell <;> simp [hkc]) _ _ _ _ ?_)
  rw [show ({ s with heap := s.heap.push { cls := .type "dict", data := .dict #[] } } : Shared).heap.objs.size = s.heap.objs.size + 1 from Heap.size_push ..]
  rw [List.forIn_nil]
  exact wpAny_bind (wpAny_pure (wpAny_pure h))

theorem lookup_relabel {env : Env} {scope : Scope} {x : Str} : (relabel scope env).names.lookup x = (scope.names.lookup x).map fun k => if (k == NameKind.free && env.scope.kind == .function && env.kindOf x == some .cell) = true then NameKind.cell else k := by
  unfold relabel
  show (scope.names.map _).lookup x = _
  induction scope.names with
  | nil => rfl
  | cons p r ih =>
    obtain ⟨n, k⟩ := p
    rw [List.map_cons]
    by_cases hx : x = n
    · subst hx
      by_cases hc : (k == NameKind.free && env.scope.kind == .function && env.kindOf x == some .cell) = true
      · simp only [hc, if_true, List.lookup_cons_self, Option.map_some]
      · simp only [Bool.not_eq_true] at hc
        simp only [hc, Bool.false_eq_true, if_false, List.lookup_cons_self, Option.map_some]
    · have hb : (x == n) = false := beq_eq_false_iff_ne.mpr hx
      have hl : List.lookup x ((n, k) :: r) = List.lookup x r := by rw [List.lookup_cons, hb]
      rw [hl, ← ih]
      by_cases hc : (k == NameKind.free && env.scope.kind == .function && env.kindOf n == some .cell) = true
      · show List.lookup x ((if (k == NameKind.free && env.scope.kind == .function && env.kindOf n == some .cell) = true then (n, NameKind.cell) else (n, k)) :: _) = _
        rw [if_pos hc, List.lookup_cons, hb]
      · show List.lookup x ((if (k == NameKind.free && env.scope.kind == .function && env.kindOf n == some .cell) = true then (n, NameKind.cell) else (n, k)) :: _) = _
        rw [if_neg hc, List.lookup_cons, hb]


structure CF (F F' : Fx) (scope : Scope) : Prop where
  A : F'.A = F.A
  kind : ∀ x k, scope.names.lookup x = some k → k ≠ .free → F'.env.kindOf x = some k
  free : ∀ x, scope.names.lookup x = some .free → F'.env.kindOf x = some .cell ∨ F'.env.kindOf x = some .free
  sto : ∀ x, scope.names.lookup x = some .local ∨ scope.names.lookup x = some .cell → Sto F' x
noncomputable def Loc.fr (σ : Loc) (scope : Scope) : Loc := fun x => if (scope.names.lookup x == some .free) = true then σ x else none
noncomputable def scopeOk (scope : Scope) : Bool := scope.kind == .function && namesOk scope && decide (scope.names.map (·.1)).Nodup
noncomputable def freeOk (F : Fx) (scope : Scope) : Prop := ∀ x, scope.names.lookup x = some .free → F.env.kindOf x = some .cell ∨ F.env.kindOf x = some .free

noncomputable def EvIfs (G : Cx) (F : Fx) : List Expr → Loc → AH → (Bool → AH → Prop) → Prop
  | [], _, H, Q => Q true H
  | c :: r, σ, H, Q => EvB G F c σ H (fun b H1 => if b then EvIfs G F r σ H1 Q else Q false H1)

theorem evIfs_ok : ∀ (ifs : List Expr) (H : AH) (s s0 : Shared) (H0 : AH) (Q : Bool → AH → Prop), EvIfs G F ifs σ H Q → OkH G H s → LR G F σ s.heap → Kp H0 s0 H s →
    wpAny (model G.prog G.w) F.A (forIn ifs true fun c r => if r = true then do let ok ← isTrue c F.env (eval c F.env); pure (ForInStep.yield ok) else pure (ForInStep.yield r)) (PostB G H0 s0 Q) NoE s
  | [], H, s, s0, H0, Q, h, ok, lr, k => by rw [List.forIn_nil]; exact wpAny_pure ⟨H, ok, k, h⟩
  | c :: r, H, s, s0, H0, Q, h, ok, lr, k => by
    rw [List.forIn_cons]
    simp only [if_true]
    refine wpAny_bind (wpAny_bind (wpAny_mono (h s ok lr) (fun b s1 zz2 => zz2.on fun H1 ok1 k1 hq => wpAny_pure ?_) fun _ _ x => x))
    cases b with
    | true => exact evIfs_ok r H1 s1 s0 H0 Q hq ok1 (lr.kp ok k1) (k.trans k1)
    | false =>
      have : ∀ (r : List Expr) (s1 : Shared) (Q' : Bool → Shared → Prop), Q' false s1 → wpAny (model G.prog G.w) F.A (forIn r false fun c r => if r = true then do let ok ← isTrue c F.env (eval c F.env); pure (ForInStep.yield ok) else pure (ForInStep.yield r)) Q' NoE s1 := by
        intro r
        induction r with
        | nil => intro s1 Q' h; rw [List.forIn_nil]; exact wpAny_pure h
        | cons x r ih =>
          intro s1 Q' h
          rw [List.forIn_cons]
          simp only [Bool.false_eq_true, if_false]
          exact wpAny_bind (wpAny_pure (ih s1 Q' h))
      exact this r s1 _ ⟨H1, ok1, k.trans k1, hq⟩

theorem HR.but {h h' : Heap} {D : Addr} (hr : HR G H h) (hD : H D = none) (k : ∀ b o, b ≠ D → h.get? b = some o → Fix o ∨ IsLst o → h'.get? b = some o) (hDl : ∀ o, h.get? D = some o → ¬ Fix o) : HR G H h' := fun a o e => by
  obtain ⟨⟨vs, n, hl, hv, hz⟩, hb⟩ := hr a o e
  have ha : a ≠ D := by rintro rfl; rw [hD] at e; cases e
  exact ⟨⟨vs, n, k _ _ ha hl (.inr (isLst_mk _ _)), VRs.mono (fun b o hf e => k _ _ (by rintro rfl; exact hDl o e hf) e (.inl hf)) _ _ hv, hz⟩, hb⟩


theorem acc_step {s : Shared} {D : Addr} {h' : Heap} {vs : Array Value} (ok : OkH G H s) (lr : LR G F σ s.heap) (hD : H D = none) (hbD : G.base.get? D = none) (hpl : s.heap.PlainList D vs) (hs : Heap.SameBut D s.heap h') :
    OkH G H { s with heap := h' } ∧ LR G F σ h' ∧ (∀ p v, VR s.heap p v → VR h' p v) := by
  obtain ⟨n, hn⟩ := hpl
  have hnf : ∀ o, s.heap.get? D = some o → ¬ Fix o := fun o e => by rw [hn] at e; cases e; exact fun hf => fix_not_lst hf (isLst_mk _ _)
  have hnd : ∀ o, s.heap.get? D = some o → ¬ DC o := fun o e => by rw [hn] at e; cases e; exact fun hd => hd.not_solid (.inr (isLst_mk _ _))
  have hv : ∀ p v, VR s.heap p v → VR h' p v := fun p v h => VR.mono (fun b o hf e => (hs.2 b (by rintro rfl; exact hnf o e hf)).trans e) p v h
  exact ⟨⟨fun b o e => (hs.2 b (by rintro rfl; rw [hbD] at e; cases e)).trans (ok.keep b o e), ok.hr.but hD (fun b o hb e _ => (hs.2 b hb).trans e) hnf, ok.gens, ok.dat.dc fun b o hd _ e => (hs.2 b (by rintro rfl; exact hnd o e hd)).trans e, ok.tab.keep fun b o hl e => (hs.2 b (by rintro rfl; rw [hn] at e; cases e; exact hl.not_lst (isLst_mk _ _))).trans e⟩,
    lr.at (fun b o hd e => ⟨o, (hs.2 b (by rintro rfl; exact hnd o e hd)).trans e, rfl⟩) hv, hv⟩


theorem LR.refr {H' : AH} {σ2 : Loc} {s s' : Shared} (ok : OkH G H s) (lr : LR G F σ s.heap) (k : KpF F.W H s H' s') (lr2 : LR G F σ2 s'.heap)
    (hσ : ∀ x p, σ x = some p → (F.env.kindOf x = some .cell ∨ F.env.kindOf x = some .free) ∧ ∀ c, F.env.cells.lookup x = some c → ¬ F.W c) : LR G F σ s'.heap := by
  refine hide fun WW9 hW9 => ?_
  obtain ⟨m, hn, _⟩ := lr2.ns
  refine hW9 ?_
  clear hW9 WW9
  refine ⟨lr.own, lr2.odd, lr.wloc, lr.fn, lr.nok, lr.glob, lr.blt, ⟨m, hn, fun x p e hk => ?_⟩, lr.kinds, fun x hx => ?_, lr.apart⟩
  · rcases (hσ x p e).1 with h | h <;> (rw [hk] at h; cases h)
  · refine hide fun WW9 hW9 => ?_
    obtain ⟨c, v₀, h1, h2, _⟩ := lr2.cell x hx
    refine hW9 ?_
    clear hW9 WW9
    refine ⟨c, v₀, h1, h2, fun p e => ?_⟩
    refine hide fun WW9 hW9 => ?_
    obtain ⟨c', v', g1, g2, g3⟩ := lr.cell x hx
    refine hW9 ?_
    clear hW9 WW9
    rw [h1] at g1; cases g1
    refine hide fun WW9 hW9 => ?_
    obtain ⟨v, eq9_0, hv⟩ := g3 p e
    refine hW9 ?_
    clear hW9 WW9
    subst eq9_0
    have hnw := (hσ x p e).2 c h1
    refine hide fun WW9 hW9 => ?_
    obtain ⟨o, ho, hd⟩ := id g2
    refine hW9 ?_
    clear hW9 WW9
    refine hide fun WW9 hW9 => ?_
    obtain ⟨o', ho', hdd⟩ := (k.kept c o ho (dc_not_mut ok.hr (cell_dc g2)) hnw).data (.inr ⟨_, hd⟩)
    refine hW9 ?_
    clear hW9 WW9
    refine hide fun WW9 hW9 => ?_
    obtain ⟨o2, ho2, hd2⟩ := h2
    refine hW9 ?_
    clear hW9 WW9
    rw [ho'] at ho2; cases ho2
    rw [hdd, hd] at hd2; cases hd2
    exact ⟨v, rfl, k.vr ok lr hv⟩


noncomputable def EvE (G : Cx) (F : Fx) (e : Expr) (σ : Loc) (H : AH) (Q : PV → AH → Prop) (Er : AH → Shared → Value → Shared → Prop) : Prop := ∀ s, OkH G H s → LR G F σ s.heap → wpAny (model G.prog G.w) F.A (eval e F.env) (Post G H s Q) (Er H s) s
inductive CompI (G : Cx) (F : Fx) (σ : Loc) (n : Nat) (D : Addr) (fp wr : List Addr) (St : Nat → Heap → Prop) (inv : Nat → List PV → AH → Prop) (H : AH) (s : Shared) (k : Nat) (s' : Shared) : Prop where
  | mk (i : Nat) (acc : List PV) (H' : AH) (e : k = n + 1 - i) (hi : i ≤ n) (hinv : inv i acc H') (ok : OkH G H' s') (lr : LR G F σ s'.heap) (kp : KpI F.W (D :: wr) H s H' s') (st : St i s'.heap) (hD : H' D = none)
      (pl : ∃ vs, s'.heap.PlainList D (List.toArray vs) ∧ VRs s'.heap acc vs) (hal : acc.length ≤ i)
      (src : ∀ b ∈ fp, b ∈ wr ∨ ∃ o, s.heap.get? b = some o ∧ s'.heap.get? b = some o ∧ ¬ Mut H' b ∧ ¬ Soft o) (fx : ∀ b o, Fix o → s.heap.get? b = some o → s'.heap.get? b = some o) : CompI G F σ n D fp wr St inv H s k s'
theorem comp_src {elt target iter : Expr} {ifs : List Expr} {scope : Scope} {pos : Pos} {I D : Addr} {xs : List PV} {fp wr : List Addr} {P Md : Nat → Value → Heap → Prop} {St : Nat → Heap → Prop} {s : Shared}
    (S : Src G F.A target H s.heap I xs fp wr P Md St) (ok : OkH G H s) (lr : LR G F σ s.heap) (hD : H D = none) (hbD : G.base.get? D = none) (hacc : s.heap.PlainList D #[]) (hDfp : D ∉ fp) (hz : xs.length ≤ sizeLine)
    (hσ : ∀ x p, σ x = some p → (F.env.kindOf x = some .cell ∨ F.env.kindOf x = some .free) ∧ ∀ c, F.env.cells.lookup x = some c → ¬ F.W c)
    (inv : Nat → List PV → AH → Prop) (h0 : inv 0 [] H)
    {Er : AH → Shared → Value → Shared → Prop} (step : ∀ i x acc H', xs[i]? = some x → inv i acc H' → As G F target x σ H' (fun σ2 H2 => EvIfs G F ifs σ2 H2 (fun b H3 => if b then EvE G F elt σ2 H3 (fun y H4 => inv (i + 1) (acc ++ [y]) H4) Er else inv (i + 1) acc H3)))
    (R : Result → Shared → Prop) (herr : ∀ H5 s5 e s6, OkH G H5 s5 → LR G F σ s5.heap → KpI F.W (D :: wr) H s H5 s5 → Er H5 s5 e s6 → notedBy (model G.prog G.w) F.A F.env (fun x s' => R (.error x) s') e s6)
    (fin : ∀ acc H' s', inv xs.length acc H' → OkH G H' s' → LR G F σ s'.heap → KpI F.W (D :: wr) H s H' s' → H' D = none → (∃ vs, s'.heap.PlainList D (List.toArray vs) ∧ VRs s'.heap acc vs) → acc.length ≤ sizeLine → R (.ok .next) s') :
    codeAny (model G.prog G.w) F.A (.compLoop (.ListComp elt [⟨target, iter, ifs, 0⟩] scope pos) 0 (.ref I) (.ref D) F.env) R s := by
  have plD : ∀ {h : Heap} {vs : Array Value}, h.PlainList D vs → ∃ o, h.get? D = some o ∧ IsLst o := fun zz0 => by obtain ⟨n, hn⟩ := zz0; exact ⟨_, hn, isLst_mk _ _⟩
  have hDwr : ∀ i h, St i h → ∀ vs, h.PlainList D vs → D ∉ wr := fun i h st vs hp hm => by
    refine hide fun WW9 hW9 => ?_
    obtain ⟨o, ho, hod⟩ := S.odd i h st D hm
    refine hW9 ?_
    clear hW9 WW9
    refine hide fun WW9 hW9 => ?_
    obtain ⟨o', ho', hl⟩ := plD hp
    refine hW9 ?_
    clear hW9 WW9
    rw [ho] at ho'; cases ho'; exact hod.2.1 hl
  have lstdc : ∀ {o : Obj}, IsLst o → ¬ Soft o := fun h hd => hd.not_solid (.inr h)
  have kI : ∀ {W : Addr → Prop} {H H' : AH} {s s' : Shared}, KpI W wr H s H' s' → KpI W (D :: wr) H s H' s' := fun x =>
    ⟨x.os, fun b o e hm hw hb => x.kept b o e hm hw fun h => hb (List.mem_cons_of_mem _ h), fun b o e => (x.dom b o e).imp id fun h => h.imp (List.mem_cons_of_mem _) id, fun b o e hm hw hb => x.live b o e hm hw fun h => hb (List.mem_cons_of_mem _ h)⟩
  refine codeAny_loop rfl (CompI G F σ xs.length D fp wr St inv H s) ?_ (xs.length + 1)
    ⟨0, [], H, rfl, Nat.zero_le _, h0, ok, lr, (KpF.refl _ _ _).toI, S.st, hD, ⟨[], hacc, rfl⟩, Nat.le_refl _, fun b hb => (S.src b hb).imp id fun zz0 => by obtain ⟨o, h1, h2, h3⟩ := zz0; exact ⟨o, h1, h1, h2, h3⟩, fun _ _ _ e => e⟩
  intro k s1 zq9
  refine hide fun WW9 hW9 => ?_
  obtain ⟨i, acc, H1, eq9_0, hi, hinv, ok1, lr1, k1, hst, hD1, ⟨vs, hpl, hvs⟩, hal, hsrc, hfix⟩ := zq9
  refine hW9 ?_
  clear hW9 WW9
  subst eq9_0
  show wpAny _ F.A ((compTurn (.ListComp elt [⟨target, iter, ifs, 0⟩] scope pos) 0 (.ref I) (.ref D) F.env).onRaise (fun x => do noteFrame x F.env; theTreesLotGoes x)) _ _ s1
  refine wpAny_noted ?_
  rw [compTurn_list]
  refine wpAny_bind (wpAny_standAt (wpAny_bind ?_))
  have oddM : ∀ b ∈ wr, ¬ Mut H1 b := fun b hb hm => by
    refine hide fun WW9 hW9 => ?_
    obtain ⟨o, ho, hod⟩ := S.odd i _ hst b hb
    refine hW9 ?_
    clear hW9 WW9
    obtain ⟨xs, hx⟩ := hm
    refine hide fun WW9 hW9 => ?_
    obtain ⟨⟨vs, n, hl, _⟩, _⟩ := ok1.hr b _ hx
    refine hW9 ?_
    clear hW9 WW9
    rw [hl] at ho; cases ho; exact hod.2.1 (isLst_mk _ _)
  have fixk : ∀ (h h' : Heap), (∀ b ∈ wr, ∃ o, h.get? b = some o ∧ Odd o) → (∀ b o, b ∉ wr → h.get? b = some o → h'.get? b = some o) → ∀ b o, Fix o → h.get? b = some o → h'.get? b = some o := fun h h' hw hk b o hf e =>
    hk b o (fun hm => by obtain ⟨o', ho', hod⟩ := hw b hm; rw [ho'] at e; cases e; exact hod.1 hf) e
  have hDw := hDwr i _ hst _ hpl
  by_cases hlt : i < xs.length
  · refine wpAny_noE (S.K.item i s1 _ _ hlt hst fun v h2 tk2 hmd hk2 => ?_)
    obtain ⟨ok2, lr2⟩ := odd_step (tk := tk2) ok1 lr1 S.base (S.odd i _ hst) hk2
    have hw2 := S.oddM i v h2 hmd
    refine wpAny_bind (S.K.go i v _ _ _ hmd fun h3 hP hst3 hk3 => ?_)
    obtain ⟨ok3, lr3⟩ := odd_step (s := { s1 with heap := h2, toks := tk2 }) (tk := tk2) ok2 lr2 S.base hw2 hk3
    have k3 : KpI F.W (D :: wr) H s H1 { s1 with heap := h3, toks := tk2 } := (k1.trans (kI (odd_kpI (tk := tk2) hk2))).trans (kI (odd_kpI (s := { s1 with heap := h2, toks := tk2 }) (tk := tk2) hk3))
    have hfix3' : ∀ b o, Fix o → s1.heap.get? b = some o → h3.get? b = some o := fun b o hf e => fixk _ _ hw2 hk3 b o hf (fixk _ _ (S.odd i _ hst) hk2 b o hf e)
    have hfix3 : ∀ b o, Fix o → s.heap.get? b = some o → h3.get? b = some o := fun b o hf e => hfix3' b o hf (hfix b o hf e)
    refine hide fun WW9 hW9 => ?_
    obtain ⟨x, hx, hv⟩ := S.val i v h3 hfix3 hlt hP
    refine hW9 ?_
    clear hW9 WW9
    have hpl3 : h3.PlainList D vs.toArray := by obtain ⟨n, hn⟩ := hpl; exact ⟨n, hk3 _ _ hDw (hk2 _ _ hDw hn)⟩
    have hvs3 : VRs h3 acc vs := VRs.mono hfix3' _ _ hvs
    have hsrc3 : ∀ b ∈ fp, b ∈ wr ∨ ∃ o, s.heap.get? b = some o ∧ h3.get? b = some o ∧ ¬ Mut H1 b ∧ ¬ Soft o := fun b hb => by
      by_cases hbw : b ∈ wr
      · exact .inl hbw
      · rcases hsrc b hb with h | ⟨o, h1, h2, h3, h4⟩
        · exact .inl h
        · exact .inr ⟨o, h1, hk3 b o hbw (hk2 b o hbw h2), h3, h4⟩
    -- the target, the tests, the item
    refine wpAny_bind (wpAny_noE (wpAny_mono (step i x acc H1 hx hinv _ v ok3 lr3 hv) (fun _ s4 zz2 => zz2.on fun σ4 H4 ok4 lr4 k4 hif => ?_) fun _ _ x => x))
    have lr4' : LR G F σ s4.heap := LR.refr ok3 lr3 k4 lr4 hσ
    refine wpAny_bind (wpAny_noE (wpAny_mono (evIfs_ok ifs H4 s4 s4 H4 _ hif ok4 lr4 (Kp.refl _ _)) (fun b s5 zz2 => zz2.on fun H5 ok5 k5 hb => ?_) fun _ _ x => x))
    have k45 := k4.trans k5.toF
    have lr5 := lr4.kp ok4 k5
    have lr5' := lr4'.kp ok4 k5
    have keepX : ∀ {H6 : AH} {s6 : Shared}, KpF F.W H1 { s1 with heap := h3, toks := tk2 } H6 s6 → ∀ b o, h3.get? b = some o → ¬ Mut H1 b → ¬ Soft o → s6.heap.get? b = some o := fun k b o e hm hd => k.odd_kept lr3 e hm hd
    have nmD : ¬ Mut H1 D := not_mut_none hD1
    have after : ∀ {H6 : AH} {s6 : Shared}, KpF F.W H1 { s1 with heap := h3, toks := tk2 } H6 s6 → St (i + 1) s6.heap ∧ (∀ b ∈ fp, b ∈ wr ∨ ∃ o, s.heap.get? b = some o ∧ s6.heap.get? b = some o ∧ ¬ Mut H6 b ∧ ¬ Soft o) ∧ (∀ b o, Fix o → s.heap.get? b = some o → s6.heap.get? b = some o) ∧
        s6.heap.PlainList D vs.toArray ∧ VRs s6.heap acc vs ∧ H6 D = none := fun {H6 s6} k => by
      refine ⟨S.K.frame _ _ _ hst3 fun b hb o e => ?_, fun b hb => ?_, fun b o hf e => ?_, ?_, k.vrs ok3 lr3 hvs3, ?_⟩
      · rcases hsrc3 b hb with h | ⟨o', h1, h2, h3, h4⟩
        · refine hide fun WW9 hW9 => ?_
          obtain ⟨o', ho', hod⟩ := S.odd _ _ hst3 b h
          refine hW9 ?_
          clear hW9 WW9
          rw [ho'] at e; cases e
          exact keepX k b _ ho' (oddM b h) hod.2.2.1
        · rw [h2] at e; cases e; exact keepX k b _ h2 h3 h4
      · rcases hsrc3 b hb with h | ⟨o', h1, h2, h3, h4⟩
        · exact .inl h
        · exact .inr ⟨o', h1, keepX k b _ h2 h3 h4, k.nm (s := { s1 with heap := _, toks := tk2 }) h2 h3, h4⟩
      · exact keepX k b o (hfix3 b o hf e) (isL_not_mut ok3.hr (hfix3 b o hf e) (fix_not_lst hf)) (fix_not_soft hf)
      · obtain ⟨n, hn⟩ := hpl3; exact ⟨n, keepX k D _ hn nmD (lstdc (isLst_mk _ _))⟩
      · obtain ⟨n, hn⟩ := hpl3; exact k.dom.none hD1 hn
    cases b with
    | false =>
      refine hide fun WW9 hW9 => ?_
      obtain ⟨st5, src5, fix5, pl5, vs5, hD5⟩ := after k45
      refine hW9 ?_
      clear hW9 WW9
      exact wpAny_pure ⟨rfl, xs.length + 1 - (i + 1), by exact o9_12 hlt, i + 1, acc, H5, rfl, hlt, hb, ok5, lr5', k3.trans (k45.toI), st5, hD5, ⟨vs, pl5, vs5⟩, Nat.le_succ_of_le hal, src5, fix5⟩
    | true =>
      refine wpAny_bind (wpAny_bind (wpAny_mono (hb s5 ok5 lr5) (fun y s6 zz2 => zz2.on fun p H6 hp ok6 k6 hq => ?_) fun e s6 x => herr H5 s5 e s6 ok5 lr5' (k3.trans k45.toI) x))
      have k46 := k45.trans k6.toF
      refine hide fun WW9 hW9 => ?_
      obtain ⟨st6, src6, fix6, pl6, vs6, hD6⟩ := after k46
      refine hW9 ?_
      clear hW9 WW9
      have lr6' := lr5'.kp ok5 k6
      have hsz : vs.toArray.size ≤ sizeLine := by rw [List.size_toArray, hvs.length]; exact o9_14 hal hlt hz
      refine wpAny_bind (wpAny_list_append_plain (hsz := hsz) pl6 fun h7 pl7 hs7 => ?_)
      refine hide fun WW9 hW9 => ?_
      obtain ⟨ok7, lr7, vr7⟩ := acc_step ok6 lr6' hD6 hbD pl6 hs7
      refine hW9 ?_
      clear hW9 WW9
      refine wpAny_pure (wpAny_pure ⟨rfl, xs.length + 1 - (i + 1), by exact o9_12 hlt, i + 1, acc ++ [p], H6, rfl, hlt, hq, ok7, lr7, ?_, ?_, hD6, ⟨vs ++ [y], by simpa using pl7, ?_⟩, by rw [List.length_append]; simp; exact o9_15 hal, fun b hb => ?_, fun b o hf e => ?_⟩)
      · refine (k3.trans k46.toI).trans ⟨rfl, fun b o e _ _ hb => .of ((hs7.2 b fun h => hb (by rw [h]; exact List.mem_cons_self)).trans e), fun b o h => .inr (.inr ⟨o, h, id⟩), fun b o e _ _ hb => ⟨o, (hs7.2 b fun h => hb (by rw [h]; exact List.mem_cons_self)).trans e⟩⟩
      · exact S.K.frame _ _ _ st6 fun b hb o e => (hs7.2 b (by rintro rfl; exact hDfp hb)).trans e
      · obtain ⟨n, hn⟩ := pl6
        exact (VRs.mono (fun b o hf e => (hs7.2 b (by rintro rfl; rw [hn] at e; cases e; exact fix_not_lst hf (isLst_mk _ _))).trans e) _ _ vs6).append (VRs.one (vr7 _ _ hp))
      · have hbD' : b ≠ D := by rintro rfl; exact hDfp hb
        rcases src6 b hb with h | ⟨o, h1, h2, h3, h4⟩
        · exact .inl h
        · exact .inr ⟨o, h1, (hs7.2 b hbD').trans h2, h3, h4⟩
      · obtain ⟨n, hn⟩ := pl6
        exact (hs7.2 b (by rintro rfl; have := fix6 b o hf e; rw [hn] at this; cases this; exact fix_not_lst hf (isLst_mk _ _))).trans (fix6 b o hf e)
  · have hin : i = xs.length := by exact o9_13 hi hlt
    subst hin
    refine wpAny_noE (S.K.done s1 _ _ hst fun h2 tk2 hk2 => wpAny_pure ?_)
    obtain ⟨ok2, lr2⟩ := odd_step (tk := tk2) ok1 lr1 S.base (S.odd _ _ hst) hk2
    refine fin acc H1 _ hinv ok2 lr2 (k1.trans (kI (odd_kpI (tk := tk2) hk2))) hD1 ⟨vs, ?_, VRs.mono (fixk _ _ (S.odd _ _ hst) hk2) _ _ hvs⟩ (Nat.le_trans hal hz)
    obtain ⟨n, hn⟩ := hpl; exact ⟨n, hk2 _ _ hDw hn⟩
end
end Mine
open PySem PySem.W PyProof.Rows
set_option Elab.async false
set_option maxRecDepth 100000
namespace Mine
section
variable {G : Cx} {A : Around} {F : Fx} {σ : Loc} {H : AH}

theorem fresh_none {h : Heap} {a : Addr} (ha : h.objs.size ≤ a) : h.get? a = none := by
  cases e : h.get? a with
  | none => rfl
  | some o => exact absurd (Heap.lt_size e) (Nat.not_lt.mpr ha)

theorem lookup_of_mem {l : List (Str × NameKind)} {x : Str} {k : NameKind} (hn : (l.map (·.1)).Nodup) (hm : (x, k) ∈ l) : l.lookup x = some k := by
  induction l with
  | nil => cases hm
  | cons z r ih =>
    rw [List.map_cons, List.nodup_cons] at hn
    rw [List.lookup_cons]
    rcases List.mem_cons.mp hm with rfl | hm
    · simp
    · have : (x == z.1) = false := beq_eq_false_iff_ne.mpr fun e => hn.1 (by rw [← e]; exact List.mem_map.mpr ⟨_, hm, rfl⟩)
      rw [this]; exact ih hn.2 hm
theorem closL_only (env : Env) : ∀ (names : List (Str × NameKind)) (acc : List (Str × Addr)) (x : Str) (c : Addr), (x, c) ∈ closL env names acc → ((x, c) ∈ acc → (x, NameKind.free) ∈ names) → (x, NameKind.free) ∈ names
  | [], acc, x, c, h, ha => ha h
  | (n, k) :: r, acc, x, c, h, ha => by
    unfold closL at h
    split at h
    · rename_i hk
      by_cases hx : x = n
      · subst hx; rw [beq_iff_eq.mp hk]; exact List.mem_cons_self
      · refine List.mem_cons_of_mem _ (closL_only env r _ x c h fun hm => ?_)
        rcases List.mem_cons.mp hm with e | hm
        · cases e; exact absurd rfl hx
        · rcases List.mem_cons.mp (ha hm) with e | hm
          · cases e; exact absurd rfl hx
          · exact hm
    · rename_i hk
      refine List.mem_cons_of_mem _ (closL_only env r _ x c h fun hm => ?_)
      rcases List.mem_cons.mp (ha hm) with e | hm
      · cases e; exact absurd rfl hk
      · exact hm

noncomputable def CompStep (G : Cx) (F : Fx) (scope : Scope) (target elt : Expr) (ifs : List Expr) (σ : Loc) (xs : List PV) (inv : Nat → List PV → AH → Prop) : Prop :=
  ∀ F' : Fx, CF F F' scope → ∀ i x acc H', xs[i]? = some x → inv i acc H' → As G F' target x (σ.fr scope) H' (fun σ2 H2 => EvIfs G F' ifs σ2 H2 (fun b H3 => if b then Ev G F' elt σ2 H3 (fun y H4 => inv (i + 1) (acc ++ [y]) H4) else inv (i + 1) acc H3))

noncomputable def CompStepE (G : Cx) (F : Fx) (scope : Scope) (target elt : Expr) (ifs : List Expr) (σ : Loc) (xs : List PV) (inv : Nat → List PV → AH → Prop) (Er : Fx → AH → Shared → Value → Shared → Prop) : Prop :=
  ∀ F' : Fx, CF F F' scope → ∀ i x acc H', xs[i]? = some x → inv i acc H' → As G F' target x (σ.fr scope) H' (fun σ2 H2 => EvIfs G F' ifs σ2 H2 (fun b H3 => if b then EvE G F' elt σ2 H3 (fun y H4 => inv (i + 1) (acc ++ [y]) H4) (Er F') else inv (i + 1) acc H3))

theorem comp_block {elt target iter : Expr} {ifs : List Expr} {scope : Scope} {pos : Pos} {xs : List PV} {inv : Nat → List PV → AH → Prop} {use : Option (Value → Sem Unit)} {Q' : Value → Shared → Prop} {p : PV} {x : Value} {s : Shared}
    (hsc : scopeOk scope = true) (hfree : freeOk F scope) (ok : OkH G H s) {G0 : Cx} (lr : LR G0 F σ s.heap) (old : ∀ {H s}, OkH G H s → OkH G0 H s) (hx : VR s.heap p x) (hit : Iter G F.A target p H xs) (hz : xs.length ≤ sizeLine) (h0 : inv 0 [] H) {Er : Fx → AH → Shared → Value → Shared → Prop} {E : Value → Shared → Prop} (step : CompStepE G F scope target elt ifs σ xs inv Er)
    (herr : ∀ F' H5 s5 e s6 D C, F'.A = F.A → F'.env.frame = F.env.frame → OkH G H5 s5 → LR G F' (σ.fr scope) s5.heap → F'.env.locals = C → Kp H s H5 s5 → s.heap.get? C = none → (G.base.get? C = none ∧ ∀ o, ¬ G.D C o) → Er F' H5 s5 e s6 →
      notedBy (model G.prog G.w) F.A F'.env (fun x s' => compPost (model G.prog G.w) F.A E use Q' (.ref D) C (.error x) s') e s6)
    (fin : ∀ acc H' D C s', inv xs.length acc H' → H' D = none → acc.length ≤ sizeLine → OkH G (H'.set D (.lst acc)) s' → Kp H s (H'.set D (.lst acc)) s' → s.heap.get? C = none → (∃ m, s'.heap.Ns C m) → (G.base.get? C = none ∧ ∀ o, ¬ G.D C o) → compPost (model G.prog G.w) F.A E use Q' (.ref D) C (.ok .next) s') :
    wpAny (model G.prog G.w) F.A (pyIter x) (fun it s₂ => wpAny (model G.prog G.w) F.A (newList []) (fun acc s₃ =>
      wpAny (model G.prog G.w) F.A (newFunctionEnv scope F.env.globals (closL F.env scope.names []) [] F.env.qual none .none (some F.env)) (fun cenv s₄ =>
        codeAny (model G.prog G.w) F.A (.compStart (.ListComp elt [⟨target, iter, ifs, 0⟩] scope pos) 0 it acc { cenv with scope := relabel scope F.env }) (compPost (model G.prog G.w) F.A E use Q' acc cenv.locals) s₄) E s₃) E s₂) E s := by
  unfold scopeOk at hsc
  simp only [Bool.and_eq_true, beq_iff_eq, decide_eq_true_eq] at hsc
  refine hide fun WW9 hW9 => ?_
  obtain ⟨⟨hkind, hnok⟩, hnd⟩ := hsc
  refine hW9 ?_
  clear hW9 WW9
  have hlk : ∀ y ∈ scope.names, y.2 = .free → (F.env.cells.lookup y.1).isSome = true := fun y hy hk => by
    have hl : scope.names.lookup y.1 = some .free := lookup_of_mem hnd (by rw [← hk]; exact hy)
    refine hide fun WW9 hW9 => ?_
    obtain ⟨c, _, h1, _⟩ := lr.cell _ (hfree _ hl)
    refine hW9 ?_
    clear hW9 WW9
    rw [h1]; rfl
  refine wpAny_noE (wpAny_mono (hit s x ok hx) (fun it s2 zz2 => zz2.on fun I fp wr P Md St e ok2 k2 hw S => ?_) fun _ _ x => x)
  subst e
  refine wpAny_newList (hsz := by rw [sizeLine_eq]; exact Nat.zero_le _) (newEnv_comp ?_)
  -- the places
  generalize hDe : s2.heap.objs.size = D
  have hDf : s2.heap.get? D = none := fresh_none (Nat.le_of_eq hDe)
  generalize hH3 : s2.heap.push { cls := .type "list", data := .seq (List.toArray []) } = h3
  have hsz3 : h3.objs.size = D + 1 := by rw [← hH3, Heap.size_push, hDe]
  have hCeq : ({ s2 with heap := h3 } : Shared).heap.objs.size = D + 1 := hsz3
  dsimp only
  rw [hsz3]
  generalize hH4 : h3.push { cls := .type "dict", data := .dict #[] } = h4
  have hsz4 : h4.objs.size = D + 1 + 1 := by rw [← hH4, Heap.size_push, hsz3]
  generalize hH5 : pushCells h4 scope.names = h5
  have keep23 : ∀ b o, s2.heap.get? b = some o → h3.get? b = some o := fun b o e => hH3 ▸ Heap.get?_push_of_some _ e
  have keep34 : ∀ b o, h3.get? b = some o → h4.get? b = some o := fun b o e => hH4 ▸ Heap.get?_push_of_some _ e
  have keep45 : ∀ b o, h4.get? b = some o → h5.get? b = some o := fun b o e => hH5 ▸ pushCells_keeps _ _ b o e
  have keep25 : ∀ b o, s2.heap.get? b = some o → h5.get? b = some o := fun b o e => keep45 b o (keep34 b o (keep23 b o e))
  have hD5 : h5.PlainList D #[] := ⟨0, keep45 _ _ (keep34 _ _ (by rw [← hH3, ← hDe]; exact Heap.get?_push_size _ rfl))⟩
  have hC5 : h5.Ns (D + 1) fun _ => none := by
    have := (Heap.Ns.new h3 (.type "dict")).keeps (h' := h5) (fun b o e => keep45 b o (hH4 ▸ e))
    rwa [hsz3] at this
  have ok5 : OkH G H { s2 with heap := h5 } := ⟨fun b o e => keep25 b o (ok2.keep b o e), ok2.hr.other fun b o e _ => keep25 b o e, ok2.gens, ok2.dat.all keep25, ok2.tab.keep fun b o _ e => keep25 b o e⟩
  have lr2 := lr.kp (old ok) k2
  have hHD : H D = none := by rw [← hDe]; exact H_fresh ok2
  have hbase : ∀ b, D ≤ b → G.base.get? b = none ∧ ∀ o, ¬ G.D b o := fun b hb => by
    refine ⟨?_, fun o hD => ?_⟩
    · cases e : G.base.get? b with
      | none => rfl
      | some o => have := Heap.lt_size (ok2.keep _ _ e); rw [hDe] at this; exact absurd this (Nat.not_lt.mpr hb)
    · obtain ⟨o', h1, _⟩ := ok2.dat b o hD; have := Heap.lt_size h1; rw [hDe] at this; exact absurd this (Nat.not_lt.mpr hb)
  -- the frame
  let cs := cellsFrom (D + 1 + 1) scope.names (closL F.env scope.names [])
  let cenv : Env := { newEnv scope (D + 1) F.env.globals cs F.env.qual none .none (some F.env) builtinsNs with scope := relabel scope F.env }
  let F' : Fx := ⟨F.A, cenv, fun b => b = D + 1 ∨ (D + 1 + 1 ≤ b ∧ ∃ x, cs.lookup x = some b)⟩
  have hclm := closL_mem F.env scope.names [] hlk (fun _ _ h => by cases h)
  have hspec : ∀ x c, cs.lookup x = some c → ((closL F.env scope.names []).lookup x = some c ∧ (x, NameKind.cell) ∉ scope.names) ∨ ((x, NameKind.cell) ∈ scope.names ∧ D + 1 + 1 ≤ c ∧ h5.IsCell c none) := fun x c e => by
    have := cells_spec scope.names h4 (closL F.env scope.names []) x c (by rw [hsz4]; exact e)
    rw [hsz4, hH5] at this; exact this
  have oldc : ∀ x c, (closL F.env scope.names []).lookup x = some c → F.env.cells.lookup x = some c := fun x c e => hclm x c (mem_of_lookup e)
  have oldlt : ∀ x c, F.env.cells.lookup x = some c → (F.env.kindOf x = some .cell ∨ F.env.kindOf x = some .free) → c < D := fun x c e hk => by
    refine hide fun WW9 hW9 => ?_
    obtain ⟨c', v₀, h1, ⟨o, ho, _⟩, _⟩ := lr2.cell x hk
    refine hW9 ?_
    clear hW9 WW9
    rw [h1] at e; cases e; rw [← hDe]; exact Heap.lt_size ho
  have kindF' : ∀ x, F'.env.kindOf x = (scope.names.lookup x).map fun k => if (k == NameKind.free && F.env.scope.kind == .function && F.env.kindOf x == some .cell) = true then NameKind.cell else k := fun x => lookup_relabel
  have hcf : CF F F' scope := by
    refine ⟨rfl, fun x k hx hk => ?_, fun x hx => ?_, fun x hx => ?_⟩
    · rw [kindF', hx]
      have : (k == NameKind.free) = false := beq_eq_false_iff_ne.mpr hk
      simp only [this, Bool.false_and, Bool.false_eq_true, if_false, Option.map_some]
    · rw [kindF', hx, Option.map_some]
      split
      · exact .inl rfl
      · exact .inr rfl
    · rcases hx with hx | hx
      · left; rw [kindF', hx]; rfl
      · right
        refine ⟨by rw [kindF', hx]; rfl, fun c hc => ?_⟩
        rcases hspec x c hc with ⟨_, h2⟩ | ⟨_, h1, _⟩
        · exact absurd (mem_of_lookup hx) h2
        · exact .inr ⟨h1, x, hc⟩
  have hσfr : ∀ x q, σ.fr scope x = some q → scope.names.lookup x = some .free ∧ σ x = some q := fun x q e => by
    unfold Loc.fr at e
    split at e
    · rename_i hb; exact ⟨by simpa using hb, e⟩
    · cases e
  have notcell : ∀ x, scope.names.lookup x = some .free → (x, NameKind.cell) ∉ scope.names := fun x hx hm => by
    rw [lookup_of_mem hnd hm] at hx; cases hx
  have hlkfree : ∀ x, scope.names.lookup x = some .free → ∃ c, cs.lookup x = some c ∧ F.env.cells.lookup x = some c := fun x hx => by
    have h1 := closL_has F.env scope.names [] x (.inl (mem_of_lookup hx))
    obtain ⟨c, hc⟩ := Option.isSome_iff_exists.mp h1
    have h2 : (cs.lookup x).isSome = true := cellsFrom_isSome _ _ _ (.inr (by rw [hc]; rfl))
    obtain ⟨c', hc'⟩ := Option.isSome_iff_exists.mp h2
    rcases hspec x c' hc' with ⟨h3, _⟩ | ⟨h3, _⟩
    · exact ⟨c', hc', oldc x c' h3⟩
    · exact absurd h3 (notcell x hx)
  have hσ' : ∀ x q, σ.fr scope x = some q → (F'.env.kindOf x = some .cell ∨ F'.env.kindOf x = some .free) ∧ ∀ c, F'.env.cells.lookup x = some c → ¬ F'.W c := fun x q e => by
    obtain ⟨h1, h2⟩ := hσfr x q e
    refine ⟨hcf.free x h1, fun c hc => ?_⟩
    refine hide fun WW9 hW9 => ?_
    obtain ⟨c', h3, h4⟩ := hlkfree x h1
    refine hW9 ?_
    clear hW9 WW9
    have hc' : cs.lookup x = some c := hc
    have hcc : c' = c := by rw [h3] at hc'; exact Option.some.inj hc'
    subst hcc
    have hlt := oldlt x c' h4 (hfree x h1)
    rintro (h | ⟨h, _⟩)
    · rw [h] at hlt; exact absurd hlt (Nat.not_lt.mpr (Nat.le_succ _))
    · exact absurd hlt (Nat.not_lt.mpr (Nat.le_trans (Nat.le_add_right D 2) h))
  have lr5 : LR G F' (σ.fr scope) h5 := by
    refine ⟨fun b hb => ?_, fun b hb => ?_, .inl rfl, hkind, ?_, lr.glob, lr.blt, ⟨_, hC5, fun x q e hk => ?_⟩, fun x q e => .inr (hσ' x q e).1, fun x hx => ?_, ?_⟩
    · rcases hb with rfl | ⟨h, _⟩
      · exact hbase _ (Nat.le_succ _)
      · exact hbase _ (Nat.le_trans (Nat.le_add_right D 2) h)
    · rcases hb with rfl | ⟨h, x, hx⟩
      · exact ns_dc hC5
      · rcases hspec x b hx with ⟨h1, _⟩ | ⟨_, _, h2⟩
        · have h3 := oldc x b h1
          have hk : (x, NameKind.free) ∈ scope.names ∨ False := .inl (closL_only F.env scope.names [] x b (mem_of_lookup h1) (fun h => by cases h))
          have hlt := oldlt x b h3 (hfree x (lookup_of_mem hnd (hk.resolve_right id)))
          exact absurd hlt (Nat.not_lt.mpr (Nat.le_trans (Nat.le_add_right D 2) h))
        · exact cell_dc h2
    · show namesOk (relabel scope F.env) = true
      unfold namesOk relabel
      rw [List.all_map]
      unfold namesOk at hnok
      rw [List.all_eq_true] at hnok ⊢
      intro y hy
      have := hnok y hy
      obtain ⟨n, k⟩ := y
      simp only [Function.comp]
      split <;> exact this
    · rcases (hσ' x q e).1 with h | h <;> (rw [hk] at h; cases h)
    · rw [kindF'] at hx
      cases hl : scope.names.lookup x with
      | none => rw [hl] at hx; simp at hx
      | some k =>
        by_cases hkf : k = .free
        · subst hkf
          refine hide fun WW9 hW9 => ?_
          obtain ⟨c, h1, h2⟩ := hlkfree x hl
          refine hW9 ?_
          clear hW9 WW9
          refine hide fun WW9 hW9 => ?_
          obtain ⟨c', v₀, g1, g2, g3⟩ := lr2.cell x (hfree x hl)
          refine hW9 ?_
          clear hW9 WW9
          rw [h2] at g1; cases g1
          refine ⟨c, v₀, h1, g2.keeps keep25, fun q e => ?_⟩
          refine hide fun WW9 hW9 => ?_
          obtain ⟨v, e1, e2⟩ := g3 q (hσfr x q e).2
          refine hW9 ?_
          clear hW9 WW9
          exact ⟨v, e1, VR.mono (fun b o _ e => keep25 b o e) _ _ e2⟩
        · have hkc : k = .cell := by
            rw [hl, Option.map_some] at hx
            have hb : (k == NameKind.free) = false := beq_eq_false_iff_ne.mpr hkf
            simp only [hb, Bool.false_and, Bool.false_eq_true, if_false] at hx
            rcases hx with h | h
            · cases h; rfl
            · cases h; exact absurd rfl hkf
          subst hkc
          have hs := cellsFrom_isSome scope.names (D + 1 + 1) (closL F.env scope.names []) (x := x) (.inl (mem_of_lookup hl))
          obtain ⟨c, hc⟩ := Option.isSome_iff_exists.mp hs
          rcases hspec x c hc with ⟨_, h2⟩ | ⟨_, _, h2⟩
          · exact absurd (mem_of_lookup hl) h2
          · refine ⟨c, _, hc, h2, fun q e => ?_⟩
            rw [(hσfr x q e).1] at hl; cases hl
    · show cs.Pairwise _
      refine cells_apart _ _ _ (pairwise_of_names lr.apart _ (closL_names F.env scope.names [] (by simpa using hnd)) hclm) fun y hy => ?_
      have hm := closL_only F.env scope.names [] y.1 y.2 hy (fun h => by cases h)
      have := oldlt y.1 y.2 (hclm y.1 y.2 hy) (hfree _ (lookup_of_mem hnd hm))
      exact Nat.lt_of_lt_of_le this (Nat.le_add_right D 2)
  have S5 : Src G F'.A target H h5 I xs fp wr P Md St :=
    ⟨S.K, S.K.frame _ _ _ S.st fun b _ o e => keep25 b o e, S.odd, S.oddM, S.base, S.self, fun b hb => (S.src b hb).imp id fun zz0 => by obtain ⟨o, h1, h2, h3⟩ := zz0; exact ⟨o, keep25 b o h1, h2, h3⟩, fun i v h' hk hi hP => S.val i v h' (fun b o hf e => hk b o hf (keep25 b o e)) hi hP⟩
  have hDfp : D ∉ fp := fun hm => by
    rcases S.src D hm with h | ⟨o, h1, _⟩
    · obtain ⟨o, ho, _⟩ := S.odd 0 _ S.st D h; rw [hDf] at ho; cases ho
    · rw [hDf] at h1; cases h1
  have sD : ∀ b, D ≤ b → s.heap.get? b = none := fun b hb => by
    have h2 : s2.heap.get? b = none := fresh_none (by rw [hDe]; exact hb)
    have hHb : H b = none := by
      cases e : H b with
      | none => rfl
      | some o => obtain ⟨⟨vs, n, hl, _⟩, _⟩ := ok2.hr _ _ e; have hl' : s2.heap.get? b = some _ := hl; rw [h2] at hl'; cases hl'
    exact k2.back (not_mut_none hHb) h2
  have kn : ∀ {H' Hn : AH} {s' : Shared}, KpI F'.W (D :: wr) H { s2 with heap := h5 } H' s' → (∀ b, b ≠ D → Hn b = H' b) → Kp H s Hn s' := fun {H' Hn s'} k' hHn => by
    have ltD : ∀ b o, s.heap.get? b = some o → b < D := fun b o e => Nat.lt_of_not_le fun hb => by rw [sD b hb] at e; cases e
    have nW : ∀ b, b < D → ¬ F'.W b := fun b hb h => by
      rcases h with h | ⟨h, _⟩
      · rw [h] at hb; exact absurd hb (Nat.not_lt.mpr (Nat.le_succ _))
      · exact absurd hb (Nat.not_lt.mpr (Nat.le_trans (Nat.le_add_right D 2) h))
    have nwr : ∀ b o, s.heap.get? b = some o → b ∉ D :: wr := fun b o e h => by
      rcases List.mem_cons.mp h with rfl | h
      · exact absurd (ltD _ _ e) (Nat.lt_irrefl _)
      · rw [hw b h] at e; cases e
    refine ⟨k'.os.trans k2.os, fun b o e hm => (k2.kept b o e hm).step fun o' e' => k'.kept b o' (keep25 b o' e') hm (nW b (ltD b o e)) (nwr b o e), fun b o e => ?_⟩
    by_cases hb : b = D
    · exact .inl (sD b (Nat.le_of_eq hb.symm))
    · rw [hHn b hb] at e
      have back : ¬ Mut H b → h5.get? b = none → s.heap.get? b = none := fun hm h => by
        cases e : s.heap.get? b with
        | none => rfl
        | some o => obtain ⟨o', h1, _⟩ := k2.kept b o e hm; rw [keep25 b o' h1] at h; cases h
      rcases k'.dom b o e with h | h | h
      · cases hHb : H b with
        | none => exact .inl (back (not_mut_none hHb) h)
        | some o' =>
          cases o' with
          | lst ys => exact .inr ⟨_, rfl, fun _ => rfl⟩
          | fro ys => exact .inl (back (not_mut_fro hHb) h)
      · rcases List.mem_cons.mp h with rfl | h
        · exact absurd rfl hb
        · exact .inl (hw b h)
      · exact .inr h
  have loop : codeAny (model G.prog G.w) F'.A (.compLoop (.ListComp elt [⟨target, iter, ifs, 0⟩] scope pos) 0 (.ref I) (.ref D) F'.env) (compPost (model G.prog G.w) F.A E use Q' (.ref D) (D + 1)) { s2 with heap := h5 } := by
    refine comp_src (s := { s2 with heap := h5 }) S5 ok5 lr5 hHD (hbase D (Nat.le_refl _)).1 hD5 hDfp hz hσ' inv h0 (step F' hcf) _ (fun H5 s5 e s6 ok5' lr5' k5' he => herr F' H5 s5 e s6 D (D + 1) rfl rfl ok5' lr5' rfl (kn k5' fun _ _ => rfl) (sD _ (Nat.le_succ _)) (hbase _ (Nat.le_succ _)) he) fun acc H' s' hinv ok' lr' k' hD' zz8 hal => zz8.elim fun vs zz8 => zz8.elim fun hpl hvs => ?_
    have okn : OkH G (H'.set D (.lst acc)) s' := ⟨ok'.keep, fun a o e => by
      unfold AH.set at e
      by_cases ha : a = D
      · rw [if_pos ha] at e; cases e; subst ha
        obtain ⟨n, hn⟩ := hpl
        exact ⟨⟨vs, n, hn, hvs, hal⟩, fun _ _ => (hbase _ (Nat.le_refl _)).1⟩
      · rw [if_neg ha] at e; exact ok'.hr a o e, ok'.gens, ok'.dat, ok'.tab⟩
    refine hide fun WW9 hW9 => ?_
    obtain ⟨m, hm, _⟩ := lr'.ns
    refine hW9 ?_
    clear hW9 WW9
    exact fin acc H' D (D + 1) s' hinv hD' hal okn (kn k' fun b hb => by unfold AH.set; rw [if_neg hb]) (sD _ (Nat.le_succ _)) ⟨m, hm⟩ (hbase _ (Nat.le_succ _))
  exact codeAny_compStart_list loop (S5.self _ _ _ S5.st loop)
end
end Mine
open PySem PySem.W PyProof.Rows
set_option Elab.async false
set_option maxRecDepth 100000
namespace Mine
section
variable {G : Cx} {A : Around} {F : Fx} {σ : Loc} {H : AH}


theorem gone_step {Hn : AH} {s0 s : Shared} {C : Addr} {h' : Heap} {m : Str → Option Value} (ok : OkH G Hn s) (k : Kp H s0 Hn s) (hC : s0.heap.get? C = none) (hn : s.heap.Ns C m) (hb : G.base.get? C = none ∧ ∀ o, ¬ G.D C o) (hs : Heap.SameBut C s.heap h') :
    OkH G Hn { s with heap := h' } ∧ Kp H s0 Hn { s with heap := h' } ∧ (∀ p v, VR s.heap p v → VR h' p v) := by
  obtain ⟨o, ho, hd⟩ := ns_dc hn
  have kk : ∀ b o, s.heap.get? b = some o → Fix o ∨ IsLst o → h'.get? b = some o := fun b o' e hf => (hs.2 b (by rintro rfl; rw [ho] at e; cases e; exact hd.not_solid hf)).trans e
  exact ⟨⟨fun b o e => (hs.2 b (by rintro rfl; rw [hb.1] at e; cases e)).trans (ok.keep b o e), ok.hr.other kk, ok.gens, ok.dat.dc fun b o _ hD e => (hs.2 b (by rintro rfl; obtain ⟨o', hD⟩ := hD; exact hb.2 _ hD)).trans e, ok.tab.keep fun b o' hl e => (hs.2 b (by rintro rfl; rw [ho] at e; cases e; exact hl.not_dc hd)).trans e⟩,
    ⟨k.os, fun b o e hm => (k.kept b o e hm).step fun o' e' => .of ((hs.2 b (by rintro rfl; rw [hC] at e; cases e)).trans e'), k.dom⟩, fun p v hv => VR.mono (fun b o hf e => kk b o e (.inl hf)) p v hv⟩

theorem scope_names_local {scope : Scope} (hsc : scopeOk scope = true) : ∀ x ∈ scope.names, x.2 = .local → scope.names.lookup x.1 = some .local := fun x hx hk => by
  unfold scopeOk at hsc
  simp only [Bool.and_eq_true, decide_eq_true_eq] at hsc
  exact lookup_of_mem hsc.2 (by rw [← hk]; exact hx)
theorem scope_kind {scope : Scope} (hsc : scopeOk scope = true) : scope.kind = .function := by
  unfold scopeOk at hsc
  simp only [Bool.and_eq_true, beq_iff_eq] at hsc
  exact hsc.1.1
theorem clos_ok {scope : Scope} {h : Heap} (hsc : scopeOk scope = true) (hfree : freeOk F scope) (lr : LR G F σ h) : closureFor scope F.env = pure (closL F.env scope.names []) :=
  closureFor_eq F.env scope fun y hy hk => by
    unfold scopeOk at hsc
    simp only [Bool.and_eq_true, decide_eq_true_eq] at hsc
    obtain ⟨c, _, h1, _⟩ := lr.cell _ (hfree _ (lookup_of_mem hsc.2 (by rw [← hk]; exact hy)))
    rw [h1]; rfl

theorem Ev_ListComp {elt target iter : Expr} {ifs : List Expr} {scope : Scope} {pos : Pos} {Q : PV → AH → Prop} (hsc : scopeOk scope = true) (hfree : freeOk F scope)
    (h : Ev G F iter σ H (fun p H1 => ∃ (xs : List PV) (inv : Nat → List PV → AH → Prop), Iter G F.A target p H1 xs ∧ xs.length ≤ sizeLine ∧ inv 0 [] H1 ∧ CompStep G F scope target elt ifs σ xs inv ∧
      ∀ acc H', inv xs.length acc H' → ∀ a, H' a = none → Q (.ref a) (H'.set a (.lst acc))))
    (hs : ∀ x, foldedSetIterable iter F.env x = pure x := by intro _; rfl) : Ev G F (.ListComp elt [⟨target, iter, ifs, 0⟩] scope pos) σ H Q := by
  intro s ok lr
  rw [eval_ListComp]
  refine wpAny_comprehension_free (g := ⟨target, iter, ifs, 0⟩) (gs := []) rfl hs (clos_ok hsc hfree lr) (scope_kind hsc) (scope_names_local hsc) ?_
  refine wpAny_mono (h s ok lr) (fun x s1 zz2 => zz2.on fun p H1 hx ok1 k1 zz2_5 => zz2_5.elim fun xs zz2_5 => zz2_5.elim fun inv zz2_5 => zz2_5.elim fun hit zz2_5 => zz2_5.elim fun hz zz2_5 => zz2_5.elim fun h0 zz2_5 => zz2_5.elim fun hstep hfin => ?_) fun _ _ x => x
  refine comp_block (E := NoE) (Er := fun _ _ _ => NoE) hsc hfree ok1 (lr.kp ok k1) id hx hit hz h0 hstep (fun _ _ _ _ _ _ _ _ _ _ _ _ _ _ _ h => h.elim) fun acc H' D C s' hinv hD hal okn kn hC zz11 hb => zz11.elim fun m hm => ?_
  refine ⟨m, hm, fun h' hs' => ?_⟩
  refine hide fun WW9 hW9 => ?_
  obtain ⟨ok2, k2, _⟩ := gone_step okn kn hC hm hb hs'
  refine hW9 ?_
  clear hW9 WW9
  exact ⟨.ref D, _, rfl, ok2, k1.trans k2, hfin acc H' hinv D hD⟩

theorem wpAny_AssignComp {elt target iter : Expr} {ifs : List Expr} {scope : Scope} {cpos npos pos : Pos} {y : Str} {Q : Flow → Shared → Prop} {E : Value → Shared → Prop} {s : Shared} (hfn : F.env.scope.kind = .function) (hk : F.env.kindOf y = some .local)
    (hline : (npos.line == cpos.line) = true) (hny : scope.names.any (fun x => x.1 == y && (x.2 == .local || x.2 == .cell)) = false)
    (h : wpAny (model G.prog G.w) F.A (comprehension (.ListComp elt [⟨target, iter, ifs, 0⟩] scope cpos) scope F.env (firstIterPos [⟨target, iter, ifs, 0⟩] cpos) (newList []) (firstAsync [⟨target, iter, ifs, 0⟩]) (firstIter [⟨target, iter, ifs, 0⟩] F.env) (some fun v => assignAll v ((assignEach [.Name y npos] F.env).map (·.2))))
      (fun _ s' => Q .next s') E s) : wpAny (model G.prog G.w) F.A (exec (.Assign [.Name y npos] (.ListComp elt [⟨target, iter, ifs, 0⟩] scope cpos) pos) F.env) Q E s := by
  have hsw : swapsWith (.ListComp elt [⟨target, iter, ifs, 0⟩] scope cpos) (some (.Name y npos)) pos.line F.env = pure true := by
    show pure (F.env.blockKind == .function && F.env.kindOf y == some .local && npos.line == (Expr.ListComp elt [⟨target, iter, ifs, 0⟩] scope cpos).pos.line && !(scope.names.any fun (n, k) => n == y && (k == .local || k == .cell))) = pure true
    have e1 : F.env.blockKind = .function := by unfold Env.blockKind; rw [hfn]; rfl
    rw [e1, hk]
    have e2 : (npos.line == (Expr.ListComp elt [⟨target, iter, ifs, 0⟩] scope cpos).pos.line) = true := hline
    have e3 : (scope.names.any fun (n, k) => n == y && (k == .local || k == .cell)) = false := hny
    rw [e2, e3]; rfl
  have he : exec (.Assign [.Name y npos] (.ListComp elt [⟨target, iter, ifs, 0⟩] scope cpos) pos) F.env = (do
      standAt pos
      if ← swapsWith (.ListComp elt [⟨target, iter, ifs, 0⟩] scope cpos) (some (.Name y npos)) pos.line F.env then do
        evalThenUse (.ListComp elt [⟨target, iter, ifs, 0⟩] scope cpos) F.env fun v => assignAll v ((assignEach [.Name y npos] F.env).map (·.2))
        pure .next
      else do
        let v ← eval (.ListComp elt [⟨target, iter, ifs, 0⟩] scope cpos) F.env
        assignStores F.env v (← swappedStores [.Name y npos] (.ListComp elt [⟨target, iter, ifs, 0⟩] scope cpos) F.env) ((assignEach [.Name y npos] F.env).map (·.2))) := rfl
  have hu : (evalThenUse (.ListComp elt [⟨target, iter, ifs, 0⟩] scope cpos) F.env fun v => assignAll v ((assignEach [.Name y npos] F.env).map (·.2))) = (do
      let _ ← comprehension (.ListComp elt [⟨target, iter, ifs, 0⟩] scope cpos) scope F.env (firstIterPos [⟨target, iter, ifs, 0⟩] cpos) (newList []) (firstAsync [⟨target, iter, ifs, 0⟩]) (firstIter [⟨target, iter, ifs, 0⟩] F.env) (some fun v => assignAll v ((assignEach [.Name y npos] F.env).map (·.2)))
      pure ()) := rfl
  rw [he, hsw, hu]
  refine wpAny_bind (wpAny_standAt (wpAny_bind (wpAny_pure ?_)))
  simp only [if_true]
  refine wpAny_bind (wpAny_bind ?_)
  exact wpAny_mono h (fun _ _ x => wpAny_pure (wpAny_pure x)) fun _ _ x => x


theorem Ex_AssignComp {elt target iter : Expr} {ifs : List Expr} {scope : Scope} {cpos npos pos : Pos} {y : Str} {Q : PF → Loc → AH → Prop} (hsc : scopeOk scope = true) (hfree : freeOk F scope) (hk : F.env.kindOf y = some .local)
    (hline : (npos.line == cpos.line) = true) (hny : scope.names.any (fun x => x.1 == y && (x.2 == .local || x.2 == .cell)) = false)
    (h : Ev G F iter σ H (fun p H1 => ∃ (xs : List PV) (inv : Nat → List PV → AH → Prop), Iter G F.A target p H1 xs ∧ xs.length ≤ sizeLine ∧ inv 0 [] H1 ∧ CompStep G F scope target elt ifs σ xs inv ∧
      ∀ acc H', inv xs.length acc H' → ∀ a, H' a = none → Q .next (σ.set y (.ref a)) (H'.set a (.lst acc))))
    (hs : ∀ x, foldedSetIterable iter F.env x = pure x := by intro _; rfl) : Ex G F (.Assign [.Name y npos] (.ListComp elt [⟨target, iter, ifs, 0⟩] scope cpos) pos) σ H Q := by
  intro s ok lr
  refine wpAny_AssignComp lr.fn hk hline hny ?_
  refine wpAny_comprehension_free (g := ⟨target, iter, ifs, 0⟩) (gs := []) rfl hs (clos_ok hsc hfree lr) (scope_kind hsc) (scope_names_local hsc) ?_
  refine wpAny_mono (h s ok lr) (fun x s1 zz2 => zz2.on fun p H1 hx ok1 k1 zz2_5 => zz2_5.elim fun xs zz2_5 => zz2_5.elim fun inv zz2_5 => zz2_5.elim fun hit zz2_5 => zz2_5.elim fun hz zz2_5 => zz2_5.elim fun h0 zz2_5 => zz2_5.elim fun hstep hfin => ?_) fun _ _ x => x
  refine comp_block (E := NoE) (Er := fun _ _ _ => NoE) hsc hfree ok1 (lr.kp ok k1) id hx hit hz h0 hstep (fun _ _ _ _ _ _ _ _ _ _ _ _ _ _ _ h => h.elim) fun acc H' D C s' hinv hD hal okn kn hC zz11 hb => zz11.elim fun m hm => ?_
  have lr1 := lr.kp ok k1
  have lrn := lr1.kp ok1 kn
  show wpAny _ _ (assign (.Name y npos) F.env (.ref D)) _ _ _
  refine wpAny_assign_Name (wpAny_mono (storeName_ok (A := F.A) (Q := fun σ' H2 => Q .next σ' H2) (p := .ref D) (.inl hk) okn lrn rfl (hfin acc H' hinv D hD)) (fun _ s2 zz2 => zz2.on fun σ' H2 ok2 lr2 k2 hq => ?_) fun _ _ x => x)
  -- the map of the comprehension's frame goes
  have hCL : C ≠ F.env.locals := by
    rintro rfl; obtain ⟨o, ho, _⟩ := ns_dc (lr1.ns.choose_spec.1); rw [hC] at ho; cases ho
  have hCW : ¬ F.W C := fun hw => by obtain ⟨o, ho, _⟩ := lr1.odd C hw; rw [hC] at ho; cases ho
  refine hide fun WW9 hW9 => ?_
  obtain ⟨oC, hoC, hdC⟩ := ns_dc hm
  refine hW9 ?_
  clear hW9 WW9
  have hnm := dc_not_mut okn.hr ⟨oC, hoC, hdC⟩
  have hm2 : s2.heap.Ns C m := by obtain ⟨o, es, ep, ho, r⟩ := hm; obtain ⟨o', h1, h2⟩ := (k2.kept C o ho hnm hCW).data (.inl ⟨_, _, r.1⟩); exact ⟨o', es, ep, h1, h2.trans r.1, r.2⟩
  refine ⟨m, hm2, fun h' hs' => ?_⟩
  refine hide fun WW9 hW9 => ?_
  obtain ⟨o2, ho2, hd2⟩ := ns_dc hm2
  refine hW9 ?_
  clear hW9 WW9
  have kk : ∀ b o, s2.heap.get? b = some o → Fix o ∨ IsLst o → h'.get? b = some o := fun b o' e hf => (hs'.2 b (by rintro rfl; rw [ho2] at e; cases e; exact hd2.not_solid hf)).trans e
  have vv : ∀ p v, VR s2.heap p v → VR h' p v := fun p v hv => VR.mono (fun b o hf e => kk b o e (.inl hf)) p v hv
  have lcell : ∀ x, (F.env.kindOf x = some .cell ∨ F.env.kindOf x = some .free) → ∀ c, F.env.cells.lookup x = some c → c ≠ C := fun x hx c hc => by
    rintro rfl
    refine hide fun WW9 hW9 => ?_
    obtain ⟨c', v₀, g1, ⟨o, ho, _⟩, _⟩ := lr1.cell x hx
    refine hW9 ?_
    clear hW9 WW9
    rw [hc] at g1; cases g1; rw [hC] at ho; cases ho
  refine ⟨.next, σ', H2, rfl, ⟨fun b o e => (hs'.2 b (by rintro rfl; rw [hb.1] at e; cases e)).trans (ok2.keep b o e), ok2.hr.other kk, ok2.gens, ok2.dat.dc fun b o _ hD e => (hs'.2 b (by rintro rfl; obtain ⟨o', hD⟩ := hD; exact hb.2 _ hD)).trans e, ok2.tab.keep fun b o' hl e => (hs'.2 b (by rintro rfl; rw [ho2] at e; cases e; exact hl.not_dc hd2)).trans e⟩, ?_, ?_, hq⟩
  · refine hide fun WW9 hW9 => ?_
    obtain ⟨m2, hn2, hmm⟩ := lr2.ns
    refine hW9 ?_
    clear hW9 WW9
    refine ⟨lr2.own, fun b hw => ?_, lr2.wloc, lr2.fn, lr2.nok, lr2.glob, lr2.blt, ⟨m2, hn2.sameBut hs' (Ne.symm hCL), fun x p e1 e2 => ?_⟩, lr2.kinds, fun x hx => ?_, lr2.apart⟩
    · refine hide fun WW9 hW9 => ?_
      obtain ⟨o, ho, hd⟩ := lr2.odd b hw
      refine hW9 ?_
      clear hW9 WW9
      exact ⟨o, (hs'.2 b (by rintro rfl; exact hCW hw)).trans ho, hd⟩
    · obtain ⟨v, h1, h2⟩ := hmm x p e1 e2; exact ⟨v, h1, vv _ _ h2⟩
    · refine hide fun WW9 hW9 => ?_
      obtain ⟨c, v₀, h1, h2, h3⟩ := lr2.cell x hx
      refine hW9 ?_
      clear hW9 WW9
      refine ⟨c, v₀, h1, h2.sameBut hs' (lcell x hx c h1), fun p e => ?_⟩
      obtain ⟨v, e1, e2⟩ := h3 p e; exact ⟨v, e1, vv _ _ e2⟩
  · have k12 := (k1.toF (W := F.W)).trans ((kn.toF (W := F.W)).trans k2)
    exact ⟨k12.os, fun b o e hmm hw => (k12.kept b o e hmm hw).step fun o' e' => .of ((hs'.2 b (by rintro rfl; have := k1.back hmm hC; rw [this] at e; cases e)).trans e'), k12.dom, fun b o e hm hw => by
      obtain ⟨o', ho'⟩ := k12.live b o e hm hw
      exact ⟨o', (hs'.2 b (by rintro rfl; exact hCW hw)).trans ho'⟩⟩
end
end Mine
open PySem PySem.W PyProof.Rows
set_option Elab.async false
set_option maxRecDepth 100000
namespace Mine
section
variable {G : Cx} {A : Around} {F : Fx} {σ : Loc} {H : AH}


variable {i j : Int} {Q : PV → AH → Prop}
theorem op_add (h : Q (.int (i + j)) H) : Op2 G A (binaryOp .Add) (.int i) (.int j) H Q := by
  rintro s _ _ ok ⟨t, rfl⟩ ⟨u, rfl⟩; exact wpAny_add_int (post_toks (p := .int (i + j)) ok ⟨_, rfl⟩ h)
theorem op_iadd (h : Q (.int (i + j)) H) : Op2 G A (inplaceOp .Add) (.int i) (.int j) H Q := by
  rintro s _ _ ok ⟨t, rfl⟩ ⟨u, rfl⟩; exact wpAny_iadd_int (post_toks (p := .int (i + j)) ok ⟨_, rfl⟩ h)
theorem op_sub (h : Q (.int (i - j)) H) : Op2 G A (binaryOp .Sub) (.int i) (.int j) H Q := by
  rintro s _ _ ok ⟨t, rfl⟩ ⟨u, rfl⟩; exact PyProof.Rows.sub_int (post_toks (p := .int (i - j)) ok ⟨_, rfl⟩ h)
theorem op_mul (hm : IntMulOk i j) (h : Q (.int (i * j)) H) : Op2 G A (binaryOp .Mult) (.int i) (.int j) H Q := by
  rintro s _ _ ok ⟨t, rfl⟩ ⟨u, rfl⟩; exact PyProof.Rows.mul_int (hm := hm) (post_toks (p := .int (i * j)) ok ⟨_, rfl⟩ h)
theorem op_mod (hj : j ≠ 0) (h : Q (.int (i.fmod j)) H) : Op2 G A (binaryOp .Mod) (.int i) (.int j) H Q := by
  rintro s _ _ ok ⟨t, rfl⟩ ⟨u, rfl⟩; exact PyProof.Rows.mod_int' hj (post_toks (p := .int (i.fmod j)) ok ⟨_, rfl⟩ h)
theorem op_floordiv (hj : j ≠ 0) (hs : j.natAbs < 1073741824) (h : Q (.int (i.fdiv j)) H) : Op2 G A (binaryOp .FloorDiv) (.int i) (.int j) H Q := by
  rintro s _ _ ok ⟨t, rfl⟩ ⟨u, rfl⟩; exact PyProof.Rows.floordiv_int hj (post_toks (p := .int (i.fdiv j)) ok ⟨_, rfl⟩ h) (.inl (PyProof.noPylong_small hs))
theorem op_pow (hj : 0 ≤ j) (hj2 : j ≤ 1000000) (hi : i.natAbs < 2 ^ 64) (h : Q (.int (i ^ j.toNat)) H) : Op2 G A (binaryOp .Pow) (.int i) (.int j) H Q := by
  rintro s _ _ ok ⟨t, rfl⟩ ⟨u, rfl⟩; exact PyProof.Rows.pow_int_small hj hj2 hi (post_toks (p := .int (i ^ j.toNat)) ok ⟨_, rfl⟩ h)
theorem op_rshift1 (hi : 0 ≤ i) (h : Q (.int (i / 2)) H) : Op2 G A (binaryOp .RShift) (.int i) (.int 1) H Q := by
  rintro s _ _ ok ⟨t, rfl⟩ ⟨u, rfl⟩; exact wpAny_rshift1_int hi (post_toks (p := .int (i / 2)) ok ⟨_, rfl⟩ h)
theorem op_lt (h : Q (.bool (decide (i < j))) H) : Op2 G A (compareOp .Lt) (.int i) (.int j) H Q := by
  rintro s _ _ ok ⟨t, rfl⟩ ⟨u, rfl⟩; exact PyProof.Rows.lt_int (post_here (p := .bool _) ok rfl h)
theorem op_le (h : Q (.bool (decide (i ≤ j))) H) : Op2 G A (compareOp .LtE) (.int i) (.int j) H Q := by
  rintro s _ _ ok ⟨t, rfl⟩ ⟨u, rfl⟩; exact PyProof.Rows.le_int (post_here (p := .bool _) ok rfl h)
theorem op_gt (h : Q (.bool (decide (j < i))) H) : Op2 G A (compareOp .Gt) (.int i) (.int j) H Q := by
  rintro s _ _ ok ⟨t, rfl⟩ ⟨u, rfl⟩; exact PyProof.Rows.gt_int (post_here (p := .bool _) ok rfl h)
theorem op_ge (h : Q (.bool (decide (j ≤ i))) H) : Op2 G A (compareOp .GtE) (.int i) (.int j) H Q := by
  rintro s _ _ ok ⟨t, rfl⟩ ⟨u, rfl⟩; exact PyProof.Rows.ge_int (post_here (p := .bool _) ok rfl h)
theorem op_eq (h : Q (.bool (i == j)) H) : Op2 G A (compareOp .Eq) (.int i) (.int j) H Q := by
  rintro s _ _ ok ⟨t, rfl⟩ ⟨u, rfl⟩; exact PyProof.Rows.eq_int (post_here (p := .bool _) ok rfl h)
theorem op_is_none (h : Q (.bool true) H) : Op2 G A (compareOp .Is) .none .none H Q := by
  rintro s _ _ ok rfl rfl; exact PyProof.Rows.is_none_none (post_here (p := .bool _) ok rfl h)
theorem op_is_none_ne {p : PV} (hp : p ≠ .none) (hp' : p ≠ .val .none) (h : Q (.bool false) H) : Op2 G A (compareOp .Is) p .none H Q := by
  rintro s v _ ok hv rfl
  refine PyProof.Rows.is_none_ne (fun e => ?_) (post_here (p := .bool _) ok rfl h)
  subst e
  cases p with
  | none => exact hp rfl
  | bool b => cases hv
  | int i => obtain ⟨t, e⟩ := hv; cases e
  | str i => obtain ⟨t, e⟩ := hv; cases e
  | tup xs => obtain ⟨a, vs, n, e, _⟩ := hv; cases e
  | ref a => cases hv
  | rng a b c => obtain ⟨r, t, u, w, e, _⟩ := hv; cases e
  | val v => exact hp' (by rw [show Value.none = v from hv])
  | fnc o => obtain ⟨a, _, _, _, _, _, e, _⟩ := hv; cases e

theorem postB_toks {s : Shared} {Q : Bool → AH → Prop} {b : Bool} {tk : Nat} (ok : OkH G H s) (hq : Q b H) : PostB G H s Q b { s with toks := tk } := ⟨H, ok.toks tk, Kp.toks H s tk, hq⟩
theorem ob_list {a : Addr} {ho : HO} {Q : Bool → AH → Prop} (hH : H a = some ho) (h : Q (!ho.items.isEmpty) H) : OpB G A truthy (.ref a) H Q := by
  rintro s _ ok rfl
  obtain ⟨⟨vs, n, hl, hv, hz⟩, _⟩ := id (ok.hr a ho hH)
  have hlen := hv.length
  have hz' : ho.items.length ≤ 16777216 := by rw [← sizeLine_eq]; exact hz
  refine wpAny_truthy_list hl.isList (by rw [List.size_toArray]; exact o9_16 hlen hz') ?_
  have : (!vs.toArray.isEmpty) = !ho.items.isEmpty := by
    cases vs <;> cases hx : ho.items <;> simp_all
  rw [this]; exact postB_toks ok h
theorem op_len {a : Addr} {ho : HO} (hH : H a = some ho) (h : Q (.int ho.items.length) H) : OpL G A (fun vs => call (.builtin "len") vs) [.ref a] H Q := by
  rintro s vs ok hvs
  obtain ⟨_, rfl, rfl⟩ := hvs.one_inv
  obtain ⟨⟨vs, n, hl, hv, hz⟩, _⟩ := id (ok.hr a ho hH)
  have hlen := hv.length
  have hz' : ho.items.length ≤ 16777216 := by rw [← sizeLine_eq]; exact hz
  refine Calls.call_len_list hl.isList (by rw [List.size_toArray]; exact o9_16 hlen hz') ?_
  rw [List.size_toArray, hlen]
  exact post_toks (p := .int ho.items.length) ok ⟨_, rfl⟩ h


theorem upd_list {s : Shared} {a : Addr} {xs ys : List PV} {vs us : List Value} {n : Nat} {f : Array Value → Array Value} {tk : Nat} (ok : OkH G H s) (hH : H a = some (.lst xs)) (hl : IsL s.heap a vs.toArray n) (hf : f vs.toArray = us.toArray)
    (hys : VRs s.heap ys us) (hz : ys.length ≤ sizeLine) :
    OkH G (H.set a (.lst ys)) { s with heap := s.heap.update a (Obj.mapSeq f), toks := tk } ∧ Kp H s (H.set a (.lst ys)) { s with heap := s.heap.update a (Obj.mapSeq f), toks := tk } := by
  have hb := (ok.hr a _ hH).2 xs rfl
  have other : ∀ b, b ≠ a → (s.heap.update a (Obj.mapSeq f)).get? b = s.heap.get? b := fun b hba => Heap.get?_update_other _ _ (Ne.symm hba)
  have fixk : ∀ b o, Fix o → s.heap.get? b = some o → (s.heap.update a (Obj.mapSeq f)).get? b = some o := fun b o hfx e => (other b (by rintro rfl; rw [hl] at e; cases e; exact fix_not_lst hfx (isLst_mk _ _))).trans e
  refine ⟨⟨fun b o e => (other b (by rintro rfl; rw [hb] at e; cases e)).trans (ok.keep b o e), fun b o e => ?_, ok.gens, ok.dat.dc fun b o hd _ e => (other b (by rintro rfl; exact dc_not_mut ok.hr ⟨o, e, hd⟩ ⟨xs, hH⟩)).trans e, ok.tab.keep fun b o hl e => (other b (by rintro rfl; obtain ⟨⟨vs, n, hl', _⟩, _⟩ := ok.hr _ _ hH; have hl2 : s.heap.get? _ = some _ := hl'; rw [hl2] at e; cases e; exact hl.not_lst (isLst_mk _ _))).trans e⟩, ⟨rfl, fun b o e hm => .of ((other b (by rintro rfl; exact hm ⟨xs, hH⟩)).trans e), fun b o e => ?_⟩⟩
  · unfold AH.set at e
    by_cases hba : b = a
    · rw [if_pos hba] at e; cases e; subst hba
      have := hl.update f
      rw [hf] at this
      exact ⟨⟨us, _, this, VRs.mono fixk _ _ hys, hz⟩, fun _ _ => hb⟩
    · rw [if_neg hba] at e
      obtain ⟨⟨ws, k, hw, hv, hz'⟩, hb'⟩ := ok.hr b o e
      exact ⟨⟨ws, k, (other b hba).trans hw, VRs.mono fixk _ _ hv, hz'⟩, hb'⟩
  · unfold AH.set at e
    by_cases hba : b = a
    · rw [if_pos hba] at e; cases e; subst hba; exact .inr ⟨_, hH, fun _ => rfl⟩
    · rw [if_neg hba] at e; exact .inr ⟨o, e, id⟩

theorem op_append {a : Addr} {xs : List PV} {p : PV} (hH : H a = some (.lst xs)) (hz : xs.length < sizeLine) (h : Q .none (H.set a (.lst (xs ++ [p])))) : OpL G A (fun vs => call (.builtin "list.append") vs) [.ref a, p] H Q := by
  rintro s vs ok hvs
  obtain ⟨_, v, rfl, rfl, hp⟩ := hvs.two_inv
  obtain ⟨⟨vs, n, hl, hv, hz'⟩, _⟩ := id (ok.hr a _ hH)
  have hsz : vs.toArray.size ≤ sizeLine := by rw [List.size_toArray, hv.length]; exact hz'
  refine call_meets PySem.F.slot_list_append ⟨_, hl, rfl⟩ PySem.F.entry_list_append (PySem.F.args_list_append_2 _ _) (list_append a vs.toArray n v hsz) ⟨hl, ?_⟩
  obtain ⟨ok', k'⟩ := upd_list (tk := s.toks) ok hH hl (f := fun x => x.push v) (us := vs ++ [v]) (by simp) (hv.append (VRs.one hp)) (by simp only [List.length_append, List.length_cons, List.length_nil]; exact hz)
  exact ⟨.none, _, rfl, ok', k', h⟩

theorem setItem_L {s : Shared} {l : Addr} {items : Array Value} {n : Nat} {k : Int} {t : Tok} {v : Value} {Q : Unit → Shared → Prop} {E : Value → Shared → Prop} (hl : IsL s.heap l items n) (h0 : 0 ≤ k) (hfit : k < 2 ^ 63) (hn : k < items.size)
    (hQ : Q () { s with heap := s.heap.update l (Obj.mapSeq (·.setIfInBounds k.toNat v)) }) : wpAny (model G.prog G.w) A (setItem (.ref l) (.int k t) v) Q E s := by
  have hT : s.TypeIs (.ref l) "list" := ⟨_, hl, rfl⟩
  unfold setItem
  try with_reducible refine wpAny_holding ?_
  first | refine wpAny_bind (wpAny_pure ?_) | skip
  refine wpAny_bind (wpAny_sequenceKey hT (by decide) ?_)
  refine wpAny_bind (wpAny_callSpecial?_slot (name := Str.ofString "__setitem__") hT slot_list_setitem (wpAny_call_entry slot_list_setitem hT entry_list_setitem ?_ (args_list_setitem _ _ _)))
  show wpAny _ _ (Builtin.List.listSubscript? (.int k t) >>= _) _ _ s
  refine wpAny_bind (wpAny_listSubscript_int (fitsIndex_of h0 hfit) ?_)
  clear hfit
  obtain ⟨j, rfl⟩ := Int.eq_ofNat_of_zero_le h0
  have hj : j < items.size := by exact o9_17 hn
  have hx' : items[j]? = some items[j] := Array.getElem?_eq_getElem hj
  show wpAny _ _ ((seqItemAt l j >>= fun r => pure (r.map (j, ·))) >>= _) _ _ s
  refine wpAny_bind (wpAny_bind (wpAny_seqItemAt hl rfl (wpAny_pure ?_)))
  rw [hx']
  show wpAny _ _ (setSeqItemAt l j v >>= _) _ _ s
  refine wpAny_bind (wpAny_setSeqItemAt hl rfl ?_)
  first
    | exact wpAny_bind (wpAny_pure (wpAny_pure ⟨.none, rfl, wpAny_pure hQ⟩))
    | exact wpAny_pure ⟨.none, rfl, wpAny_pure hQ⟩

theorem os_list {a : Addr} {xs : List PV} {k : Int} {p : PV} {Q : AH → Prop} (hH : H a = some (.lst xs)) (h0 : 0 ≤ k) (hk : k < xs.length) (h : Q (H.set a (.lst (xs.set k.toNat p)))) : OpS G A setItem (.ref a) (.int k) p H Q := by
  rintro s _ _ v ok rfl ⟨t, rfl⟩ hp
  obtain ⟨⟨vs, n, hl, hv, hz'⟩, _⟩ := id (ok.hr a _ hH)
  have hz2 : xs.length ≤ sizeLine := hz'
  have hlen : vs.length = xs.length := hv.length
  have hz3 : xs.length ≤ 16777216 := by rw [← sizeLine_eq]; exact hz2
  refine setItem_L hl h0 (by exact o9_18 hk hz3 hlen) (by rw [List.size_toArray, hlen]; exact o9_19 hk) ?_
  obtain ⟨ok', k'⟩ := upd_list (tk := s.toks) ok hH hl (f := fun x => x.setIfInBounds k.toNat v) (ys := xs.set k.toNat p) (us := vs.set k.toNat v) (by simp) (hv.set hp) (by rw [List.length_set]; exact hz2)
  exact ⟨_, ok', k', h⟩

theorem VRs.eraseIdx {h : Heap} : ∀ {ps : List PV} {vs : List Value} (k : Nat), VRs h ps vs → VRs h (ps.eraseIdx k) (vs.eraseIdx k)
  | [], vs, k, e => by rw [show vs = [] from e]; cases k <;> exact rfl
  | p :: ps, _, 0, ⟨v, r, rfl, h1, h2⟩ => h2
  | p :: ps, _, k + 1, ⟨v, r, rfl, h1, h2⟩ => ⟨v, r.eraseIdx k, rfl, h1, VRs.eraseIdx k h2⟩
theorem VRs.take {h : Heap} : ∀ {ps : List PV} {vs : List Value} (k : Nat), VRs h ps vs → VRs h (ps.take k) (vs.take k)
  | ps, vs, 0, _ => by rw [List.take_zero, List.take_zero]; rfl
  | [], vs, k + 1, e => by rw [show vs = [] from e]; exact rfl
  | p :: ps, _, k + 1, ⟨v, r, rfl, h1, h2⟩ => ⟨v, r.take k, rfl, h1, VRs.take k h2⟩
theorem VRs.drop {h : Heap} : ∀ {ps : List PV} {vs : List Value} (k : Nat), VRs h ps vs → VRs h (ps.drop k) (vs.drop k)
  | ps, vs, 0, h => h
  | [], vs, k + 1, e => by rw [show vs = [] from e]; exact rfl
  | p :: ps, _, k + 1, ⟨v, r, rfl, h1, h2⟩ => VRs.drop k h2

theorem op_pop {a : Addr} {xs : List PV} {p : PV} (hH : H a = some (.lst (xs ++ [p]))) (h : Q p (H.set a (.lst xs))) : OpL G A (fun vs => call (.builtin "list.pop") vs) [.ref a] H Q := by
  rintro s ws ok hvs
  obtain ⟨_, rfl, rfl⟩ := hvs.one_inv
  obtain ⟨⟨vs, n, hl, hv, hz'⟩, _⟩ := id (ok.hr a _ hH)
  have hv : VRs s.heap (xs ++ [p]) vs := hv
  have hlen := hv.length
  obtain ⟨u, hu, hup⟩ := hv.get (i := xs.length) (p := p) (by simp)
  have hz2 : (xs ++ [p]).length ≤ sizeLine := hz'
  have hlen' : vs.length = xs.length + 1 := by rw [hlen]; simp
  refine call_meets PySem.F.slot_list_pop ⟨_, hl, rfl⟩ PySem.F.entry_list_pop (PySem.F.args_list_pop_1 _) (MeetsSeq.list_pop_last a vs.toArray n u (by simpa [hlen'] using hu) (by rw [List.size_toArray, hlen]; exact hz2)) ⟨hl, ?_⟩
  obtain ⟨ok', k'⟩ := upd_list (tk := s.toks) ok hH hl (f := fun x => x.eraseIdxIfInBounds (vs.toArray.size - 1)) (ys := (xs ++ [p]).eraseIdx xs.length) (us := vs.eraseIdx xs.length) (by simp [hlen']) (hv.eraseIdx _) (Nat.le_trans (List.length_eraseIdx_le _ _) hz2)
  have e : (xs ++ [p]).eraseIdx xs.length = xs := by rw [List.eraseIdx_append_of_length_le (Nat.le_refl _)]; simp
  rw [e] at ok' k'
  exact ⟨p, _, k'.vr ok hup, ok', k', h⟩

theorem op_insert {a : Addr} {xs : List PV} {k : Int} {p : PV} (hH : H a = some (.lst xs)) (h0 : 0 ≤ k) (hk : k ≤ xs.length) (hz : xs.length < sizeLine) (h : Q .none (H.set a (.lst (xs.take k.toNat ++ p :: xs.drop k.toNat)))) :
    OpL G A (fun vs => call (.builtin "list.insert") vs) [.ref a, .int k, p] H Q := by
  rintro s ws ok hvs
  obtain ⟨_, _, v, rfl, rfl, ⟨t, rfl⟩, hp⟩ := hvs.three_inv
  obtain ⟨⟨vs, n, hl, hv, hz'⟩, _⟩ := id (ok.hr a _ hH)
  have hv : VRs s.heap xs vs := hv
  have hlen := hv.length
  have hz3 : xs.length ≤ 16777216 := by rw [← sizeLine_eq]; exact hz'
  have hfit : Builtin.List.listFitsIndex k = true := fitsIndex_of h0 (by exact o9_20 hk hz3 hlen)
  refine call_meets PySem.F.slot_list_insert ⟨_, hl, rfl⟩ PySem.F.entry_list_insert (PySem.F.args_list_insert_3 _ _ _) (AutoSeq1.list_insert_list_int_val_1 a vs.toArray n k t v (by simp [hfit]) (by rw [List.size_toArray, hlen]; exact hz')) ⟨hl, ?_⟩
  obtain ⟨ok', k'⟩ := upd_list (tk := s.toks) ok hH hl (f := fun xs => have k' := if k < 0 then (k + (xs.size : Int)).toNat else min k.toNat xs.size; (xs.extract 0 k').push v ++ xs.extract k')
    (ys := xs.take k.toNat ++ p :: xs.drop k.toNat) (us := vs.take k.toNat ++ v :: vs.drop k.toNat) (by
      have hneg : ¬ (k < 0) := by exact o9_7 h0
      have hmin : min k.toNat vs.length = k.toNat := Nat.min_eq_left (by exact o9_21 hk hlen hz3)
      simp only [hneg, if_false, List.size_toArray, hmin]
      apply Array.toList_inj.mp
      simp [List.extract_eq_take_drop]
      exact List.take_of_length_le (by simp)) ((hv.take _).append ⟨v, vs.drop k.toNat, rfl, hp, hv.drop _⟩) (by simp only [List.length_append, List.length_cons, List.length_take, List.length_drop]; exact o9_22 hk hz hz3 hlen)
  exact ⟨.none, _, rfl, ok', k', h⟩
end
end Mine
open PySem PySem.W PyProof.Rows
set_option Elab.async false
set_option maxRecDepth 100000
namespace Mine
section
variable {G : Cx} {A : Around} {F : Fx} {σ : Loc} {H : AH} {Q : PV → AH → Prop}


noncomputable def lexLt : List PV → List PV → Option Bool
  | [], ys => some (!ys.isEmpty)
  | _ :: _, [] => some false
  | .int a :: xs, .int b :: ys => if a = b then lexLt xs ys else some (decide (a < b))
  | .str a :: xs, .str b :: ys => if a = b then lexLt xs ys else none
  | _, _ => none
noncomputable def lexEq : List PV → List PV → Option Bool
  | [], ys => some ys.isEmpty
  | _ :: _, [] => some false
  | .int a :: xs, .int b :: ys => if a = b then lexEq xs ys else some false
  | _, _ => none

theorem lexLt_inv {x y : PV} {xs ys : List PV} {r : Bool} (h : lexLt (x :: xs) (y :: ys) = some r) :
    (∃ a b, x = .int a ∧ y = .int b ∧ ((a = b ∧ lexLt xs ys = some r) ∨ (a ≠ b ∧ decide (a < b) = r))) ∨ (∃ a, x = .str a ∧ y = .str a ∧ lexLt xs ys = some r) := by
  unfold lexLt at h
  split at h
  · rename_i h1; cases h1
  · rename_i h1; cases h1
  · rename_i h1 h2; cases h1; cases h2
    split at h
    · rename_i e; exact .inl ⟨_, _, rfl, rfl, .inl ⟨e, h⟩⟩
    · rename_i e; cases h; exact .inl ⟨_, _, rfl, rfl, .inr ⟨e, rfl⟩⟩
  · rename_i h1 h2; cases h1; cases h2
    split at h
    · rename_i e; subst e; exact .inr ⟨_, rfl, rfl, h⟩
    · cases h
  · cases h
theorem lexLt_short {xs ys : List PV} {r : Bool} {n m : Nat} (h : lexLt xs ys = some r) (hs : xs = [] ∨ ys = []) (hl : (xs.length : Int) - ys.length = (n : Int) - m) : decide (n < m) = r := by
  rcases hs with rfl | rfl
  · cases ys with
    | nil => cases h; simp at hl ⊢; exact o9_23 hl
    | cons y ys => cases h; simp at hl ⊢; exact o9_24 hl
  · cases xs with
    | nil => cases h; simp at hl ⊢; exact o9_23 hl
    | cons x xs => cases h; simp at hl ⊢; exact o9_25 hl
theorem tuple_lt_tree {prog : Program} {w : World} {A : Around} {E : Value → Shared → Prop} {s : Shared} {a b : Addr} {vs us : List Value} {xs ys : List PV} {n k : Nat} {r : Bool} {P : Fin → Shared → Prop} (hx : IsT s.heap a vs.toArray n) (hy : IsT s.heap b us.toArray k) (hxs : VRs s.heap xs vs) (hys : VRs s.heap ys us)
    (hr : lexLt xs ys = some r) (h : P (.done (.ret (.bool r))) s) : wpAny (model prog w) A (Builtin.«tuple.__lt__» ⟨[.ref a, .ref b], []⟩) P E s := by
  have hTb : s.TypeIs (.ref b) "tuple" := ⟨_, hy, rfl⟩
  show wpAny _ _ (isInstance (.ref b) (.type "tuple") >>= _) _ _ s
  refine wpAny_bind (wpAny_isInstance hTb isSubtype_tuple_tuple ?_)
  simp only [Bool.not_true, Bool.false_eq_true, if_false]
  refine wpAny_bind (wpAny_tupleItemsOf hx rfl ?_)
  refine wpAny_bind (wpAny_tupleItemsOf hy rfl ?_)
  refine wpAny_bind ?_
  refine wpAny_forIn_list _
    (fun rest rr s' => rr.1 = none ∧ s' = s ∧ ∃ xs' ys' vs' us', rest = List.zip vs' us' ∧ VRs s.heap xs' vs' ∧ VRs s.heap ys' us' ∧ lexLt xs' ys' = some r ∧ (xs'.length : Int) - ys'.length = (vs.toArray.size : Int) - us.toArray.size)
    _ ?_ ?_ _ _ ⟨rfl, rfl, xs, ys, vs, us, by simp, hxs, hys, hr, by rw [List.size_toArray, List.size_toArray, hxs.length, hys.length]⟩
  · rintro ⟨u, v⟩ rest rr s' ⟨hrr, rfl, xs', ys', vs', us', hz, hx', hy', hlt, hlen⟩
    cases xs' with
    | nil => rw [show vs' = [] from hx'] at hz; cases hz
    | cons x xs' =>
      cases ys' with
      | nil => rw [show us' = [] from hy', List.zip_nil_right] at hz; cases hz
      | cons y ys' =>
        refine hide fun WW9 hW9 => ?_
        obtain ⟨v1, r1, eq9_0, h1, h1'⟩ := hx'
        refine hW9 ?_
        clear hW9 WW9
        subst eq9_0
        refine hide fun WW9 hW9 => ?_
        obtain ⟨v2, r2, eq9_0, h2, h2'⟩ := hy'
        refine hW9 ?_
        clear hW9 WW9
        subst eq9_0
        cases hz
        have hl' : (xs'.length : Int) - ys'.length = (vs.toArray.size : Int) - us.toArray.size := by rw [← hlen]; simp only [List.length_cons]; exact o9_26
        rcases lexLt_inv hlt with ⟨p, q, rfl, rfl, hc⟩ | ⟨p, rfl, rfl, hc⟩
        · obtain ⟨t1, rfl⟩ := h1
          obtain ⟨t2, rfl⟩ := h2
          refine wpAny_bind (wpAny_eqBool_int ?_)
          rcases hc with ⟨rfl, hc⟩ | ⟨hk, hrv⟩
          · simp only [beq_self_eq_true, Bool.not_true, Bool.false_eq_true, if_false]
            exact wpAny_pure ⟨rfl, rfl, xs', ys', r1, r2, rfl, h1', h2', hc, hl'⟩
          · simp only [beq_eq_false_iff_ne.mpr hk, Bool.not_false, if_true]
            refine wpAny_bind (wpAny_rule (wpAny_bind ?_))
            show wpAny _ _ (compareOp .Lt (.int p t1) (.int q t2)) _ _ _
            refine PyProof.Rows.lt_int ?_
            rw [hrv]
            exact wpAny_bind (wpAny_pure (wpAny_pure (wpAny_pure h)))
        · obtain ⟨t1, rfl⟩ := h1
          obtain ⟨t2, rfl⟩ := h2
          refine wpAny_bind (wpAny_eqBool_str ?_)
          simp only [decide_true, Bool.not_true, Bool.false_eq_true, if_false]
          exact wpAny_pure ⟨rfl, rfl, xs', ys', r1, r2, rfl, h1', h2', hc, hl'⟩
  · rintro ⟨_, _⟩ s' ⟨rfl, rfl, xs', ys', vs', us', hz, hx', hy', hlt, hlen⟩
    show wpAny _ _ (ret (Value.bool (decide (vs.toArray.size < us.toArray.size)))) _ _ _
    rw [lexLt_short hlt ?_ hlen]
    · exact wpAny_pure h
    · cases xs' with
      | nil => exact .inl rfl
      | cons x xs' =>
        cases ys' with
        | nil => exact .inr rfl
        | cons y ys' =>
          refine hide fun WW9 hW9 => ?_
          obtain ⟨v1, r1, eq9_0, h1, h1'⟩ := hx'
          refine hW9 ?_
          clear hW9 WW9
          subst eq9_0
          refine hide fun WW9 hW9 => ?_
          obtain ⟨v2, r2, eq9_0, h2, h2'⟩ := hy'
          refine hW9 ?_
          clear hW9 WW9
          subst eq9_0
          cases hz

theorem op_tlt {xs ys : List PV} {r : Bool} (hu : A.units < cLine) (hr : lexLt xs ys = some r) (h : Q (.bool r) H) : Op2 G A (compareOp .Lt) (.tup xs) (.tup ys) H Q := by
  rintro s _ _ ok ⟨a, vs, n, rfl, hx, hxs⟩ ⟨b, us, k, rfl, hy, hys⟩
  refine wpAny_richCompare_same_room (T := "tuple") (id := "tuple.__lt__") (op := .Lt) ⟨_, hx, rfl⟩ ⟨_, hy, rfl⟩ PySem.F.slot_tuple_lt ?_ hu
  refine wpAny_call_entry PySem.F.slot_tuple_lt ⟨_, hx, rfl⟩ PySem.F.entry_tuple_lt ?_ (PySem.F.args_tuple_lt_2 _ _)
  exact tuple_lt_tree hx hy hxs hys hr ⟨_, rfl, by simp, post_here (p := .bool r) ok rfl h⟩


noncomputable def fnOf (K : Frag) (a : Addr) : FuncData := match K.lookup a with
  | some ⟨_, _, .func fd, _⟩ => fd
  | _ => default
noncomputable def bodyOf (fd : FuncData) : List Stmt := match fd.body with
  | .stmts b => b
  | _ => []
noncomputable def fnChk (K : Frag) (a : Addr) (ns : List Str) : Bool := match K.lookup a with
  | some ⟨_, _, .func fd, _⟩ =>
    (match fd.body with | .stmts _ => true | _ => false) && fd.closure.isEmpty && fd.globals == mainGlobals && fd.builtins == builtinsNs &&
    (match fd.code with
      | .ref c => (match K.lookup c with
        | some ⟨_, _, .fields vs, _⟩ => (match (vs[1]? : Option Value) with | some (Value.str q _) => q == fd.qualname | _ => false)
        | _ => false)
      | _ => false) &&
    !fd.scope.isCoroutine && !fd.scope.isGenerator && fd.scope.kind == .function && namesOk fd.scope && fd.scope.names.all (fun x => x.2 != .free) &&
    ns.all (fun x => fd.scope.names.lookup x == some .local || fd.scope.names.lookup x == some .cell)
  | _ => false


structure FnF (A : Around) (sc : Scope) (F : Fx) : Prop where
  sc : F.env.scope = sc
  A : F.A = A.deeper F.env
  W : F.W = FW F.env
theorem FnF.units {sc : Scope} (h : FnF A sc F) : F.A.units = A.units + 3 := by rw [h.A, Around.deeper_units]
theorem FnF.depth {sc : Scope} (h : FnF A sc F) : F.A.depth = A.depth + 1 := by rw [h.A]; rfl
theorem FnF.handled {sc : Scope} (h : FnF A sc F) : F.A.handled = A.handled := by rw [h.A]; rfl


structure FnE (fd : FuncData) (F : Fx) : Prop where
  code : F.env.code = fd.code
  qual : F.env.qual = fd.qualname ++ ".<locals>."
  frame : F.env.frame = some F.env.locals
theorem fnChk_spec {K : Frag} {fa : Addr} {ns : List Str} (hchk : fnChk K fa ns = true) : ∃ fo, K.lookup fa = some fo ∧ fo.data = .func (fnOf K fa) ∧ (fnOf K fa).body = .stmts (bodyOf (fnOf K fa)) ∧ (fnOf K fa).closure = [] ∧ (fnOf K fa).globals = mainGlobals ∧ (fnOf K fa).builtins = builtinsNs ∧
    (∃ c o vs t, (fnOf K fa).code = .ref c ∧ K.lookup c = some o ∧ o.data = .fields vs ∧ vs[1]? = some (.str (fnOf K fa).qualname t)) ∧ (fnOf K fa).scope.isCoroutine = false ∧ (fnOf K fa).scope.isGenerator = false ∧ (fnOf K fa).scope.kind = .function ∧
    namesOk (fnOf K fa).scope = true ∧ (fnOf K fa).scope.names.all (fun x => x.2 != .free) = true ∧ ns.all (fun x => (fnOf K fa).scope.names.lookup x == some .local || (fnOf K fa).scope.names.lookup x == some .cell) = true := by
  unfold fnChk at hchk
  split at hchk
  · rename_i c d fd sl hl
    have hfn : fnOf K fa = fd := by unfold fnOf; rw [hl]
    rw [hfn]
    simp only [Bool.and_eq_true, beq_iff_eq, Bool.not_eq_true', List.isEmpty_iff] at hchk
    refine hide fun WW9 hW9 => ?_
    obtain ⟨⟨⟨⟨⟨⟨⟨⟨⟨⟨hb, hclo⟩, hgl⟩, hbl⟩, hcode⟩, hco⟩, hgen⟩, hk⟩, hnok⟩, hnf⟩, hkinds⟩ := hchk
    refine hW9 ?_
    clear hW9 WW9
    obtain ⟨body, hbody⟩ : ∃ body, fd.body = .stmts body := by
      cases hfb : fd.body with
      | stmts b => exact ⟨b, rfl⟩
      | expr e => rw [hfb] at hb; simp at hb
    have hbo : bodyOf fd = body := by unfold bodyOf; rw [hbody]
    refine ⟨_, hl, rfl, by rw [hbo]; exact hbody, hclo, hgl, hbl, ?_, hco, hgen, hk, hnok, hnf, hkinds⟩
    split at hcode
    · rename_i c' hc'
      split at hcode
      · rename_i a1 a2 vs a3 hl'
        split at hcode
        · rename_i q t hq
          exact ⟨c', _, vs, t, hc', hl', rfl, by rw [hq, beq_iff_eq.mp hcode]⟩
        · cases hcode
      · cases hcode
    · cases hcode
  · cases hchk
theorem call_fnE {K : Frag} {fa : Addr} {ns : List Str} {ps : List PV} {pb : List (Str × PV)} {ar : List Value → Args} (hK : G.K = K) (hchk : fnChk K fa ns = true) (hroom : A.depth < recursionLimit) (hns : ∀ x ∈ pb, x.1 ∈ ns)
    (hbind : ∀ h vs, VRs h ps vs → ∃ bs, peek K ⟨G.prog, G.w.params⟩ (bindArgs (fnOf K fa) (ar vs)) = some bs ∧ ∀ h', (∀ p v, VR h p v → VR h' p v) → BRel h' pb bs)
    (h : ∀ F : Fx, FnF A (fnOf K fa).scope F → FnE (fnOf K fa) F → Exs G F (bodyOf (fnOf K fa)) (bindσ pb fun _ => none) H (fun f _ H' => match f with | .ret p => Q p H' | _ => Q .none H')) :
    OpL G A (fun vs => call (.ref fa) (ar vs).pos (ar vs).kw) ps H Q := by
  subst hK
  obtain ⟨fo, g1, g2, g3, g4, g5, g6, g7, g8, g9, g10, g11, g12, g13⟩ := fnChk_spec hchk
  exact call_def g1 g2 g3 g4 g5 g6 g7 g8 g9 g10 g11 g12 g13 hroom hns hbind fun F h1 h2 h3 zz4 => by obtain ⟨h4, h5, h6⟩ := zz4; exact h F ⟨h1, h2, h3⟩ ⟨h4, h5, h6⟩
theorem call_fn {K : Frag} {fa : Addr} {ns : List Str} {ps dps : List PV} {dvs : List Value} (hK : G.K = K) (hchk : fnChk K fa ns = true) (hroom : A.depth < recursionLimit) (hd : ∀ h, VRs h dps dvs)
    (hbind : ∀ h vs, VRs h ps vs → peek K ⟨G.prog, G.w.params⟩ (bindArgs (fnOf K fa) ⟨vs, []⟩) = some (ns.zip (vs ++ dvs)))
    (h : ∀ F : Fx, FnF A (fnOf K fa).scope F → Exs G F (bodyOf (fnOf K fa)) (bindσ (ns.zip (ps ++ dps)) fun _ => none) H (fun f _ H' => match f with | .ret p => Q p H' | _ => Q .none H')) :
    OpL G A (fun vs => call (.ref fa) vs) ps H Q := call_fnE (pb := ns.zip (ps ++ dps)) (ar := fun vs => ⟨vs, []⟩) hK hchk hroom (fun _ hx => (List.of_mem_zip hx).1) (fun h vs hvs => ⟨_, hbind h vs hvs, fun h' hm => BRel.zip ((VRs.imp hm hvs).append (hd h'))⟩) fun F h1 _ => h F h1

theorem kind_of {sc : Scope} {x : Str} {k : NameKind} (hF : FnF A sc F) (h : sc.names.lookup x = some k) : F.env.kindOf x = some k := by unfold Env.kindOf; rw [hF.sc]; exact h
theorem sto_local {sc : Scope} {x : Str} (hF : FnF A sc F) (h : sc.names.lookup x = some .local) : Sto F x := .inl (kind_of hF h)
theorem sto_cell {sc : Scope} {x : Str} (hF : FnF A sc F) (h : sc.names.lookup x = some .cell) : Sto F x := .inr ⟨kind_of hF h, fun c hc => by rw [hF.W]; exact .inr ⟨x, hc⟩⟩
theorem ofString_inj {a b : String} : (Str.ofString a = Str.ofString b) = (a = b) := by
  refine propext ⟨fun h => ?_, fun h => by rw [h]⟩
  rw [Str.ofString_eq_toList, Str.ofString_eq_toList] at h
  injection h with h
  have h2 : a.toList.map Char.toNat = b.toList.map Char.toNat := by
    have := congrArg Array.toList h
    simpa using this
  have h3 : a.toList = b.toList := by
    have inj : ∀ (l1 l2 : List Char), l1.map Char.toNat = l2.map Char.toNat → l1 = l2 := by
      intro l1
      induction l1 with
      | nil => intro l2 h; cases l2 with
        | nil => rfl
        | cons _ _ => simp at h
      | cons c r ih =>
        intro l2 h
        cases l2 with
        | nil => simp at h
        | cons c2 r2 =>
          simp only [List.map_cons, List.cons.injEq] at h
          rw [ih r2 h.2]
          congr 1
          exact Char.ext (UInt32.toNat_inj.mp h.1)
    exact inj _ _ h2
  exact String.ext h3
noncomputable def fnThere (K : Frag) (a : Addr) : Bool := match K.lookup a with
  | some ⟨_, _, .func _, _⟩ => true
  | _ => false

theorem Ev_Fn {K : Frag} {f : Str} {np pos : Pos} {fa : Addr} {e : Expr} {es : List Expr} {Q : PV → AH → Prop} (hK : G.K = K) (hk : F.env.kindOf f = some .globalImplicit) (hf : nsIn K mainGlobals f = some (some (.ref fa))) (ht : fnThere K fa = true)
    (h : EvL G F (e :: es) σ H (fun ps H1 => OpL G F.A (fun vs => call (.ref fa) vs) ps H1 Q)) (he : starEach (e :: es) F.env = (false, eval e F.env) :: starEach es F.env := by rfl) :
    Ev G F (.Call (.Name f np) (e :: es) [] pos) σ H Q := by
  subst hK
  unfold fnThere at ht
  split at ht
  · rename_i c d fd sl hl
    exact Ev_CallG hk (G.mg_of hf) (G.kin _ _ hl) rfl h he
  · cases ht

theorem Ev_Bi {K : Frag} {f : Str} {np pos : Pos} (id : String) {e : Expr} {es : List Expr} {Q : PV → AH → Prop} (hK : G.K = K) (hk : F.env.kindOf f = some .globalImplicit) (hf : nsIn K mainGlobals f = some none) (hb : bootBuiltins f = some (.builtin id)) (hn : f ≠ "__name__")
    (h : EvL G F (e :: es) σ H (fun ps H1 => OpL G F.A (fun vs => call (.builtin id) vs) ps H1 Q)) (he : starEach (e :: es) F.env = (false, eval e F.env) :: starEach es F.env := by rfl)
    (hplain : ∀ pos, (backTo pos (starEach es F.env)).any (·.1) = false := by intro _; rfl) : Ev G F (.Call (.Name f np) (e :: es) [] pos) σ H Q := by
  subst hK; exact Ev_CallB hk (G.mg_of hf) hb hn h he hplain
theorem Ev_Ty {K : Frag} {f : Str} {np pos : Pos} (T : String) {e : Expr} {es : List Expr} {Q : PV → AH → Prop} (hK : G.K = K) (hk : F.env.kindOf f = some .globalImplicit) (hf : nsIn K mainGlobals f = some none) (hb : bootBuiltins f = some (.type T)) (hn : f ≠ "__name__")
    (h : EvL G F (e :: es) σ H (fun ps H1 => OpL G F.A (fun vs => call (.type T) vs) ps H1 Q)) (he : starEach (e :: es) F.env = (false, eval e F.env) :: starEach es F.env := by rfl)
    (hplain : ∀ pos, (backTo pos (starEach es F.env)).any (·.1) = false := by intro _; rfl) : Ev G F (.Call (.Name f np) (e :: es) [] pos) σ H Q := by
  subst hK; exact Ev_CallT hk (G.mg_of hf) hb hn h he hplain
end
end Mine
open PySem PySem.W PyProof.Rows
set_option Elab.async false
set_option maxRecDepth 100000
namespace Mine
section
variable {G : Cx} {A : Around} {F : Fx} {σ : Loc} {H : AH}


noncomputable def Loc.le (σ τ : Loc) : Prop := ∀ x p, σ x = some p → τ x = some p
noncomputable def Loc.nil : Loc := fun _ => none
theorem Loc.le_refl (σ : Loc) : Loc.le σ σ := fun _ _ h => h
theorem Loc.le_nil (τ : Loc) : Loc.le Loc.nil τ := fun _ _ h => by cases h
theorem Loc.le_set {σ τ : Loc} {x : Str} {p : PV} (h : τ x = some p) (h' : Loc.le σ τ) : Loc.le (σ.set x p) τ := fun y q e => by
  unfold Loc.set at e
  by_cases hy : y = x
  · rw [if_pos hy] at e; cases e; rw [hy]; exact h
  · rw [if_neg hy] at e; exact h' y q e
theorem Loc.set_app (σ : Loc) (x y : Str) (p : PV) : (σ.set x p) y = if y = x then some p else σ y := rfl
theorem Loc.nil_app (y : Str) : Loc.nil y = none := rfl

theorem LR.weak {h : Heap} {τ : Loc} (lr : LR G F τ h) (hle : Loc.le σ τ) : LR G F σ h := by
  obtain ⟨m, hn, hm⟩ := lr.ns
  refine ⟨lr.own, lr.odd, lr.wloc, lr.fn, lr.nok, lr.glob, lr.blt, ⟨m, hn, fun x p e hk => hm x p (hle x p e) hk⟩, fun x p e => lr.kinds x p (hle x p e), fun x hx => ?_, lr.apart⟩
  obtain ⟨c, v₀, h1, h2, h3⟩ := lr.cell x hx
  exact ⟨c, v₀, h1, h2, fun p e => h3 p (hle x p e)⟩

theorem EvB.le {e : Expr} {τ : Loc} {Q : Bool → AH → Prop} (h : EvB G F e σ H Q) (hle : Loc.le σ τ) : EvB G F e τ H Q := fun s ok lr => h s ok (lr.weak hle)
theorem Exs.le {st : List Stmt} {τ : Loc} {Q : PF → Loc → AH → Prop} (h : Exs G F st σ H Q) (hle : Loc.le σ τ) : Exs G F st τ H Q := fun s ok lr => h s ok (lr.weak hle)
theorem As.le {t : Expr} {p : PV} {τ : Loc} {Q : Loc → AH → Prop} (h : As G F t p σ H Q) (hle : Loc.le σ τ) : As G F t p τ H Q := fun s v ok lr hv => h s v ok (lr.weak hle) hv
theorem Exs.mono {st : List Stmt} {Q Q' : PF → Loc → AH → Prop} (h : Exs G F st σ H Q) (hq : ∀ f σ' H', Q f σ' H' → Q' f σ' H') : Exs G F st σ H Q' := fun s ok lr =>
  wpAny_mono (h s ok lr) (fun _ _ zz2 => by obtain ⟨pf, σ', H', h1, h2, h3, h4, h5⟩ := zz2; exact ⟨pf, σ', H', h1, h2, h3, h4, hq _ _ _ h5⟩) fun _ _ x => x
theorem Ev.mono {e : Expr} {Q Q' : PV → AH → Prop} (h : Ev G F e σ H Q) (hq : ∀ p H', Q p H' → Q' p H') : Ev G F e σ H Q' := fun s ok lr => wpAny_mono (h s ok lr) (fun _ _ x => x.mono hq) fun _ _ x => x

theorem Ex_While2 {t : Expr} {b : List Stmt} {pos : Pos} {Q : PF → Loc → AH → Prop} (I : Nat → Loc → AH → Prop) (n : Nat) (h0 : ∃ σ'', Loc.le σ'' σ ∧ I n σ'' H)
    (hI : ∀ n σ' H', I n σ' H' → EvB G F t σ' H' (fun c H1 => if c then Exs G F b σ' H1 (fun f σ2 H2 => match f with
      | .next | .cont => ∃ m, m < n ∧ ∃ σ'', Loc.le σ'' σ2 ∧ I m σ'' H2
      | .brk => Q .next σ2 H2
      | .ret p => Q (.ret p) σ2 H2) else Q .next σ' H1)) : Ex G F (.While t b [] pos) σ H Q := by
  have key : Ex G F (.While t b [] pos) σ H (fun f σ' H' => ∃ σ'', Loc.le σ'' σ' ∧ Q f σ'' H') := by
    refine Ex_While (fun n σ' H' => ∃ σ'', Loc.le σ'' σ' ∧ I n σ'' H') n h0 ?_
    intro n σ' H' zq9
    refine hide fun WW9 hW9 => ?_
    obtain ⟨σ'', hle, hi⟩ := zq9
    refine hW9 ?_
    clear hW9 WW9
    refine fun s ok lr => wpAny_mono ((hI n σ'' H' hi).le hle s ok lr) (fun c s1 zz2 => zz2.on fun H1 ok1 k1 hq => ⟨H1, ok1, k1, ?_⟩) fun _ _ x => x
    cases c with
    | false => exact ⟨σ'', hle, hq⟩
    | true =>
      simp only [if_true] at hq ⊢
      refine (hq.le hle).mono fun f σ2 H2 h => ?_
      cases f with
      | next => exact h
      | cont => exact h
      | brk => exact ⟨σ2, Loc.le_refl _, h⟩
      | ret p => exact ⟨σ2, Loc.le_refl _, h⟩
  exact fun s ok lr => wpAny_mono (key s ok lr) (fun _ _ zz2 => by obtain ⟨pf, σ', H', h1, h2, h3, h4, σ'', hle, h5⟩ := zz2; exact ⟨pf, σ'', H', h1, h2, h3.weak hle, h4, h5⟩) fun _ _ x => x

theorem Ex_For2 {target iter : Expr} {body : List Stmt} {pos : Pos} {Q : PF → Loc → AH → Prop}
    (h : Ev G F iter σ H (fun p H1 => ∃ (xs : List PV) (inv : Nat → Loc → AH → Prop), Iter G F.A target p H1 xs ∧ (∃ σ'', Loc.le σ'' σ ∧ inv 0 σ'' H1) ∧
      (∀ i x σ' H', xs[i]? = some x → inv i σ' H' → As G F target x σ' H' (fun σ2 H2 => Exs G F body σ2 H2 (fun f σ3 H3 => match f with
        | .next | .cont => ∃ σ'', Loc.le σ'' σ3 ∧ inv (i + 1) σ'' H3
        | .brk => Q .next σ3 H3
        | .ret p => Q (.ret p) σ3 H3))) ∧
      (∀ σ' H', inv xs.length σ' H' → Q .next σ' H')))
    (hs : ∀ x, foldedSetIterable iter F.env x = pure x := by intro _; rfl) : Ex G F (.For target iter body [] pos) σ H Q := by
  have key : Ex G F (.For target iter body [] pos) σ H (fun f σ' H' => ∃ σ'', Loc.le σ'' σ' ∧ Q f σ'' H') := by
    refine Ex_For (h.mono fun p H1 zz2 => zz2.elim fun xs zz2 => zz2.elim fun inv zz2 => zz2.elim fun hit zz2 => zz2.elim fun h0 zz2 => zz2.elim fun hstep hfin => ?_) hs
    refine ⟨xs, fun i σ' H' => ∃ σ'', Loc.le σ'' σ' ∧ inv i σ'' H', hit, h0, fun i x σ' H' hx zz5 => zz5.elim fun σ'' zz5 => zz5.elim fun hle hi => ?_, fun σ' H' zz2 => by obtain ⟨σ'', hle, hi⟩ := zz2; exact ⟨σ'', hle, hfin _ _ hi⟩⟩
    refine fun s v ok lr hv => wpAny_mono ((hstep i x σ'' H' hx hi).le hle s v ok lr hv) (fun _ s1 zz2 => zz2.on fun σ2 H2 ok2 lr2 k2 hq => ⟨σ2, H2, ok2, lr2, k2, hq.mono fun f σ3 H3 h => ?_⟩) fun _ _ x => x
    cases f with
    | next => exact h
    | cont => exact h
    | brk => exact ⟨σ3, Loc.le_refl _, h⟩
    | ret p => exact ⟨σ3, Loc.le_refl _, h⟩
  exact fun s ok lr => wpAny_mono (key s ok lr) (fun _ _ zz2 => by obtain ⟨pf, σ', H', h1, h2, h3, h4, σ'', hle, h5⟩ := zz2; exact ⟨pf, σ'', H', h1, h2, h3.weak hle, h4, h5⟩) fun _ _ x => x

theorem AH.set_same (H : AH) (a : Addr) (o : HO) : (H.set a o) a = some o := if_pos rfl
theorem AH.set_set (H : AH) (a : Addr) (o o' : HO) : (H.set a o).set a o' = H.set a o' := by
  funext b; unfold AH.set; by_cases h : b = a <;> simp [h]
theorem AH.set_ne (H : AH) {a b : Addr} (o : HO) (h : b ≠ a) : (H.set a o) b = H b := if_neg h
theorem AH.set_self {H : AH} {a : Addr} {o : HO} (h : H a = some o) : H.set a o = H := by
  funext b; unfold AH.set; by_cases hb : b = a <;> simp [hb, h]
theorem AH.set_comm (H : AH) {a b : Addr} (o o' : HO) (h : a ≠ b) : (H.set a o).set b o' = (H.set b o').set a o := by
  funext c; unfold AH.set
  by_cases h1 : c = a
  · by_cases h2 : c = b
    · exact absurd (h1.symm.trans h2) h
    · rw [if_neg h2, if_pos h1, if_pos h1]
  · by_cases h2 : c = b
    · rw [if_pos h2, if_neg h1, if_pos h2]
    · rw [if_neg h2, if_neg h1, if_neg h1, if_neg h2]
theorem HO.items_lst (xs : List PV) : (HO.lst xs).items = xs := rfl
theorem HO.items_fro (xs : List PV) : (HO.fro xs).items = xs := rfl
theorem pyIdx_of {α : Type} {xs : List α} {k : Int} {j : Nat} (h : k = (j : Int)) : pyIdx xs k = xs[j]? := by subst h; unfold pyIdx; simp
theorem pyIdx_nat {α : Type} (xs : List α) (k : Nat) : pyIdx xs (k : Int) = xs[k]? := by unfold pyIdx; simp


noncomputable def Cmp (G : Cx) (S : PV → Prop) (lt : PV → PV → Bool) : Prop := ∀ x y, S x → S y → ∀ (A : Around) (H : AH) (Q : PV → AH → Prop), A.units < cLine → Q (.bool (lt x y)) H → Op2 G A (compareOp .Lt) x y H Q
end
end Mine
open PySem PySem.W PyProof.Rows
set_option Elab.async false
set_option maxRecDepth 100000
namespace Mine
section
variable {G : Cx} {A : Around} {F : Fx} {σ : Loc} {H : AH} {Q : PV → AH → Prop}


theorem keep_all {s : Shared} {h' : Heap} {tk : Nat} (ok : OkH G H s) (hk : ∀ b o, s.heap.get? b = some o → h'.get? b = some o) : OkH G H { s with heap := h', toks := tk } ∧ Kp H s H { s with heap := h', toks := tk } :=
  ⟨⟨fun b o e => hk b o (ok.keep b o e), ok.hr.other fun b o e _ => hk b o e, ok.gens, ok.dat.all hk, ok.tab.keep fun b o _ e => hk b o e⟩, ⟨rfl, fun b o e _ => .of (hk b o e), DomLe.refl _ _⟩⟩
theorem post_keep {s : Shared} {h' : Heap} {tk : Nat} {p : PV} {v : Value} (ok : OkH G H s) (hk : ∀ b o, s.heap.get? b = some o → h'.get? b = some o) (hv : VR h' p v) (hq : Q p H) : Post G H s Q v { s with heap := h', toks := tk } :=
  by obtain ⟨a, b⟩ := keep_all (tk := tk) ok hk; exact ⟨p, H, hv, a, b, hq⟩

theorem op_range1 {n : Int} (h : Q (.rng 0 n 1) H) : OpL G A (fun vs => call (.type "range") vs) [.int n] H Q := by
  rintro s vs ok hvs
  obtain ⟨_, rfl, t, rfl⟩ := hvs.one_inv
  exact call_range_1 (post_keep (p := .rng 0 n 1) ok (fun b o e => Heap.get?_push_of_some _ e) ⟨_, _, _, _, rfl, IsRange.new ..⟩ h)
theorem op_range2 {m n : Int} (h : Q (.rng m n 1) H) : OpL G A (fun vs => call (.type "range") vs) [.int m, .int n] H Q := by
  rintro s vs ok hvs
  obtain ⟨_, _, rfl, ⟨t, rfl⟩, u, rfl⟩ := hvs.two_inv
  exact call_range_2 (post_keep (p := .rng m n 1) ok (fun b o e => Heap.get?_push_of_some _ e) ⟨_, _, _, _, rfl, IsRange.new ..⟩ h)
theorem op_abs {i : Int} (h : Q (.int (if i < 0 then -i else i)) H) : OpL G A (fun vs => call (.builtin "abs") vs) [.int i] H Q := by
  rintro s vs ok hvs
  obtain ⟨_, rfl, t, rfl⟩ := hvs.one_inv
  exact PyProof.Rows.call_abs_int fun u tk => post_toks (p := .int _) ok ⟨_, rfl⟩ h
theorem op_min2 {i j : Int} (hh : A.handled = none) (h : Q (.int (min i j)) H) : OpL G A (fun vs => call (.builtin "min") vs) [.int i, .int j] H Q := by
  rintro s vs ok hvs
  obtain ⟨_, _, rfl, ⟨t, rfl⟩, u, rfl⟩ := hvs.two_inv
  refine min_two_ints hh fun h' tk hk => post_keep (p := .int (min i j)) ok hk ?_ h
  split
  · exact ⟨u, by congr 1; exact o9_27 (by assumption)⟩
  · exact ⟨t, by congr 1; exact o9_28 (by assumption)⟩

theorem ints_get {h : Heap} : ∀ {ns : List Int} {vs : List Value} {i : Nat} {v : Value}, VRs h (ns.map .int) vs → vs[i]? = some v → ∃ t, v = .int (ns.getD i 0) t
  | [], vs, i, v, e, hv => by rw [show vs = [] from e] at hv; simp at hv
  | n :: ns, _, 0, v, ⟨u, r, rfl, h1, h2⟩, hv => by simp at hv; subst hv; obtain ⟨t, rfl⟩ := h1; exact ⟨t, rfl⟩
  | n :: ns, _, i + 1, v, ⟨u, r, rfl, h1, h2⟩, hv => by simp at hv; obtain ⟨t, rfl⟩ := ints_get h2 hv; exact ⟨t, rfl⟩

theorem preSum_list (ns : List Int) : preSum (fun i => ns.getD i 0) ns.length = ns.sum := by
  have key : ∀ (ms ns : List Int), preSum (fun i => (ms ++ ns).getD i 0) ms.length = ms.sum := by
    intro ms
    induction h : ms.length generalizing ms with
    | zero => intro ns; have : ms = [] := List.length_eq_zero_iff.mp h; subst this; rfl
    | succ k ih =>
      intro ns
      have hne : ms ≠ [] := by rintro rfl; simp at h
      obtain ⟨m0, l, rfl⟩ : ∃ m0 l, ms = m0 ++ [l] := ⟨_, _, (List.dropLast_concat_getLast hne).symm⟩
      have hk : m0.length = k := by rw [List.length_append] at h; simpa using h
      show preSum (fun i => (m0 ++ [l] ++ ns).getD i 0) k + (m0 ++ [l] ++ ns).getD k 0 = _
      have h1 := ih m0 hk ([l] ++ ns)
      rw [← List.append_assoc] at h1
      rw [h1, List.sum_append]
      have h2 : (m0 ++ [l] ++ ns).getD k 0 = l := by
        rw [List.getD_eq_getElem?_getD, List.append_assoc, List.getElem?_append_right (by exact o9_29 hk), hk, Nat.sub_self]; rfl
      rw [h2]; simp
  have := key ns []
  simpa using this


theorem iter_ints {s : Shared} {a : Addr} {ho : HO} {ns : List Int} {R : Value → Shared → Prop} (ok : OkH G H s) (hH : H a = some ho) (hi : ho.items = ns.map .int)
    (h : ∀ (vs : List Value) (s₂ : Shared), s₂ = { s with heap := s.heap.push { cls := .type "list_iterator", data := .fields #[.ref a, .int 0 0] } } → vs.length = ns.length → (∀ (i : Nat) (v : Value), vs.toArray[i]? = some v → ∃ t, v = Value.int (ns.getD i 0) t) →
      (s₂.heap.IsListIter s.heap.objs.size a 0 ∧ s₂.heap.IsList a vs.toArray) → (∀ b ∈ [s.heap.objs.size, a], b < s₂.heap.objs.size) → a ≠ s.heap.objs.size → R (.ref s.heap.objs.size) s₂) :
    wpAny (model G.prog G.w) A (pyIter (.ref a)) R NoE s := by
  obtain ⟨⟨vs, n, hl, hv, hz⟩, _⟩ := id (ok.hr a ho hH)
  rw [hi] at hv
  have hlt : a < s.heap.objs.size := Heap.lt_size hl
  refine wpAny_pyIter_list hl.isList (h vs _ rfl (by rw [hv.length, List.length_map]) (fun i v e => ints_get hv (by simpa using e)) ⟨⟨_, Heap.get?_push_size _ rfl, rfl, rfl⟩, hl.isList.push _⟩ (fun b hb => ?_) (Nat.ne_of_lt hlt))
  show b < (s.heap.push _).objs.size
  rw [Heap.size_push]
  simp only [List.mem_cons, List.not_mem_nil, or_false] at hb
  rcases hb with rfl | rfl
  · exact Nat.lt_succ_self _
  · exact Nat.lt_succ_of_lt hlt

theorem op_sum {a : Addr} {ho : HO} {ns : List Int} (hh : A.handled = none) (hH : H a = some ho) (hi : ho.items = ns.map .int) (h : Q (.int ns.sum) H) : OpL G A (fun vs => call (.builtin "sum") vs) [.ref a] H Q := by
  rintro s vs ok hvs
  obtain ⟨_, rfl, rfl⟩ := hvs.one_inv
  refine call_sum_walkG (iter_ints ok hH hi fun vs s₂ e hlen hval st hfp hne => ?_)
  subst e
  refine ⟨_, _, _, _, _, _, fun i => ns.getD i 0, rfl, Walks.list (A := A.in1) hh _ a hne vs.toArray, st, hfp, hval, fun h' tk t' hk => ?_⟩
  have e : preSum (fun i => ns.getD i 0) vs.toArray.size = ns.sum := by rw [List.size_toArray, hlen]; exact preSum_list ns
  rw [e]
  exact post_keep (p := .int ns.sum) (tk := tk) ok (old_kept hk) ⟨_, rfl⟩ h

theorem argBest_max (f : Nat → Int) : ∀ n, argBest (fun i j => decide (f i > f j)) n ≤ n ∧ ∀ i, i ≤ n → f i ≤ f (argBest (fun i j => decide (f i > f j)) n)
  | 0 => ⟨Nat.le_refl _, fun i hi => by have : i = 0 := by exact o9_30 hi
                                        subst this; exact Int.le_refl _⟩
  | n + 1 => by
    obtain ⟨h1, h2⟩ := argBest_max f n
    unfold argBest
    by_cases hc : f (n + 1) > f (argBest (fun i j => decide (f i > f j)) n)
    · rw [if_pos (by simpa using hc)]
      refine ⟨Nat.le_refl _, fun i hi => ?_⟩
      rcases Nat.lt_or_ge i (n + 1) with h | h
      · have := h2 i (by exact o9_31 h); exact o9_32 this hc
      · have : i = n + 1 := by exact o9_33 h hi
        subst this; exact Int.le_refl _
    · rw [if_neg (by simpa using hc)]
      refine ⟨by exact o9_34 h1, fun i hi => ?_⟩
      rcases Nat.lt_or_ge i (n + 1) with h | h
      · exact h2 i (by exact o9_31 h)
      · have : i = n + 1 := by exact o9_33 h hi
        subst this; exact o9_35 hc
theorem argBest_min (f : Nat → Int) : ∀ n, argBest (fun i j => decide (f i < f j)) n ≤ n ∧ ∀ i, i ≤ n → f (argBest (fun i j => decide (f i < f j)) n) ≤ f i
  | 0 => ⟨Nat.le_refl _, fun i hi => by have : i = 0 := by exact o9_30 hi
                                        subst this; exact Int.le_refl _⟩
  | n + 1 => by
    obtain ⟨h1, h2⟩ := argBest_min f n
    unfold argBest
    by_cases hc : f (n + 1) < f (argBest (fun i j => decide (f i < f j)) n)
    · rw [if_pos (by simpa using hc)]
      refine ⟨Nat.le_refl _, fun i hi => ?_⟩
      rcases Nat.lt_or_ge i (n + 1) with h | h
      · have := h2 i (by exact o9_31 h); exact o9_36 hc this
      · have : i = n + 1 := by exact o9_33 h hi
        subst this; exact Int.le_refl _
    · rw [if_neg (by simpa using hc)]
      refine ⟨by exact o9_34 h1, fun i hi => ?_⟩
      rcases Nat.lt_or_ge i (n + 1) with h | h
      · exact h2 i (by exact o9_31 h)
      · have : i = n + 1 := by exact o9_33 h hi
        subst this; exact o9_35 hc

theorem op_maxL {a : Addr} {ho : HO} {ns : List Int} (hh : A.handled = none) (hH : H a = some ho) (hi : ho.items = ns.map .int) (hne : ns ≠ []) (h : ∀ m, m ∈ ns → (∀ x ∈ ns, x ≤ m) → Q (.int m) H) : OpL G A (fun vs => call (.builtin "max") vs) [.ref a] H Q := by
  rintro s vs ok hvs
  obtain ⟨_, rfl, rfl⟩ := hvs.one_inv
  have hpos : 0 < ns.length := List.length_pos_iff.mpr hne
  refine call_max_walk (iter_ints ok hH hi fun vs s₂ e hlen hval st hfp hne' => ?_)
  subst e
  refine ⟨_, _, _, _, _, _, _, rfl, Walks.list (A := A.in1) hh _ a hne' vs.toArray, st, hfp, by rw [List.size_toArray]; exact o9_37 hpos hlen, CmpOf.ints_gt (fun i => ns.getD i 0) hval, fun v h' tk hP hk => ?_⟩
  obtain ⟨t, rfl⟩ := hval _ _ hP
  have hb := argBest_max (fun i => ns.getD i 0) (vs.toArray.size - 1)
  have hsz : vs.toArray.size = ns.length := by rw [List.size_toArray]; exact hlen
  rw [hsz] at hb ⊢
  refine post_keep (p := .int _) (tk := tk) ok (old_kept hk) ⟨_, rfl⟩ (h _ ?_ fun x hx => ?_)
  · have hlt : argBest (fun i j => decide (ns.getD i 0 > ns.getD j 0)) (ns.length - 1) < ns.length := by (first | lia | omega)
    rw [List.getD_eq_getElem?_getD, List.getElem?_eq_getElem hlt]; exact List.getElem_mem hlt
  · obtain ⟨i, hi', rfl⟩ := List.mem_iff_getElem.mp hx
    have := hb.2 i (by exact o9_39 hpos hi' hlen hsz)
    rwa [show ns.getD i 0 = ns[i] from by rw [List.getD_eq_getElem?_getD, List.getElem?_eq_getElem hi']; rfl] at this
theorem op_minL {a : Addr} {ho : HO} {ns : List Int} (hh : A.handled = none) (hH : H a = some ho) (hi : ho.items = ns.map .int) (hne : ns ≠ []) (h : ∀ m, m ∈ ns → (∀ x ∈ ns, m ≤ x) → Q (.int m) H) : OpL G A (fun vs => call (.builtin "min") vs) [.ref a] H Q := by
  rintro s vs ok hvs
  obtain ⟨_, rfl, rfl⟩ := hvs.one_inv
  have hpos : 0 < ns.length := List.length_pos_iff.mpr hne
  refine call_min_walk (iter_ints ok hH hi fun vs s₂ e hlen hval st hfp hne' => ?_)
  subst e
  refine ⟨_, _, _, _, _, _, _, rfl, Walks.list (A := A.in1) hh _ a hne' vs.toArray, st, hfp, by rw [List.size_toArray]; exact o9_37 hpos hlen, CmpOf.ints_lt (fun i => ns.getD i 0) hval, fun v h' tk hP hk => ?_⟩
  obtain ⟨t, rfl⟩ := hval _ _ hP
  have hb := argBest_min (fun i => ns.getD i 0) (vs.toArray.size - 1)
  have hsz : vs.toArray.size = ns.length := by rw [List.size_toArray]; exact hlen
  rw [hsz] at hb ⊢
  refine post_keep (p := .int _) (tk := tk) ok (old_kept hk) ⟨_, rfl⟩ (h _ ?_ fun x hx => ?_)
  · have hlt : argBest (fun i j => decide (ns.getD i 0 < ns.getD j 0)) (ns.length - 1) < ns.length := by (first | lia | omega)
    rw [List.getD_eq_getElem?_getD, List.getElem?_eq_getElem hlt]; exact List.getElem_mem hlt
  · obtain ⟨i, hi', rfl⟩ := List.mem_iff_getElem.mp hx
    have := hb.2 i (by exact o9_39 hpos hi' hlen hsz)
    rwa [show ns.getD i 0 = ns[i] from by rw [List.getD_eq_getElem?_getD, List.getElem?_eq_getElem hi']; rfl] at this
end
end Mine
open PySem PySem.W PyProof.Rows
set_option Elab.async false
set_option maxRecDepth 100000
namespace Mine
section
variable {G : Cx} {A : Around} {F : Fx} {σ : Loc} {H : AH} {Q : PV → AH → Prop}


noncomputable def pickL {α : Type} (xs : List α) (lo hi st : Option Int) : List α :=
  (sliceRange (sliceBounds lo hi st xs.length).1 (sliceBounds lo hi st xs.length).2.1 (sliceBounds lo hi st xs.length).2.2).filterMap (xs[·]?)
theorem pickL_map {α β : Type} (f : α → β) (xs : List α) (lo hi st : Option Int) : pickL (xs.map f) lo hi st = (pickL xs lo hi st).map f := by
  unfold pickL
  rw [List.length_map, List.map_filterMap]
  congr 1; funext i; simp
theorem VRs.places {h : Heap} {ps : List PV} {vs : List Value} (hv : VRs h ps vs) : ∀ l : List Nat, VRs h (l.filterMap (ps[·]?)) (l.filterMap (vs[·]?))
  | [] => rfl
  | i :: l => by
    cases e : ps[i]? with
    | none =>
      have : vs[i]? = none := by rw [List.getElem?_eq_none_iff] at e ⊢; rw [hv.length]; exact e
      rw [List.filterMap_cons_none e, List.filterMap_cons_none this]; exact VRs.places hv l
    | some p =>
      obtain ⟨v, h1, h2⟩ := hv.get e
      rw [List.filterMap_cons_some e, List.filterMap_cons_some h1]
      exact ⟨v, _, rfl, h2, VRs.places hv l⟩
theorem VRs.pick {h : Heap} {ps : List PV} {vs : List Value} (hv : VRs h ps vs) (lo hi st : Option Int) : VRs h (pickL ps lo hi st) (slicePick vs.toArray lo hi st).toList := by
  have e : (slicePick vs.toArray lo hi st).toList = (sliceRange (sliceBounds lo hi st ps.length).1 (sliceBounds lo hi st ps.length).2.1 (sliceBounds lo hi st ps.length).2.2).filterMap (vs[·]?) := by
    simp [slicePick, hv.length]
  rw [e]; exact hv.places _


noncomputable def EvP (G : Cx) (F : Fx) (x : Option Expr) (σ : Loc) (H : AH) (Q : Option Int → AH → Prop) : Prop := match x with
  | none => Q none H
  | some e => Ev G F e σ H (fun p H1 => ∃ i, p = .int i ∧ Q (some i) H1)
theorem EvP.go {x : Option Expr} {Q : Option Int → AH → Prop} {s : Shared} {R : Value → Shared → Prop} (h : EvP G F x σ H Q) (ok : OkH G H s) (lr : LR G F σ s.heap)
    (hR : ∀ v s' o H', IsPart v o → OkH G H' s' → Kp H s H' s' → Q o H' → R v s') : wpAny (model G.prog G.w) F.A (evalPart x F.env) R NoE s := by
  cases x with
  | none => exact wpAny_pure (hR _ _ none H .none ok (Kp.refl H s) h)
  | some e =>
    refine wpAny_mono (h s ok lr) (fun v s1 zz2 => zz2.on fun p H1 hv ok1 k1 zz2_5 => zz2_5.elim fun i zz2_5 => zz2_5.elim fun hp hq => ?_) fun _ _ x => x
    subst hp
    obtain ⟨t, rfl⟩ := hv
    exact hR _ _ (some i) H1 (.int i t) ok1 k1 hq

theorem Ev_Slice {v : Expr} {lo hi st : Option Expr} {p pos : Pos}
    (h : Ev G F v σ H (fun o H1 => EvP G F lo σ H1 (fun l H2 => EvP G F hi σ H2 (fun u H3 => EvP G F st σ H3 (fun c H4 =>
      c ≠ some 0 ∧ ∃ a ho, o = .ref a ∧ H4 a = some ho ∧ ∀ a', H4 a' = none → Q (.ref a') (H4.set a' (.lst (pickL ho.items l u c))))))))
    (ht : ∀ o r, letTemporaryGo v o r = pure () := by intro _ _; rfl) : Ev G F (.Subscript v (.Slice lo hi st p) pos) σ H Q := by
  intro s ok lr
  have main : wpAny (model G.prog G.w) F.A (eval v F.env) (fun o s₁ => wpAny (model G.prog G.w) F.A (eval (.Slice lo hi st p) F.env) (fun i s₂ => s₂.TypeIs o "list" ∧ wpAny (model G.prog G.w) F.A (getItem o i) (Post G H s Q) NoE s₂) NoE s₁) NoE s := by
    refine wpAny_mono (h s ok lr) (fun o s1 zz2 => zz2.on fun po H1 hv ok1 k1 h1 => wpAny_Slice ?_) fun _ _ x => x
    have lr1 := lr.kp ok k1
    refine h1.go ok1 lr1 fun vl s2 l H2 pl ok2 k2 h2 => ?_
    have lr2 := lr1.kp ok1 k2
    refine h2.go ok2 lr2 fun vu s3 u H3 pu ok3 k3 h3 => ?_
    have lr3 := lr2.kp ok2 k3
    refine h3.go ok3 lr3 fun vc s4 c H4 pc ok4 k4 zz7 => zz7.elim fun h0 zz7 => zz7.elim fun a zz7 => zz7.elim fun ho zz7 => zz7.elim fun e zz7 => zz7.elim fun hH h4 => ?_
    subst e
    rw [show o = .ref a from hv]
    have k14 := ((k1.trans k2).trans k3).trans k4
    obtain ⟨ok5, k5⟩ := push_ok ok4 { cls := .type "slice", data := .fields #[vl, vu, vc] }
    refine hide fun WW9 hW9 => ?_
    obtain ⟨⟨vs, n, hl, hvs, hz⟩, _⟩ := id (ok5.hr a ho hH)
    refine hW9 ?_
    clear hW9 WW9
    refine ⟨hl.isList.typeIs, wpAny_getItem_list_slice hl.isList (Heap.IsSliceOf.new ..) pl pu pc h0 ?_ (by rw [List.size_toArray, hvs.length]; exact hz)⟩
    have := post_list (tk := s4.toks) ok5 (hvs.pick l u c) ?_ h4
    · rw [Array.toArray_toList] at this
      exact this.trans (k14.trans k5)
    · rw [← (hvs.pick l u c).length, Array.length_toList]
      exact Nat.le_trans (slicePick_size_le _ _ _ _) (by rw [List.size_toArray, hvs.length]; exact hz)
  cases st with
  | none => exact wpAny_Subscript_Slice list_getitem_lookup main ht
  | some st => exact wpAny_Subscript_Slice_step list_getitem_lookup main ht


noncomputable def eqS : PV → PV → Option Bool
  | .int a, .int b => some (a == b)
  | .str a, .str b => some (a == b)
  | _, _ => none
noncomputable def eqSs : List PV → List PV → Option Bool
  | [], ys => some ys.isEmpty
  | _ :: _, [] => some false
  | x :: xs, y :: ys => match eqS x y, eqSs xs ys with
    | some a, some b => some (a && b)
    | _, _ => none
noncomputable def eqP : PV → PV → Option Bool
  | .tup xs, .tup ys => eqSs xs ys
  | x, y => eqS x y
noncomputable def eqPs : List PV → List PV → Option Bool
  | [], ys => some ys.isEmpty
  | _ :: _, [] => some false
  | x :: xs, y :: ys => match eqP x y, eqPs xs ys with
    | some a, some b => some (a && b)
    | _, _ => none

open PySem.SeqAt in
theorem eqS_at {s : Shared} {p q : PV} {u v : Value} {b : Bool} (h : eqS p q = some b) (hu : VR s.heap p u) (hv : VR s.heap q v) : EqAt A s u v b := by
  cases p <;> cases q <;> simp only [eqS, reduceCtorEq, Option.some.injEq] at h
  · obtain ⟨t, rfl⟩ := hu; obtain ⟨w, rfl⟩ := hv; subst h; exact EqAt.int_int _ _ _ _
  · obtain ⟨t, rfl⟩ := hu; obtain ⟨w, rfl⟩ := hv; subst h; exact EqAt.str_str _ _ _ _
theorem eqS_same {h : Heap} {p q : PV} {u : Value} {b : Bool} (e : eqS p q = some b) (hu : VR h p u) (hv : VR h q u) : b = true := by
  cases p <;> cases q <;> simp only [eqS, reduceCtorEq, Option.some.injEq] at e
  · obtain ⟨t, rfl⟩ := hu; obtain ⟨w, e'⟩ := hv; injection e' with e'; subst e'; rw [← e]; simp
  · obtain ⟨t, rfl⟩ := hu; obtain ⟨w, e'⟩ := hv; injection e' with e'; subst e'; rw [← e]; simp
theorem eqSs_same {h : Heap} : ∀ {ps qs : List PV} {us : List Value} {b : Bool}, eqSs ps qs = some b → VRs h ps us → VRs h qs us → b = true
  | [], [], _, b, e, _, _ => by simp [eqSs] at e; exact e.symm ▸ rfl
  | [], q :: qs, us, b, e, h1, ⟨v, r, e2, _, _⟩ => by rw [show us = [] from h1] at e2; cases e2
  | p :: ps, [], us, b, e, ⟨v, r, e2, _, _⟩, h1 => by rw [show us = [] from h1] at e2; cases e2
  | p :: ps, q :: qs, us, b, e, ⟨v, r, e2, h1, h2⟩, ⟨v', r', e3, h3, h4⟩ => by
    rw [e2] at e3; injection e3 with e4 e5; subst e4; subst e5
    unfold eqSs at e
    split at e
    · rename_i a c ea ec; cases e
      rw [eqS_same ea h1 h3, eqSs_same ec h2 h4]; rfl
    · cases e
theorem eqSs_all {ps qs : List PV} {b : Bool} (h : eqSs ps qs = some b) : ((List.range (min ps.length qs.length)).all fun j => ((ps[j]?).bind fun p => (qs[j]?).bind fun q => eqS p q).getD true) = true ∧ ps.length = qs.length ↔ b = true := by
  induction ps generalizing qs b with
  | nil => cases qs <;> simp [eqSs] at h <;> simp [← h]
  | cons p ps ih =>
    cases qs with
    | nil => simp [eqSs] at h; simp [← h]
    | cons q qs =>
      unfold eqSs at h
      split at h
      · rename_i a c ea ec; cases h
        have := ih ec
        rw [List.length_cons, List.length_cons, Nat.add_min_add_right, List.range_succ_eq_map, List.all_cons, List.all_map]
        simp only [List.getElem?_cons_zero, Option.bind_some, ea, Option.getD_some, Bool.and_eq_true, Function.comp_def, List.getElem?_cons_succ]
        constructor
        · rintro ⟨⟨h1, h2⟩, h3⟩; exact ⟨h1, this.mp ⟨h2, by exact o9_40 h3⟩⟩
        · rintro ⟨h1, h2⟩; obtain ⟨h3, h4⟩ := this.mpr h2; exact ⟨⟨h1, h3⟩, by exact o9_41 h4⟩
      · cases h
theorem eqSs_get {ps qs : List PV} {b : Bool} (h : eqSs ps qs = some b) {j : Nat} {p q : PV} (hp : ps[j]? = some p) (hq : qs[j]? = some q) : ∃ c, eqS p q = some c := by
  induction ps generalizing qs b j with
  | nil => simp at hp
  | cons p ps ih =>
    cases qs with
    | nil => simp at hq
    | cons q qs =>
      unfold eqSs at h
      split at h
      · rename_i a c ea ec
        cases j with
        | zero => simp at hp hq; subst hp; subst hq; exact ⟨_, ea⟩
        | succ j => exact ih ec (by simpa using hp) (by simpa using hq)
      · cases h
theorem bool_eq_of_iff {a b : Bool} (h : a = true ↔ b = true) : a = b := by cases a <;> cases b <;> simp_all
theorem VRs.ex {h : Heap} {ps : List PV} {vs : List Value} (hv : VRs h ps vs) {j : Nat} (hj : j < vs.length) : ∃ p, ps[j]? = some p ∧ VR h p vs[j] := by
  have hj' : j < ps.length := by rw [← hv.length]; exact hj
  obtain ⟨v, h1, h2⟩ := hv.get (List.getElem?_eq_getElem hj')
  refine ⟨_, List.getElem?_eq_getElem hj', ?_⟩
  rw [List.getElem?_eq_getElem hj] at h1; cases h1; exact h2
open PySem.SeqAt in
theorem tup_at {s : Shared} {xs ys : List PV} {a b : Addr} {vs us : List Value} {n k : Nat} {r : Bool} (hu : A.units < cLine) (hx : IsT s.heap a vs.toArray n) (hy : IsT s.heap b us.toArray k) (hxs : VRs s.heap xs vs) (hys : VRs s.heap ys us) (h : eqSs xs ys = some r) : RcAt A s (.ref a) (.ref b) r := by
  have key : r = ((List.range (min vs.toArray.size us.toArray.size)).all (fun j => ((xs[j]?).bind fun p => (ys[j]?).bind fun q => eqS p q).getD true) && (vs.toArray.size == us.toArray.size)) := by
    apply bool_eq_of_iff
    rw [← eqSs_all h]
    simp [hxs.length, hys.length]
  rw [key]
  refine RcAt.tuples ⟨_, hx, rfl, _, rfl⟩ ⟨_, hy, rfl, _, rfl⟩ hu fun j h1 h2 => ?_
  simp only [List.size_toArray] at h1 h2
  obtain ⟨p, hp, hp'⟩ := hxs.ex h1
  obtain ⟨q, hq, hq'⟩ := hys.ex h2
  obtain ⟨c, hc⟩ := eqSs_get h hp hq
  rw [hp, hq]
  simp only [Option.bind_some, hc, Option.getD_some, List.getElem_toArray]
  exact eqS_at hc hp' hq'
open PySem.SeqAt in
theorem eqP_at {s : Shared} {p q : PV} {u v : Value} {b : Bool} (hu : A.units < cLine) (h : eqP p q = some b) (h1 : VR s.heap p u) (h2 : VR s.heap q v) : EqAt A s u v b := by
  cases p with
  | tup xs =>
    cases q with
    | tup ys =>
      refine hide fun WW9 hW9 => ?_
      obtain ⟨a, vs, n, eq9_0, hx, hxs⟩ := h1
      refine hW9 ?_
      clear hW9 WW9
      subst eq9_0
      refine hide fun WW9 hW9 => ?_
      obtain ⟨c, us, k, eq9_0, hy, hys⟩ := h2
      refine hW9 ?_
      clear hW9 WW9
      subst eq9_0
      by_cases hac : a = c
      · subst hac
        have : vs = us := by
          have hy' : some _ = some _ := (show s.heap.get? a = _ from hx).symm.trans hy
          injection hy' with hy; injection hy with _ _ hy _; injection hy with hy _; simpa using hy
        subst this
        rw [eqSs_same h hxs hys]; exact EqAt.same _
      · exact EqAt.of_refs hac (tup_at hu hx hy hxs hys h)
    | _ => simp [eqP, eqS] at h
  | int i => cases q <;> first | (simp [eqP, eqS] at h; done) | (exact eqS_at (by simpa [eqP] using h) h1 h2)
  | str i => cases q <;> first | (simp [eqP, eqS] at h; done) | (exact eqS_at (by simpa [eqP] using h) h1 h2)
  | _ => cases q <;> simp [eqP, eqS] at h
theorem eqPs_all {ps qs : List PV} {b : Bool} (h : eqPs ps qs = some b) (hl : ps.length = qs.length) : ((List.range ps.length).all fun j => ((ps[j]?).bind fun p => (qs[j]?).bind fun q => eqP p q).getD true) = b := by
  induction ps generalizing qs b with
  | nil => cases qs <;> simp [eqPs] at h hl ⊢; exact h
  | cons p ps ih =>
    cases qs with
    | nil => simp at hl
    | cons q qs =>
      unfold eqPs at h
      split at h
      · rename_i a c ea ec; cases h
        have := ih ec (by simpa using hl)
        rw [List.length_cons, List.range_succ_eq_map, List.all_cons, List.all_map]
        simp only [List.getElem?_cons_zero, Option.bind_some, ea, Option.getD_some, Function.comp_def, List.getElem?_cons_succ]
        rw [this]
      · cases h
theorem eqPs_len {ps qs : List PV} {b : Bool} (h : eqPs ps qs = some b) (hl : ps.length ≠ qs.length) : b = false := by
  induction ps generalizing qs b with
  | nil => cases qs <;> simp [eqPs] at h hl ⊢; exact h
  | cons p ps ih =>
    cases qs with
    | nil => simp [eqPs] at h; exact h
    | cons q qs =>
      unfold eqPs at h
      split at h
      · rename_i a c ea ec; cases h
        rw [ih ec (by simpa using hl)]; simp
      · cases h
theorem eqPs_get {ps qs : List PV} {b : Bool} (h : eqPs ps qs = some b) {j : Nat} {p q : PV} (hp : ps[j]? = some p) (hq : qs[j]? = some q) : ∃ c, eqP p q = some c := by
  induction ps generalizing qs b j with
  | nil => simp at hp
  | cons p ps ih =>
    cases qs with
    | nil => simp at hq
    | cons q qs =>
      unfold eqPs at h
      split at h
      · rename_i a c ea ec
        cases j with
        | zero => simp at hp hq; subst hp; subst hq; exact ⟨_, ea⟩
        | succ j => exact ih ec (by simpa using hp) (by simpa using hq)
      · cases h
section
open PySem.SeqAt
theorem op_eqL {a b : Addr} {ho ho' : HO} {r : Bool} (hu : A.units + 1 < cLine) (ha : H a = some ho) (hb : H b = some ho') (hr : eqPs ho.items ho'.items = some r) (h : Q (.bool r) H) : Op2 G A (compareOp .Eq) (.ref a) (.ref b) H Q := by
  rintro s _ _ ok rfl rfl
  obtain ⟨⟨vs, n, hl, hv, hz⟩, _⟩ := id (ok.hr a ho ha)
  obtain ⟨⟨us, k, hm, hw, hz'⟩, _⟩ := id (ok.hr b ho' hb)
  by_cases hs : ho.items.length = ho'.items.length
  · have e := eqPs_all hr hs
    have hs' : vs.toArray.size = us.toArray.size := by simp [hv.length, hw.length, hs]
    refine eq_listAt (e := fun j => ((ho.items[j]?).bind fun p => (ho'.items[j]?).bind fun q => eqP p q).getD true) hl.isList hm.isList hs' (by exact o9_42 hu) (fun j h1 h2 => ?_) ?_
    · simp only [List.size_toArray] at h1 h2
      obtain ⟨p, hp, hp'⟩ := hv.ex h1
      obtain ⟨q, hq, hq'⟩ := hw.ex h2
      obtain ⟨c, hc⟩ := eqPs_get hr hp hq
      rw [hp, hq]
      simp only [Option.bind_some, hc, Option.getD_some, List.getElem_toArray]
      exact eqP_at hu hc hp' hq'
    · rw [List.size_toArray, hv.length, e]; exact post_here (p := .bool r) ok rfl h
  · rw [eqPs_len hr hs] at h
    exact eq_list_lengthsAt hl.isList hm.isList (by simp [hv.length, hw.length, hs]) (by exact o9_42 hu) (post_here (p := .bool false) ok rfl h)
theorem op_neL {a b : Addr} {ho ho' : HO} {r : Bool} (hu : A.units + 1 < cLine) (ha : H a = some ho) (hb : H b = some ho') (hr : eqPs ho.items ho'.items = some r) (h : Q (.bool (!r)) H) : Op2 G A (compareOp .NotEq) (.ref a) (.ref b) H Q := by
  rintro s _ _ ok rfl rfl
  obtain ⟨⟨vs, n, hl, hv, hz⟩, _⟩ := id (ok.hr a ho ha)
  obtain ⟨⟨us, k, hm, hw, hz'⟩, _⟩ := id (ok.hr b ho' hb)
  by_cases hs : ho.items.length = ho'.items.length
  · have e := eqPs_all hr hs
    have hs' : vs.toArray.size = us.toArray.size := by simp [hv.length, hw.length, hs]
    refine PySem.EqBoolInt.of_rcne (RcNeAt.lists (e := fun j => ((ho.items[j]?).bind fun p => (ho'.items[j]?).bind fun q => eqP p q).getD true) hl.isList hm.isList hs' (by exact o9_42 hu) (fun j h1 h2 => ?_)) ?_
    · simp only [List.size_toArray] at h1 h2
      obtain ⟨p, hp, hp'⟩ := hv.ex h1
      obtain ⟨q, hq, hq'⟩ := hw.ex h2
      obtain ⟨c, hc⟩ := eqPs_get hr hp hq
      rw [hp, hq]
      simp only [Option.bind_some, hc, Option.getD_some, List.getElem_toArray]
      exact eqP_at hu hc hp' hq'
    · rw [List.size_toArray, hv.length, e]; exact post_here (p := .bool (!r)) ok rfl h
  · rw [eqPs_len hr hs] at h
    exact PySem.EqBoolInt.of_rcne (RcNeAt.lists_lengths hl.isList hm.isList (by simp [hv.length, hw.length, hs]) (by exact o9_42 hu)) (post_here (p := .bool true) ok rfl h)
end
theorem eqPs_map {α : Type} [DecidableEq α] {f : α → PV} (hf : ∀ x y, eqP (f x) (f y) = some (decide (x = y))) : ∀ xs ys : List α, eqPs (xs.map f) (ys.map f) = some (decide (xs = ys))
  | [], ys => by cases ys <;> simp [eqPs]
  | x :: xs, [] => by simp [eqPs]
  | x :: xs, y :: ys => by
    simp only [List.map_cons, eqPs, hf, eqPs_map hf xs ys]
    congr 1
    by_cases h1 : x = y <;> by_cases h2 : xs = ys <;> simp [h1, h2]
theorem eqPs_ints (xs ys : List Int) : eqPs (xs.map .int) (ys.map .int) = some (decide (xs = ys)) := eqPs_map (fun x y => by simp only [eqP, eqS]; congr 1) xs ys
end
end Mine
open PySem PySem.W PyProof.Rows
set_option Elab.async false
set_option maxRecDepth 100000
namespace Mine


section
variable {α : Type}
structure SWO (L : α → α → Bool) : Prop where
  asym : ∀ x y, L x y = true → L y x = false
  ntr : ∀ x y z, L x y = false → L y z = false → L x z = false
variable {L : α → α → Bool}
theorem SWO.irr (o : SWO L) (x : α) : L x x = false := by
  cases h : L x x with
  | false => rfl
  | true => have := o.asym x x h; rw [h] at this; cases this
theorem SWO.tr (o : SWO L) {x y z : α} (h1 : L x y = true) (h2 : L y z = true) : L x z = true := by
  cases h : L x z with
  | true => rfl
  | false => have := o.ntr y x z (o.asym _ _ h1) h; rw [h2] at this; cases this
theorem SWO.lt_le (o : SWO L) {x y z : α} (h1 : L x y = true) (h2 : L z y = false) : L x z = true := by
  cases h : L x z with
  | true => rfl
  | false => have := o.ntr x z y h h2; rw [h1] at this; cases this
theorem SWO.le_lt (o : SWO L) {x y z : α} (h1 : L y x = false) (h2 : L y z = true) : L x z = true := by
  cases h : L x z with
  | true => rfl
  | false => have := o.ntr y x z h1 h; rw [h2] at this; cases this

noncomputable def eqv (L : α → α → Bool) (x y : α) : Bool := !L x y && !L y x
theorem eqv_iff {x y : α} : eqv L x y = true ↔ L x y = false ∧ L y x = false := by unfold eqv; cases L x y <;> cases L y x <;> simp
theorem eqv_refl (o : SWO L) (x : α) : eqv L x x = true := eqv_iff.mpr ⟨o.irr x, o.irr x⟩
theorem eqv_tr (o : SWO L) {x y z : α} (h1 : eqv L x y = true) (h2 : eqv L y z = true) : eqv L x z = true := by
  obtain ⟨a, b⟩ := eqv_iff.mp h1; obtain ⟨c, d⟩ := eqv_iff.mp h2
  exact eqv_iff.mpr ⟨o.ntr _ _ _ a c, o.ntr _ _ _ d b⟩
theorem eqv_sym {x y : α} (h : eqv L x y = true) : eqv L y x = true := by
  obtain ⟨a, b⟩ := eqv_iff.mp h; exact eqv_iff.mpr ⟨b, a⟩
noncomputable def SEq (L : α → α → Bool) (l r : List α) : Prop := ∀ x, l.filter (eqv L x) = r.filter (eqv L x)
theorem SEq.refl (l : List α) : SEq L l l := fun _ => rfl
theorem SEq.symm {l r : List α} (h : SEq L l r) : SEq L r l := fun x => (h x).symm
theorem SEq.trans {l r t : List α} (h : SEq L l r) (h' : SEq L r t) : SEq L l t := fun x => (h x).trans (h' x)
theorem SEq.append {l r l' r' : List α} (h : SEq L l r) (h' : SEq L l' r') : SEq L (l ++ l') (r ++ r') := fun x => by rw [List.filter_append, List.filter_append, h x, h' x]
theorem SEq.left (l : List α) {r r' : List α} (h : SEq L r r') : SEq L (l ++ r) (l ++ r') := (SEq.refl l).append h
theorem SEq.right {r r' : List α} (h : SEq L r r') (l : List α) : SEq L (r ++ l) (r' ++ l) := h.append (SEq.refl l)
theorem SEq.swap (o : SWO L) {A B : List α} (h : ∀ a ∈ A, ∀ b ∈ B, L b a = true) : SEq L (A ++ B) (B ++ A) := by
  intro x
  rw [List.filter_append, List.filter_append]
  by_cases hA : A.filter (eqv L x) = []
  · rw [hA]; simp
  · obtain ⟨a, ha⟩ := List.exists_mem_of_ne_nil _ hA
    obtain ⟨ha, hxa⟩ := List.mem_filter.mp ha
    have : B.filter (eqv L x) = [] := by
      rw [List.filter_eq_nil_iff]
      intro b hb hxb
      have := eqv_iff.mp (eqv_tr o (eqv_sym hxb) hxa)
      rw [h a ha b hb] at this; cases this.1
    rw [this]; simp
theorem SEq.mem (o : SWO L) {l r : List α} (h : SEq L l r) {x : α} (hx : x ∈ l) : x ∈ r := by
  have : x ∈ l.filter (eqv L x) := List.mem_filter.mpr ⟨hx, eqv_refl o x⟩
  rw [h x] at this; exact (List.mem_filter.mp this).1
theorem SEq.nil (o : SWO L) {r : List α} (h : SEq L [] r) : r = [] := by
  cases r with
  | nil => rfl
  | cons x r => have := h.symm.mem o (List.mem_cons_self ..); cases this
theorem SEq.perm (o : SWO L) : ∀ {l r : List α}, SEq L l r → l.Perm r
  | [], r, h => by rw [h.nil o]
  | x :: l, r, h => by
    have hx : r.filter (eqv L x) = x :: l.filter (eqv L x) := by rw [← h x, List.filter_cons_of_pos (eqv_refl o x)]
    obtain ⟨r1, r2, hr, h1, h2, h3⟩ := List.filter_eq_cons_iff.mp hx
    subst hr
    refine (List.Perm.cons x (SEq.perm o (r := r1 ++ r2) fun y => ?_)).trans List.perm_middle.symm
    have hy := h y
    by_cases hyx : eqv L y x = true
    · have e1 : r1.filter (eqv L y) = [] := by
        rw [List.filter_eq_nil_iff]
        intro b hb hyb
        exact h1 b hb (eqv_tr o (eqv_sym hyx) hyb)
      rw [List.filter_cons_of_pos hyx, List.filter_append, e1, List.nil_append, List.filter_cons_of_pos hyx] at hy
      rw [List.filter_append, e1, List.nil_append]; injection hy
    · rw [List.filter_cons_of_neg hyx, List.filter_append, List.filter_cons_of_neg hyx] at hy
      rw [List.filter_append]; exact hy
theorem SEq.length (o : SWO L) {l r : List α} (h : SEq L l r) : l.length = r.length := (h.perm o).length_eq

noncomputable def Srt (L : α → α → Bool) (l : List α) : Prop := l.Pairwise fun x y => L y x = false
theorem Srt.append {l r : List α} : Srt L (l ++ r) ↔ Srt L l ∧ Srt L r ∧ ∀ x ∈ l, ∀ y ∈ r, L y x = false := List.pairwise_append
theorem Srt.uniq (o : SWO L) : ∀ {l r : List α}, Srt L l → Srt L r → SEq L l r → l = r
  | [], r, _, _, h => (h.nil o).symm
  | x :: l, [], _, _, h => by have := h.symm.nil o; cases this
  | x :: l, y :: r, hl, hr, h => by
    have hxy : L y x = false ∨ y = x := by
      have := h.symm.mem o (List.mem_cons_self (a := y) (l := r))
      rcases List.mem_cons.mp this with e | e
      · exact .inr e
      · exact .inl ((List.pairwise_cons.mp hl).1 y e)
    have hyx : L x y = false ∨ x = y := by
      have := h.mem o (List.mem_cons_self (a := x) (l := l))
      rcases List.mem_cons.mp this with e | e
      · exact .inr e
      · exact .inl ((List.pairwise_cons.mp hr).1 x e)
    have he : eqv L x y = true := by
      rcases hxy with a | a <;> rcases hyx with b | b
      · exact eqv_iff.mpr ⟨b, a⟩
      · subst b; exact eqv_refl o _
      · subst a; exact eqv_refl o _
      · subst a; exact eqv_refl o _
    have hx := h x
    rw [List.filter_cons_of_pos (eqv_refl o x), List.filter_cons_of_pos he] at hx
    injection hx with e1 e2
    subst e1
    congr 1
    refine Srt.uniq o (List.pairwise_cons.mp hl).2 (List.pairwise_cons.mp hr).2 fun z => ?_
    have hz := h z
    by_cases hzx : eqv L z x = true
    · rw [List.filter_cons_of_pos hzx, List.filter_cons_of_pos hzx] at hz; injection hz
    · rw [List.filter_cons_of_neg hzx, List.filter_cons_of_neg hzx] at hz; exact hz


noncomputable def ins (L : α → α → Bool) (x : α) : List α → List α
  | [] => [x]
  | y :: ys => if L y x then y :: ins L x ys else x :: y :: ys
noncomputable def isort (L : α → α → Bool) : List α → List α
  | [] => []
  | x :: xs => ins L x (isort L xs)
theorem ins_perm (x : α) : ∀ l : List α, (ins L x l).Perm (x :: l)
  | [] => List.Perm.refl _
  | y :: ys => by
    unfold ins; split
    · exact ((ins_perm x ys).cons y).trans (List.Perm.swap ..)
    · exact List.Perm.refl _
theorem isort_perm : ∀ l : List α, (isort L l).Perm l
  | [] => List.Perm.refl _
  | x :: xs => (ins_perm x _).trans ((isort_perm xs).cons x)
theorem ins_split (x : α) : ∀ l : List α, ∃ a b, l = a ++ b ∧ ins L x l = a ++ x :: b ∧ (∀ y ∈ a, L y x = true) ∧ (∀ y, b.head? = some y → L y x = false)
  | [] => ⟨[], [], rfl, rfl, by simp, by simp⟩
  | y :: ys => by
    unfold ins
    by_cases h : L y x = true
    · obtain ⟨a, b, e1, e2, h1, h2⟩ := ins_split x ys
      refine ⟨y :: a, b, by rw [e1]; rfl, by rw [if_pos h, e2]; rfl, ?_, h2⟩
      intro z hz; rcases List.mem_cons.mp hz with rfl | hz
      · exact h
      · exact h1 z hz
    · exact ⟨[], y :: ys, rfl, by rw [if_neg h]; rfl, by simp, by intro z hz; simp at hz; subst hz; simpa using h⟩
theorem ins_srt (o : SWO L) (x : α) {l : List α} (h : Srt L l) : Srt L (ins L x l) := by
  obtain ⟨a, b, e1, e2, h1, h2⟩ := ins_split (L := L) x l
  rw [e2]; rw [e1] at h
  obtain ⟨ha, hb, hab⟩ := Srt.append.mp h
  refine Srt.append.mpr ⟨ha, ?_, ?_⟩
  · refine List.pairwise_cons.mpr ⟨fun y hy => ?_, hb⟩
    cases b with
    | nil => cases hy
    | cons z b =>
      have hz := h2 z rfl
      rcases List.mem_cons.mp hy with rfl | hy
      · exact hz
      · exact o.ntr _ _ _ ((List.pairwise_cons.mp hb).1 y hy) hz
  · intro y hy z hz
    rcases List.mem_cons.mp hz with rfl | hz
    · exact o.asym _ _ (h1 y hy)
    · exact hab y hy z hz
theorem isort_srt (o : SWO L) : ∀ l : List α, Srt L (isort L l)
  | [] => List.Pairwise.nil
  | x :: xs => ins_srt o x (isort_srt o xs)
theorem ins_seq (o : SWO L) (x : α) (l : List α) : SEq L (ins L x l) (x :: l) := by
  obtain ⟨a, b, e1, e2, h1, h2⟩ := ins_split (L := L) x l
  rw [e2, e1, show a ++ x :: b = (a ++ [x]) ++ b by simp, show x :: (a ++ b) = ([x] ++ a) ++ b by simp]
  exact (SEq.swap (A := [x]) (B := a) o fun y hy z hz => by rw [List.mem_singleton.mp hy]; exact h1 z hz).symm.right b
theorem isort_seq (o : SWO L) : ∀ l : List α, SEq L (isort L l) l
  | [] => SEq.refl _
  | x :: xs => (ins_seq o x _).trans ((isort_seq o xs).left [x])
theorem isort_uniq (o : SWO L) {l r : List α} (h : SEq L l r) (hs : Srt L l) : l = isort L r := Srt.uniq o hs (isort_srt o r) (h.trans (isort_seq o r).symm)
theorem ins_map {β : Type} {M : β → β → Bool} (f : α → β) (x : α) : ∀ l : List α, (∀ y ∈ l, M (f y) (f x) = L y x) → ins M (f x) (l.map f) = (ins L x l).map f
  | [], _ => rfl
  | y :: ys, h => by
    simp only [List.map_cons, ins]
    rw [h y (List.mem_cons_self ..)]
    split
    · rw [ins_map f x ys fun z hz => h z (List.mem_cons_of_mem _ hz)]; rfl
    · rfl
theorem isort_map {β : Type} {M : β → β → Bool} (f : α → β) : ∀ l : List α, (∀ x ∈ l, ∀ y ∈ l, M (f x) (f y) = L x y) → isort M (l.map f) = (isort L l).map f
  | [], _ => rfl
  | x :: xs, h => by
    show ins M (f x) (isort M (xs.map f)) = _
    rw [isort_map f xs fun y hy z hz => h y (List.mem_cons_of_mem _ hy) z (List.mem_cons_of_mem _ hz)]
    exact ins_map f x _ fun y hy => h y (List.mem_cons_of_mem _ ((isort_perm xs).mem_iff.mp hy)) x (List.mem_cons_self ..)
end
end Mine
open PySem PySem.W PyProof.Rows
set_option Elab.async false
set_option maxRecDepth 100000
namespace Mine

section arr
variable {α : Type}
theorem mirror_toList {xs : Array α} {pre seg post : List α} {i j : Nat} (h : xs.toList = pre ++ seg ++ post) (hi : i = pre.length) (hj : j = pre.length + seg.length) :
    (mirror xs i j ((j - i) / 2)).toList = pre ++ seg.reverse ++ post := by
  have hsz : xs.size = pre.length + seg.length + post.length := by rw [← Array.length_toList, h]; simp [Nat.add_assoc]
  apply List.ext_getElem?
  intro k
  have e := getElem?_mirror_all (xs := xs) (i := i) (j := j) (by exact o9_43 hj hsz) k
  rw [Array.getElem?_toList, e, ← Array.getElem?_toList, ← Array.getElem?_toList, h]
  subst hi; subst hj
  simp only [List.getElem?_append, List.length_append, List.length_reverse]
  repeat' split
  all_goals first
    | rfl
    | (exfalso; (first | exact o9_44 (by assumption) (by assumption) | exact o9_45 (by assumption) (by assumption) | exact o9_46 (by assumption) (by assumption) | exact o9_47 (by assumption) (by assumption) | exact o9_48 (by assumption) (by assumption) (by assumption)))
    | (rw [List.getElem?_reverse (by exact o9_49 (by assumption))]; congr 1; (first | lia | omega))
theorem swap_toList {xs : Array α} {l r : List α} {x y : α} {j : Nat} (h : xs.toList = l ++ y :: x :: r) (hj : j = l.length) : (xs.swapIfInBounds (j + 1) j).toList = l ++ x :: y :: r := by
  have hsz : xs.size = l.length + (r.length + 2) := by rw [← Array.length_toList, h]; simp
  subst hj
  apply List.ext_getElem?
  intro k
  rw [Array.getElem?_toList, getElem?_swapIB (by exact o9_51 hsz) (by exact o9_52 hsz), ← Array.getElem?_toList, ← Array.getElem?_toList, ← Array.getElem?_toList, h]
  clear h hsz
  rcases Nat.lt_trichotomy k l.length with hk | hk | hk
  · rw [if_neg (by exact o9_53 hk), if_neg (by exact o9_54 hk), List.getElem?_append_left hk, List.getElem?_append_left hk]
  · subst hk; rw [if_pos rfl]; simp
  · obtain ⟨m, rfl⟩ : ∃ m, k = l.length + m + 1 := ⟨k - l.length - 1, by exact o9_55 hk⟩
    rw [if_neg (by exact o9_56 hk)]
    cases m with
    | zero => rw [if_pos rfl]; simp
    | succ m => rw [if_neg (by exact o9_57), List.getElem?_append_right (by exact o9_58), List.getElem?_append_right (by exact o9_58), show l.length + (m + 1) + 1 - l.length = m + 2 by exact o9_59]; simp
theorem bubble_toList {xs : Array α} {pre post : List α} {x : α} : ∀ (b a : List α) {i d : Nat}, xs.toList = pre ++ (a ++ b) ++ x :: post → i = pre.length + a.length + b.length → d = b.length →
    (bubble xs i d).toList = pre ++ (a ++ x :: b) ++ post
  | [], a, i, d, h, hi, hd => by
    subst hd
    show xs.toList = _
    rw [h]; simp
  | y :: b, a, i, d, h, hi, hd => by
    subst hd
    have ih := bubble_toList (xs := xs) (pre := pre) (post := post) (x := x) b (a ++ [y]) (i := i) (d := b.length) (by rw [h]; simp) (by rw [hi]; simp; exact o9_60) rfl
    rw [List.length_cons, bubble_succ]
    have e : i - b.length = pre.length + a.length + 1 := by rw [hi, List.length_cons]; exact o9_61
    rw [e, show pre.length + a.length + 1 - 1 = pre.length + a.length from rfl]
    rw [swap_toList (l := pre ++ a) (r := b ++ post) (x := x) (y := y) (by rw [ih]; simp) (by simp)]
    simp
end arr

section
variable {prog : Program} {w : World} {A : Around} {E : Value → Shared → Prop} {s : Shared} {κ : SortKind} {D : Keyed → Prop} {L : Keyed → Keyed → Bool}


noncomputable def CmpS (prog : Program) (w : World) (A : Around) (s : Shared) (κ : SortKind) (D : Keyed → Prop) (L : Keyed → Keyed → Bool) : Prop :=
  ∀ x y, D x → D y → ∀ (E : Value → Shared → Prop) (Q : Bool → Shared → Prop), Q (L x y) s → wpAny (model prog w) A (keyLt' κ x.1 y.1) Q E s

theorem wpS_ltX {st : SortSt} {x y : Keyed} {Q : Option Bool → SortSt → Prop} (C : CmpS prog w A s κ D L) (hk : kindOf st = κ) (hx : D x) (hy : D y) (h : Q (some (L x y)) st) :
    wpS (model prog w) A E s (lt' x y) Q st := by
  rw [lt'_eq]
  refine wpS_bind (wpS_get ?_)
  rw [hk]
  refine wpS_bind (wpS_lift (wpAny_attempt (C x y hx hy _ _ ⟨rfl, ?_⟩)))
  exact wpS_pure h
theorem wpS_elem {st : SortSt} {a : Array Keyed} {i : Nat} {x : Keyed} {Q : Keyed → SortSt → Prop} (hi : a.toList[i]? = some x) (h : Q x st) : wpS (model prog w) A E s (elem' a i) Q st := by
  rw [elem'_eq, ← Array.getElem?_toList, hi]; exact wpS_pure h
theorem wpS_ltG {st : SortSt} {i j : Nat} {x y : Keyed} {Q : Option Bool → SortSt → Prop} (C : CmpS prog w A s κ D L) (hk : kindOf st = κ) (hi : (arrOf st).toList[i]? = some x) (hj : (arrOf st).toList[j]? = some y)
    (hx : D x) (hy : D y) (h : Q (some (L x y)) st) : wpS (model prog w) A E s (ltAt' i j) Q st := by
  rw [ltAt'_eq]
  refine wpS_bind (wpS_get ?_)
  exact wpS_bind (wpS_elem hi (wpS_bind (wpS_elem hj (wpS_ltX C hk hx hy h))))


theorem wpS_binarySortG {st : SortSt} {pre a b post : List Keyed} {Q : Bool → SortSt → Prop} (o : SWO L) (C : CmpS prog w A s κ D L) (hk : kindOf st = κ) (ha : (arrOf st).toList = pre ++ (a ++ b) ++ post) (hD : ∀ p ∈ a ++ b, D p) (hs : Srt L a) (hne : a ≠ [])
    (h : ∀ xs t, xs.toList = pre ++ t ++ post → Srt L t → SEq L t (a ++ b) → Q true (setArr st xs)) : wpS (model prog w) A E s (binarySort' pre.length (a.length + b.length) a.length) Q st := by
  have hpos : 0 < a.length := List.length_pos_iff.mpr hne
  rw [binarySort'_eq, show max a.length 1 = a.length by exact o9_62 hpos]
  refine wpS_bind (wpS_mono (wpS_forRange (I := fun k c st' => c = (none, ()) ∧ ∃ xs t, st' = setArr st xs ∧ xs.toList = pre ++ (t ++ b.drop (k - a.length)) ++ post ∧ Srt L t ∧ SEq L t (a ++ b.take (k - a.length)) ∧ t.length = k)
    (Q := fun c st' => c = (none, ()) ∧ ∃ xs t, st' = setArr st xs ∧ xs.toList = pre ++ t ++ post ∧ Srt L t ∧ SEq L t (a ++ b)) ?step ?fin ?init) ?post)
  case post =>
    intro c st' zq9
    refine hide fun WW9 hW9 => ?_
    obtain ⟨eq9_0, xs, t, eq9_1, h1, h2, h3⟩ := zq9
    refine hW9 ?_
    clear hW9 WW9
    subst eq9_0 eq9_1
    exact wpS_pure (h xs t h1 h2 h3)
  case init =>
    exact ⟨rfl, arrOf st, a, rfl, by simpa using ha, hs, by simpa using SEq.refl _, rfl⟩
  case fin =>
    intro c st' zq9
    refine hide fun WW9 hW9 => ?_
    obtain ⟨hc, xs, t, eq9_0, h1, h2, h3, h4⟩ := zq9
    refine hW9 ?_
    clear hW9 WW9
    subst eq9_0
    rw [show max a.length (a.length + b.length) - a.length = b.length by exact o9_63, List.drop_length, List.append_nil] at h1
    rw [show max a.length (a.length + b.length) - a.length = b.length by exact o9_63, List.take_length] at h3
    exact ⟨hc, xs, t, rfl, h1, h2, h3⟩
  case step =>
    intro k c st' hak hkn zq9
    refine hide fun WW9 hW9 => ?_
    obtain ⟨eq9_0, xs, t, eq9_1, h1, h2, h3, h4⟩ := zq9
    refine hW9 ?_
    clear hW9 WW9
    subst eq9_0 eq9_1
    obtain ⟨x, hx⟩ : ∃ x, b[k - a.length]? = some x := ⟨_, List.getElem?_eq_getElem (by exact o9_64 hkn hak h4)⟩
    obtain ⟨hlt, hxe⟩ := List.getElem?_eq_some_iff.mp hx
    have hdrop : b.drop (k - a.length) = x :: b.drop (k + 1 - a.length) := by
      rw [List.drop_eq_getElem_cons hlt, hxe, show k - a.length + 1 = k + 1 - a.length by exact o9_65 hak h4]
    have htake : b.take (k + 1 - a.length) = b.take (k - a.length) ++ [x] := by
      rw [show k + 1 - a.length = k - a.length + 1 by exact o9_66 hak h4, List.take_add_one, hx]; rfl
    rw [hdrop] at h1
    have hDx : D x := hD x (List.mem_append_right _ (List.mem_of_getElem? hx))
    have hDt : ∀ y ∈ t, D y := fun y hy => by
      have := h3.mem o hy
      refine hD y ?_
      rcases List.mem_append.mp this with h | h
      · exact List.mem_append_left _ h
      · exact List.mem_append_right _ (List.mem_of_mem_take h)
    have hgk : xs.toList[pre.length + k]? = some x := by
      rw [h1, List.append_assoc, List.getElem?_append_right (by exact o9_67 hpos hak h4), List.append_assoc, List.getElem?_append_right (by exact o9_68 hpos h4 hak)]
      rw [show pre.length + k - pre.length - t.length = 0 by exact o9_69 h4]; rfl
    have hgm : ∀ m y, t[m]? = some y → xs.toList[pre.length + m]? = some y := fun m y hy => by
      have := (List.getElem?_eq_some_iff.mp hy).1
      rw [h1, List.append_assoc, List.getElem?_append_right (by exact o9_70), List.append_assoc, List.getElem?_append_left (by exact o9_71 hpos this h4 hak), show pre.length + m - pre.length = m by exact o9_72]; exact hy
    refine wpS_bind (wpS_mono (wpS_forRange (I := fun z c st'' => st'' = setArr st xs ∧ ∃ l r, c = (none, l, r) ∧ l ≤ r ∧ r ≤ k ∧ r - l ≤ k - z ∧
        (∀ i y, t[i]? = some y → i < l → L x y = false) ∧ (∀ i y, t[i]? = some y → r ≤ i → L x y = true))
      (Q := fun c st'' => st'' = setArr st xs ∧ ∃ l r, c = (none, l, r) ∧ l ≤ k ∧
        (∀ i y, t[i]? = some y → i < l → L x y = false) ∧ (∀ i y, t[i]? = some y → l ≤ i → L x y = true)) ?istep ?ifin ?iinit) ?ipost)
    case iinit => exact ⟨rfl, 0, k, rfl, by exact o9_73 h4, by exact o9_74, by exact o9_75, fun i y _ hi => by exact (o9_76 hi).elim, fun i y hy h1 => by have := (List.getElem?_eq_some_iff.mp hy).1; exact (o9_77 this h4 h1).elim⟩
    case ifin =>
      intro c st'' zq9
      refine hide fun WW9 hW9 => ?_
      obtain ⟨eq9_0, l, r, eq9_1, hlr, hrk, hm, hlo, hhi⟩ := zq9
      refine hW9 ?_
      clear hW9 WW9
      subst eq9_0 eq9_1
      have : l = r := by exact o9_78 hm hlr h4
      subst this
      exact ⟨rfl, l, l, rfl, hrk, hlo, hhi⟩
    case istep =>
      intro z c st'' _ hxk zq9
      refine hide fun WW9 hW9 => ?_
      obtain ⟨eq9_0, l, r, eq9_1, hlr, hrk, hm, hlo, hhi⟩ := zq9
      refine hW9 ?_
      clear hW9 WW9
      subst eq9_0 eq9_1
      dsimp only
      by_cases hge : l ≥ r
      · rw [if_pos hge]
        have : l = r := by exact o9_79 hlr hge
        subst this
        exact wpS_pure ⟨rfl, l, l, rfl, hrk, hlo, hhi⟩
      · rw [if_neg hge]
        obtain ⟨y, hy⟩ : ∃ y, t[(l + r) / 2]? = some y := ⟨_, List.getElem?_eq_getElem (by exact o9_80 hrk h4 hge)⟩
        refine wpS_bind (wpS_ltG C hk hgk (hgm _ _ hy) hDx (hDt y (List.mem_of_getElem? hy)) ?_)
        have srt : ∀ i j u v, t[i]? = some u → t[j]? = some v → i ≤ j → L v u = false := fun i j u v hu hv hij => by
          rcases Nat.lt_or_eq_of_le hij with h | h
          · obtain ⟨hi', rfl⟩ := List.getElem?_eq_some_iff.mp hu
            obtain ⟨hj', rfl⟩ := List.getElem?_eq_some_iff.mp hv
            exact List.pairwise_iff_getElem.mp h2 i j hi' hj' h
          · subst h; rw [hu] at hv; cases hv; exact o.irr _
        cases hless : L x y with
        | true =>
          simp only [if_true]
          refine wpS_pure ⟨rfl, l, (l + r) / 2, rfl, by exact o9_81 hge, by exact o9_82 hrk h4 hge, by exact o9_83 hm hxk h4 hge, hlo, fun i v hv h1 => ?_⟩
          exact o.lt_le hless (srt _ _ _ _ hy hv h1)
        | false =>
          simp only [Bool.false_eq_true, if_false]
          refine wpS_pure ⟨rfl, (l + r) / 2 + 1, r, rfl, by exact o9_84 hge, by exact o9_15 hrk, by exact o9_85 hm hxk h4 hge, fun i v hv h1 => ?_, hhi⟩
          exact o.ntr _ _ _ hless (srt _ _ _ _ hv hy (by exact o9_86 h1))
    case ipost =>
      intro c st'' zq9
      refine hide fun WW9 hW9 => ?_
      obtain ⟨eq9_0, l, r, eq9_1, hlk, hlo, hhi⟩ := zq9
      refine hW9 ?_
      clear hW9 WW9
      subst eq9_0 eq9_1
      show wpS _ _ _ _ (do moveDown' (pre.length + k) (pre.length + l); pure (ForInStep.yield (none, ()))) _ _
      rw [moveDown'_eq]
      have e1 : xs.toList = pre ++ (t.take l ++ t.drop l) ++ x :: (b.drop (k + 1 - a.length) ++ post) := by rw [h1, List.take_append_drop]; simp
      have e2 := bubble_toList (t.drop l) (t.take l) (i := pre.length + k) (d := pre.length + k - (pre.length + l)) e1 (by simp; exact o9_87 hlk h4) (by simp; exact o9_88 hlk h4)
      have hlo' : ∀ y ∈ t.take l, L x y = false := fun y hy => by
        obtain ⟨i, hi⟩ := List.mem_iff_getElem?.mp hy
        rw [List.getElem?_take] at hi
        split at hi
        · exact hlo i y hi (by assumption)
        · cases hi
      have hhi' : ∀ y ∈ t.drop l, L x y = true := fun y hy => by
        obtain ⟨i, hi⟩ := List.mem_iff_getElem?.mp hy
        rw [List.getElem?_drop] at hi
        exact hhi _ y hi (by exact o9_70)
      refine wpS_bind (wpS_modify (wpS_pure ⟨rfl, _, t.take l ++ x :: t.drop l, rfl, ?_, ?_, ?_, ?_⟩))
      · rw [show arrOf (setArr st xs) = xs from rfl, e2]; simp
      · have hs' := h2
        rw [← List.take_append_drop l t] at hs'
        refine hide fun WW9 hW9 => ?_
        obtain ⟨s1, s2, s3⟩ := Srt.append.mp hs'
        refine hW9 ?_
        clear hW9 WW9
        refine Srt.append.mpr ⟨s1, List.pairwise_cons.mpr ⟨fun y hy => o.asym _ _ (hhi' y hy), s2⟩, fun y hy z hz => ?_⟩
        rcases List.mem_cons.mp hz with rfl | hz
        · exact hlo' y hy
        · exact s3 y hy z hz
      · rw [htake, ← List.append_assoc]
        refine SEq.trans ?_ (h3.right [x])
        rw [show t.take l ++ x :: t.drop l = t.take l ++ ([x] ++ t.drop l) by simp]
        conv => rhs; rw [← List.take_append_drop l t, List.append_assoc]
        exact SEq.left _ (SEq.swap (A := t.drop l) (B := [x]) o fun y hy z hz => by rw [List.mem_singleton.mp hz]; exact hhi' y hy).symm
      · simp; exact o9_89 hlk h4
end
end Mine
open PySem PySem.W PyProof.Rows
set_option Elab.async false
set_option maxRecDepth 100000
namespace Mine

noncomputable def gAsc (lo a nrem : Nat) : StateT SortSt Sem AscSt :=
  forIn [a:nrem] ((none, a) : AscSt) fun _ __s => do
    let __x ← ltAt' (lo + __s.snd) (lo + __s.snd - 1)
    match __x with
    | some smaller => if smaller = true then pure (ForInStep.done (none, __s.snd)) else pure (ForInStep.yield (none, __s.snd + 1))
    | _ => pure (ForInStep.done (some none, __s.snd))
noncomputable def gTail (lo n nrem : Nat) : StateT SortSt Sem (Option Nat) := do
  reverseSlice' lo (lo + n)
  let __s ← gAsc lo n nrem
  match __s.fst with
  | some r => pure r
  | none => pure (some __s.snd)
noncomputable def gDesc (lo n nrem : Nat) : StateT SortSt Sem DescSt :=
  forIn [n:nrem] ((none, n, 0) : DescSt) fun _ __s => do
    let __x ← ltAt' (lo + __s.snd.fst) (lo + __s.snd.fst - 1)
    match __x with
    | some smaller =>
      if smaller = true then
        if __s.snd.snd > 0 then do
          reverseSlice' (lo + __s.snd.fst - (__s.snd.snd + 1)) (lo + __s.snd.fst)
          pure (ForInStep.yield (none, __s.snd.fst + 1, 0))
        else pure (ForInStep.yield (none, __s.snd.fst + 1, 0))
      else do
        let __x ← ltAt' (lo + __s.snd.fst - 1) (lo + __s.snd.fst)
        match __x with
        | some larger =>
          if larger = true then pure (ForInStep.done (none, __s.snd.fst, __s.snd.snd))
          else pure (ForInStep.yield (none, __s.snd.fst + 1, __s.snd.snd + 1))
        | _ => pure (ForInStep.done (some none, __s.snd.fst, __s.snd.snd))
    | _ => pure (ForInStep.done (some none, __s.snd.fst, __s.snd.snd))
noncomputable def gDescPart (lo n nrem : Nat) : StateT SortSt Sem (Option Nat) := do
  liftM (rule "list.sort.descending-run")
  let __s ← gDesc lo (n + 1) nrem
  match __s.fst with
  | some r => pure r
  | none =>
    if __s.snd.snd > 0 then do
      reverseSlice' (lo + __s.snd.fst - (__s.snd.snd + 1)) (lo + __s.snd.fst)
      gTail lo __s.snd.fst nrem
    else gTail lo __s.snd.fst nrem

theorem countRunG_eq (lo nrem : Nat) : countRun' lo nrem = (do
    let __s ← gAsc lo 1 nrem
    match __s.fst with
    | some r => pure r
    | none =>
      if (__s.snd == nrem) = true then pure (some __s.snd)
      else if __s.snd > 1 then do
        let __x ← ltAt' lo (lo + __s.snd - 1)
        match __x with
        | some rose => if rose = true then pure (some __s.snd) else do
            reverseSlice' lo (lo + __s.snd)
            gDescPart lo __s.snd nrem
        | _ => pure none
      else gDescPart lo __s.snd nrem) := by
  rw [countRun'_eq]
  unfold gDescPart gTail gDesc gAsc
  refine congrArg (bind _) ?_
  funext __s
  obtain ⟨r, n⟩ := __s
  cases r with
  | some r => rfl
  | none =>
    dsimp only
    split
    · rfl
    · split
      · congr 1
        funext x
        cases x with
        | none => rfl
        | some rose =>
          dsimp only
          split
          · rfl
          · congr 1
            funext _r
            congr 1; funext _u; congr 1; congr 1; funext s2; obtain ⟨r2, n2, q2⟩ := s2
            cases r2 with
            | some r2 => rfl
            | none =>
              dsimp only
              split
              · congr 1; funext _v; congr 1; funext _w; congr 1; funext s3; obtain ⟨r3, n3⟩ := s3; cases r3 <;> rfl
              · congr 1; funext _w; congr 1; funext s3; obtain ⟨r3, n3⟩ := s3; cases r3 <;> rfl
      · congr 1; funext _u; congr 1; congr 1; funext s2; obtain ⟨r2, n2, q2⟩ := s2
        cases r2 with
        | some r2 => rfl
        | none =>
          dsimp only
          split
          · congr 1; funext _v; congr 1; funext _w; congr 1; funext s3; obtain ⟨r3, n3⟩ := s3; cases r3 <;> rfl
          · congr 1; funext _w; congr 1; funext s3; obtain ⟨r3, n3⟩ := s3; cases r3 <;> rfl

section
variable {prog : Program} {w : World} {A : Around} {E : Value → Shared → Prop} {s : Shared} {κ : SortKind} {D : Keyed → Prop} {L : Keyed → Keyed → Bool}

theorem Srt.get (o : SWO L) {t : List Keyed} (h : Srt L t) {i j : Nat} {u v : Keyed} (hu : t[i]? = some u) (hv : t[j]? = some v) (hij : i ≤ j) : L v u = false := by
  rcases Nat.lt_or_eq_of_le hij with h' | h'
  · obtain ⟨hi', rfl⟩ := List.getElem?_eq_some_iff.mp hu
    obtain ⟨hj', rfl⟩ := List.getElem?_eq_some_iff.mp hv
    exact List.pairwise_iff_getElem.mp h i j hi' hj' h'
  · subst h'; rw [hu] at hv; cases hv; exact o.irr _
theorem Srt.snoc (o : SWO L) {t : List Keyed} (h : Srt L t) {x y : Keyed} (hy : t.getLast? = some y) (hxy : L x y = false) : Srt L (t ++ [x]) := by
  refine Srt.append.mpr ⟨h, List.pairwise_singleton .., fun z hz u hu => ?_⟩
  rw [List.mem_singleton.mp hu]
  obtain ⟨i, hi⟩ := List.mem_iff_getElem?.mp hz
  rw [List.getLast?_eq_getElem?] at hy
  exact o.ntr _ _ _ hxy (h.get o hi hy (by have := (List.getElem?_eq_some_iff.mp hi).1; exact o9_90 this))
theorem take_snoc {α : Type} {l : List α} {n : Nat} {x : α} (h : l[n]? = some x) : l.take (n + 1) = l.take n ++ [x] := by rw [List.take_add_one, h]; rfl

theorem wpS_reverseG {st : SortSt} {pre seg post : List Keyed} {i j : Nat} {Q : Unit → SortSt → Prop} (ha : (arrOf st).toList = pre ++ seg ++ post) (hi : i = pre.length) (hj : j = pre.length + seg.length)
    (h : ∀ xs, xs.toList = pre ++ seg.reverse ++ post → Q () (setArr st xs)) : wpS (model prog w) A E s (reverseSlice' i j) Q st := by
  rw [reverseSlice'_eq]; exact wpS_modify (h _ (mirror_toList ha hi hj))

theorem wpS_gAsc {st : SortSt} {pre seg : List Keyed} {a : Nat} {Q : AscSt → SortSt → Prop} (o : SWO L) (C : CmpS prog w A s κ D L) (hk : kindOf st = κ) (ha : (arrOf st).toList = pre ++ seg) (hD : ∀ p ∈ seg, D p) (h1 : 1 ≤ a) (h2 : a ≤ seg.length)
    (hs : Srt L (seg.take a)) (h : ∀ n, a ≤ n → n ≤ seg.length → Srt L (seg.take n) → (n = seg.length ∨ ∃ x y, seg[n]? = some x ∧ seg[n - 1]? = some y ∧ L x y = true) → Q (none, n) st) :
    wpS (model prog w) A E s (gAsc pre.length a seg.length) Q st := by
  unfold gAsc
  refine wpS_forRange (I := fun x c st' => st' = st ∧ c = (none, x) ∧ Srt L (seg.take x)) ?step ?fin ⟨rfl, rfl, hs⟩
  case fin =>
    rintro c st' ⟨rfl, rfl, hs'⟩
    rw [show max a seg.length = seg.length by exact o9_91 h2] at hs' ⊢
    exact h _ h2 (Nat.le_refl _) hs' (.inl rfl)
  case step =>
    rintro n c st' hax hxn ⟨rfl, rfl, hs'⟩
    dsimp only
    obtain ⟨x, hx⟩ : ∃ x, seg[n]? = some x := ⟨_, List.getElem?_eq_getElem hxn⟩
    obtain ⟨y, hy⟩ : ∃ y, seg[n - 1]? = some y := ⟨_, List.getElem?_eq_getElem (by exact o9_92 h1 hxn hax)⟩
    refine wpS_bind (wpS_ltG C hk (x := x) (y := y) (by rw [ha, List.getElem?_append_right (by exact o9_93 h1 hax)]; rw [Nat.add_sub_cancel_left]; exact hx)
      (by rw [ha, List.getElem?_append_right (by exact o9_94 h1 hax)]; rw [show pre.length + n - 1 - pre.length = n - 1 by exact o9_95 h1 hax]; exact hy) (hD x (List.mem_of_getElem? hx)) (hD y (List.mem_of_getElem? hy)) ?_)
    cases hless : L x y with
    | true =>
      simp only [if_true]
      exact wpS_pure (h n hax (by exact o9_96 hxn) hs' (.inr ⟨x, y, hx, hy, hless⟩))
    | false =>
      simp only [Bool.false_eq_true, if_false]
      refine wpS_pure ⟨rfl, rfl, ?_⟩
      rw [take_snoc hx]
      refine hs'.snoc o (y := y) ?_ hless
      rw [List.getLast?_eq_getElem?, List.length_take, List.getElem?_take, if_pos (by exact o9_97 h1 hxn hax), show min n seg.length - 1 = n - 1 by exact o9_98 h1 hxn hax]; exact hy

theorem wpS_gTail {st : SortSt} {pre c d : List Keyed} {n nrem : Nat} {Q : Option Nat → SortSt → Prop} (o : SWO L) (C : CmpS prog w A s κ D L) (hk : kindOf st = κ) (ha : (arrOf st).toList = pre ++ c ++ d) (hD : ∀ p ∈ c ++ d, D p) (hn : n = c.length) (hnr : nrem = c.length + d.length) (hne : c ≠ [])
    (hs : Srt L c.reverse) (h : ∀ xs t d' d'', d = d' ++ d'' → xs.toList = pre ++ t ++ d'' → Srt L t → SEq L t (c.reverse ++ d') → Q (some t.length) (setArr st xs)) :
    wpS (model prog w) A E s (gTail pre.length n nrem) Q st := by
  unfold gTail
  subst hn
  have hpos := List.length_pos_iff.mpr hne
  refine wpS_bind (wpS_reverseG ha rfl rfl fun xs hxs => ?_)
  have hl : nrem = (c.reverse ++ d).length := by simp [hnr]
  rw [hl]
  refine wpS_bind (wpS_gAsc (seg := c.reverse ++ d) (pre := pre) o C hk (by rw [show arrOf (setArr st xs) = xs from rfl, hxs, List.append_assoc]) (fun p hp => hD p (by simpa using hp)) (by exact o9_99 hpos hnr hl) (by simp) (by simpa using hs) fun n h1 h2 h3 _ => ?_)
  dsimp only
  have e : (c.reverse ++ d).take n = c.reverse ++ d.take (n - c.length) := by
    rw [List.take_append, List.length_reverse, List.take_of_length_le (by simpa using h1)]
  rw [e] at h3
  have := h xs (c.reverse ++ d.take (n - c.length)) (d.take (n - c.length)) (d.drop (n - c.length)) (List.take_append_drop ..).symm ?_ h3 (SEq.refl _)
  · rw [show (c.reverse ++ d.take (n - c.length)).length = n by simp at h2 ⊢; exact o9_100 h1 h2 hnr hl] at this
    exact wpS_pure this
  · rw [hxs, List.append_assoc, List.append_assoc, List.append_assoc, List.take_append_drop]

theorem alike_srt {q : List Keyed} (h : ∀ x ∈ q, ∀ y ∈ q, L x y = false) : Srt L q := List.Pairwise.imp_of_mem (R := fun _ _ => True) (fun ha hb _ => h _ hb _ ha) (List.pairwise_iff_getElem.mpr fun _ _ _ _ _ => trivial)
theorem desc_srt (o : SWO L) {p q : List Keyed} (hq : ∀ x ∈ q, ∀ y ∈ q, L x y = false) (hp : Srt L p.reverse) (hqp : ∀ x ∈ q, ∀ y ∈ p, L x y = true) : Srt L (p ++ q.reverse).reverse := by
  rw [List.reverse_append, List.reverse_reverse]
  exact Srt.append.mpr ⟨alike_srt hq, hp, fun x hx y hy => o.asym _ _ (hqp x hx y (List.mem_reverse.mp hy))⟩
theorem desc_seq (o : SWO L) {p q c : List Keyed} (hqp : ∀ x ∈ q, ∀ y ∈ p, L x y = true) (hc : SEq L (p.reverse ++ q) c) : SEq L (p ++ q.reverse).reverse c := by
  rw [List.reverse_append, List.reverse_reverse]
  exact (SEq.swap (A := p.reverse) (B := q) o fun a ha b hb => hqp b hb a (List.mem_reverse.mp ha)).symm.trans hc


noncomputable def DInv (L : Keyed → Keyed → Bool) (st : SortSt) (pre c0 d : List Keyed) (n neq : Nat) (st' : SortSt) : Prop :=
  ∃ xs p q, st' = setArr st xs ∧ xs.toList = pre ++ (p ++ q) ++ d ∧ p.length + q.length = n ∧ q.length = neq + 1 ∧ (∀ x ∈ q, ∀ y ∈ q, L x y = false) ∧ (∀ x ∈ q, ∀ y ∈ p, L x y = true) ∧ Srt L p.reverse ∧ SEq L (p.reverse ++ q) c0

theorem wpS_gDesc {st st₁ : SortSt} {pre seg : List Keyed} {n : Nat} {Q : DescSt → SortSt → Prop} (o : SWO L) (C : CmpS prog w A s κ D L) (hk : kindOf st = κ) (hD : ∀ p ∈ seg, D p) (h2 : n ≤ seg.length) (hI : DInv L st pre (seg.take n) (seg.drop n) n 0 st₁)
    (h : ∀ m neq st', m ≤ seg.length → DInv L st pre (seg.take m) (seg.drop m) m neq st' → Q (none, m, neq) st') :
    wpS (model prog w) A E s (gDesc pre.length n seg.length) Q st₁ := by
  unfold gDesc
  refine wpS_forRange (I := fun x c st' => ∃ neq, c = (none, x, neq) ∧ DInv L st pre (seg.take x) (seg.drop x) x neq st') ?step ?fin ⟨0, rfl, hI⟩
  case fin =>
    intro c st' zq9
    refine hide fun WW9 hW9 => ?_
    obtain ⟨neq, eq9_0, hI'⟩ := zq9
    refine hW9 ?_
    clear hW9 WW9
    subst eq9_0
    rw [show max n seg.length = seg.length by exact o9_91 h2] at hI' ⊢
    exact h _ _ _ (Nat.le_refl _) hI'
  case step =>
    intro m c st' hax hxn zq9
    refine hide fun WW9 hW9 => ?_
    obtain ⟨neq, eq9_0, hI'⟩ := zq9
    refine hW9 ?_
    clear hW9 WW9
    subst eq9_0
    refine hide fun WW9 hW9 => ?_
    obtain ⟨xs, p, q, eq9_0, hxs, hpq, hq, hqq, hqp, hsp, hse⟩ := id hI'
    refine hW9 ?_
    clear hW9 WW9
    subst eq9_0
    dsimp only
    obtain ⟨x, hx⟩ : ∃ x, seg[m]? = some x := ⟨_, List.getElem?_eq_getElem hxn⟩
    have hdrop : seg.drop m = x :: seg.drop (m + 1) := by
      obtain ⟨_, e⟩ := List.getElem?_eq_some_iff.mp hx
      rw [List.drop_eq_getElem_cons hxn, e]
    have hqne : q ≠ [] := by rintro rfl; simp at hq
    obtain ⟨q0, y, rfl⟩ : ∃ q0 y, q = q0 ++ [y] := ⟨_, _, (List.dropLast_concat_getLast hqne).symm⟩
    have hyq : y ∈ q0 ++ [y] := by simp
    have hyx : D y := hD y (List.mem_of_mem_take (hse.mem o (List.mem_append_right _ hyq)))
    have gx : xs.toList[pre.length + m]? = some x := by
      rw [hxs, hdrop, List.getElem?_append_right (by simp at hpq ⊢; exact o9_101 hpq)]
      rw [show pre.length + m - (pre ++ (p ++ (q0 ++ [y]))).length = 0 by simp at hpq ⊢; exact o9_102 hpq]; rfl
    have gy : xs.toList[pre.length + m - 1]? = some y := by
      rw [hxs, show pre ++ (p ++ (q0 ++ [y])) ++ seg.drop m = (pre ++ p ++ q0) ++ (y :: seg.drop m) by simp, List.getElem?_append_right (by simp at hpq ⊢; exact o9_103 hpq)]
      rw [show pre.length + m - 1 - (pre ++ p ++ q0).length = 0 by simp at hpq ⊢; exact o9_104 hpq]; rfl
    have hDx := hD x (List.mem_of_getElem? hx)
    refine wpS_bind (wpS_ltG C hk gx gy hDx hyx ?_)
    cases hless : L x y with
    | true =>
      simp only [if_true]
      have hxq : ∀ z ∈ q0 ++ [y], L x z = true := fun z hz => o.lt_le hless (hqq z hz y hyq)
      have hxp : ∀ z ∈ p, L x z = true := fun z hz => o.tr hless (hqp y hyq z hz)
      have new : ∀ xs', xs'.toList = pre ++ (p ++ (q0 ++ [y]).reverse) ++ seg.drop m → DInv L st pre (seg.take (m + 1)) (seg.drop (m + 1)) (m + 1) 0 (setArr st xs') := fun xs' h' => by
        refine ⟨xs', p ++ (q0 ++ [y]).reverse, [x], rfl, ?_, ?_, rfl, ?_, ?_, desc_srt o hqq hsp hqp, ?_⟩
        · rw [h', hdrop]; simp
        · simp at hpq ⊢; exact o9_105 hpq
        · intro a ha b hb; rw [List.mem_singleton.mp ha, List.mem_singleton.mp hb]; exact o.irr _
        · intro a ha b hb; rw [List.mem_singleton.mp ha]
          rcases List.mem_append.mp hb with hb | hb
          · exact hxp b hb
          · exact hxq b (List.mem_reverse.mp hb)
        · rw [take_snoc hx]; exact (desc_seq o hqp hse).right [x]
      by_cases hneq : neq > 0
      · rw [if_pos hneq]
        refine wpS_bind (wpS_reverseG (pre := pre ++ p) (seg := q0 ++ [y]) (post := seg.drop m) (by rw [show arrOf (setArr st xs) = xs from rfl, hxs]; simp) (by rw [List.length_append]; exact o9_106 hpq hq) (by rw [List.length_append]; exact o9_107 hpq) fun xs' h' => ?_)
        exact wpS_pure ⟨0, rfl, new xs' (by rw [h']; simp)⟩
      · rw [if_neg hneq]
        refine wpS_pure ⟨0, rfl, new xs ?_⟩
        have : q0 = [] := by simp at hq; exact List.length_eq_zero_iff.mp (by exact o9_108 hq hneq)
        subst this; exact hxs
    | false =>
      simp only [Bool.false_eq_true, if_false]
      refine wpS_bind (wpS_ltG C hk gy gx hyx hDx ?_)
      cases hlarger : L y x with
      | true =>
        simp only [if_true]
        exact wpS_pure (h m neq _ (by exact o9_109 hpq hxn hq) hI')
      | false =>
        simp only [Bool.false_eq_true, if_false]
        refine wpS_pure ⟨neq + 1, rfl, xs, p, (q0 ++ [y]) ++ [x], rfl, ?_, ?_, ?_, ?_, ?_, hsp, ?_⟩
        · rw [hxs, hdrop]; simp
        · simp at hpq ⊢; exact o9_110 hpq
        · simp at hq ⊢; exact o9_111 hq
        · intro a ha b hb
          rcases List.mem_append.mp ha with ha | ha <;> rcases List.mem_append.mp hb with hb | hb
          · exact hqq a ha b hb
          · rw [List.mem_singleton.mp hb]; exact o.ntr _ _ _ (hqq a ha y hyq) hlarger
          · rw [List.mem_singleton.mp ha]; exact o.ntr _ _ _ hless (hqq y hyq b hb)
          · rw [List.mem_singleton.mp ha, List.mem_singleton.mp hb]; exact o.irr _
        · intro a ha b hb
          rcases List.mem_append.mp ha with ha | ha
          · exact hqp a ha b hb
          · rw [List.mem_singleton.mp ha]; exact o.le_lt hlarger (hqp y hyq b hb)
        · rw [take_snoc hx, ← List.append_assoc]; exact hse.right [x]

theorem wpS_gDescPart {st st₁ : SortSt} {pre seg : List Keyed} {n : Nat} {Q : Option Nat → SortSt → Prop} (o : SWO L) (C : CmpS prog w A s κ D L) (hk : kindOf st = κ) (hD : ∀ p ∈ seg, D p) (h2 : n + 1 ≤ seg.length) (hI : DInv L st pre (seg.take (n + 1)) (seg.drop (n + 1)) (n + 1) 0 st₁)
    (h : ∀ xs t c d, seg = c ++ d → xs.toList = pre ++ t ++ d → Srt L t → SEq L t c → t ≠ [] → Q (some t.length) (setArr st xs)) :
    wpS (model prog w) A E s (gDescPart pre.length n seg.length) Q st₁ := by
  unfold gDescPart
  refine wpS_bind (wpS_lift (wpAny_rule ⟨rfl, ?_⟩))
  refine wpS_bind (wpS_gDesc o C hk hD h2 hI fun m neq st' hm zz4 => zz4.elim fun xs zz4 => zz4.elim fun p zz4 => zz4.elim fun q zz4 => zz4.elim fun e zz4 => zz4.elim fun hxs zz4 => zz4.elim fun hpq zz4 => zz4.elim fun hq zz4 => zz4.elim fun hqq zz4 => zz4.elim fun hqp zz4 => zz4.elim fun hsp hse => ?_)
  subst e
  dsimp only
  have fin : ∀ xs', xs'.toList = pre ++ (p ++ q.reverse) ++ seg.drop m → wpS (model prog w) A E s (gTail pre.length m seg.length) Q (setArr st xs') := fun xs' h' => by
    refine wpS_gTail (st := setArr st xs') (c := p ++ q.reverse) (d := seg.drop m) o C hk h' ?_ (by simp; (first | lia | omega)) (by simp; (first | lia | omega)) ?_ (desc_srt o hqq hsp hqp) fun xs2 t d' d'' hd hx2 hst hse2 => ?_
    · intro z hz
      rcases List.mem_append.mp hz with hz | hz
      · refine hD z (List.mem_of_mem_take (hse.mem o ?_))
        simpa using hz
      · exact hD z (List.mem_of_mem_drop hz)
    · intro e; have := congrArg List.length e; rw [List.length_append, List.length_reverse, List.length_nil] at this; (first | lia | omega)
    · refine h xs2 t (seg.take m ++ d') d'' ?_ hx2 hst (hse2.trans ((desc_seq o hqp hse).right d')) ?_
      · rw [List.append_assoc, ← hd, List.take_append_drop]
      · intro e; have := hse2.length o; rw [e] at this; rw [List.length_append, List.length_reverse, List.length_append, List.length_reverse, List.length_nil] at this; (first | lia | omega)
  by_cases hneq : neq > 0
  · rw [if_pos hneq]
    refine wpS_bind (wpS_reverseG (pre := pre ++ p) (seg := q) (post := seg.drop m) (by rw [show arrOf (setArr st xs) = xs from rfl, hxs]; simp) (by rw [List.length_append]; (first | lia | omega)) (by rw [List.length_append]; (first | lia | omega)) fun xs' h' => ?_)
    exact fin xs' (by rw [h']; simp)
  · rw [if_neg hneq]
    refine fin xs ?_
    obtain ⟨y, rfl⟩ : ∃ y, q = [y] := List.length_eq_one_iff.mp (by (first | lia | omega))
    exact hxs

theorem wpS_countRunG {st : SortSt} {pre seg : List Keyed} {Q : Option Nat → SortSt → Prop} (o : SWO L) (C : CmpS prog w A s κ D L) (hk : kindOf st = κ) (ha : (arrOf st).toList = pre ++ seg) (hD : ∀ p ∈ seg, D p) (hne : seg ≠ [])
    (h : ∀ xs t c d, seg = c ++ d → xs.toList = pre ++ t ++ d → Srt L t → SEq L t c → t ≠ [] → Q (some t.length) (setArr st xs)) :
    wpS (model prog w) A E s (countRun' pre.length seg.length) Q st := by
  have hpos := List.length_pos_iff.mpr hne
  rw [countRunG_eq]
  obtain ⟨z, hz⟩ : ∃ z, seg[0]? = some z := ⟨_, List.getElem?_eq_getElem hpos⟩
  have ht1 : seg.take 1 = [z] := by rw [take_snoc hz]; rfl
  refine wpS_bind (wpS_gAsc o C hk ha hD (Nat.le_refl 1) hpos (by rw [ht1]; exact List.pairwise_singleton ..) fun n hn1 hn2 hsn hor => ?_)
  dsimp only
  have asit : Q (some n) st := by
    have := h (arrOf st) (seg.take n) (seg.take n) (seg.drop n) (List.take_append_drop ..).symm (by rw [ha, List.append_assoc, List.take_append_drop]) hsn (SEq.refl _) (by intro e; have := congrArg List.length e; rw [List.length_take, List.length_nil] at this; exact o9_119 hn1 this hn2)
    rw [List.length_take, Nat.min_eq_left hn2] at this
    exact this
  by_cases hnn : n = seg.length
  · rw [if_pos (by simpa using hnn)]; exact wpS_pure asit
  · rw [if_neg (by simpa using hnn)]
    obtain ⟨x, y, hx, hy, hxy⟩ := hor.resolve_left hnn
    have hlt : n < seg.length := by exact o9_120 hn2 hnn
    have hdrop : seg.drop n = x :: seg.drop (n + 1) := by
      obtain ⟨_, e⟩ := List.getElem?_eq_some_iff.mp hx
      rw [List.drop_eq_getElem_cons hlt, e]
    have hlast : (seg.take n)[n - 1]? = some y := by rw [List.getElem?_take, if_pos (by exact o9_121 hn1)]; exact hy
    have start : ∀ xs', xs'.toList = pre ++ (seg.take n).reverse ++ seg.drop n → (∀ u ∈ seg.take n, L x u = true) → DInv L st pre (seg.take (n + 1)) (seg.drop (n + 1)) (n + 1) 0 (setArr st xs') := fun xs' h' hall => by
      refine ⟨xs', (seg.take n).reverse, [x], rfl, ?_, ?_, rfl, ?_, ?_, ?_, ?_⟩
      · rw [h', hdrop]; simp
      · simp; exact o9_122 hlt
      · intro a ha b hb; rw [List.mem_singleton.mp ha, List.mem_singleton.mp hb]; exact o.irr _
      · intro a ha b hb; rw [List.mem_singleton.mp ha]; exact hall b (List.mem_reverse.mp hb)
      · rw [List.reverse_reverse]; exact hsn
      · rw [List.reverse_reverse, take_snoc hx]; exact SEq.refl _
    by_cases hgt : n > 1
    · rw [if_pos hgt]
      refine wpS_bind (wpS_ltG (i := pre.length) C hk (x := z) (y := y) (by rw [ha, List.getElem?_append_right (Nat.le_refl _), Nat.sub_self]; exact hz)
        (by rw [ha, List.getElem?_append_right (by exact o9_123 hgt), show pre.length + n - 1 - pre.length = n - 1 by exact o9_124 hgt]; exact hy) (hD z (List.mem_of_getElem? hz)) (hD y (List.mem_of_getElem? hy)) ?_)
      cases hrose : L z y with
      | true => simp only [if_true]; exact wpS_pure asit
      | false =>
        simp only [Bool.false_eq_true, if_false]
        refine wpS_bind (wpS_reverseG (pre := pre) (seg := seg.take n) (post := seg.drop n) (by rw [ha, List.append_assoc, List.take_append_drop]) rfl (by rw [List.length_take, Nat.min_eq_left hn2]) fun xs' h' => ?_)
        refine wpS_gDescPart o C hk hD hlt (start xs' h' fun u hu => ?_) h
        obtain ⟨i, hi⟩ := List.mem_iff_getElem?.mp hu
        have h0 : (seg.take n)[0]? = some z := by rw [List.getElem?_take, if_pos (by exact o9_125 hgt)]; exact hz
        exact o.lt_le hxy (o.ntr _ _ _ (hsn.get o h0 hi (by exact o9_126)) hrose)
    · rw [if_neg hgt]
      have hn1' : n = 1 := by exact o9_127 hn1 hgt
      subst hn1'
      rw [hz] at hy; cases hy
      refine wpS_gDescPart o C hk hD hlt (start (arrOf st) (by rw [ha, ht1, List.append_assoc, List.reverse_singleton, ← ht1, List.take_append_drop]) fun u hu => ?_) h
      rw [ht1] at hu; rw [List.mem_singleton.mp hu]; exact hxy
end
end Mine
open PySem PySem.W PyProof.Rows
set_option Elab.async false
set_option maxRecDepth 100000
namespace Mine

section
variable {prog : Program} {w : World} {A : Around} {E : Value → Shared → Prop} {s : Shared} {κ : SortKind} {D : Keyed → Prop} {L : Keyed → Keyed → Bool}

noncomputable def SDoneG (L : Keyed → Keyed → Bool) (a₀ : List Keyed) (st : SortSt) : Prop :=
  failedOf st = none ∧ pendingOf st = #[(0, a₀.length, 0)] ∧ Srt L (arrOf st).toList ∧ SEq L (arrOf st).toList a₀

theorem wpS_sortRunsG {st : SortSt} {Q : Unit → SortSt → Prop} (o : SWO L) (C : CmpS prog w A s κ D L) (hk : kindOf st = κ) (hf : failedOf st = none) (hp : pendingOf st = #[]) (hD : ∀ p ∈ (arrOf st).toList, D p) (h2 : 2 ≤ (arrOf st).size) (h64 : (arrOf st).size < 64)
    (h : ∀ st', failedOf st' = none → Srt L (arrOf st').toList → SEq L (arrOf st').toList (arrOf st).toList → Q () st') : wpS (model prog w) A E s sortRuns' Q st := by
  rw [sortRuns'_eq]
  refine wpS_bind (wpS_get ?_)
  dsimp only
  have hlen : (arrOf st).toList.length = (arrOf st).size := by simp
  generalize hn : (arrOf st).size = n at h2 h64 hlen ⊢
  have hmr : minRun' n n 0 = n := by
    obtain ⟨f, hf⟩ : ∃ f, n = f + 1 := ⟨n - 1, by exact o9_128 h2 h64 hlen⟩
    have : minRun' (f + 1) n 0 = n := by rw [minRun'_succ, if_pos h64]; rfl
    rwa [← hf] at this
  simp only [hmr]
  refine wpS_bind (wpS_mono (wpS_forRange
    (I := fun x c st' => (x = 0 ∧ c = (none, 0) ∧ st' = st) ∨ (1 ≤ x ∧ c = (none, n) ∧ SDoneG L (arrOf st).toList st'))
    (Q := fun c st' => c = (none, n) ∧ SDoneG L (arrOf st).toList st') ?step ?fin (.inl ⟨rfl, rfl, rfl⟩)) ?post)
  case fin =>
    rintro c st' (⟨hx, _, _⟩ | ⟨_, hc, hD⟩)
    · exact (o9_129 h2 h64 hlen hmr hx).elim
    · exact ⟨hc, hD⟩
  case step =>
    rintro x c st' _ hx (⟨rfl, rfl, rfl⟩ | ⟨hx1, rfl, hD⟩)
    · dsimp only
      rw [if_neg (by exact o9_130 h2 h64 hmr hn hlen)]
      simp only [Nat.sub_zero, Nat.min_self, Nat.zero_add]
      have hrun := wpS_countRunG (E := E) (pre := []) (seg := (arrOf st').toList) (Q := fun r st2 => ∃ xs t d c, r = some t.length ∧ st2 = setArr st' xs ∧ (arrOf st').toList = c ++ d ∧ xs.toList = t ++ d ∧ Srt L t ∧ SEq L t c ∧ t ≠ []) o C hk rfl hD
        (by intro e; rw [e] at hlen; simp at hlen; exact o9_131 h2 h64 hmr hn hlen) (fun xs t c d h1 h2 h3 h4 h5 => ⟨xs, t, d, c, rfl, rfl, h1, h2, h3, h4, h5⟩)
      rw [hlen] at hrun
      refine wpS_bind (wpS_mono hrun ?_)
      intro r st2 zq9
      refine hide fun WW9 hW9 => ?_
      obtain ⟨xs, t, d, c, eq9_0, eq9_1, h1, h2', h3, h4, h5⟩ := zq9
      refine hW9 ?_
      clear hW9 WW9
      subst eq9_0 eq9_1
      dsimp only
      have htd : t.length + d.length = n := by rw [← hlen, h1, List.length_append, h4.length o]
      by_cases hlt : t.length < n
      · rw [if_pos hlt]
        refine wpS_bind (wpS_lift (wpAny_rule ⟨rfl, ?_⟩))
        have hins := wpS_binarySortG (E := E) (st := setArr st' xs) (pre := []) (a := t) (b := d) (post := []) (Q := fun r st3 => ∃ ys u, r = true ∧ st3 = setArr st' ys ∧ ys.toList = u ∧ Srt L u ∧ SEq L u (t ++ d)) o C hk (by simpa using h2')
          (fun p hp => by
            rcases List.mem_append.mp hp with hp | hp
            · exact hD p (by rw [h1]; exact List.mem_append_left _ (h4.mem o hp))
            · exact hD p (by rw [h1]; exact List.mem_append_right _ hp)) h3 h5 (fun ys u e1 e2 e3 => ⟨ys, u, rfl, rfl, by simpa using e1, e2, e3⟩)
        rw [htd] at hins
        refine wpS_bind (wpS_mono hins ?_)
        intro r st3 zq9
        refine hide fun WW9 hW9 => ?_
        obtain ⟨ys, u, eq9_0, eq9_1, e1, e2, e3⟩ := zq9
        refine hW9 ?_
        clear hW9 WW9
        subst eq9_0 eq9_1
        simp only [Bool.not_true, Bool.false_eq_true, if_false]
        refine wpS_bind (wpS_get ?_)
        have hb : (pendingOf (setArr st' ys)).back? = none := by show (pendingOf st').back? = none; rw [hp]; rfl
        rw [hb]
        dsimp only
        refine wpS_bind (wpS_modify (wpS_pure (.inr ⟨by exact o9_132, rfl, hf, ?_, ?_, ?_⟩)))
        · show (pendingOf st').push _ = _; rw [hp, hlen]; rfl
        · show Srt L ys.toList; rw [e1]; exact e2
        · show SEq L ys.toList _; rw [e1, h1]; exact e3.trans (h4.right d)
      · rw [if_neg hlt]
        have hdn : d = [] := List.length_eq_zero_iff.mp (by exact o9_133 hmr hn hlen htd hlt)
        subst hdn
        rw [List.append_nil] at h1 h2'
        have hm : t.length = n := by simp at htd; exact htd
        refine wpS_bind (wpS_get ?_)
        have hb : (pendingOf (setArr st' xs)).back? = none := by show (pendingOf st').back? = none; rw [hp]; rfl
        rw [hb]
        dsimp only
        rw [hm]
        refine wpS_bind (wpS_modify (wpS_pure (.inr ⟨by exact o9_132, rfl, hf, ?_, ?_, ?_⟩)))
        · show (pendingOf st').push _ = _; rw [hp, hlen]; rfl
        · show Srt L xs.toList; rw [h2']; exact h3
        · show SEq L xs.toList _; rw [h2', h1]; exact h4
    · dsimp only
      rw [if_pos (Nat.le_refl _)]
      exact wpS_pure ⟨rfl, hD⟩
  case post =>
    rintro c st' ⟨rfl, hD⟩
    dsimp only
    refine wpS_bind (wpS_mono (wpS_forRange (I := fun _ c st'' => st'' = st' ∧ c = (none, ())) (Q := fun c st'' => st'' = st' ∧ c = (none, ())) ?_ (fun _ _ hh => hh) ⟨rfl, rfl⟩) ?_)
    · rintro x c st'' _ _ ⟨rfl, rfl⟩
      refine wpS_bind (wpS_get ?_)
      rw [if_pos (by rw [hD.2.1]; exact Nat.le_refl 1)]
      exact wpS_pure ⟨rfl, rfl⟩
    · rintro c st'' ⟨rfl, rfl⟩
      exact wpS_pure (h _ hD.1 hD.2.2.1 hD.2.2.2)
end


noncomputable def ltI : List Int → List Int → Bool
  | [], ys => !ys.isEmpty
  | _ :: _, [] => false
  | a :: xs, b :: ys => if a = b then ltI xs ys else decide (a < b)
theorem ltI_swo : SWO ltI := by
  constructor
  · intro x
    induction x with
    | nil => intro y; cases y <;> simp [ltI]
    | cons a x ih =>
      intro y
      cases y with
      | nil => simp [ltI]
      | cons b y =>
        simp only [ltI]
        by_cases h : a = b
        · subst h; simp only [if_true]; exact ih y
        · rw [if_neg h, if_neg (Ne.symm h)]
          simp only [decide_eq_true_eq, decide_eq_false_iff_not]; exact o9_134
  · intro x
    induction x with
    | nil =>
      intro y z h1 h2
      cases y with
      | nil => exact h2
      | cons b y => simp [ltI] at h1
    | cons a x ih =>
      intro y z h1 h2
      cases z with
      | nil => rfl
      | cons c z =>
        cases y with
        | nil => simp [ltI] at h2
        | cons b y =>
          simp only [ltI] at h1 h2 ⊢
          by_cases hab : a = b
          · subst hab
            simp only [if_true] at h1
            by_cases hac : a = c
            · subst hac; simp only [if_true] at h2 ⊢; exact ih y z h1 h2
            · rw [if_neg hac] at h2 ⊢; exact h2
          · rw [if_neg hab] at h1
            by_cases hbc : b = c
            · subst hbc; rw [if_neg hab]; exact h1
            · rw [if_neg hbc] at h2
              have h1' := of_decide_eq_false h1
              have h2' := of_decide_eq_false h2
              rw [if_neg (by exact o9_135 h1' h2' hbc)]
              exact decide_eq_false (by exact o9_136 h1' h2')
theorem SWO.comap {α β : Type} {L : β → β → Bool} (o : SWO L) (g : α → β) : SWO fun x y => L (g x) (g y) := ⟨fun _ _ => o.asym _ _, fun _ _ _ => o.ntr _ _ _⟩
theorem int_swo : SWO fun (x y : Int) => decide (x < y) := ⟨fun x y h => by simp at h ⊢; exact o9_137 h, fun x y z h1 h2 => by simp at h1 h2 ⊢; exact o9_138 h2 h1⟩

theorem ltI_lex : ∀ xs ys : List Int, lexLt (xs.map .int) (ys.map .int) = some (ltI xs ys)
  | [], ys => by cases ys <;> rfl
  | a :: xs, [] => rfl
  | a :: xs, b :: ys => by
    simp only [List.map_cons, lexLt, ltI]
    split
    · exact ltI_lex xs ys
    · rfl


structure Sk (G : Cx) {α : Type} (f : α → PV) (lt : α → α → Bool) : Prop where
  swo : SWO lt
  inj : ∀ h v x y, VR h (f x) v → VR h (f y) v → x = y
  kind : ∀ (s : Shared) (A : Around) (vs : List Value) (xs : List α), 2 ≤ xs.length → VRs s.heap (xs.map f) vs → ∃ κ,
    (∀ (E : Value → Shared → Prop) (Q : SortKind → Shared → Prop), Q κ s → wpAny (model G.prog G.w) A (keyKind' vs.toArray) Q E s) ∧
    (∀ x y u v, VR s.heap (f x) u → VR s.heap (f y) v → ∀ (E : Value → Shared → Prop) (Q : Bool → Shared → Prop), Q (lt x y) s → wpAny (model G.prog G.w) A (keyLt' κ u v) Q E s)

theorem vrs_ints {h : Heap} : ∀ {ns : List Int} {vs : List Value}, VRs h (ns.map .int) vs → IntsAre vs ns
  | [], vs, e => by rw [show vs = [] from e]; exact .nil
  | n :: ns, vs, ⟨v, r, e, ⟨t, ht⟩, h2⟩ => by subst e; subst ht; exact .cons n t (vrs_ints h2)
theorem Sk.ints (G : Cx) : Sk G (fun i : Int => .int i) (fun x y => decide (x < y)) := by
  refine ⟨int_swo, fun h v x y zz4 zz5 => by obtain ⟨t, h1⟩ := zz4; obtain ⟨u, h2⟩ := zz5; rw [h1] at h2; injection h2, fun s A vs xs hl hv => ⟨oneType', fun E Q hq => ?_, fun x y u v zz4 zz5 E Q hq => zz4.elim fun t hu => zz5.elim fun t' hv' => ?_⟩⟩
  · have hI := vrs_ints hv
    match vs, hI with
    | v1 :: v2 :: vs, hI => rw [keyKind_ints hI]; exact wpAny_pure hq
    | [v], hI => have := hI.length; simp at this; exact (o9_139 this hl).elim
    | [], hI => have := hI.length; simp at this; exact (o9_140 this hl).elim
  · subst hu; subst hv'
    rw [keyLt'_oneType]; exact oneLt_int hq


noncomputable def RunsOk (n : Nat) : Prop := ∀ {prog : Program} {w : World} {A : Around} {E : Value → Shared → Prop} {s : Shared} {κ : SortKind} {D : Keyed → Prop} {L : Keyed → Keyed → Bool} {st : SortSt} {Q : Unit → SortSt → Prop},
  SWO L → CmpS prog w A s κ D L → kindOf st = κ → failedOf st = none → pendingOf st = #[] → (∀ p ∈ (arrOf st).toList, D p) → 2 ≤ (arrOf st).size → (arrOf st).size = n →
  (∀ st', failedOf st' = none → Srt L (arrOf st').toList → SEq L (arrOf st').toList (arrOf st).toList → Q () st') → wpS (model prog w) A E s sortRuns' Q st
theorem runs_small {n : Nat} (h : n < 64) : RunsOk n := fun o C hk hf hp hD h2 hn hq => wpS_sortRunsG o C hk hf hp hD h2 (hn ▸ h) hq

end Mine
open PySem PySem.W PyProof.Rows
set_option Elab.async false
set_option maxRecDepth 100000
namespace Mine

section
variable {α : Type} {f : α → PV} {lt : α → α → Bool}
open Classical in
noncomputable def rkV (f : α → PV) (h : Heap) (v : Value) : Option α := if e : ∃ x, VR h (f x) v then some (Classical.choose e) else none
theorem rkV_eq {h : Heap} (inj : ∀ v x y, VR h (f x) v → VR h (f y) v → x = y) {x : α} {v : Value} (e : VR h (f x) v) : rkV f h v = some x := by
  have ex : ∃ x, VR h (f x) v := ⟨x, e⟩
  unfold rkV; rw [dif_pos ex]; congr 1
  exact inj v _ _ (Classical.choose_spec ex) e
noncomputable def ltO (lt : α → α → Bool) : Option α → Option α → Bool
  | none, some _ => true
  | some x, some y => lt x y
  | _, none => false
theorem ltO_swo (o : SWO lt) : SWO (ltO lt) := by
  constructor
  · intro x y h; cases x <;> cases y <;> simp [ltO] at h ⊢; exact o.asym _ _ h
  · intro x y z h1 h2; cases x <;> cases y <;> cases z <;> simp [ltO] at h1 h2 ⊢; exact o.ntr _ _ _ h1 h2
noncomputable def LV (f : α → PV) (lt : α → α → Bool) (h : Heap) (p q : Keyed) : Bool := ltO lt (rkV f h p.1) (rkV f h q.1)
theorem LV_swo {h : Heap} (o : SWO lt) : SWO (LV f lt h) := (ltO_swo o).comap fun p : Keyed => rkV f h p.1
theorem LV_eq {h : Heap} (inj : ∀ v x y, VR h (f x) v → VR h (f y) v → x = y) {x y : α} {p q : Keyed} (e : VR h (f x) p.1) (e' : VR h (f y) q.1) : LV f lt h p q = lt x y := by
  unfold LV; rw [rkV_eq inj e, rkV_eq inj e']; rfl

theorem VRs_map {β : Type} {h : Heap} {F : β → PV} {V : β → Value} : ∀ {l : List β}, (∀ p ∈ l, VR h (F p) (V p)) → VRs h (l.map F) (l.map V)
  | [], _ => rfl
  | p :: _, e => ⟨_, _, rfl, e p (List.mem_cons_self ..), VRs_map fun q hq => e q (List.mem_cons_of_mem _ hq)⟩
theorem VRs_zip {h : Heap} : ∀ {xs : List α} {vs : List Value}, VRs h (xs.map f) vs → ∃ l : List (α × Value), l.map (·.1) = xs ∧ l.map (·.2) = vs ∧ ∀ p ∈ l, VR h (f p.1) p.2
  | [], vs, e => ⟨[], rfl, by rw [show vs = [] from e]; rfl, by simp⟩
  | x :: xs, vs, ⟨v, r, e, h1, h2⟩ => by
    obtain ⟨l, e1, e2, h3⟩ := VRs_zip h2
    refine ⟨(x, v) :: l, by rw [List.map_cons, e1], by rw [List.map_cons, e2, e], fun p hp => ?_⟩
    rcases List.mem_cons.mp hp with rfl | hp
    · exact h1
    · exact h3 p hp


theorem sort_out {G : Cx} {h : Heap} (K : Sk G f lt) {β : Type} (l : List β) (kx : β → α) (kv : β → Keyed) (hl : ∀ p ∈ l, VR h (f (kx p)) (kv p).1) {r : List Keyed} (hs : Srt (LV f lt h) r) (he : SEq (LV f lt h) r (l.map kv)) :
    r = (isort (fun p q => lt (kx p) (kx q)) l).map kv := by
  rw [isort_uniq (LV_swo K.swo) he hs]
  exact isort_map kv l fun x hx y hy => LV_eq (K.inj h) (hl x hx) (hl y hy)
end

section
variable {G : Cx} {A : Around} {F : Fx} {σ : Loc} {H : AH} {Q : PV → AH → Prop} {α : Type} {f : α → PV} {lt : α → α → Bool}

end
end Mine
open PySem PySem.W PyProof.Rows
set_option Elab.async false
set_option maxRecDepth 100000
set_option linter.unusedVariables false
namespace Mine
section
variable {G : Cx} {A : Around} {F : Fx} {σ : Loc} {H : AH}


noncomputable def AH.le (H H' : AH) : Prop := ∀ a o, H a = some o → H' a = some o
theorem AH.le_refl (H : AH) : AH.le H H := fun _ _ h => h
theorem AH.le_trans {H H' H'' : AH} (h : AH.le H H') (h' : AH.le H' H'') : AH.le H H'' := fun a o e => h' a o (h a o e)
theorem AH.le_new {H : AH} {a : Addr} {o : HO} (h : H a = none) : AH.le H (H.set a o) := fun b o' e => by
  rw [AH.set_ne _ _ (by rintro rfl; rw [h] at e; cases e)]; exact e
theorem AH.le_set {H H' : AH} (a : Addr) (o : HO) (h : AH.le H H') : AH.le (H.set a o) (H'.set a o) := fun b o' e => by
  by_cases hb : b = a
  · subst hb; rw [AH.set_same] at e ⊢; exact e
  · rw [AH.set_ne _ _ hb] at e ⊢; exact h b o' e
theorem OkH.weak {H' : AH} {s : Shared} (ok : OkH G H' s) (h : AH.le H H') : OkH G H s := ⟨ok.keep, fun a o e => ok.hr a o (h a o e), ok.gens, ok.dat, ok.tab⟩
theorem DomLe.weak {H0 H' : AH} {h : Heap} (d : DomLe H0 h H') (hle : AH.le H H') : DomLe H0 h H := fun b o e => d b o (hle b o e)
theorem Kp.weak {H0 H' : AH} {s s' : Shared} (k : Kp H0 s H' s') (h : AH.le H H') : Kp H0 s H s' := ⟨k.os, k.kept, k.dom.weak h⟩
theorem KpF.weak {W : Addr → Prop} {H0 H' : AH} {s s' : Shared} (k : KpF W H0 s H' s') (h : AH.le H H') : KpF W H0 s H s' := ⟨k.os, k.kept, k.dom.weak h, k.live⟩
theorem Post.drop {s s' : Shared} {v : Value} {Q : PV → AH → Prop} (x : Post G H s (fun p H' => ∃ H'', AH.le H'' H' ∧ Q p H'') v s') : Post G H s Q v s' := by
  obtain ⟨p, H', h1, h2, h3, H'', hle, h4⟩ := x; exact ⟨p, H'', h1, h2.weak hle, h3.weak hle, h4⟩
theorem Ev.drop {e : Expr} {Q : PV → AH → Prop} (h : Ev G F e σ H (fun p H' => ∃ H'', AH.le H'' H' ∧ Q p H'')) : Ev G F e σ H Q := fun s ok lr => wpAny_mono (h s ok lr) (fun _ _ x => x.drop) fun _ _ x => x
theorem EvB.drop {e : Expr} {Q : Bool → AH → Prop} (h : EvB G F e σ H (fun p H' => ∃ H'', AH.le H'' H' ∧ Q p H'')) : EvB G F e σ H Q := fun s ok lr =>
  wpAny_mono (h s ok lr) (fun _ _ zz2 => by obtain ⟨H', h2, h3, H'', hle, h4⟩ := zz2; exact ⟨H'', h2.weak hle, h3.weak hle, h4⟩) fun _ _ x => x
theorem OpL.drop {f : List Value → Sem Value} {ps : List PV} {Q : PV → AH → Prop} (h : OpL G A f ps H (fun p H' => ∃ H'', AH.le H'' H' ∧ Q p H'')) : OpL G A f ps H Q := fun s vs ok hv => wpAny_mono (h s vs ok hv) (fun _ _ x => x.drop) fun _ _ x => x
theorem Ex.drop {st : Stmt} {Q : PF → Loc → AH → Prop} (h : Ex G F st σ H (fun f σ' H' => ∃ H'', AH.le H'' H' ∧ Q f σ' H'')) : Ex G F st σ H Q := fun s ok lr =>
  wpAny_mono (h s ok lr) (fun _ _ zz2 => by obtain ⟨pf, σ', H', h1, h2, h3, h4, H'', hle, h5⟩ := zz2; exact ⟨pf, σ', H'', h1, h2.weak hle, h3, h4.weak hle, h5⟩) fun _ _ x => x
theorem Exs.drop0 {st : List Stmt} {H0 : AH} {Q : PF → Loc → AH → Prop} (hle : AH.le H0 H) (h : Exs G F st σ H0 Q) : Exs G F st σ H Q := fun s ok lr =>
  wpAny_mono (h s (ok.weak hle) lr) (fun _ s' zz2 => zz2.on fun pf σ' H' h1 h2 h3 h4 h5 => ⟨pf, σ', H', h1, h2, h3, ⟨h4.os, fun b o e hm' hw => h4.kept b o e (fun zz0 => by obtain ⟨x, hx⟩ := zz0; exact hm' ⟨x, hle _ _ hx⟩) hw, fun b o e => by
    rcases h4.dom b o e with h | ⟨o', h, h'⟩
    · exact .inl h
    · exact .inr ⟨o', hle _ _ h, h'⟩, fun b o e hm' hw => h4.live b o e (fun zz0 => by obtain ⟨x, hx⟩ := zz0; exact hm' ⟨x, hle _ _ hx⟩) hw⟩, h5⟩) fun _ _ x => x

theorem Loc.fr_app {scope : Scope} {x : Str} {p : PV} (h : (scope.names.lookup x == some .free) = true) (e : σ x = some p) : (σ.fr scope) x = some p := by unfold Loc.fr; rw [if_pos h]; exact e

noncomputable def CompDo {α : Type} (G : Cx) (F : Fx) (scope : Scope) (target elt : Expr) (ifs : List Expr) (τ : Loc) (H : AH) (xs : List α) (fx : α → PV) (c : α → Bool) (fy : α → PV) : Prop :=
  ∀ F' : Fx, CF F F' scope → ∀ x ∈ xs, As G F' target (fx x) τ H (fun σ2 H2 => EvIfs G F' ifs σ2 H2 (fun b H3 => b = c x ∧ if b then Ev G F' elt σ2 H3 (fun y H4 => y = fy x ∧ AH.le H H4) else AH.le H H3))

theorem EvIfs.mono : ∀ {ifs : List Expr} {H : AH} {Q Q' : Bool → AH → Prop}, EvIfs G F ifs σ H Q → (∀ b H', Q b H' → Q' b H') → EvIfs G F ifs σ H Q'
  | [], _, _, _, h, hq => hq _ _ h
  | c :: r, H, Q, Q', h, hq => fun s ok lr => wpAny_mono (h s ok lr) (fun b s1 zz2 => zz2.on fun H1 ok1 k1 hb => ⟨H1, ok1, k1, by
      cases b with
      | true => exact EvIfs.mono (ifs := r) hb hq
      | false => exact hq _ _ hb⟩) fun _ _ x => x
theorem comp_step {α : Type} {scope : Scope} {target elt : Expr} {ifs : List Expr} {τ : Loc} {xs : List α} {fx fy : α → PV} {c : α → Bool} (hle : Loc.le τ (σ.fr scope)) (h : CompDo G F scope target elt ifs τ H xs fx c fy) :
    CompStep G F scope target elt ifs σ (xs.map fx) (fun i acc H' => acc = ((xs.take i).filter c).map fy ∧ AH.le H H') := by
  intro F' hF' i x acc H' hx ⟨hacc, hH⟩
  rw [List.getElem?_map] at hx
  cases hxi : xs[i]? with
  | none => rw [hxi] at hx; cases hx
  | some a =>
    rw [hxi] at hx; cases hx
    have htake : xs.take (i + 1) = xs.take i ++ [a] := take_snoc hxi
    have := h F' hF' a (List.mem_of_getElem? hxi)
    intro s v ok lr hv
    refine wpAny_mono (this s v (ok.weak hH) (lr.weak hle) hv) (fun _ s1 zz2 => zz2.on fun σ2 H2 ok2 lr2 k2 hq => ⟨σ2, H2, ok2, lr2, ?_, ?_⟩) fun _ _ x => x
    · exact ⟨k2.os, fun b o e hm hw => k2.kept b o e (fun zz0 => by obtain ⟨x, hx⟩ := zz0; exact hm ⟨x, hH _ _ hx⟩) hw, fun b o e => by
        rcases k2.dom b o e with h | ⟨o', h, h'⟩
        · exact .inl h
        · exact .inr ⟨o', hH _ _ h, h'⟩, fun b o e hm hw => k2.live b o e (fun zz0 => by obtain ⟨x, hx⟩ := zz0; exact hm ⟨x, hH _ _ hx⟩) hw⟩
    · refine hq.mono fun b H3 zz2 => zz2.elim fun hb hr => ?_
      cases b with
      | true =>
        simp only [if_true] at hr ⊢
        refine hr.mono fun y H4 zz2 => zz2.elim fun hy hle4 => ⟨?_, hle4⟩
        rw [htake, List.filter_append, List.map_append, hacc, hy]
        simp [← hb]
      | false =>
        simp only [Bool.false_eq_true, if_false] at hr ⊢
        refine ⟨?_, hr⟩
        rw [htake, List.filter_append, List.map_append, hacc]
        simp [← hb]

theorem Ev_Comp {α : Type} {elt target iter : Expr} {ifs : List Expr} {scope : Scope} {pos : Pos} {Q : PV → AH → Prop} (τ : Loc) (fx : α → PV) (c : α → Bool) (fy : α → PV) (hsc : scopeOk scope = true) (hfree : freeOk F scope) (hle : Loc.le τ (σ.fr scope))
    (h : Ev G F iter σ H (fun p H1 => ∃ xs : List α, Iter G F.A target p H1 (xs.map fx) ∧ xs.length ≤ sizeLine ∧ CompDo G F scope target elt ifs τ H1 xs fx c fy ∧ ∀ a, H1 a = none → Q (.ref a) (H1.set a (.lst ((xs.filter c).map fy)))))
    (hs : ∀ x, foldedSetIterable iter F.env x = pure x := by intro _; rfl) : Ev G F (.ListComp elt [⟨target, iter, ifs, 0⟩] scope pos) σ H Q := by
  refine Ev.drop (Ev_ListComp hsc hfree (h.mono fun p H1 zz2 => zz2.elim fun xs zz2 => zz2.elim fun h1 zz2 => zz2.elim fun h2 zz2 => zz2.elim fun h3 h4 => ?_) hs)
  refine ⟨_, _, h1, by rw [List.length_map]; exact h2, ⟨rfl, AH.le_refl _⟩, comp_step hle h3, fun acc H' zz2 a ha => zz2.elim fun hacc hH => ?_⟩
  rw [List.length_map, List.take_length] at hacc
  subst hacc
  exact ⟨_, AH.le_set _ _ hH, h4 a (by
    cases e : H1 a with
    | none => rfl
    | some o => rw [hH a o e] at ha; cases ha)⟩
theorem Ex_Comp {α : Type} {elt target iter : Expr} {ifs : List Expr} {scope : Scope} {cpos npos pos : Pos} {y : Str} {Q : PF → Loc → AH → Prop} (τ : Loc) (fx : α → PV) (c : α → Bool) (fy : α → PV) (hsc : scopeOk scope = true) (hfree : freeOk F scope) (hle : Loc.le τ (σ.fr scope))
    (hk : F.env.kindOf y = some .local) (hline : (npos.line == cpos.line) = true) (hny : scope.names.any (fun x => x.1 == y && (x.2 == .local || x.2 == .cell)) = false)
    (h : Ev G F iter σ H (fun p H1 => ∃ xs : List α, Iter G F.A target p H1 (xs.map fx) ∧ xs.length ≤ sizeLine ∧ CompDo G F scope target elt ifs τ H1 xs fx c fy ∧ ∀ a, H1 a = none → Q .next (σ.set y (.ref a)) (H1.set a (.lst ((xs.filter c).map fy)))))
    (hs : ∀ x, foldedSetIterable iter F.env x = pure x := by intro _; rfl) : Ex G F (.Assign [.Name y npos] (.ListComp elt [⟨target, iter, ifs, 0⟩] scope cpos) pos) σ H Q := by
  refine Ex.drop (Ex_AssignComp hsc hfree hk hline hny (h.mono fun p H1 zz2 => zz2.elim fun xs zz2 => zz2.elim fun h1 zz2 => zz2.elim fun h2 zz2 => zz2.elim fun h3 h4 => ?_) hs)
  refine ⟨_, _, h1, by rw [List.length_map]; exact h2, ⟨rfl, AH.le_refl _⟩, comp_step hle h3, fun acc H' zz2 a ha => zz2.elim fun hacc hH => ?_⟩
  rw [List.length_map, List.take_length] at hacc
  subst hacc
  exact ⟨_, AH.le_set _ _ hH, h4 a (by
    cases e : H1 a with
    | none => rfl
    | some o => rw [hH a o e] at ha; cases ha)⟩
end
end Mine
open PySem PySem.W PyProof.Rows
set_option Elab.async false
set_option maxRecDepth 100000
set_option linter.unusedVariables false
namespace Mine
section
variable {G : Cx} {A : Around} {F : Fx} {σ : Loc} {H : AH} {Q : PV → AH → Prop}

theorem Loc.here {x : Str} {p : PV} : (σ.set x p) x = some p := if_pos rfl
theorem Loc.there {x y : String} {p q : PV} (h : (x == y) = false) (e : σ (Str.ofString x) = some p) : (σ.set (Str.ofString y) q) (Str.ofString x) = some p := by
  rw [Loc.set_app, if_neg (by rw [ofString_inj]; exact (bne_iff_ne.mp (by simp [bne, h])))]; exact e
theorem Ev_Nm {x : Str} {pos : Pos} {p : PV} {Q : PV → AH → Prop} (hx : σ x = some p) (h : Q p H) : Ev G F (.Name x pos) σ H Q := Ev_Name hx h
theorem FnF.lt {sc : Scope} {n m : Nat} (h : FnF A sc F) (hA : A.units < n) (hm : n + 3 ≤ m) : F.A.units < m := by rw [h.units]; exact o9_141 hm hA
theorem FnF.lt1 {sc : Scope} {n m : Nat} (h : FnF A sc F) (hA : A.units < n) (hm : n + 4 ≤ m) : F.A.units + 1 < m := by rw [h.units]; exact o9_142 hm hA
theorem FnF.room {sc : Scope} {d u d' u' : Nat} (h : FnF A sc F) (hA : A.depth < d ∧ A.units < u) (h1 : d + 1 ≤ d') (h2 : u + 3 ≤ u') : F.A.depth < d' ∧ F.A.units < u' := by rw [h.units, h.depth]; exact o9_143 hA h1 h2
theorem Iter_upto {target : Expr} {n : Nat} (hA : A.handled = none) (hn : n < 2 ^ 60) : Iter G A target (.rng 0 n 1) H ((List.range n).map fun i : Nat => .int i) := by
  have := Iter_range (G := G) (H := H) (target := target) (x := 0) (y := n) (c := 1) (n := n) hA (small_one (by exact o9_144) (by exact o9_145) (by exact o9_146 hn) (by exact o9_147 hn)) (by rw [rangeSize_one]; split <;> (first | exact o9_148 | exact o9_149 hn (by assumption)))
  unfold rangeL at this
  simpa using this
theorem Iter_from {target : Expr} {m n : Nat} (hA : A.handled = none) (hn : n < 2 ^ 60) (hm : m < 2 ^ 60) : Iter G A target (.rng m n 1) H ((List.range' m (n - m)).map fun i : Nat => .int i) := by
  have := Iter_range (G := G) (H := H) (target := target) (x := m) (y := n) (c := 1) (n := n - m) hA (small_one (by exact o9_146 hm) (by exact o9_147 hm) (by exact o9_146 hn) (by exact o9_147 hn)) (by rw [rangeSize_one]; split <;> (first | exact o9_150 (by assumption) | exact o9_151 (by assumption)))
  have e : rangeL m 1 (n - m) = (List.range' m (n - m)).map fun i : Nat => .int i := by
    unfold rangeL
    rw [List.range'_eq_map_range, List.map_map]
    exact List.map_congr_left fun i _ => by simp
  rwa [e] at this
theorem mul_okL {i j : Int} (h1 : -(2 ^ 64) < i) (h2 : i < 2 ^ 64) : IntMulOk i j := IntMulOk.of_left (intBits_le_64 h1 h2)
theorem filter_yes {α : Type} (l : List α) : l.filter (fun _ => true) = l := List.filter_eq_self.mpr fun _ _ => rfl

theorem free_ok {scope sc : Scope} (hF : FnF A sc F) (h : (scope.names.all fun x => x.2 != .free || sc.names.lookup x.1 == some .cell || sc.names.lookup x.1 == some .free) = true) : freeOk F scope := by
  intro x hx
  have hm : (x, NameKind.free) ∈ scope.names := by
    clear h
    generalize scope.names = l at hx
    induction l with
    | nil => cases hx
    | cons p l ih =>
      obtain ⟨y, k⟩ := p
      rw [List.lookup_cons] at hx
      by_cases hxy : x == y
      · rw [hxy] at hx; cases hx; rw [beq_iff_eq.mp hxy]; exact List.mem_cons_self ..
      · have : (x == y) = false := by simpa using hxy
        rw [this] at hx; exact List.mem_cons_of_mem _ (ih hx)
  have := List.all_eq_true.mp h _ hm
  simp only [Bool.or_eq_true, bne_self_eq_false, beq_iff_eq, Bool.false_eq_true, false_or] at this
  unfold Env.kindOf; rw [hF.sc]
  exact this
theorem EvP_some {e : Expr} {Q : Option Int → AH → Prop} (h : Ev G F e σ H (fun p H1 => ∃ i, p = .int i ∧ Q (some i) H1)) : EvP G F (some e) σ H Q := h
theorem EvP_none {Q : Option Int → AH → Prop} (h : Q none H) : EvP G F none σ H Q := h
theorem swaps_cell {elt : Expr} {gs : List Comprehension} {scope : Scope} {cpos npos : Pos} {y : Str} {line : Nat} (hk : F.env.kindOf y = some .cell) : swapsWith (.ListComp elt gs scope cpos) (some (.Name y npos)) line F.env = pure false := by
  show pure (F.env.blockKind == .function && F.env.kindOf y == some .local && npos.line == _ && !(scope.names.any fun (n, k) => n == y && (k == .local || k == .cell))) = pure false
  rw [hk, show (some NameKind.cell == some NameKind.local) = false from rfl, Bool.and_false, Bool.false_and, Bool.false_and]

theorem Ex_CompC {α : Type} {elt target iter : Expr} {ifs : List Expr} {scope sc : Scope} {cpos npos pos : Pos} {y : Str} {Q : PF → Loc → AH → Prop} (τ : Loc) (fx : α → PV) (c : α → Bool) (fy : α → PV) (hF : FnF A sc F) (hk : sc.names.lookup y = some .cell) (hsc : scopeOk scope = true)
    (hfr : (scope.names.all fun x => x.2 != .free || sc.names.lookup x.1 == some .cell || sc.names.lookup x.1 == some .free) = true) (hle : Loc.le τ (σ.fr scope))
    (h : Ev G F iter σ H (fun p H1 => ∃ xs : List α, Iter G F.A target p H1 (xs.map fx) ∧ xs.length ≤ sizeLine ∧ CompDo G F scope target elt ifs τ H1 xs fx c fy ∧ ∀ a, H1 a = none → Q .next (σ.set y (.ref a)) (H1.set a (.lst ((xs.filter c).map fy)))))
    (hs : ∀ x, foldedSetIterable iter F.env x = pure x := by intro _; rfl) : Ex G F (.Assign [.Name y npos] (.ListComp elt [⟨target, iter, ifs, 0⟩] scope cpos) pos) σ H Q :=
  Ex_Assign (sto_cell hF hk) (Ev_Comp τ fx c fy hsc (free_ok hF hfr) hle h hs) (swaps_cell (kind_of hF hk))

theorem Ex_CompL {α : Type} {elt target iter : Expr} {ifs : List Expr} {scope sc : Scope} {cpos npos pos : Pos} {y : Str} {Q : PF → Loc → AH → Prop} (τ : Loc) (fx : α → PV) (c : α → Bool) (fy : α → PV) (hF : FnF A sc F) (hk : sc.names.lookup y = some .local) (hsc : scopeOk scope = true)
    (hfr : (scope.names.all fun x => x.2 != .free || sc.names.lookup x.1 == some .cell || sc.names.lookup x.1 == some .free) = true) (hle : Loc.le τ (σ.fr scope)) (hline : (npos.line == cpos.line) = true) (hny : scope.names.any (fun x => x.1 == y && (x.2 == .local || x.2 == .cell)) = false)
    (h : Ev G F iter σ H (fun p H1 => ∃ xs : List α, Iter G F.A target p H1 (xs.map fx) ∧ xs.length ≤ sizeLine ∧ CompDo G F scope target elt ifs τ H1 xs fx c fy ∧ ∀ a, H1 a = none → Q .next (σ.set y (.ref a)) (H1.set a (.lst ((xs.filter c).map fy)))))
    (hs : ∀ x, foldedSetIterable iter F.env x = pure x := by intro _; rfl) : Ex G F (.Assign [.Name y npos] (.ListComp elt [⟨target, iter, ifs, 0⟩] scope cpos) pos) σ H Q :=
  Ex_Comp τ fx c fy hsc (free_ok hF hfr) hle (kind_of hF hk) hline hny h hs
end
end Mine
open PySem PySem.W PyProof.Rows
set_option Elab.async false
set_option maxRecDepth 100000
set_option linter.unusedVariables false
namespace Mine

noncomputable def sdown {α : Type} (lt : α → α → Bool) (start : Nat) (x : α) (pos : Nat) (xs : List α) : List α :=
  WellFounded.fix (C := fun _ => List α) (measure fun p : Nat × List α => p.1).wf (fun p ih =>
    if h : start < p.1 then
      match p.2[(p.1 - 1) / 2]? with
      | some q => if lt x q then ih ((p.1 - 1) / 2, p.2.set p.1 q) (show (p.1 - 1) / 2 < p.1 by exact o9_152 h) else p.2.set p.1 x
      | none => p.2.set p.1 x
    else p.2.set p.1 x) (pos, xs)
theorem sdown_eq {α : Type} (lt : α → α → Bool) (start : Nat) (x : α) (pos : Nat) (xs : List α) : sdown lt start x pos xs =
  if h : start < pos then
    match xs[(pos - 1) / 2]? with
    | some p => if lt x p then sdown lt start x ((pos - 1) / 2) (xs.set pos p) else xs.set pos x
    | none => xs.set pos x
  else xs.set pos x := WellFounded.fix_eq _ _ _
noncomputable def child {α : Type} (lt : α → α → Bool) (xs : List α) (pos : Nat) : Nat :=
  if 2 * pos + 2 < xs.length ∧ (match xs[2 * pos + 1]?, xs[2 * pos + 2]? with | some l, some r => lt l r | _, _ => true) = false then 2 * pos + 2 else 2 * pos + 1
theorem child_lt {α : Type} (lt : α → α → Bool) (xs : List α) (pos : Nat) (h : 2 * pos + 1 < xs.length) : child lt xs pos < xs.length ∧ pos < child lt xs pos := by
  unfold child
  generalize (match xs[2 * pos + 1]?, xs[2 * pos + 2]? with | some l, some r => lt l r | _, _ => true) = b
  split <;> (first | lia | omega)
noncomputable def sgo {α : Type} (lt : α → α → Bool) (pos : Nat) (xs : List α) : Nat × List α :=
  WellFounded.fix (C := fun _ => Nat × List α) (measure fun p : Nat × List α => p.2.length - p.1).wf (fun p ih =>
    if h : 2 * p.1 + 1 < p.2.length then
      match p.2[child lt p.2 p.1]? with
      | some c => ih (child lt p.2 p.1, p.2.set p.1 c) (by
        have := child_lt lt p.2 p.1 h
        show (p.2.set p.1 c).length - child lt p.2 p.1 < p.2.length - p.1
        rw [List.length_set]; exact o9_154 h this)
      | none => p
    else p) (pos, xs)
theorem sgo_eq {α : Type} (lt : α → α → Bool) (pos : Nat) (xs : List α) : sgo lt pos xs =
  if h : 2 * pos + 1 < xs.length then
    match xs[child lt xs pos]? with
    | some c => sgo lt (child lt xs pos) (xs.set pos c)
    | none => (pos, xs)
  else (pos, xs) := WellFounded.fix_eq _ _ _
noncomputable def sup {α : Type} (lt : α → α → Bool) (start : Nat) (x : α) (xs : List α) : List α := sdown lt start x (sgo lt start xs).1 ((sgo lt start xs).2.set (sgo lt start xs).1 x)
noncomputable def hpush {α : Type} (lt : α → α → Bool) (x : α) (xs : List α) : List α := sdown lt 0 x xs.length (xs ++ [x])
noncomputable def hpushpop {α : Type} (lt : α → α → Bool) (x : α) (xs : List α) : α × List α := match xs with
  | [] => (x, [])
  | y :: r => if lt y x then (y, sup lt 0 x (x :: r)) else (x, y :: r)

section
variable {α : Type} {lt : α → α → Bool}


theorem perm_set : ∀ {xs : List α} {i : Nat} {u : α} (a : α), xs[i]? = some u → (u :: xs.set i a).Perm (a :: xs)
  | [], i, u, a, h => by simp at h
  | x :: xs, 0, u, a, h => by simp at h; subst h; exact List.Perm.swap ..
  | x :: xs, i + 1, u, a, h => by
    have := perm_set (xs := xs) (i := i) a (by simpa using h)
    rw [List.set_cons_succ]
    exact (List.Perm.swap ..).trans ((this.cons x).trans (List.Perm.swap ..))
theorem set_set_perm {xs : List α} {i j : Nat} {p : α} (x : α) (hi : i < xs.length) (hj : xs[j]? = some p) (hij : i ≠ j) : ((xs.set i p).set j x).Perm (xs.set i x) := by
  have hu : xs[i]? = some xs[i] := List.getElem?_eq_getElem hi
  have h1 := perm_set p hu
  have h2 := perm_set (xs := xs.set i p) (i := j) (u := p) x (by rw [List.getElem?_set, if_neg hij]; exact hj)
  have h3 := perm_set x hu
  have h4 : (p :: xs[i] :: (xs.set i p).set j x).Perm (p :: xs[i] :: xs.set i x) := by
    refine (List.Perm.swap ..).trans ((h2.cons _).trans ?_)
    refine (List.Perm.swap ..).trans ((h1.cons _).trans ?_)
    exact (List.Perm.swap ..).trans (h3.cons _).symm
  exact (h4.cons_inv).cons_inv
theorem sdown_perm (start : Nat) (x : α) (pos : Nat) (xs : List α) (h : pos < xs.length) : (sdown lt start x pos xs).Perm (xs.set pos x) := by
  induction pos using Nat.strongRecOn generalizing xs with
  | ind pos ih =>
    rw [sdown_eq]
    split
    · rename_i hlt
      split
      · rename_i p hp
        split
        · exact (ih ((pos - 1) / 2) (by exact o9_152 hlt) (xs.set pos p) (by rw [List.length_set]; exact o9_155 h hlt)).trans (set_set_perm x h hp (by exact o9_156 hlt))
        · exact List.Perm.refl _
      · exact List.Perm.refl _
    · exact List.Perm.refl _
theorem sgo_perm (x : α) (pos : Nat) (xs : List α) (h : pos < xs.length) : ((sgo lt pos xs).2.set (sgo lt pos xs).1 x).Perm (xs.set pos x) ∧ (sgo lt pos xs).1 < (sgo lt pos xs).2.length ∧ (sgo lt pos xs).2.length = xs.length := by
  induction hn : xs.length - pos using Nat.strongRecOn generalizing xs pos with
  | ind n ih =>
    rw [sgo_eq]
    split
    · rename_i hlt
      have hc := child_lt lt xs pos hlt
      split
      · rename_i c hcc
        have := ih ((xs.set pos c).length - child lt xs pos) (by rw [List.length_set]; exact o9_157 hn hc h) (child lt xs pos) (xs.set pos c) (by rw [List.length_set]; exact o9_158 hc) rfl
        exact ⟨this.1.trans (set_set_perm x h hcc (by exact o9_159 hc)), this.2.1, by rw [this.2.2, List.length_set]⟩
      · exact ⟨List.Perm.refl _, h, rfl⟩
    · exact ⟨List.Perm.refl _, h, rfl⟩
theorem sup_perm (start : Nat) (x : α) (xs : List α) (h : start < xs.length) : (sup lt start x xs).Perm (xs.set start x) := by
  obtain ⟨h1, h2, h3⟩ := sgo_perm (lt := lt) x start xs h
  unfold sup
  refine (sdown_perm start x _ _ (by rw [List.length_set]; exact h2)).trans ?_
  rw [List.set_set]; exact h1
theorem sup_perm' {start : Nat} {x : α} {xs : List α} (h : xs[start]? = some x) : (sup lt start x xs).Perm xs := by
  obtain ⟨h1, h2⟩ := List.getElem?_eq_some_iff.mp h
  have := sup_perm (lt := lt) start x xs h1
  rwa [show xs.set start x = xs by rw [← h2]; exact List.set_getElem_self h1] at this
theorem hpush_perm (x : α) (xs : List α) : (hpush lt x xs).Perm (x :: xs) := by
  unfold hpush
  refine (sdown_perm 0 x xs.length (xs ++ [x]) (by simp)).trans ?_
  rw [List.set_append_right _ _ (Nat.le_refl _)]
  simp only [Nat.sub_self, List.set_cons_zero]
  exact List.perm_append_comm


noncomputable def HeapAt (lt : α → α → Bool) (start : Nat) (xs : List α) : Prop := ∀ k u v, xs[k]? = some u → xs[(k - 1) / 2]? = some v → 0 < k → start ≤ (k - 1) / 2 → lt u v = false
inductive Desc (s : Nat) : Nat → Prop
  | refl : Desc s s
  | step {p : Nat} : Desc s ((p - 1) / 2) → 0 < p → Desc s p
theorem Desc.le {s p : Nat} (h : Desc s p) : s ≤ p := by induction h with
  | refl => exact Nat.le_refl _
  | step _ _ ih => exact o9_160 (by assumption) ih
theorem Desc.up {s p : Nat} (h : Desc s p) (hlt : s < p) : Desc s ((p - 1) / 2) := by cases h with
  | refl => exact absurd hlt (Nat.lt_irrefl _)
  | step h _ => exact h
theorem Desc.zero (p : Nat) : Desc 0 p := by
  induction p using Nat.strongRecOn with
  | ind p ih =>
    rcases Nat.eq_zero_or_pos p with h | h
    · subst h; exact .refl
    · exact .step (ih _ (by exact o9_161 h)) h

theorem sdown_heap (o : SWO lt) (start : Nat) (x : α) (pos : Nat) (xs : List α) (h : pos < xs.length) (hd : Desc start pos)
    (ha : ∀ k u v, (xs.set pos x)[k]? = some u → (xs.set pos x)[(k - 1) / 2]? = some v → 0 < k → start ≤ (k - 1) / 2 → k ≠ pos → lt u v = false)
    (hb : ∀ k u v, xs[k]? = some u → 0 < k → (k - 1) / 2 = pos → start < pos → xs[(pos - 1) / 2]? = some v → lt u v = false) : HeapAt lt start (sdown lt start x pos xs) := by
  induction pos using Nat.strongRecOn generalizing xs with
  | ind pos ih =>
    have stop : (∀ p, xs[(pos - 1) / 2]? = some p → start < pos → lt x p = false) → HeapAt lt start (xs.set pos x) := by
      intro hx k u v hu hv h0 hs
      by_cases hk : k = pos
      · subst hk
        rw [List.getElem?_set, if_pos rfl, if_pos h] at hu; cases hu
        rw [List.getElem?_set, if_neg (by exact o9_162 h0)] at hv
        exact hx v hv (by exact o9_163 h0 hs)
      · exact ha k u v hu hv h0 hs hk
    rw [sdown_eq]
    split
    · rename_i hlt
      split
      · rename_i p hp
        split
        · rename_i hxp
          have hpar := hd.up hlt
          have hple := hpar.le
          refine ih ((pos - 1) / 2) (by exact o9_152 hlt) (xs.set pos p) (by rw [List.length_set]; exact o9_155 h hlt) hpar ?_ ?_
          · intro k u v hu hv h0 hs hk
            rw [List.getElem?_set, if_neg (Ne.symm hk)] at hu
            by_cases hkp : k = pos
            · subst hkp
              rw [List.getElem?_set, if_pos rfl, if_pos h] at hu; cases hu
              rw [List.getElem?_set, if_pos rfl, if_pos (by rw [List.length_set]; exact o9_164 h0 h hk)] at hv; cases hv
              exact o.asym _ _ hxp
            · rw [List.getElem?_set, if_neg (Ne.symm hkp)] at hu
              have hu' : (xs.set pos x)[k]? = some u := by rw [List.getElem?_set, if_neg (Ne.symm hkp)]; exact hu
              by_cases hpp : (k - 1) / 2 = pos
              · rw [hpp, List.getElem?_set, if_neg (by (first | lia | omega)), List.getElem?_set, if_pos rfl, if_pos h] at hv; cases hv
                exact hb k u p hu h0 hpp hlt hp
              · by_cases hpq : (k - 1) / 2 = (pos - 1) / 2
                · rw [hpq, List.getElem?_set, if_pos rfl, if_pos (by rw [List.length_set]; (first | lia | omega))] at hv; cases hv
                  have hup := ha k u p hu' (by rw [hpq, List.getElem?_set, if_neg (by (first | lia | omega))]; exact hp) h0 hs hkp
                  cases hux : lt u x with
                  | false => rfl
                  | true => rw [o.tr hux hxp] at hup; cases hup
                · rw [List.getElem?_set, if_neg (Ne.symm hpq), List.getElem?_set, if_neg (Ne.symm hpp)] at hv
                  exact ha k u v hu' (by rw [List.getElem?_set, if_neg (Ne.symm hpp)]; exact hv) h0 hs hkp
          · intro k u v hu h0 hkp hs hv
            have hup2 := (hpar.up hs).le
            rw [List.getElem?_set, if_neg (by (first | lia | omega))] at hv
            have hpv : lt p v = false := ha ((pos - 1) / 2) p v (by rw [List.getElem?_set, if_neg (by exact o9_169 hkp h0 hs)]; exact hp) (by rw [List.getElem?_set, if_neg (by (first | lia | omega))]; exact hv) (by exact o9_170 hkp hs) hup2 (by exact o9_171 hkp h0 hs)
            by_cases hkq : k = pos
            · subst hkq
              rw [List.getElem?_set, if_pos rfl, if_pos h] at hu; cases hu; exact hpv
            · rw [List.getElem?_set, if_neg (Ne.symm hkq)] at hu
              have := ha k u p (by rw [List.getElem?_set, if_neg (Ne.symm hkq)]; exact hu) (by rw [hkp, List.getElem?_set, if_neg (by (first | lia | omega))]; exact hp) h0 (by exact o9_173 hkp hs) hkq
              exact o.ntr _ _ _ this hpv
        · rename_i hxp
          exact stop fun p' hp' _ => by rw [hp] at hp'; cases hp'; simpa using hxp
      · rename_i hp
        exact stop fun p' hp' _ => by rw [hp] at hp'; cases hp'
    · rename_i hlt
      exact stop fun p' hp' hs => absurd hs hlt

theorem child_cases (xs : List α) (pos : Nat) (h : 2 * pos + 1 < xs.length) : (child lt xs pos - 1) / 2 = pos ∧ 0 < child lt xs pos ∧ (SWO lt → ∀ k u v, 0 < k → (k - 1) / 2 = pos → xs[k]? = some u → xs[child lt xs pos]? = some v → lt u v = false) := by
  have hl : xs[2 * pos + 1]? = some xs[2 * pos + 1] := List.getElem?_eq_getElem h
  have left : child lt xs pos = 2 * pos + 1 → (∀ r, xs[2 * pos + 2]? = some r → lt xs[2 * pos + 1] r = true) → (child lt xs pos - 1) / 2 = pos ∧ 0 < child lt xs pos ∧ (SWO lt → ∀ k u v, 0 < k → (k - 1) / 2 = pos → xs[k]? = some u → xs[child lt xs pos]? = some v → lt u v = false) := by
    intro e hr
    rw [e]
    refine ⟨by exact o9_174, by exact o9_175, fun o k u v h0 hk hu hv => ?_⟩
    rw [hl] at hv; cases hv
    have hk' : k = 2 * pos + 1 ∨ k = 2 * pos + 2 := by exact o9_176 hk h0
    rcases hk' with rfl | rfl
    · rw [hl] at hu; cases hu; exact o.irr _
    · exact o.asym _ _ (hr u hu)
  cases e2 : xs[2 * pos + 2]? with
  | none =>
    refine left ?_ (fun r hr => by rw [e2] at hr; cases hr)
    unfold child
    rw [if_neg (fun hc => absurd (List.getElem?_eq_none_iff.mp e2) (Nat.not_le.mpr hc.1))]
  | some r =>
    have h2 : 2 * pos + 2 < xs.length := (List.getElem?_eq_some_iff.mp e2).1
    cases hlr : lt xs[2 * pos + 1] r with
    | true =>
      refine left ?_ (fun r' hr => by rw [e2] at hr; cases hr; exact hlr)
      unfold child
      rw [hl, e2, if_neg (fun hc => by have := hc.2; simp only at this; rw [hlr] at this; cases this)]
    | false =>
      have e : child lt xs pos = 2 * pos + 2 := by
        unfold child
        rw [hl, e2, if_pos ⟨h2, by simp only; exact hlr⟩]
      rw [e]
      refine ⟨by exact o9_177, by exact o9_178, fun o k u v h0 hk hu hv => ?_⟩
      rw [e2] at hv; cases hv
      have hk' : k = 2 * pos + 1 ∨ k = 2 * pos + 2 := by exact o9_176 hk h0
      rcases hk' with rfl | rfl
      · rw [hl] at hu; cases hu; exact hlr
      · rw [e2] at hu; cases hu; exact o.irr _
theorem sgo_heap (o : SWO lt) (start pos : Nat) (xs : List α) (h : pos < xs.length) (hd : Desc start pos)
    (ha : ∀ k u v, xs[k]? = some u → xs[(k - 1) / 2]? = some v → 0 < k → start ≤ (k - 1) / 2 → k ≠ pos → (k - 1) / 2 ≠ pos → lt u v = false)
    (hb : ∀ k u v, xs[k]? = some u → 0 < k → (k - 1) / 2 = pos → start < pos → xs[(pos - 1) / 2]? = some v → lt u v = false) :
    Desc start (sgo lt pos xs).1 ∧ (sgo lt pos xs).2.length ≤ 2 * (sgo lt pos xs).1 + 1 ∧
    (∀ k u v, (sgo lt pos xs).2[k]? = some u → (sgo lt pos xs).2[(k - 1) / 2]? = some v → 0 < k → start ≤ (k - 1) / 2 → k ≠ (sgo lt pos xs).1 → (k - 1) / 2 ≠ (sgo lt pos xs).1 → lt u v = false) := by
  induction hn : xs.length - pos using Nat.strongRecOn generalizing xs pos with
  | ind n ih =>
    rw [sgo_eq]
    split
    · rename_i hlt
      have hc := child_lt lt xs pos hlt
      refine hide fun WW9 hW9 => ?_
      obtain ⟨c1, c2, c3⟩ := child_cases (lt := lt) xs pos hlt
      refine hW9 ?_
      clear hW9 WW9
      have c3 := c3 o
      split
      · rename_i c hcc
        have hple := hd.le
        refine ih ((xs.set pos c).length - child lt xs pos) (by rw [List.length_set]; exact o9_179 h hn hc c1 c2) (child lt xs pos) (xs.set pos c) (by rw [List.length_set]; exact o9_158 hc) (.step (by rw [c1]; exact hd) c2) ?_ ?_ rfl
        · intro k u v hu hv h0 hs hk hkp
          by_cases hkq : k = pos
          · subst hkq
            rw [List.getElem?_set, if_pos rfl, if_pos h] at hu; cases hu
            rw [List.getElem?_set, if_neg (by (first | lia | omega))] at hv
            exact hb _ _ v hcc c2 c1 (by (first | lia | omega)) hv
          · rw [List.getElem?_set, if_neg (Ne.symm hkq)] at hu
            by_cases hpp : (k - 1) / 2 = pos
            · rw [hpp, List.getElem?_set, if_pos rfl, if_pos h] at hv; cases hv
              exact c3 k u _ h0 hpp hu hcc
            · rw [List.getElem?_set, if_neg (Ne.symm hpp)] at hv
              exact ha k u v hu hv h0 hs hkq hpp
        · intro k u v hu h0 hkp hs hv
          rw [c1, List.getElem?_set, if_pos rfl, if_pos h] at hv; cases hv
          rw [List.getElem?_set, if_neg (by (first | lia | omega))] at hu
          exact ha k u _ hu (by rw [hkp]; exact hcc) h0 (by exact o9_183 hkp hs) (by (first | lia | omega)) (by (first | lia | omega))
      · rename_i hcc
        exact absurd (List.getElem?_eq_none_iff.mp hcc) (by exact o9_186 hc)
    · rename_i hlt
      exact ⟨hd, by dsimp only; exact o9_187 hlt, ha⟩
theorem sup_heap (o : SWO lt) {start : Nat} (x : α) {xs : List α} (h : start < xs.length) (hh : HeapAt lt (start + 1) xs) : HeapAt lt start (sup lt start x xs) := by
  obtain ⟨g1, g2, g3⟩ := sgo_heap o start start xs h .refl (fun k u v hu hv h0 hs hk hkp => hh k u v hu hv h0 (by exact o9_188 hkp hs)) (fun k u v _ _ _ hs => absurd hs (Nat.lt_irrefl _))
  obtain ⟨p1, p2, p3⟩ := sgo_perm (lt := lt) x start xs h
  unfold sup
  refine sdown_heap o start x _ _ (by rw [List.length_set]; exact p2) g1 ?_ ?_
  · rw [List.set_set]
    intro k u v hu hv h0 hs hk
    rw [List.getElem?_set, if_neg (Ne.symm hk)] at hu
    have hkl := (List.getElem?_eq_some_iff.mp hu).1
    by_cases hkp : (k - 1) / 2 = (sgo lt start xs).1
    · exact (o9_189 g2 h0 hk hkl hkp).elim
    · rw [List.getElem?_set, if_neg (Ne.symm hkp)] at hv
      exact g3 k u v hu hv h0 hs hk hkp
  · intro k u v hu h0 hkp
    rw [List.getElem?_set, if_neg (by exact o9_190 hkp h0)] at hu
    have hkl := (List.getElem?_eq_some_iff.mp hu).1
    exact (o9_191 hkp h0 hkl g2).elim
theorem hpush_heap (o : SWO lt) (x : α) {xs : List α} (hh : HeapAt lt 0 xs) : HeapAt lt 0 (hpush lt x xs) := by
  unfold hpush
  have e : (xs ++ [x]).set xs.length x = xs ++ [x] := by rw [List.set_append_right _ _ (Nat.le_refl _), Nat.sub_self]; rfl
  refine sdown_heap o 0 x _ _ (by simp) (Desc.zero _) ?_ ?_
  · rw [e]
    intro k u v hu hv h0 hs hk
    have hkl := (List.getElem?_eq_some_iff.mp hu).1
    rw [List.length_append, List.length_singleton] at hkl
    rw [List.getElem?_append_left (by (first | exact o9_192 hkl hk | exact o9_193 h0 hkl hk))] at hu hv
    exact hh k u v hu hv h0 hs
  · intro k u v hu h0 hkp
    have hkl := (List.getElem?_eq_some_iff.mp hu).1
    rw [List.length_append, List.length_singleton] at hkl
    exact (o9_194 hkp h0 hkl).elim
theorem HeapAt.root (o : SWO lt) {xs : List α} (hh : HeapAt lt 0 xs) {r : α} (hr : xs[0]? = some r) : ∀ (k : Nat) (u : α), xs[k]? = some u → lt u r = false := by
  intro k
  induction k using Nat.strongRecOn with
  | ind k ih =>
    intro u hu
    rcases Nat.eq_zero_or_pos k with h | h
    · subst h; rw [hr] at hu; cases hu; exact o.irr _
    · have hkl := (List.getElem?_eq_some_iff.mp hu).1
      have hv : xs[(k - 1) / 2]? = some xs[(k - 1) / 2] := List.getElem?_eq_getElem (by exact o9_195 h hkl)
      exact o.ntr _ _ _ (hh k u _ hu hv h (Nat.zero_le _)) (ih _ (by exact o9_161 h) _ hv)
theorem HeapAt.nil (s : Nat) : HeapAt lt s [] := fun k u v hu => by simp at hu
theorem HeapAt.set0 {xs : List α} (h : HeapAt lt 0 xs) (x : α) : HeapAt lt 1 (xs.set 0 x) := fun k u v hu hv h0 hs => by
  rw [List.getElem?_set, if_neg (by (first | exact o9_196 h0 | exact o9_197 hs))] at hu hv
  exact h k u v hu hv h0 (by exact o9_198 hs)

variable {β : Type} {ltb : β → β → Bool}
theorem sdown_map (f : α → β) (hf : ∀ x y, ltb (f x) (f y) = lt x y) (start : Nat) (x : α) (pos : Nat) (xs : List α) : sdown ltb start (f x) pos (xs.map f) = (sdown lt start x pos xs).map f := by
  induction pos using Nat.strongRecOn generalizing xs with
  | ind pos ih =>
    rw [sdown_eq, sdown_eq]
    split
    · rw [List.getElem?_map]
      cases xs[(pos - 1) / 2]? with
      | none => simp [List.map_set]
      | some p =>
        simp only [Option.map_some, hf]
        split
        · rw [← List.map_set]; exact ih _ (by exact o9_152 (by assumption)) _
        · rw [List.map_set]
    · rw [List.map_set]
theorem child_map (f : α → β) (hf : ∀ x y, ltb (f x) (f y) = lt x y) (xs : List α) (pos : Nat) : child ltb (xs.map f) pos = child lt xs pos := by
  unfold child
  rw [List.length_map, List.getElem?_map, List.getElem?_map]
  cases xs[2 * pos + 1]? <;> cases xs[2 * pos + 2]? <;> simp [hf]
theorem sgo_map (f : α → β) (hf : ∀ x y, ltb (f x) (f y) = lt x y) (pos : Nat) (xs : List α) : sgo ltb pos (xs.map f) = ((sgo lt pos xs).1, (sgo lt pos xs).2.map f) := by
  induction hn : xs.length - pos using Nat.strongRecOn generalizing xs pos with
  | ind n ih =>
    rw [sgo_eq, sgo_eq]
    by_cases h : 2 * pos + 1 < xs.length
    · rw [dif_pos h, dif_pos (by rw [List.length_map]; exact h), child_map f hf, List.getElem?_map]
      have hc := child_lt lt xs pos h
      cases xs[child lt xs pos]? with
      | none => rfl
      | some c =>
        simp only [Option.map_some]
        rw [← List.map_set]
        exact ih _ (by rw [List.length_set]; exact o9_199 h hn hc) _ _ rfl
    · rw [dif_neg h, dif_neg (by rw [List.length_map]; exact h)]
theorem sup_map (f : α → β) (hf : ∀ x y, ltb (f x) (f y) = lt x y) (start : Nat) (x : α) (xs : List α) : sup ltb start (f x) (xs.map f) = (sup lt start x xs).map f := by
  unfold sup
  rw [sgo_map f hf]
  simp only
  rw [← List.map_set, sdown_map f hf]
theorem hpush_map (f : α → β) (hf : ∀ x y, ltb (f x) (f y) = lt x y) (x : α) (xs : List α) : hpush ltb (f x) (xs.map f) = (hpush lt x xs).map f := by
  unfold hpush
  rw [List.length_map, show xs.map f ++ [f x] = (xs ++ [x]).map f by simp, sdown_map f hf]
end
end Mine
open PySem PySem.W PyProof.Rows
set_option Elab.async false
set_option maxRecDepth 100000
set_option linter.unusedVariables false
namespace Mine
noncomputable def bisR {α : Type} (lt : α → α → Bool) (x : α) (xs : List α) (lo hi : Nat) : Nat :=
  WellFounded.fix (C := fun _ => Nat) (measure fun p : Nat × Nat => p.2 - p.1).wf (fun p ih =>
    if h : p.1 < p.2 then
      match xs[(p.1 + p.2) / 2]? with
      | some y => if lt x y then ih (p.1, (p.1 + p.2) / 2) (show (p.1 + p.2) / 2 - p.1 < p.2 - p.1 by exact o9_200 h) else ih ((p.1 + p.2) / 2 + 1, p.2) (show p.2 - ((p.1 + p.2) / 2 + 1) < p.2 - p.1 by exact o9_201 h)
      | none => p.1
    else p.1) (lo, hi)
theorem bisR_eq {α : Type} (lt : α → α → Bool) (x : α) (xs : List α) (lo hi : Nat) : bisR lt x xs lo hi =
  if h : lo < hi then
    match xs[(lo + hi) / 2]? with
    | some y => if lt x y then bisR lt x xs lo ((lo + hi) / 2) else bisR lt x xs ((lo + hi) / 2 + 1) hi
    | none => lo
  else lo := WellFounded.fix_eq _ _ _
noncomputable def tupItems (K : Frag) (a : Addr) : List Value := match K.lookup a with
  | some ⟨_, _, .seq vs _, _⟩ => vs.toList
  | _ => []
theorem bisR_le {α : Type} (lt : α → α → Bool) (x : α) (xs : List α) (lo hi : Nat) (h : lo ≤ hi) : lo ≤ bisR lt x xs lo hi ∧ bisR lt x xs lo hi ≤ hi := by
  induction hn : hi - lo using Nat.strongRecOn generalizing lo hi with
  | ind n ih =>
    rw [bisR_eq]
    split
    · rename_i hlt
      split
      · split
        · have := ih ((lo + hi) / 2 - lo) (by exact o9_202 hn hlt) lo ((lo + hi) / 2) (by exact o9_203 hlt) rfl; exact o9_204 this
        · have := ih (hi - ((lo + hi) / 2 + 1)) (by exact o9_205 hn hlt) ((lo + hi) / 2 + 1) hi (by exact o9_206 hlt) rfl; exact o9_207 this hlt
      · exact o9_208 hlt
    · exact o9_209 h (by assumption)

noncomputable def bisL {α : Type} (lt : α → α → Bool) (x : α) (xs : List α) (lo hi : Nat) : Nat :=
  WellFounded.fix (C := fun _ => Nat) (measure fun p : Nat × Nat => p.2 - p.1).wf (fun p ih =>
    if h : p.1 < p.2 then
      match xs[(p.1 + p.2) / 2]? with
      | some y => if lt y x then ih ((p.1 + p.2) / 2 + 1, p.2) (show p.2 - ((p.1 + p.2) / 2 + 1) < p.2 - p.1 by exact o9_201 h) else ih (p.1, (p.1 + p.2) / 2) (show (p.1 + p.2) / 2 - p.1 < p.2 - p.1 by exact o9_200 h)
      | none => p.1
    else p.1) (lo, hi)
theorem bisL_eq {α : Type} (lt : α → α → Bool) (x : α) (xs : List α) (lo hi : Nat) : bisL lt x xs lo hi =
  if h : lo < hi then
    match xs[(lo + hi) / 2]? with
    | some y => if lt y x then bisL lt x xs ((lo + hi) / 2 + 1) hi else bisL lt x xs lo ((lo + hi) / 2)
    | none => lo
  else lo := WellFounded.fix_eq _ _ _
noncomputable def insR {α : Type} (lt : α → α → Bool) (x : α) (xs : List α) : List α := xs.take (bisR lt x xs 0 xs.length) ++ x :: xs.drop (bisR lt x xs 0 xs.length)

section
variable {α : Type} {lt : α → α → Bool}
theorem bisR_spec (o : SWO lt) (x : α) {xs : List α} (hs : Srt lt xs) (lo hi : Nat) (hle : lo ≤ hi) (hlen : hi ≤ xs.length) (h1 : ∀ i y, xs[i]? = some y → i < lo → lt x y = false) (h2 : ∀ i y, xs[i]? = some y → hi ≤ i → lt x y = true) :
    (∀ i y, xs[i]? = some y → i < bisR lt x xs lo hi → lt x y = false) ∧ (∀ i y, xs[i]? = some y → bisR lt x xs lo hi ≤ i → lt x y = true) := by
  induction hn : hi - lo using Nat.strongRecOn generalizing lo hi with
  | ind n ih =>
    have srt : ∀ i j u v, xs[i]? = some u → xs[j]? = some v → i ≤ j → lt v u = false := fun i j u v hu hv hij => by
      rcases Nat.lt_or_eq_of_le hij with h' | h'
      · obtain ⟨hi', rfl⟩ := List.getElem?_eq_some_iff.mp hu
        obtain ⟨hj', rfl⟩ := List.getElem?_eq_some_iff.mp hv
        exact List.pairwise_iff_getElem.mp hs i j hi' hj' h'
      · subst h'; rw [hu] at hv; cases hv; exact o.irr _
    rw [bisR_eq]
    split
    · rename_i hlt
      have hm : xs[(lo + hi) / 2]? = some xs[(lo + hi) / 2] := List.getElem?_eq_getElem (by exact o9_210 hlt hlen)
      rw [hm]
      simp only
      split
      · rename_i hc
        exact ih ((lo + hi) / 2 - lo) (by exact o9_202 hn hlt) lo ((lo + hi) / 2) (by exact o9_203 hlt) (by exact o9_211 hlt hlen) h1 (fun i y hy hi' => o.lt_le hc (srt _ _ _ _ hm hy hi')) rfl
      · rename_i hc
        exact ih (hi - ((lo + hi) / 2 + 1)) (by exact o9_205 hn hlt) ((lo + hi) / 2 + 1) hi (by exact o9_206 hlt) hlen (fun i y hy hi' => o.ntr _ _ _ (by simpa using hc) (srt _ _ _ _ hy hm (by exact o9_86 hi'))) h2 rfl
    · rename_i hlt
      have : lo = hi := by exact o9_13 hle hlt
      subst this; exact ⟨h1, h2⟩

theorem bisR_all (o : SWO lt) (x : α) {xs : List α} (hs : Srt lt xs) : bisR lt x xs 0 xs.length ≤ xs.length ∧ (∀ y ∈ xs.take (bisR lt x xs 0 xs.length), lt x y = false) ∧ (∀ y ∈ xs.drop (bisR lt x xs 0 xs.length), lt x y = true) := by
  obtain ⟨h1, h2⟩ := bisR_spec o x hs 0 xs.length (Nat.zero_le _) (Nat.le_refl _) (fun i y _ h => absurd h (Nat.not_lt_zero _)) (fun i y hy h => absurd (List.getElem?_eq_some_iff.mp hy).1 (Nat.not_lt.mpr h))
  refine ⟨(bisR_le lt x xs 0 xs.length (Nat.zero_le _)).2, fun y hy => ?_, fun y hy => ?_⟩
  · obtain ⟨i, hi⟩ := List.mem_iff_getElem?.mp hy
    rw [List.getElem?_take] at hi
    split at hi
    · exact h1 i y hi (by assumption)
    · cases hi
  · obtain ⟨i, hi⟩ := List.mem_iff_getElem?.mp hy
    rw [List.getElem?_drop] at hi
    exact h2 _ y hi (Nat.le_add_right ..)
theorem insR_srt (o : SWO lt) (x : α) {xs : List α} (hs : Srt lt xs) : Srt lt (insR lt x xs) := by
  obtain ⟨_, h1, h2⟩ := bisR_all o x hs
  unfold insR
  have hs' := hs
  rw [← List.take_append_drop (bisR lt x xs 0 xs.length) xs] at hs'
  obtain ⟨s1, s2, s3⟩ := Srt.append.mp hs'
  refine Srt.append.mpr ⟨s1, List.pairwise_cons.mpr ⟨fun y hy => o.asym _ _ (h2 y hy), s2⟩, fun y hy z hz => ?_⟩
  rcases List.mem_cons.mp hz with rfl | hz
  · exact h1 y hy
  · exact s3 y hy z hz
theorem insR_seq (o : SWO lt) (x : α) {xs : List α} (hs : Srt lt xs) : SEq lt (insR lt x xs) (xs ++ [x]) := by
  obtain ⟨_, h1, h2⟩ := bisR_all o x hs
  unfold insR
  conv => rhs; rw [← List.take_append_drop (bisR lt x xs 0 xs.length) xs, List.append_assoc]
  rw [show ∀ l r : List α, l ++ x :: r = l ++ ([x] ++ r) from fun _ _ => rfl]
  exact SEq.left _ (SEq.swap (A := xs.drop (bisR lt x xs 0 xs.length)) (B := [x]) o fun y hy z hz => by rw [List.mem_singleton.mp hz]; exact h2 y hy).symm
variable {β : Type} {ltb : β → β → Bool}
theorem bisR_map (f : α → β) (hf : ∀ x y, ltb (f x) (f y) = lt x y) (x : α) (xs : List α) (lo hi : Nat) : bisR ltb (f x) (xs.map f) lo hi = bisR lt x xs lo hi := by
  induction hn : hi - lo using Nat.strongRecOn generalizing lo hi with
  | ind n ih =>
    conv => lhs; rw [bisR_eq]
    conv => rhs; rw [bisR_eq]
    split
    · rw [List.getElem?_map]
      cases xs[(lo + hi) / 2]? with
      | none => rfl
      | some y =>
        simp only [Option.map_some, hf]
        rw [ih _ (by exact o9_202 hn (by assumption)) lo ((lo + hi) / 2) rfl, ih _ (by exact o9_205 hn (by assumption)) ((lo + hi) / 2 + 1) hi rfl]
    · rfl
end
end Mine
open PySem PySem.W PyProof.Rows
set_option Elab.async false
set_option maxRecDepth 100000
set_option linter.unusedVariables false
namespace Mine
noncomputable def ltPI : PV → PV → Bool
  | .int a, .int b => decide (a < b)
  | _, _ => false
noncomputable def ltPT : PV → PV → Bool
  | .tup xs, .tup ys => (lexLt xs ys).getD false
  | _, _ => false
noncomputable def IsI (p : PV) : Prop := ∃ i, p = .int i
noncomputable def IsTI (p : PV) : Prop := ∃ ns : List Int, p = .tup (ns.map .int)
theorem cmpI (G : Cx) : Cmp G IsI ltPI := by
  rintro _ _ ⟨i, rfl⟩ ⟨j, rfl⟩ A H Q hu h
  exact op_lt h
theorem cmpT (G : Cx) : Cmp G IsTI ltPT := by
  rintro _ _ ⟨xs, rfl⟩ ⟨ys, rfl⟩ A H Q hu h
  refine op_tlt hu (ltI_lex xs ys) ?_
  have : ltPT (.tup (xs.map .int)) (.tup (ys.map .int)) = ltI xs ys := by simp [ltPT, ltI_lex]
  rwa [this] at h
theorem ltPT_eq (xs ys : List Int) : ltPT (.tup (xs.map .int)) (.tup (ys.map .int)) = ltI xs ys := by simp [ltPT, ltI_lex]
noncomputable def ltZ (x y : Int) : Bool := decide (x < y)

noncomputable def pP (p : Int × Nat) : PV := .tup [.int p.1, .int p.2]
noncomputable def ltP (p q : Int × Nat) : Bool := ltI [p.1, p.2] [q.1, q.2]
theorem ltP_swo : SWO ltP := ltI_swo.comap fun p : Int × Nat => [p.1, (p.2 : Int)]
theorem isT_pP (p : Int × Nat) : IsTI (pP p) := ⟨[p.1, p.2], rfl⟩
theorem ltPT_pP (p q : Int × Nat) : ltPT (pP p) (pP q) = ltP p q := ltPT_eq [p.1, p.2] [q.1, q.2]
theorem ltP_fst {p q : Int × Nat} (h : ltP p q = false) : q.1 ≤ p.1 := by
  simp only [ltP, ltI] at h
  by_cases e : p.1 = q.1
  · exact o9_212 e
  · rw [if_neg e] at h; have := of_decide_eq_false h; exact o9_35 this
end Mine
open PySem PySem.W PyProof.Rows
set_option Elab.async false
set_option maxRecDepth 100000
set_option linter.unusedVariables false
namespace Mine
theorem pickL_plain {α : Type} (xs : List α) (lo hi : Option Int) : pickL xs lo hi none = (xs.drop (lo.elim 0 (clipAt xs.length))).take (hi.elim xs.length (clipAt xs.length) - lo.elim 0 (clipAt xs.length)) := by
  unfold pickL
  rw [sliceBounds_plain]
  simp only [sliceRange_one]
  have := pick_run xs.toArray (lo.elim 0 (clipAt xs.length)) (hi.elim xs.length (clipAt xs.length) - lo.elim 0 (clipAt xs.length))
  simpa using this
theorem pickL_drop {α : Type} (xs : List α) (a : Nat) : pickL xs (some (a : Int)) none none = xs.drop a := by
  rw [pickL_plain]
  simp only [Option.elim, clipAt_nat]
  rcases Nat.le_total a xs.length with h | h
  · rw [Nat.min_eq_left h, List.take_of_length_le (by simp)]
  · rw [Nat.min_eq_right h, List.drop_of_length_le (Nat.le_refl _), List.drop_of_length_le h]; simp

noncomputable def mx (l : List Nat) : Nat := l.foldr max 0

noncomputable def bit (m k : Nat) : Bool := m / 2 ^ k % 2 == 1
theorem bits_all (q : Nat → Bool) : ∀ n, ∃ m, m < 2 ^ n ∧ ∀ k < n, bit m k = q k
  | 0 => ⟨0, by decide, fun k h => absurd h (Nat.not_lt_zero _)⟩
  | n + 1 => by
    obtain ⟨m, h1, h2⟩ := bits_all q n
    cases hq : q n with
    | false =>
      refine ⟨m, by rw [Nat.pow_succ]; exact o9_213 h1, fun k hk => ?_⟩
      rcases Nat.lt_or_ge k n with h | h
      · exact h2 k h
      · have : k = n := by exact o9_214 hk h
        subst this
        rw [hq]; unfold bit
        rw [Nat.div_eq_of_lt h1]; rfl
    | true =>
      refine ⟨m + 2 ^ n, by rw [Nat.pow_succ]; exact o9_215 h1, fun k hk => ?_⟩
      rcases Nat.lt_or_ge k n with h | h
      · rw [← h2 k h]; unfold bit
        have e : 2 ^ n = 2 ^ k * (2 * 2 ^ (n - k - 1)) := by rw [← Nat.pow_succ', ← Nat.pow_add]; congr 1; (first | lia | omega)
        rw [e, Nat.add_mul_div_left _ _ (Nat.two_pow_pos k), Nat.add_mul_mod_self_left]
      · have : k = n := by exact o9_214 hk h
        subst this
        rw [hq]; unfold bit
        have e : (m + 2 ^ k) / 2 ^ k = 1 := by rw [Nat.add_div_right _ (Nat.two_pow_pos k), Nat.div_eq_of_lt h1]
        rw [e]; rfl
end Mine
open PySem PySem.W PyProof.Rows
set_option Elab.async false
set_option maxRecDepth 100000
namespace Mine
section
variable {G : Cx} {A : Around} {F : Fx} {σ : Loc} {H : AH} {Q : PV → AH → Prop}


noncomputable def EvK (G : Cx) (F : Fx) (kws : List Keyword) (σ : Loc) (H : AH) (Q : List PV → AH → Prop) : Prop :=
  ∀ s pos, OkH G H s → LR G F σ s.heap → wpAny (model G.prog G.w) F.A (evalAll ((backToKw pos (keywordEach kws F.env)).map (·.2))) (PostL G H s Q) NoE s
theorem EvK_nil {Q : List PV → AH → Prop} (h : Q [] H) : EvK G F [] σ H Q := fun s pos ok _ => kws_nil ⟨[], H, rfl, ok, Kp.refl H s, h⟩
theorem EvK_cons {name : Str} {value : Expr} {kp : Pos} {rest : List Keyword} {Q : List PV → AH → Prop} (h : Ev G F value σ H (fun p H1 => EvK G F rest σ H1 (fun ps H2 => Q (p :: ps) H2))) :
    EvK G F (⟨some name, value, kp⟩ :: rest) σ H Q := fun s pos ok lr =>
  kws_cons (wpAny_mono (h s ok lr) (fun v s1 zz2 => by obtain ⟨p, H1, hv, ok1, k1, hq⟩ := zz2; exact wpAny_mono (hq s1 pos ok1 (lr.kp ok k1)) (fun vs s2 zz2 => by obtain ⟨ps, H2, hvs, ok2, k2, hq2⟩ := zz2; exact ⟨p :: ps, H2, ⟨v, vs, rfl, k2.vr ok1 hv, hvs⟩, ok2, k1.trans k2, hq2⟩) fun _ _ x => x) fun _ _ x => x)


noncomputable def OpU (G : Cx) (F : Fx) (σ : Loc) (f : List Value → Sem Value) (ps : List PV) (H : AH) (Q : PV → AH → Prop) : Prop :=
  ∀ s vs, OkH G H s → LR G F σ s.heap → VRs s.heap ps vs → Ret G F.A (f vs) H s Q
theorem OpL.toU {f : List Value → Sem Value} {ps : List PV} (h : OpL G F.A f ps H Q) : OpU G F σ f ps H Q := fun s vs ok _ hv => h s vs ok hv


theorem Ev_FnK {K : Frag} {f : Str} {np pos : Pos} {fa : Addr} {e : Expr} {es : List Expr} {kws : List Keyword} (names : List Str) (hK : G.K = K) (hk : F.env.kindOf f = some .globalImplicit) (hf : nsIn K mainGlobals f = some (some (.ref fa))) (ht : fnThere K fa = true)
    (h : EvL G F (e :: es) σ H (fun ps H1 => EvK G F kws σ H1 (fun ks H2 => OpU G F σ (fun vs => call (.ref fa) (vs.take ps.length) (names.zip (vs.drop ps.length))) (ps ++ ks) H2 Q)))
    (he : starEach (e :: es) F.env = (false, eval e F.env) :: starEach es F.env := by rfl)
    (hall : (backToKw pos (keywordEach kws F.env)).all (·.1.isSome) = true := by rfl) (hnm : (backToKw pos (keywordEach kws F.env)).filterMap (·.1) = names := by rfl) :
    Ev G F (.Call (.Name f np) (e :: es) kws pos) σ H Q := by
  subst hK
  intro s ok lr
  obtain ⟨fo, fd, hfo, hfd⟩ : ∃ fo fd, G.base.get? fa = some fo ∧ fo.data = .func fd := by
    unfold fnThere at ht
    split at ht
    · rename_i c d fd sl hl; exact ⟨_, fd, G.kin _ _ hl, rfl⟩
    · cases ht
  refine wpAny_Call_Name_kw (wpAny_mono (Ev_Global (Q := fun p H1 => p = .ref fa ∧ H1 = H) hk (G.mg_of hf) ⟨rfl, rfl⟩ s ok lr) (fun v s1 zz2 => zz2.on fun p H1 hv ok1 k1 zz2_5 => zz2_5.elim fun hp hH => ?_) fun _ _ x => x)
  subst hp; subst hH
  rw [show v = .ref fa from hv]
  have lr1 := lr.kp ok k1
  refine callWith_function_kw (o := fo) (fd := fd) ?_
  have hsp : backTo pos (starEach (e :: es) F.env) = (false, eval e F.env) :: backTo pos (starEach es F.env) := by rw [he]; rfl
  have h1 := h s1 pos ok1 lr1
  rw [hsp] at h1 ⊢
  refine evalArgs_kw hall (wpAny_mono h1 (fun vs s2 zz2 => zz2.on fun ps H2 hvs ok2 k2 hq => ?_) fun _ _ x => x)
  have lr2 := lr1.kp ok1 k2
  refine wpAny_mono (hq s2 pos ok2 lr2) (fun ks s3 zz2 => zz2.on fun qs H3 hks ok3 k3 hq3 => ⟨⟨ok3.keep _ _ hfo, hfd⟩, ?_⟩) fun _ _ x => x
  have hv2 := (k3.vrs ok2 hvs).append hks
  have := hq3 s3 (vs ++ ks) ok3 (lr2.kp ok2 k3) hv2
  rw [← hvs.length] at this
  simp only [List.take_left, List.drop_left] at this
  rw [hnm]
  exact wpAny_mono this (fun _ _ x => ((x.trans k3).trans k2).trans k1) fun _ _ x => x


theorem Ev_BiK {K : Frag} {f : Str} {np pos : Pos} (id : String) {e : Expr} {es : List Expr} {kws : List Keyword} (names : List Str) (hK : G.K = K) (hk : F.env.kindOf f = some .globalImplicit) (hf : nsIn K mainGlobals f = some none) (hb : bootBuiltins f = some (.builtin id)) (hn : f ≠ "__name__")
    (h : EvL G F (e :: es) σ H (fun ps H1 => EvK G F kws σ H1 (fun ks H2 => OpU G F σ (fun vs => call (.builtin id) (vs.take ps.length) (names.zip (vs.drop ps.length))) (ps ++ ks) H2 Q)))
    (he : backTo pos (starEach (e :: es) F.env) = (false, eval e F.env) :: backTo pos (starEach es F.env) := by rfl) (hplain : (backTo pos (starEach (e :: es) F.env)).any (·.1) = false := by rfl)
    (hall : (backToKw pos (keywordEach kws F.env)).all (·.1.isSome) = true := by rfl) (hkw : (backToKw pos (keywordEach kws F.env)).any (·.1.isNone) = false := by rfl) (hnm : (backToKw pos (keywordEach kws F.env)).filterMap (·.1) = names := by rfl) :
    Ev G F (.Call (.Name f np) (e :: es) kws pos) σ H Q := by
  subst hK
  intro s ok lr
  refine wpAny_Call_Name_kw (wpAny_mono (Ev_Builtin (Q := fun p H1 => p = .val (.builtin id) ∧ H1 = H) hk (G.mg_of hf) hb hn ⟨rfl, rfl⟩ s ok lr) (fun v s1 zz2 => zz2.on fun p H1 hv ok1 k1 zz2_5 => zz2_5.elim fun hp hH => ?_) fun _ _ x => x)
  subst hp; subst hH
  rw [show v = .builtin id from hv]
  have lr1 := lr.kp ok k1
  refine callWith_kw (wpAny_mono (h s1 pos ok1 lr1) (fun vs s2 zz2 => zz2.on fun ps H2 hvs ok2 k2 hq => ?_) fun _ _ x => x) he hplain hall hkw
  have lr2 := lr1.kp ok1 k2
  refine wpAny_mono (hq s2 pos ok2 lr2) (fun ks s3 zz2 => zz2.on fun qs H3 hks ok3 k3 hq3 => ?_) fun _ _ x => x
  have hv2 := (k3.vrs ok2 hvs).append hks
  have := hq3 s3 (vs ++ ks) ok3 (lr2.kp ok2 k3) hv2
  rw [← hvs.length] at this
  simp only [List.take_left, List.drop_left] at this
  rw [hnm]
  exact wpAny_mono this (fun _ _ x => ((x.trans k3).trans k2).trans k1) fun _ _ x => x


noncomputable def OpC (G : Cx) (A : Around) (p : PV) (ps : List PV) (H : AH) (Q : PV → AH → Prop) : Prop :=
  ∀ s v vs, OkH G H s → VR s.heap p v → VRs s.heap ps vs → Ret G A (call v vs) H s Q

theorem Ev_CallV {x : Str} {np pos : Pos} {o : Obj} {e : Expr} {es : List Expr} (hx : σ x = some (.fnc o))
    (h : EvL G F (e :: es) σ H (fun ps H1 => OpC G F.A (.fnc o) ps H1 Q)) (he : starEach (e :: es) F.env = (false, eval e F.env) :: starEach es F.env := by rfl) :
    Ev G F (.Call (.Name x np) (e :: es) [] pos) σ H Q := by
  intro s ok lr
  refine wpAny_Call_NameR (wpAny_mono (Ev_Name (Q := fun p H1 => p = .fnc o ∧ H1 = H) hx ⟨rfl, rfl⟩ s ok lr) (fun v s1 zz2 => zz2.on fun p H1 hv ok1 k1 zz2_5 => zz2_5.elim fun hp hH => ?_) fun _ _ x => x)
  subst hp; subst hH
  refine hide fun WW9 hW9 => ?_
  obtain ⟨a, fd, c, oc, cvs, t, eq9_0, ha, hc, hd, _⟩ := id hv
  refine hW9 ?_
  clear hW9 WW9
  subst eq9_0
  refine callWith_def hd (wpAny_mono (h s1 pos ok1 (lr.kp ok k1)) (fun vs s2 zz2 => zz2.on fun ps H2 hvs ok2 k2 hq => ⟨?_, ?_⟩) fun _ _ x => x) he
  · refine hide fun WW9 hW9 => ?_
    obtain ⟨a', _, _, _, _, _, e', ha', _⟩ := k2.vr ok1 hv
    refine hW9 ?_
    clear hW9 WW9
    injection e' with e'; subst e'; exact ha'
  · exact wpAny_mono (hq s2 _ vs ok2 (k2.vr ok1 hv) hvs) (fun _ _ x => (x.trans k2).trans k1) fun _ _ x => x



noncomputable def Cx.with (G : Cx) (D : Addr → Obj → Prop) (dD : ∀ b o, D b o → G.base.get? b = none ∧ DC o) : Cx := { G with D := D, dD := dD }
structure BelowD (G : Cx) (F : Fx) (σ : Loc) (D : Addr → Obj → Prop) : Prop where
  old : ∀ b o, G.D b o → D b o
  loc : ∃ o, D F.env.locals o
  cell : ∀ x, F.env.kindOf x = some .cell → ∃ c, F.env.cells.lookup x = some c ∧ (F.W c → ∃ o v, D c o ∧ o.data = .cell v ∧ ∀ a, σ x = some (.ref a) → v = some (.ref a))
theorem under {f : List Value → Sem Value} {ps : List PV} (h : ∀ D dD, BelowD G F σ D → OpL (G.with D dD) F.A f ps H Q) : OpU G F σ f ps H Q := by
  intro s vs ok lr hvs
  have dD : ∀ b o, (G.D b o ∨ (F.W b ∧ s.heap.get? b = some o)) → G.base.get? b = none ∧ DC o := fun b o hb => by
    rcases hb with hb | ⟨hw, ho⟩
    · exact G.dD b o hb
    · obtain ⟨o', ho', hd⟩ := lr.odd b hw
      rw [ho'] at ho; cases ho; exact ⟨(lr.own b hw).1, hd⟩
  have key := h (fun b o => G.D b o ∨ (F.W b ∧ s.heap.get? b = some o)) dD ⟨fun _ _ h => .inl h, ?_, fun x hk => ?_⟩ s vs ⟨ok.keep, ok.hr, ok.gens, fun b o hb => ?_, ok.tab⟩ hvs
  · refine wpAny_mono key (fun v s' zz2 => by obtain ⟨p, H', hv, ok', k', hq⟩ := zz2; exact ⟨p, H', hv, ⟨ok'.keep, ok'.hr, ok'.gens, fun b o hb => ok'.dat b o (.inl hb), ok'.tab⟩, k', hq⟩) fun _ _ x => x
  · obtain ⟨o, ho, _⟩ := lr.odd _ lr.wloc; exact ⟨o, .inr ⟨lr.wloc, ho⟩⟩
  · obtain ⟨c', v₀, h1, ⟨o, ho, hd⟩, h3⟩ := lr.cell x (.inl hk)
    refine ⟨c', h1, fun hw => ⟨o, v₀, .inr ⟨hw, ho⟩, hd, fun a ha => ?_⟩⟩
    obtain ⟨v, rfl, hv⟩ := h3 _ ha
    rw [show v = .ref a from hv]
  · rcases hb with hb | ⟨hw, ho⟩
    · exact ok.dat b o hb
    · exact ⟨o, ho, rfl⟩


noncomputable def BM (G : Cx) : Prop := ∃ bm o, G.mg "__builtins__" = some (.ref bm) ∧ bm ≠ builtinsNs ∧ bm ≠ mainGlobals ∧ G.base.get? bm = some o ∧ o.cls = .type "module" ∧ o.dict = some builtinsNs ∧ o.data = .plain
theorem codeAmong_app {pos pos' : Pos} {c cv : Value} : ∀ (l : List Value), TriplesOk l → codeAmong pos' (l ++ [rawInt pos.line, rawInt pos.col, c]) = some cv →
    codeAmong pos' l = some cv ∨ (pos'.line = pos.line ∧ pos'.col = pos.col ∧ cv = c) := by
  intro l h
  fun_induction TriplesOk l with
  | case1 =>
    intro e
    simp only [List.nil_append, codeAmong, rawInt] at e
    split at e
    · rename_i hc
      simp only [Bool.and_eq_true, beq_iff_eq] at hc
      cases e
      exact .inr ⟨by exact o9_217 hc, by exact o9_218 hc, rfl⟩
    · simp at e
  | case2 a t b u x rest ih =>
    intro e
    simp only [List.cons_append, codeAmong] at e ⊢
    split at e
    · rename_i hc; rw [if_pos hc]; exact .inl e
    · rename_i hc; rw [if_neg hc]; exact ih h e
  | case3 l h1 h2 => exact h.elim

theorem Ev_Lambda {params : Arguments} {body : Expr} {scope : Scope} {pos : Pos} {c P : Addr} (hsc : scopeOk scope = true) (hfree : freeOk F scope) (hcode : F.env.code = .ref c) (hC : CodeHd G.base c P) (hT : G.T P)
    (hq : G.tq P pos.line pos.col = F.env.qual ++ "<lambda>") (hbm : BM G)
    (h : ∀ c' ctv, Q (.fnc (kla_obj "<lambda>" (F.env.qual ++ "<lambda>") params body scope (closL F.env scope.names []) ((G.mg "__name__").getD .none) c' ctv)) H)
    (hdef : defaultsOf params F.env = ([], []) := by rfl) : Ev G F (.Lambda params body scope pos) σ H Q := by
  intro s ok lr
  refine kla_eval hdef ?_
  have hcl := clos_ok hsc hfree lr
  refine hide fun WW9 hW9 => ?_
  obtain ⟨ps, hP, ht, hcod⟩ := ok.tab P hT
  refine hW9 ?_
  clear hW9 WW9
  have hbP := G.dT P hT
  have hg : s.heap.Ns mainGlobals G.mg := G.g.keeps ok.keep
  have hgP : mainGlobals ≠ P := fun q => by
    refine hide fun WW9 hW9 => ?_
    obtain ⟨o, es, ep, e, _⟩ := G.g
    refine hW9 ?_
    clear hW9 WW9
    rw [q, hbP] at e; cases e
  refine hide fun WW9 hW9 => ?_
  obtain ⟨bm, ob, b1, b2, b3, b4, b5⟩ := hbm
  refine hW9 ?_
  clear hW9 WW9
  have hb : s.heap.BuiltinsAt G.mg P := ⟨bm, ob, b1, b2, b3, (fun q => by rw [q, hbP] at b4; cases b4), ok.keep _ _ b4, b5⟩
  cases hcm : codeAmong pos ps.toList with
  | none =>
    refine kla_makeFunction hcl lr.glob hg hcode (hC.keeps ok.keep) hP ht hcm hgP hb fun c' ctv h' tk hx hge hlt hrec htb => ?_
    have nP : ∀ b o, s.heap.get? b = some o → ¬ Tab o → b ≠ P := fun b o e hn q => by subst q; rw [hP] at e; cases e; exact hn ⟨ps, rfl, ht⟩
    have kk : ∀ b o, s.heap.get? b = some o → ¬ Tab o → (h'.push (kla_obj "<lambda>" (F.env.qual ++ "<lambda>") params body scope (closL F.env scope.names []) ((G.mg "__name__").getD .none) c' ctv)).get? b = some o :=
      fun b o e hn => Heap.get?_push_of_some _ (hx b o (nP b o e hn) e)
    have tnl : ∀ {o : Obj}, Fix o ∨ IsLst o → ¬ Tab o := fun h ht => Soft.not_solid (.inr ht) h
    have ht' : TriplesOk (ps ++ #[rawInt pos.line, rawInt pos.col, .ref c']).toList := by
      rw [Array.toList_append]; exact TriplesOk_snoc _ _ _ _ ht
    refine hide fun WW9 hW9 => ?_
    obtain ⟨c2, oc, cvs, t, e2, hoc, hdc, hvc⟩ := id hrec
    refine hW9 ?_
    clear hW9 WW9
    injection e2 with e2; subst e2
    refine ⟨.fnc _, H, ⟨_, _, c', oc, cvs, t, rfl, Heap.get?_push_size _ rfl, rfl, rfl, rfl, Heap.get?_push_of_some _ hoc, hdc, hvc⟩,
      ⟨fun b o e => Heap.get?_push_of_some _ (hx b o (fun q => by rw [q, hbP] at e; cases e) (ok.keep b o e)), ok.hr.other fun b o e hs => kk b o e (tnl hs), ok.gens,
        ok.dat.dc fun b o hd _ e => kk b o e fun ht => ht.not_dc hd, fun P' hP' => ?_⟩,
      ⟨rfl, fun b o e _ => ?_, DomLe.refl _ _⟩, h c' ctv⟩
    · by_cases q : P' = P
      · subst q
        refine ⟨_, Heap.get?_push_of_some _ htb, ht', fun pos' cv e => ?_⟩
        rw [Array.toList_append] at e
        rcases codeAmong_app _ ht e with e | ⟨e1, e2, rfl⟩
        · refine hide fun WW9 hW9 => ?_
          obtain ⟨c3, o3, vs3, t3, g1, g2, g3, g4⟩ := hcod pos' cv e
          refine hW9 ?_
          clear hW9 WW9
          exact ⟨c3, o3, vs3, t3, g1, kk _ _ g2 (tnl (.inl (.inr ⟨vs3, _, _, g3, g4⟩))), g3, g4⟩
        · rw [e1, e2, hq]
          exact ⟨c', oc, cvs, t, rfl, Heap.get?_push_of_some _ hoc, hdc, hvc⟩
      · refine hide fun WW9 hW9 => ?_
        obtain ⟨ps', g1, g2, g3⟩ := ok.tab P' hP'
        refine hW9 ?_
        clear hW9 WW9
        refine ⟨ps', Heap.get?_push_of_some _ (hx _ _ q g1), g2, fun pos' cv e => ?_⟩
        refine hide fun WW9 hW9 => ?_
        obtain ⟨c3, o3, vs3, t3, f1, f2, f3, f4⟩ := g3 pos' cv e
        refine hW9 ?_
        clear hW9 WW9
        exact ⟨c3, o3, vs3, t3, f1, kk _ _ f2 (tnl (.inl (.inr ⟨vs3, _, _, f3, f4⟩))), f3, f4⟩
    · by_cases q : b = P
      · subst q; rw [hP] at e; cases e
        exact ⟨_, Heap.get?_push_of_some _ htb, .inr (.inr ⟨⟨ps, rfl, ht⟩, ⟨_, rfl, ht'⟩⟩)⟩
      · exact .of (Heap.get?_push_of_some _ (hx b o q e))
  | some cv =>
    refine hide fun WW9 hW9 => ?_
    obtain ⟨c3, o3, vs3, t3, eq9_0, g2, g3, g4⟩ := hcod pos cv hcm
    refine hW9 ?_
    clear hW9 WW9
    subst eq9_0
    refine kla_makeFunctionHit hcl lr.glob hg hcode (hC.keeps ok.keep) hP ht hcm hb fun ctv h' tk hk hsz => ?_
    have kk : ∀ b o, s.heap.get? b = some o → (h'.push (kla_obj "<lambda>" (F.env.qual ++ "<lambda>") params body scope (closL F.env scope.names []) ((G.mg "__name__").getD .none) c3 ctv)).get? b = some o :=
      fun b o e => Heap.get?_push_of_some _ (hk b o e)
    rw [hq] at g4
    exact ⟨.fnc _, H, ⟨_, _, c3, o3, vs3, t3, rfl, Heap.get?_push_size _ rfl, rfl, rfl, rfl, kk _ _ g2, g3, g4⟩,
      ⟨fun b o e => kk b o (ok.keep b o e), ok.hr.other fun b o e _ => kk b o e, ok.gens, ok.dat.all kk, ok.tab.keep fun b o _ e => kk b o e⟩, ⟨rfl, fun b o e _ => .of (kk b o e), DomLe.refl _ _⟩, h c3 ctv⟩
end
end Mine
open PySem PySem.W PyProof.Rows
set_option Elab.async false
set_option maxRecDepth 100000
namespace Mine
section
variable {G : Cx} {A : Around} {F : Fx} {σ : Loc} {H : AH} {Q : PV → AH → Prop}

theorem bindσ_rev {h : Heap} : ∀ (pb : List (Str × PV)) (bs : List (Str × Value)) (σ : Loc) (x : Str) (p : PV), BRel h pb bs → bindσ pb σ x = some p →
    (∃ v, bs.reverse.lookup x = some v ∧ VR h p v ∧ ∃ q, (x, q) ∈ pb) ∨ (bs.reverse.lookup x = none ∧ σ x = some p)
  | [], bs, σ, x, p, e, hx => by rw [show bs = [] from e]; exact .inr ⟨rfl, hx⟩
  | (n, q) :: r, _, σ, x, p, ⟨v, bs, rfl, hv, hr⟩, hx => by
    rw [List.reverse_cons, List.lookup_append]
    rcases bindσ_rev r bs _ x p hr hx with ⟨u, h1, h2, q', h3⟩ | ⟨h1, h2⟩
    · rw [h1]; exact .inl ⟨u, rfl, h2, q', List.mem_cons_of_mem _ h3⟩
    · rw [h1]
      unfold Loc.set at h2
      by_cases hn : x = n
      · subst hn; rw [if_pos rfl] at h2; cases h2
        exact .inl ⟨v, by simp, hv, q, List.mem_cons_self⟩
      · rw [if_neg hn] at h2
        exact .inr ⟨by simp [List.lookup_cons, beq_eq_false_iff_ne.mpr hn], h2⟩


theorem call_lam {o : Obj} {name qual : Str} {params : Arguments} {body : Expr} {scope : Scope} {clos : List (Str × Addr)} {pm ctv : Value} {c' : Addr} {ps : List PV} {pb : List (Str × PV)} (σ₀ : Loc)
    (ho : o = kla_obj name qual params body scope clos pm c' ctv) (hroom : A.depth < recursionLimit)
    (hsc : scopeOk scope = true) (hco : scope.isCoroutine = false) (hgen : scope.isGenerator = false) (hcell : ∀ x ∈ scope.names, x.2 ≠ .cell)
    (hpb : ∀ x ∈ pb, scope.names.lookup x.1 = some .local)
    (hbind : ∀ h vs, VRs h ps vs → ∃ bs, bindArgs (kla_fn name qual params body scope clos pm (.ref c') ctv) ⟨vs, []⟩ = pure bs ∧ ∀ h', (∀ p v, VR h p v → VR h' p v) → BRel h' pb bs)
    (hfree : ∀ x, scope.names.lookup x = some .free → ∃ c o v, clos.lookup x = some c ∧ G.D c o ∧ o.data = .cell v ∧ ∀ p, σ₀ x = some p → ∃ a, p = .ref a ∧ v = some (.ref a))
    (hσ : ∀ x p, σ₀ x = some p → scope.names.lookup x = some .free) (hap : clos.Pairwise fun x y => x.2 ≠ y.2)
    (h : ∀ F : Fx, F.env.scope = scope → F.A = A.deeper F.env → Ev G F body (bindσ pb σ₀) H Q) : OpC G A (.fnc o) ps H Q := by
  rintro s _ vs ok ⟨a, fd, c, oc, cvs, t, rfl, ha, hc, hd, h1, h2, h3, h4⟩ hvs
  subst ho
  injection hd with hd
  subst hd
  have hk := scope_kind hsc
  refine hide fun WW9 hW9 => ?_
  obtain ⟨bs, hpk, hbr⟩ := hbind s.heap vs hvs
  refine hW9 ?_
  clear hW9 WW9
  have hrel : BRel s.heap pb bs := hbr _ fun _ _ h => h
  refine wpAny_call (kla_callFunE hroom ha rfl hco hgen rfl ⟨c, oc, cvs, t, h1, h2, h3, h4⟩ ?_)
  rw [hpk]
  refine wpAny_pure (wpAny_newFunctionEnv hcell (fun x hx => ?_) (fun h₁ hns hsb => ⟨(G.nolimit.keeps ok.keep).fresh _ hsb, ?_⟩) hk)
  · obtain ⟨p, hp⟩ := hrel.names x hx; exact hpb _ hp
  have hk₁ : ∀ b o, s.heap.get? b = some o → h₁.get? b = some o := fun b o e => hsb.extBut b o (Nat.ne_of_lt (Heap.lt_size e)) (Heap.get?_push_of_some _ e)
  have vr1 : ∀ p v, VR s.heap p v → VR h₁ p v := fun p v hv => VR.mono (fun b o _ e => hk₁ b o e) p v hv
  have hrel1 := hbr _ vr1
  have ok1 : OkH G H { s with heap := h₁, toks := s.toks + bs.length } := ⟨fun b o e => hk₁ b o (ok.keep b o e), ok.hr.other fun b o e _ => hk₁ b o e, ok.gens, ok.dat.all hk₁, ok.tab.keep fun b o _ e => hk₁ b o e⟩
  let env : Env := newEnv scope s.heap.objs.size mainGlobals clos (qual ++ ".<locals>.") (some a) (.ref c') none builtinsNs
  have fr : ∀ o, s.heap.get? s.heap.objs.size ≠ some o := fun o e => absurd (Heap.lt_size e) (Nat.lt_irrefl _)
  have lr1 : LR G ⟨A.deeper env, env, fun b => b = s.heap.objs.size⟩ (bindσ pb σ₀) h₁ := by
    refine ⟨fun b hb => ⟨?_, fun o hD => ?_⟩, fun b hb => ?_, rfl, hk, ?_, rfl, rfl, ⟨_, hns, fun x p e hkx => ?_⟩, fun x p e => ?_, fun x hx => ?_, hap⟩
    · subst hb
      cases e : G.base.get? s.heap.objs.size with
      | none => rfl
      | some o => exact absurd (ok.keep _ _ e) (fr o)
    · subst hb; obtain ⟨o', e, _⟩ := ok.dat _ _ hD; exact fr o' e
    · subst hb; exact ns_dc hns
    · unfold scopeOk at hsc; simp only [Bool.and_eq_true] at hsc; exact hsc.1.2
    · rcases bindσ_rev pb bs σ₀ x p hrel1 e with ⟨v, g1, g2, _⟩ | ⟨_, g2⟩
      · exact ⟨v, g1, g2⟩
      · have := hσ x p g2
        have hkx' : scope.names.lookup x = some .local := hkx
        rw [this] at hkx'; cases hkx'
    · rcases bindσ_rev pb bs σ₀ x p hrel1 e with ⟨v, g1, g2, q, hq⟩ | ⟨_, g2⟩
      · exact .inl (hpb _ hq)
      · exact .inr (.inr (hσ x p g2))
    · have hx' : scope.names.lookup x = some .free := by
        rcases hx with hx | hx
        · exact absurd rfl (hcell _ (mem_of_lookup (show scope.names.lookup x = some .cell from hx)))
        · exact hx
      refine hide fun WW9 hW9 => ?_
      obtain ⟨c2, o2, v2, g1, g2, g3, g4⟩ := hfree x hx'
      refine hW9 ?_
      clear hW9 WW9
      refine hide fun WW9 hW9 => ?_
      obtain ⟨o3, g5, g6⟩ := ok.dat _ _ g2
      refine hW9 ?_
      clear hW9 WW9
      refine ⟨c2, v2, g1, ⟨o3, hk₁ _ _ g5, g6.trans g3⟩, fun p e => ?_⟩
      rcases bindσ_rev pb bs σ₀ x p hrel1 e with ⟨v, f1, f2, q, hq⟩ | ⟨_, f2⟩
      · have := hpb _ hq; rw [hx'] at this; cases this
      · refine hide fun WW9 hW9 => ?_
        obtain ⟨a', eq9_0, eq9_1⟩ := g4 p f2
        refine hW9 ?_
        clear hW9 WW9
        subst eq9_0 eq9_1
        exact ⟨_, rfl, rfl⟩
  refine kla_codeExpr (wpAny_noE (wpAny_mono (h ⟨A.deeper env, env, fun b => b = s.heap.objs.size⟩ rfl rfl _ ok1 lr1) (fun v s' zz2 => zz2.on fun p H' hv ok' k' hq => ?_) fun _ _ x => x))
  refine ⟨p, H', hv, ok', ⟨k'.os, fun b o e hm => k'.kept b o (hk₁ b o e) hm, fun b o e => ?_⟩, hq⟩
  rcases k'.dom b o e with h | h
  · left
    cases e2 : s.heap.get? b with
    | none => rfl
    | some o => rw [hk₁ b o e2] at h; cases h
  · exact .inr h


noncomputable def Stk (G : Cx) (A : Around) : Prop := ∃ l, A.frames = some l ∧ ∀ env ∈ l, env.scope.kind ≠ .module ∧ ∃ L o, env.frame = some L ∧ G.D L o
theorem Stk.push {sc : Scope} {fd : FuncData} {D : Addr → Obj → Prop} {dD} (hs : Stk G A) (hF : FnF A sc F) (hE : FnE fd F) (hk : sc.kind = .function) (b : BelowD G F σ D) : Stk (G.with D dD) F.A := by
  obtain ⟨l, h1, h2⟩ := hs
  refine ⟨F.env :: l, by rw [hF.A]; exact Around.frames_deeper h1, fun env he => ?_⟩
  rcases List.mem_cons.mp he with rfl | he
  · obtain ⟨o, ho⟩ := b.loc
    exact ⟨by rw [hF.sc, hk]; simp, _, o, hE.frame, ho⟩
  · obtain ⟨g1, L, o, g2, g3⟩ := h2 env he
    exact ⟨g1, L, o, g2, b.old _ _ g3⟩
end
end Mine
open PySem PySem.W PyProof.Rows
set_option Elab.async false
set_option maxRecDepth 100000
namespace Mine
section
variable {G : Cx} {A : Around} {F : Fx} {σ : Loc} {H : AH} {Q : PV → AH → Prop}



noncomputable def ExcAt (h0 h : Heap) (e : Value) (wr : List Addr) : Prop :=
  ∃ a oe vs, e = .ref a ∧ h.get? a = some oe ∧ oe.cls = .type "IndexError" ∧ oe.data = .fields vs ∧ (∀ b ∈ wr, h0.get? b = none ∧ ∃ o, h.get? b = some o ∧ Odd o) ∧ a ∈ wr ∧
    (vs[1]? = some .none ∨ ∃ T oT ts, vs[1]? = some (.ref T) ∧ T ≠ a ∧ T ∈ wr ∧ h.get? T = some oT ∧ oT.cls = .type "traceback" ∧ oT.data = .fields ts ∧ 3 < ts.size ∧ ∃ L, ts[1]? = some (.ref L))
theorem odd_of {o : Obj} {c : String} {vs : Array Value} (hc : o.cls = .type c) (hd : o.data = .fields vs) (h : c ≠ "tuple" ∧ c ≠ "range" ∧ c ≠ "function" ∧ c ≠ "list") (hf : ∀ q t, vs[1]? ≠ some (Value.str q t)) : Odd o := by
  have hnc : ¬ Code o := by
    rintro ⟨vs', q, t, h1, h2⟩
    rw [hd] at h1; cases h1; exact hf q t h2
  refine ⟨?_, ?_, ?_, ?_⟩
  · rintro (⟨h1 | h1 | h1, _⟩ | h1)
    · rw [hc] at h1; simp at h1; exact h.1 h1
    · rw [hc] at h1; simp at h1; exact h.2.1 h1
    · rw [hc] at h1; simp at h1; exact h.2.2.1 h1
    · exact hnc h1
  · rintro ⟨h1, _⟩; rw [hc] at h1; simp at h1; exact h.2.2.2 h1
  · rintro ((⟨es, n, h1⟩ | ⟨v, h1⟩) | ⟨ps, rfl, _⟩)
    · rw [hd] at h1; cases h1
    · rw [hd] at h1; cases h1
    · cases hc
  · rintro (⟨ps, rfl, _⟩ | h1)
    · cases hc
    · exact hnc h1


structure Stir (wr S : List Addr) (h h' : Heap) : Prop where
  other : ∀ b o, b ∉ wr → b ∉ S → h.get? b = some o → h'.get? b = some o
  fr : ∀ b o, b ∈ S → h.get? b = some o → ∃ o', h'.get? b = some o' ∧ o'.data = o.data
theorem stir_ok {s : Shared} {wr S : List Addr} {h' : Heap} (ok : OkH G H s) (hw : ∀ b ∈ wr, G.base.get? b = none ∧ ∃ o, s.heap.get? b = some o ∧ Odd o) (hS : ∀ b ∈ S, G.base.get? b = none ∧ ∃ o, s.heap.get? b = some o ∧ DC o) (x : Stir wr S s.heap h') :
    OkH G H { s with heap := h' } ∧ (∀ p v, VR s.heap p v → VR h' p v) ∧ (∀ (F : Fx) σ, LR G F σ s.heap → LR G F σ h') := by
  have nw : ∀ b o, s.heap.get? b = some o → Fix o ∨ IsLst o ∨ Soft o ∨ Low o → b ∉ wr := fun b o e hs hm => by
    obtain ⟨_, o', ho', hod⟩ := hw b hm
    rw [ho'] at e; cases e
    rcases hs with h | h | h | h
    · exact hod.1 h
    · exact hod.2.1 h
    · exact hod.2.2.1 h
    · exact hod.2.2.2 h
  have nS : ∀ b o, s.heap.get? b = some o → ¬ DC o → b ∉ S := fun b o e hd hm => by
    obtain ⟨_, o', ho', hdc⟩ := hS b hm
    rw [ho'] at e; cases e; exact hd hdc
  have kf : ∀ b o, s.heap.get? b = some o → Fix o ∨ IsLst o → h'.get? b = some o := fun b o e hs =>
    x.other b o (nw b o e (hs.imp id .inl)) (nS b o e fun hd => hd.not_solid hs) e
  have kd : ∀ b o, DC o → s.heap.get? b = some o → ∃ o', h'.get? b = some o' ∧ o'.data = o.data := fun b o hd e => by
    by_cases hb : b ∈ S
    · exact x.fr b o hb e
    · exact ⟨o, x.other b o (nw b o e (.inr (.inr (.inl (.inl hd))))) hb e, rfl⟩
  have hv : ∀ p v, VR s.heap p v → VR h' p v := fun p v h => VR.mono (fun b o hf e => kf b o e (.inl hf)) p v h
  refine ⟨⟨fun b o e => x.other b o (fun hm => by rw [(hw b hm).1] at e; cases e) (fun hm => by rw [(hS b hm).1] at e; cases e) (ok.keep b o e), ok.hr.other kf, ok.gens, fun b o hD => ?_, ok.tab.keep fun b o hl e => x.other b o (nw b o e (.inr (.inr (.inr hl)))) (nS b o e hl.not_dc) e⟩, hv, fun F σ lr => lr.at kd hv⟩
  obtain ⟨o', g1, g2⟩ := ok.dat b o hD
  obtain ⟨o'', g3, g4⟩ := kd b o' ((G.dD b o hD).2.of g2) g1
  exact ⟨o'', g3, g4.trans g2⟩

theorem funFrames_of {h : Heap} {base : Heap} : ∀ {l : List Env}, (∀ env ∈ l, env.scope.kind ≠ .module ∧ ∃ L o, env.frame = some L ∧ base.get? L = none ∧ h.get? L = some o ∧ DC o) → h.FunFrames base l
  | [], _ => trivial
  | env :: l, H => by
    obtain ⟨h1, L, o, h2, h3, h4, h5⟩ := H env List.mem_cons_self
    exact ⟨h1, ⟨L, o, h2, h3, h4, fun vs e => by rcases h5 with ⟨_, _, h5⟩ | ⟨_, h5⟩ <;> (rw [h5] at e; cases e)⟩, funFrames_of fun e he => H e (List.mem_cons_of_mem _ he)⟩

noncomputable def FrOn (G : Cx) (h : Heap) (l : List Env) : Prop := ∀ env ∈ l, env.scope.kind ≠ .module ∧ ∃ L o, env.frame = some L ∧ G.base.get? L = none ∧ h.get? L = some o ∧ DC o
theorem FrOn.mem {h : Heap} {l : List Env} (x : FrOn G h l) {b : Addr} (hb : b ∈ l.filterMap (·.frame)) : G.base.get? b = none ∧ ∃ o, h.get? b = some o ∧ DC o := by
  obtain ⟨env, he, hf⟩ := List.mem_filterMap.mp hb
  obtain ⟨_, L, o, h2, h3, h4, h5⟩ := x env he
  rw [h2] at hf; cases hf
  exact ⟨h3, o, h4, h5⟩
theorem entry_step {M : Model} {s : Shared} {env : Env} {outer : List Env} {L a : Addr} {oe : Obj} {vs : Array Value} {head : Value} {hadNext : Bool} {Q : Unit → Shared → Prop} {E : Value → Shared → Prop}
    (hfr : A.frames = some (env :: outer)) (hl : FrOn G s.heap (env :: outer)) (hf : env.frame = some L) (he : s.heap.get? a = some oe) (hd : oe.data = .fields vs) (hsz : 1 < vs.size)
    (hQ : ∀ h' T oe' oT ts, s.heap.get? T = none → T ≠ a → h'.get? a = some oe' → oe'.cls = oe.cls → oe'.data = .fields (vs.setIfInBounds 1 (.ref T)) → h'.get? T = some oT → oT.cls = .type "traceback" → oT.data = .fields ts → 3 < ts.size → ts[1]? = some (.ref L) →
      Stir [a] ((env :: outer).filterMap (·.frame)) s.heap h' → Q () { s with heap := h' }) :
    wpAny M A (do let fr ← frameOf env; let pl ← entryPlaceOf L hadNext; let b ← EntryCells.newEntry head fr .none (rawInt L) .none pl; setField (.ref a) 1 b) Q E s := by
  have haS : a ∉ (env :: outer).filterMap (·.frame) := fun hm => by
    obtain ⟨_, o, ho, hdc⟩ := hl.mem hm
    rw [he] at ho; cases ho
    rcases hdc with ⟨_, _, h5⟩ | ⟨_, h5⟩ <;> (rw [hd] at h5; cases h5)
  refine wpAny_bind (wpAny_frameOf_fun hfr (funFrames_of hl) hf fun h₁ hs₁ => ?_)
  refine wpAny_bind (wpAny_entryPlaceOf fun pl hpl => ?_)
  unfold EntryCells.newEntry newFields
  refine wpAny_bind (wpAny_newObj_type ?_ (hpl.sizeOk5 _ _ _ _ _))
  have he₁ : h₁.get? a = some oe := (hs₁.2.1 a haS).trans he
  generalize hT : ({ cls := .type "traceback", dict := none, data := .fields ([head, .ref L, .none, rawInt L, .none] ++ (if pl.isEmpty then List.replicate 6 Value.none else pl)).toArray } : Obj) = oT
  have he₂ := Heap.get?_push_of_some (h := h₁) oT he₁
  refine wpAny_setField he₂ hd hsz ?_
  have hTa : h₁.objs.size ≠ a := Nat.ne_of_gt (Heap.lt_size he₁)
  have hd₃ := Obj.data_mapFields hd (·.setIfInBounds 1 (Value.ref h₁.objs.size))
  refine hQ _ h₁.objs.size _ oT _ (Heap.get?_none_of_le (by rw [hs₁.1]; exact Nat.le_refl _)) hTa (Heap.get?_update_self _ he₂ (Obj.isFreed_of_fields hd₃)) (Obj.cls_mapFields _ _) hd₃ ?_ (by rw [← hT]) (by rw [← hT]) (by simp) (by simp) ⟨fun b o hb hbS e => ?_, fun b o hbS e => ?_⟩
  · rw [Heap.get?_update_other _ _ (Ne.symm hTa)]
    exact Heap.get?_push_size h₁ (by rw [← hT]; rfl)
  · rw [Heap.get?_update_other _ _ (by intro q; exact hb (by rw [q]; exact List.mem_singleton.mpr rfl))]
    exact Heap.get?_push_of_some _ ((hs₁.2.1 b hbS).trans e)
  · obtain ⟨sl, h2⟩ := hs₁.2.2 b o e
    refine ⟨{ o with slots := sl }, ?_, rfl⟩
    rw [Heap.get?_update_other _ _ (by rintro rfl; exact haS hbS)]
    exact Heap.get?_push_of_some _ h2


structure Rz (G : Cx) (H : AH) (sb s : Shared) (e : Value) : Prop where
  ok : OkH G H s
  exc : ∃ wr, ExcAt sb.heap s.heap e wr
  near : ∀ b o, sb.heap.get? b = some o → Near s.heap b o
  os : s.os = sb.os
theorem Rz.vr {sb s : Shared} {e : Value} (x : Rz G H sb s e) {p : PV} {v : Value} (h : VR sb.heap p v) : VR s.heap p v := VR.mono (fun b o hf e => (x.near b o e).hard (fix_not_soft hf)) p v h
theorem Rz.lr {sb s : Shared} {e : Value} (x : Rz G H sb s e) (h : LR G F σ sb.heap) : LR G F σ s.heap := h.at (fun b o hd e => (x.near b o e).data hd) fun _ _ => x.vr
theorem Rz.base {sb s : Shared} {e : Value} (x : Rz G H sb s e) (okb : OkH G H sb) {b : Addr} (h : sb.heap.get? b = none) : G.base.get? b = none := by
  cases e : G.base.get? b with
  | none => rfl
  | some o => rw [okb.keep b o e] at h; cases h
noncomputable def Traced (h : Heap) (e : Value) : Prop := ∃ a o vs T, e = .ref a ∧ h.get? a = some o ∧ o.data = .fields vs ∧ vs[1]? = some (.ref T)
theorem Rz.step {sb s : Shared} {e : Value} {wr S wr' : List Addr} {h' : Heap} (x : Rz G H sb s e) (okb : OkH G H sb) (hx : ExcAt sb.heap s.heap e wr) (hS : ∀ b ∈ S, G.base.get? b = none ∧ ∃ o, s.heap.get? b = some o ∧ DC o)
    (st : Stir wr S s.heap h') (hx' : ExcAt sb.heap h' e wr') : Rz G H sb { s with heap := h' } e := by
  obtain ⟨a, oe, vs, _, _, _, _, hwr, _⟩ := id hx
  obtain ⟨k1, _, _⟩ := stir_ok x.ok (fun b hb => ⟨x.base okb (hwr b hb).1, (hwr b hb).2⟩) hS st
  refine ⟨k1, ⟨wr', hx'⟩, fun b o e => (x.near b o e).step fun o' e' => ?_, x.os⟩
  have hnw : b ∉ wr := fun hm => by rw [(hwr b hm).1] at e; cases e
  by_cases hbS : b ∈ S
  · obtain ⟨_, o2, ho2, hdc⟩ := hS b hbS
    rw [ho2] at e'; cases e'
    obtain ⟨o3, q1, q2⟩ := st.fr b _ hbS ho2
    exact ⟨o3, q1, .inr (.inl ⟨hdc, q2⟩)⟩
  · exact .of (st.other b o' hnw hbS e')

theorem note_ok {sb s : Shared} {env : Env} {outer : List Env} {L : Addr} {e : Value} {Q : Unit → Shared → Prop} {E : Value → Shared → Prop}
    (hfr : A.frames = some (env :: outer)) (hl : FrOn G s.heap (env :: outer)) (hf : env.frame = some L) (okb : OkH G H sb) (x : Rz G H sb s e)
    (hQ : ∀ h', Rz G H sb { s with heap := h' } e → Traced h' e → Q () { s with heap := h' }) : wpAny (model G.prog G.w) A (noteFrame e env) Q E s := by
  obtain ⟨wr, hx⟩ := x.exc
  refine hide fun WW9 hW9 => ?_
  obtain ⟨a, oe, vs, eq9_0, he, hcls, hd, hwr, haw, hv⟩ := id hx
  refine hW9 ?_
  clear hW9 WW9
  subst eq9_0
  have fresh : ∀ {b}, s.heap.get? b = none → sb.heap.get? b = none := fun {b} h => by
    cases e : sb.heap.get? b with
    | none => rfl
    | some o => exact ((x.near b o e).ne h).elim
  have hsz : 1 < vs.size := by
    rcases hv with h | ⟨_, _, _, h, _⟩ <;> exact (Array.getElem?_eq_some_iff.mp h).1
  have fin : ∀ (h' : Heap) (T : Addr) (oe' oT : Obj) (ts : Array Value), s.heap.get? T = none → T ≠ a → h'.get? a = some oe' → oe'.cls = oe.cls → oe'.data = .fields (vs.setIfInBounds 1 (.ref T)) → h'.get? T = some oT → oT.cls = .type "traceback" → oT.data = .fields ts → 3 < ts.size → ts[1]? = some (.ref L) →
      (∀ b ∈ wr, b ≠ a → ∃ o, h'.get? b = some o ∧ Odd o) → Stir wr ((env :: outer).filterMap (·.frame)) s.heap h' → Q () { s with heap := h' } := fun h' T oe' oT ts g1 g2 g3 g4 g5 g6 g7 g8 g9 g10 hodd st => by
    have v1 : (vs.setIfInBounds 1 (Value.ref T))[1]? = some (.ref T) := by simp [hsz]
    have oa : Odd oe' := odd_of (g4.trans hcls) g5 (by decide) (by rw [v1]; simp)
    have oT' : Odd oT := odd_of g7 g8 (by decide) (by rw [g10]; simp)
    refine hQ h' (x.step okb hx (fun b hb => hl.mem hb) st (wr' := T :: wr) ⟨a, oe', _, rfl, g3, g4.trans hcls, g5, fun b hb => ?_, List.mem_cons_of_mem _ haw, .inr ⟨T, oT, ts, v1, g2, List.mem_cons_self, g6, g7, g8, g9, L, g10⟩⟩) ⟨a, oe', _, T, rfl, g3, g5, v1⟩
    rcases List.mem_cons.mp hb with rfl | hb
    · exact ⟨fresh g1, oT, g6, oT'⟩
    · by_cases hba : b = a
      · subst hba; exact ⟨(hwr b hb).1, oe', g3, oa⟩
      · exact ⟨(hwr b hb).1, hodd b hb hba⟩
  have nS : ∀ b ∈ wr, b ∉ (env :: outer).filterMap (·.frame) := fun b hb hm => by
    refine hide fun WW9 hW9 => ?_
    obtain ⟨_, o, ho, hod⟩ := hwr b hb
    refine hW9 ?_
    clear hW9 WW9
    refine hide fun WW9 hW9 => ?_
    obtain ⟨_, o', ho', hdc⟩ := hl.mem hm
    refine hW9 ?_
    clear hW9 WW9
    rw [ho] at ho'; cases ho'; exact hod.2.2.1 (.inl hdc)
  unfold noteFrame
  simp only [hf]
  rcases hv with hv | ⟨T, oT, ts, hv, hTa, hTw, hT, hTc, hTd, hT3, LT, hT1⟩
  · refine wpAny_bind (wpAny_field he hd hv ?_)
    rw [if_neg (by decide)]
    refine entry_step hfr hl hf he hd hsz fun h' T oe' oT ts g1 g2 g3 g4 g5 g6 g7 g8 g9 g10 st => fin h' T oe' oT ts g1 g2 g3 g4 g5 g6 g7 g8 g9 g10 (fun b hb hba => ?_) ⟨fun b o hb hbS e => st.other b o (fun h => hb (by rw [List.mem_singleton.mp h]; exact haw)) hbS e, st.fr⟩
    refine hide fun WW9 hW9 => ?_
    obtain ⟨_, o, ho, hod⟩ := hwr b hb
    refine hW9 ?_
    clear hW9 WW9
    exact ⟨o, st.other b o (by simpa using hba) (nS b hb) ho, hod⟩
  · refine wpAny_bind (wpAny_field he hd hv ?_)
    rw [if_pos (show (Value.ref T != Value.none) = true from by simp)]
    obtain ⟨x3, hx3⟩ : ∃ x3, ts[3]? = some x3 := ⟨_, Array.getElem?_eq_getElem hT3⟩
    refine wpAny_bind (wpAny_field hT hTd hx3 ?_)
    by_cases hq : (x3 == rawInt L) = true
    · rw [if_pos hq]
      exact wpAny_pure (hQ s.heap x ⟨a, oe, vs, T, rfl, he, hd, hv⟩)
    · rw [if_neg hq]
      refine wpAny_bind (wpAny_setField hT hTd hT3 ?_)
      have other : ∀ b, b ≠ T → (s.heap.update T (Obj.mapFields (·.setIfInBounds 3 Value.none))).get? b = s.heap.get? b := fun b hb => Heap.get?_update_other _ _ (Ne.symm hb)
      have hdT := Obj.data_mapFields hTd (·.setIfInBounds 3 Value.none)
      have hTu := Heap.get?_update_self (Obj.mapFields (·.setIfInBounds 3 Value.none)) hT (Obj.isFreed_of_fields hdT)
      have oTu : Odd (Obj.mapFields (·.setIfInBounds 3 Value.none) oT) := odd_of ((Obj.cls_mapFields _ _).trans hTc) hdT (by decide) (by
        intro q t h; rw [Array.getElem?_setIfInBounds_ne (by decide), hT1] at h; cases h)
      have hl' : FrOn G (s.heap.update T (Obj.mapFields (·.setIfInBounds 3 Value.none))) (env :: outer) := fun env' he' => by
        refine hide fun WW9 hW9 => ?_
        obtain ⟨h1, L', o', h2, h3, h4, h5⟩ := hl env' he'
        refine hW9 ?_
        clear hW9 WW9
        refine ⟨h1, L', o', h2, h3, (other L' ?_).trans h4, h5⟩
        rintro rfl
        exact nS L' hTw (List.mem_filterMap.mpr ⟨env', he', h2⟩)
      refine entry_step (s := { s with heap := s.heap.update T (Obj.mapFields (·.setIfInBounds 3 Value.none)) }) hfr hl' hf ((other a (Ne.symm hTa)).trans he) hd hsz fun h' T' oe' oT' ts' g1 g2 g3 g4 g5 g6 g7 g8 g9 g10 st =>
        fin h' T' oe' oT' ts' (by rw [← other T' (by rintro rfl; rw [hTu] at g1; cases g1)]; exact g1) g2 g3 g4 g5 g6 g7 g8 g9 g10 (fun b hb hba => ?_)
          ⟨fun b o hb hbS e => st.other b o (fun h => hb (by rw [List.mem_singleton.mp h]; exact haw)) hbS ((other b (by rintro rfl; exact hb hTw)).trans e), fun b o hbS e => st.fr b o hbS ((other b (by rintro rfl; exact nS _ hTw hbS)).trans e)⟩
      by_cases hbT : b = T
      · subst hbT
        exact ⟨_, st.other b _ (by simpa using hba) (nS b hb) hTu, oTu⟩
      · refine hide fun WW9 hW9 => ?_
        obtain ⟨_, o, ho, hod⟩ := hwr b hb
        refine hW9 ?_
        clear hW9 WW9
        exact ⟨o, st.other b o (by simpa using hba) (nS b hb) ((other b hbT).trans ho), hod⟩

theorem flight_ok {sb s : Shared} {e : Value} {fr : Option Addr} {Q : Unit → Shared → Prop} {E : Value → Shared → Prop} (okb : OkH G H sb) (x : Rz G H sb s e) (hQ : ∀ h', Rz G H sb { s with heap := h' } e → Q () { s with heap := h' }) :
    wpAny (model G.prog G.w) A (setFlight e fr) Q E s := by
  obtain ⟨wr, hx⟩ := x.exc
  refine hide fun WW9 hW9 => ?_
  obtain ⟨a, oe, vs, eq9_0, he, hcls, hd, hwr, haw, hv⟩ := id hx
  refine hW9 ?_
  clear hW9 WW9
  subst eq9_0
  unfold setFlight
  rcases hv with hv | ⟨T, oT, ts, hv, hTa, hTw, hT, hTc, hTd, hT3, LT, hT1⟩
  · refine wpAny_bind (wpAny_field he hd hv ?_)
    rw [if_neg (by decide)]
    exact wpAny_pure (hQ s.heap x)
  · refine wpAny_bind (wpAny_field he hd hv ?_)
    rw [if_pos (show (Value.ref T != Value.none) = true from by simp)]
    refine wpAny_setField hT hTd hT3 ?_
    generalize hval : (fr.elim Value.none fun f => rawInt f) = val
    have other : ∀ b, b ≠ T → (s.heap.update T (Obj.mapFields (·.setIfInBounds 3 val))).get? b = s.heap.get? b := fun b hb => Heap.get?_update_other _ _ (Ne.symm hb)
    have hdT := Obj.data_mapFields hTd (·.setIfInBounds 3 val)
    have hTu := Heap.get?_update_self (Obj.mapFields (·.setIfInBounds 3 val)) hT (Obj.isFreed_of_fields hdT)
    have v1 : (ts.setIfInBounds 3 val)[1]? = some (.ref LT) := by rw [Array.getElem?_setIfInBounds_ne (by decide)]; exact hT1
    have oTu : Odd (Obj.mapFields (·.setIfInBounds 3 val) oT) := odd_of ((Obj.cls_mapFields _ _).trans hTc) hdT (by decide) (by rw [v1]; simp)
    refine hQ _ (x.step okb hx (S := []) (by simp) ⟨fun b o hb _ e => (other b (by rintro rfl; exact hb hTw)).trans e, by simp⟩ (wr' := wr) ⟨a, oe, vs, rfl, (other a (Ne.symm hTa)).trans he, hcls, hd, fun b hb => ⟨(hwr b hb).1, ?_⟩, haw,
      .inr ⟨T, _, _, hv, hTa, hTw, hTu, (Obj.cls_mapFields _ _).trans hTc, hdT, by simpa using hT3, LT, v1⟩⟩)
    by_cases hbT : b = T
    · subst hbT; exact ⟨_, hTu, oTu⟩
    · refine hide fun WW9 hW9 => ?_
      obtain ⟨_, o, ho, hod⟩ := hwr b hb
      refine hW9 ?_
      clear hW9 WW9
      exact ⟨o, (other b hbT).trans ho, hod⟩
end
end Mine
open PySem PySem.W PyProof.Rows
set_option Elab.async false
set_option maxRecDepth 100000
namespace Mine
section
variable {G : Cx} {A : Around} {F : Fx} {σ : Loc} {H : AH} {X : AH → Prop}

theorem Stk.on {sc : Scope} {fd : FuncData} {s : Shared} (hs : Stk G A) (hF : FnF A sc F) (hE : FnE fd F) (hk : sc.kind = .function) (ok : OkH G H s) (lr : LR G F σ s.heap) :
    ∃ l, F.A.frames = some (F.env :: l) ∧ FrOn G s.heap (F.env :: l) := by
  obtain ⟨l, h1, h2⟩ := hs
  refine ⟨l, by rw [hF.A]; exact Around.frames_deeper h1, fun env he => ?_⟩
  rcases List.mem_cons.mp he with rfl | he
  · obtain ⟨o, ho, hd⟩ := lr.odd _ lr.wloc
    exact ⟨by rw [hF.sc, hk]; simp, _, o, hE.frame, (lr.own _ lr.wloc).1, ho, hd⟩
  · obtain ⟨g1, L, o, g2, g3⟩ := h2 env he
    obtain ⟨o', g4, g5⟩ := ok.dat _ _ g3
    exact ⟨g1, L, o', g2, (G.dD _ _ g3).1, g4, (G.dD _ _ g3).2.of g5⟩


inductive PostX (G : Cx) (H : AH) (s : Shared) (X : AH → Prop) (e : Value) (s' : Shared) : Prop where
  | mk (sb : Shared) (H' : AH) (ok : OkH G H' sb) (k : Kp H s H' sb) (rz : Rz G H' sb s' e) (hx : X H') : PostX G H s X e s'
inductive PostXF (G : Cx) (F : Fx) (H : AH) (s : Shared) (X : Loc → AH → Prop) (e : Value) (s' : Shared) : Prop where
  | mk (sb : Shared) (σ' : Loc) (H' : AH) (ok : OkH G H' sb) (lr : LR G F σ' sb.heap) (k : KpF F.W H s H' sb) (rz : Rz G H' sb s' e) (hx : X σ' H') : PostXF G F H s X e s'
theorem PostXF.on {G : Cx} {F : Fx} {H : AH} {s s' : Shared} {X : Loc → AH → Prop} {e : Value} {W : Prop} (x : PostXF G F H s X e s') (f : ∀ sb σ' H', OkH G H' sb → LR G F σ' sb.heap → KpF F.W H s H' sb → Rz G H' sb s' e → X σ' H' → W) : W := by cases x with | mk pf p H' h1 h2 h3 h4 h5 => exact f pf p H' h1 h2 h3 h4 h5
theorem PostX.trans {H1 : AH} {s s1 s2 : Shared} {e : Value} (k : Kp H s H1 s1) (x : PostX G H1 s1 X e s2) : PostX G H s X e s2 :=
  by obtain ⟨sb, H', h1, h2, h3, h4⟩ := x; exact ⟨sb, H', h1, k.trans h2, h3, h4⟩
noncomputable def EvX (G : Cx) (F : Fx) (e : Expr) (σ : Loc) (H : AH) (X : AH → Prop) : Prop := ∀ s, OkH G H s → LR G F σ s.heap → wpAny (model G.prog G.w) F.A (eval e F.env) (fun _ _ => False) (PostX G H s X) s
noncomputable def Op2X (G : Cx) (A : Around) (f : Value → Value → Sem Value) (p q : PV) (H : AH) (X : AH → Prop) : Prop := ∀ s v u, OkH G H s → VR s.heap p v → VR s.heap q u → wpAny (model G.prog G.w) A (f v u) (fun _ _ => False) (PostX G H s X) s
noncomputable def OpX (G : Cx) (A : Around) (f : List Value → Sem Value) (ps : List PV) (H : AH) (X : AH → Prop) : Prop := ∀ s vs, OkH G H s → VRs s.heap ps vs → wpAny (model G.prog G.w) A (f vs) (fun _ _ => False) (PostX G H s X) s
noncomputable def OpUX (G : Cx) (F : Fx) (σ : Loc) (f : List Value → Sem Value) (ps : List PV) (H : AH) (X : AH → Prop) : Prop := ∀ s vs, OkH G H s → LR G F σ s.heap → VRs s.heap ps vs → wpAny (model G.prog G.w) F.A (f vs) (fun _ _ => False) (PostX G H s X) s
noncomputable def ExX (G : Cx) (F : Fx) (st : Stmt) (σ : Loc) (H : AH) (X : Loc → AH → Prop) : Prop := ∀ s, OkH G H s → LR G F σ s.heap → wpAny (model G.prog G.w) F.A (exec st F.env) (fun _ _ => False) (PostXF G F H s X) s
noncomputable def ExsX (G : Cx) (F : Fx) (sts : List Stmt) (σ : Loc) (H : AH) (X : Loc → AH → Prop) : Prop := ∀ s, OkH G H s → LR G F σ s.heap → wpAny (model G.prog G.w) F.A (execs sts F.env) (fun _ _ => False) (PostXF G F H s X) s

theorem new_raise {s : Shared} {h' : Heap} {tk : Nat} {e : Addr} (ok : OkH G H s) (x : Heap.NewExc s.heap h' e "IndexError") (h : X H) : PostX G H s X (.ref e) { s with heap := h', toks := tk } := by
  obtain ⟨ob, t, h1, h2, h3⟩ := x.there
  refine ⟨s, H, ok, Kp.refl H s, ⟨⟨fun b o e => x.keeps b o (ok.keep b o e), ok.hr.other fun b o e _ => x.keeps b o e, ok.gens, ok.dat.all x.keeps, ok.tab.keep fun b o _ e => x.keeps b o e⟩, ⟨[e], e, ob, _, rfl, h1, h2, h3, fun b hb => ?_, List.mem_singleton.mpr rfl, .inl rfl⟩, fun b o e => .of (x.keeps b o e), rfl⟩, h⟩
  rw [List.mem_singleton.mp hb]
  exact ⟨x.new, ob, h1, odd_of h2 h3 (by decide) (by simp)⟩

theorem sub_empty {v i : Expr} {a : Addr} {ho : HO} {k : Int} (hA : A.handled = none) (hH : H a = some ho) (hi : ho.items = []) (hk : -1000 < k ∧ k < 1000) (h : X H) (hs : ∀ o j, subscripted i false o j = operate [o, j] (getItem o j) := by intros; rfl) :
    Op2X G A (subscriptTail v i) (.ref a) (.int k) H X := by
  rintro s _ _ ok rfl ⟨t, rfl⟩
  obtain ⟨⟨vs, n, hl, hv, hz⟩, _⟩ := id (ok.hr a ho hH)
  rw [hi] at hv
  obtain rfl : vs = [] := hv
  refine tail_any (T := "list") ⟨_, hl, rfl⟩ slot_list_getitem.lookup (wpAny_getItem_list_out hA hl.isList ?_ (by exact o9_219 hk) (by exact o9_220 hk) fun h' tk e x => new_raise ok x h) (hs _ _)
  simp; exact o9_221 hk
theorem EvX_Sub {v i : Expr} {pos : Pos} (h : Ev G F v σ H (fun o H1 => Ev G F i σ H1 (fun j H2 => Op2X G F.A (subscriptTail v i) o j H2 X))) : EvX G F (.Subscript v i pos) σ H X := by
  intro s ok lr
  refine Subscript_ (wpAny_noE (wpAny_mono (h s ok lr) (fun o s1 zz2 => zz2.on fun p H1 hv ok1 k1 hq => wpAny_noE (wpAny_mono (hq s1 ok1 (lr.kp ok k1)) (fun j s2 zz2 => zz2.on fun q H2 hu ok2 k2 hq2 => ?_) fun _ _ x => x)) fun _ _ x => x))
  exact wpAny_mono (hq2 s2 o j ok2 (k2.vr ok1 hv) hu) (fun _ _ x => x) fun _ _ x => (x.trans k2).trans k1
theorem PostX.toF {s s' : Shared} {e : Value} {Y : Loc → AH → Prop} (ok : OkH G H s) (lr : LR G F σ s.heap) (x : PostX G H s X e s') (h : ∀ H', X H' → Y σ H') : PostXF G F H s Y e s' :=
  by obtain ⟨sb, H', h1, h2, h3, h4⟩ := x; exact ⟨sb, σ, H', h1, lr.kp ok h2, h2.toF, h3, h H' h4⟩
theorem ExX_Assign {x : Str} {npos pos : Pos} {e : Expr} {Y : Loc → AH → Prop} (h : EvX G F e σ H (fun H1 => Y σ H1)) (hs : swapsWith e (some (.Name x npos)) pos.line F.env = pure false := by rfl) : ExX G F (.Assign [.Name x npos] e pos) σ H Y := fun s ok lr =>
  wpAny_Assign_Name (wpAny_mono (h s ok lr) (fun _ _ x => x.elim) fun _ _ x => x.toF ok lr fun _ h => h) hs
theorem ExX_Expr {pos : Pos} {e : Expr} {Y : Loc → AH → Prop} (h : EvX G F e σ H (fun H1 => Y σ H1)) (hs : swapsWith e none pos.line F.env = pure false := by rfl) : ExX G F (.Expr e pos) σ H Y := fun s ok lr =>
  wpAny_Expr_any (wpAny_mono (h s ok lr) (fun _ _ x => x.elim) fun _ _ x => x.toF ok lr fun _ h => h) (by unfold interactive; rw [lr.fn]; rfl) hs
theorem ExsX_first {st : Stmt} {rest : List Stmt} {Y : Loc → AH → Prop} (h : ExX G F st σ H Y) : ExsX G F (st :: rest) σ H Y := fun s ok lr =>
  wpAny_execs_cons (wpAny_mono (h s ok lr) (fun _ _ x => x.elim) fun _ _ x => x)
theorem Ev_FnU {K : Frag} {f : Str} {np pos : Pos} {fa : Addr} {e : Expr} {es : List Expr} {Q : PV → AH → Prop} (hK : G.K = K) (hk : F.env.kindOf f = some .globalImplicit) (hf : nsIn K mainGlobals f = some (some (.ref fa))) (ht : fnThere K fa = true)
    (h : EvL G F (e :: es) σ H (fun ps H1 => OpU G F σ (fun vs => call (.ref fa) vs) ps H1 Q)) (he : starEach (e :: es) F.env = (false, eval e F.env) :: starEach es F.env := by rfl) : Ev G F (.Call (.Name f np) (e :: es) [] pos) σ H Q := by
  subst hK
  intro s ok lr
  obtain ⟨fo, fd, hfo, hfd⟩ : ∃ fo fd, G.base.get? fa = some fo ∧ fo.data = .func fd := by
    unfold fnThere at ht
    split at ht
    · rename_i c d fd sl hl; exact ⟨_, fd, G.kin _ _ hl, rfl⟩
    · cases ht
  refine wpAny_Call_NameR (wpAny_mono (Ev_Global (Q := fun p H1 => p = .ref fa ∧ H1 = H) hk (G.mg_of hf) ⟨rfl, rfl⟩ s ok lr) (fun v s1 zz2 => zz2.on fun p H1 hv ok1 k1 zz2_5 => zz2_5.elim fun hp hH => ?_) fun _ _ x => x)
  subst hp; subst hH
  rw [show v = .ref fa from hv]
  have lr1 := lr.kp ok k1
  refine callWith_def hfd (wpAny_mono (h s1 pos ok1 lr1) (fun vs s2 zz2 => zz2.on fun ps H2 hvs ok2 k2 hq => ⟨ok2.keep _ _ hfo, ?_⟩) fun _ _ x => x) he
  exact wpAny_mono (hq s2 vs ok2 (lr1.kp ok1 k2) hvs) (fun _ _ x => (x.trans k2).trans k1) fun _ _ x => x
theorem EvX_FnU {K : Frag} {f : Str} {np pos : Pos} {fa : Addr} {e : Expr} {es : List Expr} (hK : G.K = K) (hk : F.env.kindOf f = some .globalImplicit) (hf : nsIn K mainGlobals f = some (some (.ref fa))) (ht : fnThere K fa = true)
    (h : EvL G F (e :: es) σ H (fun ps H1 => OpUX G F σ (fun vs => call (.ref fa) vs) ps H1 X)) (he : starEach (e :: es) F.env = (false, eval e F.env) :: starEach es F.env := by rfl) : EvX G F (.Call (.Name f np) (e :: es) [] pos) σ H X := by
  subst hK
  intro s ok lr
  obtain ⟨fo, fd, hfo, hfd⟩ : ∃ fo fd, G.base.get? fa = some fo ∧ fo.data = .func fd := by
    unfold fnThere at ht
    split at ht
    · rename_i c d fd sl hl; exact ⟨_, fd, G.kin _ _ hl, rfl⟩
    · cases ht
  refine wpAny_Call_NameR (wpAny_noE (wpAny_mono (Ev_Global (Q := fun p H1 => p = .ref fa ∧ H1 = H) hk (G.mg_of hf) ⟨rfl, rfl⟩ s ok lr) (fun v s1 zz2 => zz2.on fun p H1 hv ok1 k1 zz2_5 => zz2_5.elim fun hp hH => ?_) fun _ _ x => x))
  subst hp; subst hH
  rw [show v = .ref fa from hv]
  have lr1 := lr.kp ok k1
  refine callWith_def hfd (wpAny_noE (wpAny_mono (h s1 pos ok1 lr1) (fun vs s2 zz2 => zz2.on fun ps H2 hvs ok2 k2 hq => ⟨ok2.keep _ _ hfo, ?_⟩) fun _ _ x => x)) he
  exact wpAny_mono (hq s2 vs ok2 (lr1.kp ok1 k2) hvs) (fun _ _ x => x) fun _ _ x => (x.trans k2).trans k1
theorem OkH.old {D : Addr → Obj → Prop} {dD} {s : Shared} (ok : OkH (G.with D dD) H s) (h : ∀ b o, G.D b o → D b o) : OkH G H s := ⟨ok.keep, ok.hr, ok.gens, fun b o hb => ok.dat b o (h b o hb), ok.tab⟩
theorem underX {f : List Value → Sem Value} {ps : List PV} (h : ∀ D dD, BelowD G F σ D → OpX (G.with D dD) F.A f ps H X) : OpUX G F σ f ps H X := by
  intro s vs ok lr hvs
  have dD : ∀ b o, (G.D b o ∨ (F.W b ∧ s.heap.get? b = some o)) → G.base.get? b = none ∧ DC o := fun b o hb => by
    rcases hb with hb | ⟨hw, ho⟩
    · exact G.dD b o hb
    · obtain ⟨o', ho', hd⟩ := lr.odd b hw
      rw [ho'] at ho; cases ho; exact ⟨(lr.own b hw).1, hd⟩
  have key := h (fun b o => G.D b o ∨ (F.W b ∧ s.heap.get? b = some o)) dD ⟨fun _ _ h => .inl h, ?_, fun x hk => ?_⟩ s vs ⟨ok.keep, ok.hr, ok.gens, fun b o hb => ?_, ok.tab⟩ hvs
  · refine wpAny_mono key (fun _ _ x => x) fun e s' zz2 => by obtain ⟨sb, H', h1, h2, h3, h4⟩ := zz2; exact ⟨sb, H', h1.old fun _ _ h => .inl h, h2, ⟨h3.ok.old fun _ _ h => .inl h, h3.exc, h3.near, h3.os⟩, h4⟩
  · obtain ⟨o, ho, _⟩ := lr.odd _ lr.wloc; exact ⟨o, .inr ⟨lr.wloc, ho⟩⟩
  · obtain ⟨c', v₀, h1, ⟨o, ho, hd⟩, h3⟩ := lr.cell x (.inl hk)
    refine ⟨c', h1, fun hw => ⟨o, v₀, .inr ⟨hw, ho⟩, hd, fun a ha => ?_⟩⟩
    obtain ⟨v, rfl, hv⟩ := h3 _ ha
    rw [show v = .ref a from hv]
  · rcases hb with hb | ⟨hw, ho⟩
    · exact ok.dat b o hb
    · exact ⟨o, ho, rfl⟩

theorem call_fnX {K : Frag} {fa : Addr} {ns : List Str} {ps dps : List PV} {dvs : List Value} (hK : G.K = K) (hst : Stk G A) (hchk : fnChk K fa ns = true) (hroom : A.depth < recursionLimit) (hd : ∀ h, VRs h dps dvs)
    (hbind : ∀ h vs, VRs h ps vs → peek K ⟨G.prog, G.w.params⟩ (bindArgs (fnOf K fa) ⟨vs, []⟩) = some (ns.zip (vs ++ dvs)))
    (h : ∀ F : Fx, FnF A (fnOf K fa).scope F → FnE (fnOf K fa) F → ExsX G F (bodyOf (fnOf K fa)) (bindσ (ns.zip (ps ++ dps)) fun _ => none) H (fun _ H' => X H')) :
    OpX G A (fun vs => call (.ref fa) vs) ps H X := by
  subst hK
  refine hide fun WW9 hW9 => ?_
  obtain ⟨fo, g1, g2, g3, g4, g5, g6, g7, g8, g9, g10, g11, g12, g13⟩ := fnChk_spec hchk
  refine hW9 ?_
  clear hW9 WW9
  intro s vs ok hvs
  refine call_raw (pb := ns.zip (ps ++ dps)) (ar := fun vs => ⟨vs, []⟩) g1 g2 g3 g4 g5 g6 g7 g8 g9 g10 g11 g12 g13 hroom (fun _ hx => (List.of_mem_zip hx).1) (fun h vs hvs => ⟨_, hbind h vs hvs, fun h' hm => BRel.zip ((VRs.imp hm hvs).append (hd h'))⟩) ok hvs
    fun F s1 h1 h2 h3 zz5 ok1 lr1 hkeep hW hos => zz5.elim fun h4 zz5 => zz5.elim fun h5 h6 => ?_
  refine wpAny_mono (h F ⟨h1, h2, h3⟩ ⟨h4, h5, h6⟩ s1 ok1 lr1) (fun _ _ x => x.elim) fun e s' zz2 => zz2.on fun sb σ' H' okb lrb k' rz hX => ?_
  have kp := callee_kp hkeep hW hos k'
  refine hide fun WW9 hW9 => ?_
  obtain ⟨l, hfr, hon⟩ := hst.on ⟨h1, h2, h3⟩ ⟨h4, h5, h6⟩ g10 rz.ok (rz.lr lrb)
  refine hW9 ?_
  clear hW9 WW9
  unfold leaving
  refine wpAny_bind (note_ok hfr hon h6 okb rz fun h' rz' _ => flight_ok okb rz' fun h'' rz'' => ⟨sb, H', okb, kp, rz'', hX⟩)


theorem LR.mark {h : Heap} {A' : Around} (lr : LR G F σ h) : LR G ⟨A', F.env, F.W⟩ σ h := ⟨lr.own, lr.odd, lr.wloc, lr.fn, lr.nok, lr.glob, lr.blt, lr.ns, lr.kinds, lr.cell, lr.apart⟩
theorem LR.unmark {h : Heap} {A' : Around} (lr : LR G ⟨A', F.env, F.W⟩ σ h) : LR G F σ h := ⟨lr.own, lr.odd, lr.wloc, lr.fn, lr.nok, lr.glob, lr.blt, lr.ns, lr.kinds, lr.cell, lr.apart⟩
theorem Rz.kp {sb s : Shared} {e : Value} (x : Rz G H sb s e) : Kp H sb H s := ⟨x.os, fun b o e _ => x.near b o e, DomLe.refl _ _⟩
theorem Ex_Try_caught {K : Frag} {sc : Scope} {fd : FuncData} {body orelse suite : List Stmt} {b₀ : Stmt} {np hpos pos : Pos} {Y : Loc → AH → Prop} {Q : PF → Loc → AH → Prop} (hK : G.K = K) (hst : Stk G A) (hF : FnF A sc F) (hE : FnE fd F) (hk : sc.kind = .function)
    (hn : F.env.kindOf "IndexError" = some .globalImplicit) (hg : nsIn K mainGlobals "IndexError" = some none) (hb : ExsX G F body σ H Y)
    (h : ∀ (e : Value) σ' H', Y σ' H' → Exs G ⟨F.A.mark (some e), F.env, F.W⟩ (b₀ :: suite) σ' H' Q) :
    Ex G F (.Try body [.ExceptHandler (some (.Name "IndexError" np)) none (b₀ :: suite) hpos] orelse [] pos) σ H Q := by
  subst hK
  intro s ok lr
  refine wpAny_Try_except (wpAny_mono (hb s ok lr) (fun _ _ x => x.elim) fun e s1 zz2 => zz2.on fun sb σ' H' okb lrb kb rz hY => ?_)
  refine hide fun WW9 hW9 => ?_
  obtain ⟨l, hfr, hon⟩ := hst.on hF hE hk rz.ok (rz.lr lrb)
  refine hW9 ?_
  clear hW9 WW9
  refine note_ok hfr hon hE.frame okb rz fun h1 rz1 _ => flight_ok okb rz1 fun h2 rz2 => ?_
  refine hide fun WW9 hW9 => ?_
  obtain ⟨wr, a, oe, vs, eq9_0, he, hcls, hd, _⟩ := id rz2.exc
  refine hW9 ?_
  clear hW9 WW9
  subst eq9_0
  refine wpAny_handleBy_builtin (X := "IndexError") (T := "IndexError") (b := true) PySem.F.isExc_IndexError PySem.F.notTuple_IndexError PySem.F.self_IndexError ?_
  have lr2 := rz2.lr lrb
  have hgN : (⟨h2, s1.gens, s1.drawn, s1.toks, s1.os⟩ : Shared).heap.Ns F.env.globals G.mg := by rw [lr2.glob]; exact G.g.keeps rz2.ok.keep
  have hbN : (⟨h2, s1.gens, s1.drawn, s1.toks, s1.os⟩ : Shared).heap.Ns F.env.builtins G.mb := by rw [lr2.blt]; exact G.b.keeps rz2.ok.keep
  refine Calls.Name_function_global lr2.fn hn (Calls.loadGlobal_builtin hgN (G.mg_of hg) hbN ((G.builtins "IndexError" (by decide)).trans (by decide +kernel)) ⟨rfl, ⟨oe, he, hcls⟩, ?_⟩) (namesOk_of lr2.nok hn).1
  simp only [if_true]
  refine flight_ok okb rz2 fun h4 rz4 => wpAny_noE (wpAny_mono (h (.ref a) σ' H' hY _ rz4.ok (rz4.lr lrb).mark) (fun f s5 zz2 => zz2.on fun pf σ5 H5 hf ok5 lr5 k5 hq => ?_) fun _ _ x => x)
  exact ⟨pf, σ5, H5, hf, ok5, lr5.unmark, kb.trans ((rz4.kp.toF).trans k5), hq⟩
end
end Mine
open PySem PySem.W PyProof.Rows
set_option Elab.async false
set_option maxRecDepth 100000
namespace Mine

section
variable {G : Cx} {A : Around} {H : AH} {Q : PV → AH → Prop} {α β : Type} {f : α → PV} {lt : α → α → Bool} {g : β → PV} {kx : β → α}


noncomputable def sortBy (L : β → β → Bool) (b : Bool) (xs : List β) : List β := if b then (isort L xs.reverse).reverse else isort L xs
theorem sortBy_perm {L : β → β → Bool} {b : Bool} {xs : List β} : (sortBy L b xs).Perm xs := by
  unfold sortBy; cases b with
  | false => exact isort_perm xs
  | true => exact (List.reverse_perm _).trans ((isort_perm _).trans (List.reverse_perm _))


theorem sort_end {s : Shared} {a kS : Addr} {n kn : Nat} {b : Bool} {l : List (β × Value × Value)} {P : PySem.Fin → Shared → Prop} (K : Sk G f lt) (hr : RunsOk l.length) (ok : OkH G H s)
    (hl : IsL s.heap a #[] n) (hHa : H a = some (.lst [])) (hk : IsL s.heap kS (l.map (·.2.1)).toArray kn) (hHk : H kS = some (.lst (l.map fun p => f (kx p.1)))) (hak : kS ≠ a)
    (hlk : ∀ p ∈ l, VR s.heap (f (kx p.1)) p.2.1) (hlv : ∀ p ∈ l, VR s.heap (g p.1) p.2.2) (hz : l.length ≤ sizeLine)
    (h : ∀ s', OkH G ((H.set kS (.lst [])).set a (.lst ((sortBy (fun x y => lt (kx x) (kx y)) b (l.map (·.1))).map g))) s' → Kp H s ((H.set kS (.lst [])).set a (.lst ((sortBy (fun x y => lt (kx x) (kx y)) b (l.map (·.1))).map g))) s' → P (.done (.ret .none)) s') :
    wpAny (model G.prog G.w) A (ksk_end a b (l.map (·.2.2)).toArray n (.ref kS) (l.map (·.2.1)).toArray) P NoE s := by
  let L2 : (β × Value × Value) → (β × Value × Value) → Bool := fun p q => lt (kx p.1) (kx q.1)
  let l0 := if b then l.reverse else l
  have hl0 : ∀ p, p ∈ l0 ↔ p ∈ l := fun p => by cases b <;> simp [l0]
  have tail : ∀ st' : SortSt, failedOf st' = none → (arrOf st').toList = (isort L2 l0).map (fun p => (p.2.1, p.2.2)) → wpAny (model G.prog G.w) A (ksk_tail a b n (.ref kS) st') P NoE s := fun st' hf har => by
    have hperm : (isort L2 l0).Perm l := (isort_perm l0).trans (by cases b with
      | false => exact List.Perm.refl _
      | true => exact List.reverse_perm _)
    have hout : (if b then ((arrOf st').map (·.2)).reverse else (arrOf st').map (·.2)) = ((sortBy L2 b l).map (·.2.2)).toArray := by
      apply Array.toList_inj.mp
      have : ((arrOf st').map (·.2)).toList = (isort L2 l0).map (·.2.2) := by rw [Array.toList_map, har, List.map_map]; rfl
      cases b with
      | false => simp only [Bool.false_eq_true, if_false]; rw [this]; rfl
      | true => simp only [if_true, Array.toList_reverse]; rw [this]; simp [sortBy, l0]
    have hxs : (sortBy (fun x y => lt (kx x) (kx y)) b (l.map (·.1))).map g = (sortBy L2 b l).map (fun p => g p.1) := by
      have e : sortBy (fun x y => lt (kx x) (kx y)) b (l.map (·.1)) = (sortBy L2 b l).map (·.1) := by
        unfold sortBy
        cases b with
        | false => exact isort_map (L := L2) (·.1) l fun _ _ _ _ => rfl
        | true =>
          simp only [if_true]
          rw [← List.map_reverse, isort_map (L := L2) (·.1) l.reverse fun _ _ _ _ => rfl, List.map_reverse]
      rw [e, List.map_map]; rfl
    have hmem : ∀ p ∈ sortBy L2 b l, p ∈ l := fun p hp => sortBy_perm.mem_iff.mp hp
    unfold ksk_tail
    refine wpAny_bind (listUpdate_at hk rfl ?_ (by rw [List.size_toArray, List.length_map]; exact hz) (Nat.zero_le _))
    obtain ⟨ok1, k1⟩ := upd_list (tk := s.toks) ok hHk hk (f := fun _ => #[]) (ys := []) (us := []) rfl rfl (Nat.zero_le _)
    refine wpAny_bind (wpAny_letGo ?_)
    have hl1 : IsL (s.heap.update kS (Obj.mapSeq fun _ => #[])) a #[] n := (Heap.get?_update_other _ _ hak).trans hl
    refine wpAny_bind (seqEpoch_at hl1 rfl ?_)
    have hys : VRs (s.heap.update kS (Obj.mapSeq fun _ => #[])) ((sortBy (fun x y => lt (kx x) (kx y)) b (l.map (·.1))).map g) ((sortBy L2 b l).map (·.2.2)) := by
      rw [hxs]; exact VRs_map fun p hp => k1.vr ok (hlv p (hmem p hp))
    have hlen2 : ((sortBy (fun x y => lt (kx x) (kx y)) b (l.map (·.1))).map g).length ≤ sizeLine := by rw [List.length_map, sortBy_perm.length_eq, List.length_map]; exact hz
    have hHa1 : (H.set kS (.lst [])) a = some (.lst []) := by rw [AH.set_ne _ _ (Ne.symm hak)]; exact hHa
    refine wpAny_bind (listUpdate_at hl1 rfl ?_ (Nat.zero_le _) ?_)
    · rw [hf]
      simp only [bne_self_eq_false, Bool.false_eq_true, if_false]
      refine wpAny_pure ?_
      obtain ⟨ok4, k4⟩ := upd_list (tk := s.toks) ok1 hHa1 hl1 (f := fun _ => if b then ((arrOf st').map (·.2)).reverse else (arrOf st').map (·.2)) hout hys hlen2
      exact h _ ok4 (k1.trans k4)
    · rw [hout, List.size_toArray, ← hys.length.symm]
      exact Nat.le_succ_of_le hlen2
  have harr : (if b = true then ((l.map (·.2.1)).toArray.zip (l.map (·.2.2)).toArray).reverse else (l.map (·.2.1)).toArray.zip (l.map (·.2.2)).toArray).toList = l0.map fun p => (p.2.1, p.2.2) := by
    have : ((l.map (·.2.1)).toArray.zip (l.map (·.2.2)).toArray).toList = l.map fun p => (p.2.1, p.2.2) := by simp [List.zip_map']
    cases b with
    | false => simp only [Bool.false_eq_true, if_false, l0]; exact this
    | true => simp only [if_true, l0]; rw [Array.toList_reverse, this, List.map_reverse]
  have step : ∀ t : Sem PySem.Fin, wpAny (model G.prog G.w) A t P NoE s → wpAny (model G.prog G.w) A (if b = true then (do let _ ← rule "list.sort.reverse"; t) else t) P NoE s := by
    intro t ht
    split
    · exact wpAny_bind (wpAny_rule ht)
    · exact ht
  unfold ksk_end
  dsimp only
  refine step _ ?_
  have hsz : (l.map (·.2.2)).toArray.size = l.length := by simp
  have hl0l : l0.length = l.length := by cases b <;> simp [l0]
  by_cases h2 : (l.map (·.2.2)).toArray.size < 2
  · rw [if_pos h2, if_pos h2]
    refine wpAny_bind (wpAny_pure ?_)
    rw [StateT.run_pure]
    refine wpAny_bind (wpAny_pure ?_)
    refine tail (SortSt.mk' general' _ #[] 7 none) rfl ?_
    show (if b = true then _ else _ : Array Keyed).toList = _
    rw [harr]
    have : isort L2 l0 = l0 := by
      match hq : l0, (show l0.length < 2 by exact o9_222 hl0l h2 hsz) with
      | [], _ => rfl
      | [p], _ => rfl
      | _ :: _ :: _, h => simp at h; exact (o9_223 h).elim
    rw [this]
  · rw [if_neg h2, if_neg h2]
    have hkk : VRs s.heap ((l.map fun p => kx p.1).map f) (l.map (·.2.1)) := by rw [List.map_map]; exact VRs_map fun p hp => hlk p hp
    obtain ⟨κ, hkind, hcmp⟩ := K.kind s A (l.map (·.2.1)) (l.map fun p => kx p.1) (by rw [List.length_map]; exact o9_224 hsz hl0l h2) hkk
    refine wpAny_bind (hkind _ _ ?_)
    have hruns := hr (prog := G.prog) (w := G.w) (A := A) (E := NoE) (st := SortSt.mk' κ (if b = true then ((l.map (·.2.1)).toArray.zip (l.map (·.2.2)).toArray).reverse else (l.map (·.2.1)).toArray.zip (l.map (·.2.2)).toArray) #[] 7 none) (s := s)
      (κ := κ) (D := fun p => ∃ x, VR s.heap (f x) p.1) (L := LV f lt s.heap)
      (Q := fun _ st' => failedOf st' = none ∧ (arrOf st').toList = (isort L2 l0).map (fun p => (p.2.1, p.2.2)))
      (LV_swo K.swo) (fun p q zz2 zz3 E Q hq => by obtain ⟨x, hx⟩ := zz2; obtain ⟨y, hy⟩ := zz3; exact hcmp x y p.1 q.1 hx hy E Q (by rw [LV_eq (K.inj _) hx hy] at hq; exact hq)) rfl rfl rfl
      (fun p hp => by
        have hp' : p ∈ (if b = true then ((l.map (·.2.1)).toArray.zip (l.map (·.2.2)).toArray).reverse else (l.map (·.2.1)).toArray.zip (l.map (·.2.2)).toArray).toList := hp
        rw [harr] at hp'
        refine hide fun WW9 hW9 => ?_
        obtain ⟨q, hq, eq9_0⟩ := List.mem_map.mp hp'
        refine hW9 ?_
        clear hW9 WW9
        subst eq9_0
        exact ⟨kx q.1, hlk q ((hl0 q).mp hq)⟩)
      (by
        show 2 ≤ (if b = true then _ else _ : Array Keyed).size
        rw [← Array.length_toList, harr, List.length_map, hl0l]; exact o9_224 hsz hl0l h2)
      (by
        show (if b = true then _ else _ : Array Keyed).size = _
        rw [← Array.length_toList, harr, List.length_map, hl0l])
      (fun st' hf hs he => ⟨hf, sort_out K l0 (fun p => kx p.1) (fun p => (p.2.1, p.2.2)) (fun p hp => hlk p ((hl0 p).mp hp)) hs (by rw [← harr]; exact he)⟩)
    refine wpAny_bind (wpAny_mono hruns ?_ fun _ _ e => e)
    rintro ⟨⟨⟩, st'⟩ s' ⟨rfl, hf, har⟩
    exact tail st' hf har


noncomputable def KeyOk (G : Cx) (A : Around) (kf : PV) (I : AH → Prop) (xs : List β) (g : β → PV) (fk : β → PV) : Prop :=
  ∀ x ∈ xs, ∀ H', I H' → OpC G A kf [g x] H' (fun p H'' => p = fk x ∧ H'' = H')

theorem sortK_tree {s : Shared} {a : Addr} {xs : List β} {b : Bool} {kf : PV} {kv : Value} {I : AH → Prop} {P : PySem.Fin → Shared → Prop} (K : Sk G f lt) (hr : RunsOk xs.length) (ok : OkH G H s) (hH : H a = some (.lst (xs.map g)))
    (hkv : VR s.heap kf kv) (hI : ∀ a1 ys a2 zs, a1 = a → H a2 = none → I ((H.set a1 ys).set a2 zs)) (hkey : KeyOk G A kf I xs g (fun x => f (kx x)))
    (h : ∀ s', OkH G (H.set a (.lst ((sortBy (fun x y => lt (kx x) (kx y)) b xs).map g))) s' → Kp H s (H.set a (.lst ((sortBy (fun x y => lt (kx x) (kx y)) b xs).map g))) s' → P (.done (.ret .none)) s') :
    wpAny (model G.prog G.w) A (ksk_tree a kv b) P NoE s := by
  refine hide fun WW9 hW9 => ?_
  obtain ⟨⟨vs, n, hl, hv, hz⟩, _⟩ := id (ok.hr a _ hH)
  refine hW9 ?_
  clear hW9 WW9
  rw [HO.items_lst] at hv hz
  have hvl : vs.length = xs.length := by rw [hv.length, List.length_map]
  have hz' : vs.length ≤ sizeLine := by rw [hv.length]; exact hz
  unfold ksk_tree
  refine wpAny_bind (listItems_at hl rfl ?_)
  refine wpAny_bind (listUpdate_at hl rfl ?_ (by rw [List.size_toArray]; exact hz') (Nat.zero_le _))
  obtain ⟨ok1, k1⟩ := upd_list (tk := s.toks) ok hH hl (f := fun _ => #[]) (ys := []) (us := []) rfl rfl (Nat.zero_le _)
  have hl1 := hl.update fun _ => (#[] : Array Value)
  refine wpAny_bind (seqEpoch_at hl1 rfl ?_)
  refine wpAny_bind (wpAny_newTuple ?_ hz')
  obtain ⟨ok2, k2⟩ := push_ok ok1 { cls := .type "tuple", data := .seq vs.toArray }
  refine wpAny_bind (wpAny_newList ?_ (Nat.zero_le _))
  obtain ⟨ok3, k3⟩ := push_list (s := { s with heap := (s.heap.update a (Obj.mapSeq fun _ => #[])).push { cls := .type "tuple", data := .seq vs.toArray } }) ok2 (ps := []) (vs := []) rfl (Nat.zero_le _)
  have hl3 := (hl1.push { cls := .type "tuple", data := .seq vs.toArray }).push { cls := .type "list", data := .seq #[] }
  have hHks := H_fresh ok2
  generalize hks : ({ s with heap := (s.heap.update a (Obj.mapSeq fun _ => #[])).push { cls := .type "tuple", data := .seq vs.toArray } } : Shared).heap.objs.size = ks at ok3 k3 hHks
  have hka : ks ≠ a := by rintro rfl; rw [AH.set_same] at hHks; cases hHks
  have hHk : H ks = none := by rw [AH.set_ne _ _ hka] at hHks; exact hHks
  have k13 := (k1.trans k2).trans k3
  have hv3 := k13.vrs ok hv
  have hkv3 := k13.vr ok hkv
  show wpAny (model G.prog G.w) A (holding [_, Value.ref ks] (ksk_rest a kv b vs.toArray _ (.ref ks))) P NoE _
  refine wpAny_holding ?_
  generalize hs3 : ({ s with heap := (((s.heap.update a (Obj.mapSeq fun _ => #[])).push { cls := .type "tuple", data := .seq vs.toArray }).push { cls := .type "list", data := .seq #[] }) } : Shared) = s3
  have ok3' : OkH G ((H.set a (.lst [])).set ks (.lst [])) s3 := by rw [← hs3]; exact ok3
  have k13' : Kp H s ((H.set a (.lst [])).set ks (.lst [])) s3 := by rw [← hs3]; exact k13
  have hv3' : VRs s3.heap (xs.map g) vs := by rw [← hs3]; exact hv3
  have hkv3' : VR s3.heap kf kv := by rw [← hs3]; exact hkv3
  generalize hn3 : (if (#[] : Array Value).size == vs.toArray.size then n else n + 1) = n3
  have hl3' : IsL s3.heap a #[] n3 := by rw [← hs3, ← hn3]; exact hl3
  clear hs3 hl3 hv3 hkv3 ok3 k3 k13 ok2 k2 ok1 k1 hl1 hn3
  -- the list is held fast while the keys are made
  have hfz : ((H.set a (.lst [])).set ks (.lst [])) a = some (.lst []) := by rw [AH.set_ne _ _ (Ne.symm hka), AH.set_same]
  have okf := frz_ok ok3' hfz
  have hcomm : ∀ z, ((H.set a (.lst [])).set ks z).set a (.fro []) = (H.set a (.fro [])).set ks z := fun z => by
    rw [AH.set_comm _ _ _ hka, AH.set_set]
  rw [show (HO.lst []).items = [] from rfl, hcomm] at okf
  unfold ksk_rest
  refine wpAny_bind (wpAny_rule ?_)
  rw [List.forIn_toArray]
  refine wpAny_bind (ksk_fold (fun i s' => OkH G ((H.set a (.fro [])).set ks (.lst ((xs.take i).map fun x => f (kx x)))) s' ∧ Kp ((H.set a (.fro [])).set ks (.lst [])) s3 ((H.set a (.fro [])).set ks (.lst ((xs.take i).map fun x => f (kx x)))) s') vs 0 s3
    ⟨okf, Kp.refl _ _⟩ ?step ?done)
  case step =>
    rintro j v s' hj ⟨ok', k'⟩
    simp only [Nat.zero_add] at ok' k' ⊢
    obtain ⟨x, hx⟩ : ∃ x, xs[j]? = some x := ⟨_, List.getElem?_eq_getElem (by have := (List.getElem?_eq_some_iff.mp hj).1; exact o9_225 this hvl)⟩
    have hvx : VR s3.heap (g x) v := by
      obtain ⟨u, hu, hv'⟩ := hv3'.get (i := j) (p := g x) (by rw [List.getElem?_map, hx]; rfl)
      rw [hj] at hu; cases hu; exact hv'
    have hvx' := k'.vr okf hvx
    have hIs : I ((H.set a (.fro [])).set ks (.lst ((xs.take j).map fun x => f (kx x)))) := hI a _ ks _ rfl hHk
    refine wpAny_bind (wpAny_attempt (wpAny_mono (hkey x (List.mem_of_getElem? hx) _ hIs s' kv [v] ok' (k'.vr okf hkv3') (VRs.one hvx')) (fun u s2 zz2 => zz2.on fun p H2 hp ok2 k2 zz2_5 => zz2_5.elim fun hpe hHe => ?_) fun _ _ e => e.elim))
    subst hpe; subst hHe
    dsimp only
    refine hide fun WW9 hW9 => ?_
    obtain ⟨⟨kvs, kn, hkl, hkvs, hkz⟩, _⟩ := id (ok2.hr ks _ (AH.set_same ..))
    refine hW9 ?_
    clear hW9 WW9
    rw [HO.items_lst] at hkvs hkz
    have htk : (xs.take (j + 1)).map (fun x => f (kx x)) = (xs.take j).map (fun x => f (kx x)) ++ [f (kx x)] := by rw [List.take_add_one, hx, List.map_append]; rfl
    have hlt : ((xs.take (j + 1)).map fun x => f (kx x)).length ≤ sizeLine := by rw [List.length_map, List.length_take]; exact o9_226 hvl hz'
    obtain ⟨ok4, k4⟩ := upd_list (tk := s2.toks) ok2 (AH.set_same ..) hkl (f := fun a => a.push u) (ys := (xs.take (j + 1)).map fun x => f (kx x)) (us := kvs ++ [u]) (by simp) (by rw [htk]; exact hkvs.append (VRs.one hp)) hlt
    rw [AH.set_set] at ok4 k4
    have hkl2 : kvs.length + 1 ≤ sizeLine := by rw [hkvs.length]; rw [htk, List.length_append, List.length_singleton] at hlt; exact hlt
    refine wpAny_bind (listUpdate_at hkl rfl ?_ (by rw [List.size_toArray]; exact o9_227 hkl2) (by rw [Array.size_push, List.size_toArray]; exact o9_228 hkl2))
    exact wpAny_pure ⟨rfl, ok4, (k'.trans k2).trans k4⟩
  case done =>
    rintro s' ⟨ok', k'⟩
    simp only [Nat.zero_add] at ok' k'
    rw [hvl, List.take_length] at ok' k'
    refine hide fun WW9 hW9 => ?_
    obtain ⟨⟨kvs, kn, hkl, hkvs, hkz⟩, _⟩ := id (ok'.hr ks _ (AH.set_same ..))
    refine hW9 ?_
    clear hW9 WW9
    rw [HO.items_lst] at hkvs hkz
    refine wpAny_bind (listItems_at hkl rfl ?_)
    have hv' := k'.vrs okf hv3'
    -- thaw
    have hla : IsL s'.heap a #[] n3 := by
      refine (k'.kept a _ hl3' (not_mut_fro (ys := []) ?_)).hard fun hs => hs.not_solid (.inr (isLst_mk _ _))
      rw [AH.set_ne _ _ (Ne.symm hka), AH.set_same]
    have okt : OkH G ((H.set a (.lst [])).set ks (.lst (xs.map fun x => f (kx x)))) s' := by
      refine ⟨ok'.keep, fun c o e => ?_, ok'.gens, ok'.dat, ok'.tab⟩
      by_cases hc : c = a
      · subst hc
        rw [AH.set_ne _ _ (Ne.symm hka), AH.set_same] at e; cases e
        exact ⟨⟨[], n3, hla, rfl, Nat.zero_le _⟩, fun _ _ => (ok3'.hr _ _ hfz).2 [] rfl⟩
      · refine ok'.hr c o ?_
        by_cases hck : c = ks
        · subst hck; rw [AH.set_same] at e ⊢; exact e
        · rw [AH.set_ne _ _ hck, AH.set_ne _ _ hc] at e ⊢; exact e
    have kt : Kp H s ((H.set a (.lst [])).set ks (.lst (xs.map fun x => f (kx x)))) s' := by
      refine k13'.trans ⟨k'.os, fun c o e hm => k'.kept c o e fun zz0 => zz0.elim fun ys hy => hm ?_, fun c o e => ?_⟩
      · by_cases hck : c = ks
        · subst hck; exact ⟨[], AH.set_same ..⟩
        · by_cases hca : c = a
          · subst hca; rw [AH.set_ne _ _ (Ne.symm hka), AH.set_same] at hy; cases hy
          · rw [AH.set_ne _ _ hck, AH.set_ne _ _ hca] at hy
            exact ⟨ys, by rw [AH.set_ne _ _ hck, AH.set_ne _ _ hca]; exact hy⟩
      · by_cases hck : c = ks
        · subst hck; rw [AH.set_same] at e; cases e; exact .inr ⟨.lst [], AH.set_same .., fun _ => rfl⟩
        · by_cases hca : c = a
          · subst hca; rw [AH.set_ne _ _ (Ne.symm hka), AH.set_same] at e; cases e
            exact .inr ⟨_, hfz, fun _ => rfl⟩
          · rw [AH.set_ne _ _ hck, AH.set_ne _ _ hca] at e
            exact .inr ⟨o, by rw [AH.set_ne _ _ hck, AH.set_ne _ _ hca]; exact e, id⟩
    refine hide fun WW9 hW9 => ?_
    obtain ⟨l1, e1, e2, hlv⟩ := VRs_zip hv'
    refine hW9 ?_
    clear hW9 WW9
    have hkvs' : VRs s'.heap ((l1.map (·.1)).map fun x => f (kx x)) kvs := by rw [e1]; exact hkvs
    obtain ⟨l, f1, f2, f3, f4, f5⟩ : ∃ l : List (β × Value × Value), l.map (·.1) = xs ∧ l.map (·.2.1) = kvs ∧ l.map (·.2.2) = vs ∧ (∀ p ∈ l, VR s'.heap (f (kx p.1)) p.2.1) ∧ ∀ p ∈ l, VR s'.heap (g p.1) p.2.2 := by
      have : ∀ (l1 : List (β × Value)) (kvs : List Value), (∀ p ∈ l1, VR s'.heap (g p.1) p.2) → VRs s'.heap ((l1.map (·.1)).map fun x => f (kx x)) kvs →
          ∃ l : List (β × Value × Value), l.map (·.1) = l1.map (·.1) ∧ l.map (·.2.1) = kvs ∧ l.map (·.2.2) = l1.map (·.2) ∧ (∀ p ∈ l, VR s'.heap (f (kx p.1)) p.2.1) ∧ ∀ p ∈ l, VR s'.heap (g p.1) p.2.2 := by
        intro l1
        induction l1 with
        | nil => intro kvs _ hk; exact ⟨[], rfl, by rw [show kvs = [] from hk]; rfl, rfl, by simp, by simp⟩
        | cons p l1 ih =>
          intro kvs hp zq9
          refine hide fun WW9 hW9 => ?_
          obtain ⟨u, r, eq9_0, h1, h2⟩ := zq9
          refine hW9 ?_
          clear hW9 WW9
          subst eq9_0
          refine hide fun WW9 hW9 => ?_
          obtain ⟨l, g1, g2, g3, g4, g5⟩ := ih r (fun q hq => hp q (List.mem_cons_of_mem _ hq)) h2
          refine hW9 ?_
          clear hW9 WW9
          refine ⟨(p.1, u, p.2) :: l, by simp [g1], by simp [g2], by simp [g3], fun q hq => ?_, fun q hq => ?_⟩
          · rcases List.mem_cons.mp hq with rfl | hq
            · exact h1
            · exact g4 q hq
          · rcases List.mem_cons.mp hq with rfl | hq
            · exact hp p (List.mem_cons_self ..)
            · exact g5 q hq
      refine hide fun WW9 hW9 => ?_
      obtain ⟨l, g1, g2, g3, g4, g5⟩ := this l1 kvs hlv hkvs'
      refine hW9 ?_
      clear hW9 WW9
      exact ⟨l, g1.trans e1, g2, g3.trans e2, g4, g5⟩
    have hll : l.length = xs.length := by rw [← f1, List.length_map]
    have hta : ((H.set a (.lst [])).set ks (.lst (xs.map fun x => f (kx x)))) a = some (.lst []) := by rw [AH.set_ne _ _ (Ne.symm hka), AH.set_same]
    have htk : ((H.set a (.lst [])).set ks (.lst (xs.map fun x => f (kx x)))) ks = some (.lst (l.map fun p => f (kx p.1))) := by
      rw [AH.set_same, ← f1, List.map_map]; rfl
    rw [← f3, ← f2]
    refine sort_end (kx := kx) (g := g) K (by rw [hll]; exact hr) okt hla hta (by rw [f2]; exact hkl) htk hka f4 f5 (by rw [hll, ← hvl]; exact hz') fun s4 ok4 k4 => ?_
    rw [f1] at ok4 k4
    have hle : AH.le (H.set a (.lst ((sortBy (fun x y => lt (kx x) (kx y)) b xs).map g))) ((((H.set a (.lst [])).set ks (.lst (xs.map fun x => f (kx x)))).set ks (.lst [])).set a (.lst ((sortBy (fun x y => lt (kx x) (kx y)) b xs).map g))) := by
      rw [AH.set_set, AH.set_comm (H.set a (.lst [])) _ _ hka, AH.set_set]
      intro c o e
      by_cases hck : c = ks
      · subst hck; rw [AH.set_ne _ _ hka, hHk] at e; cases e
      · rw [AH.set_ne _ _ hck]; exact e
    exact h s4 (ok4.weak hle) ((kt.trans k4).weak hle)


noncomputable def Coll (G : Cx) (A : Around) (p : PV) (H : AH) (xs : List PV) : Prop := ∀ s v (R : List Value → Shared → Prop), OkH G H s → VR s.heap p v →
  (∀ vs h' tk, (∀ b o, s.heap.get? b = some o → h'.get? b = some o) → VRs h' xs vs → R vs { s with heap := h', toks := tk }) → wpAny (model G.prog G.w) A (collect v) R NoE s
theorem rng_vrs {h' : Heap} {x c : Int} {n : Nat} {acc' : Array Value} (hI : ItemsOf (fun i v => ∃ t, v = .int (x + i * c) t) acc' n) : VRs h' ((List.range n).map fun (i : Nat) => .int (x + i * c)) acc'.toList := by
  obtain ⟨h1, h2⟩ := hI
  have : ∀ (vs : List Value) (k : Nat), (∀ j v, vs[j]? = some v → ∃ t, v = Value.int (x + ((j + k : Nat) : Int) * c) t) → VRs h' ((List.range' k vs.length).map fun (i : Nat) => .int (x + i * c)) vs := by
    intro vs
    induction vs with
    | nil => intro k _; rfl
    | cons v vs ih =>
      intro k hv
      refine ⟨v, vs, rfl, ?_, ?_⟩
      · obtain ⟨t, ht⟩ := hv 0 v rfl
        exact ⟨t, by rw [ht, Nat.zero_add]⟩
      · exact ih (k + 1) fun j w hw => by
          obtain ⟨t, ht⟩ := hv (j + 1) w (by simpa using hw)
          exact ⟨t, by rw [ht]; congr 3; exact o9_229⟩
  have key := this acc'.toList 0 fun j v hv => h2 j v (by simpa using hv)
  rw [Array.length_toList, h1] at key
  rw [List.range_eq_range']
  exact key
theorem Coll_range {x y c : Int} {n : Nat} (hh : A.handled = none) (hsm : Builtin.Range.small x y c = true) (hn : Builtin.Range.rangeSize x y c = n) (hlen : n ≤ 2 ^ 24) : Coll G A (.rng x y c) H ((List.range n).map fun (i : Nat) => .int (x + i * c)) := by
  rintro s _ R ok ⟨r, t, u, w, rfl, hr⟩ h
  unfold collect
  refine wpAny_bind (wpAny_runValue (codeAny_builtin F.entry_proto_collect ?_))
  rw [Around.under_plainId F.plain_proto_collect _]
  show wpAny _ _ (do again (.builtin "list.__iadd__" ⟨[← newList [], .ref r], []⟩)) _ _ s
  refine wpAny_bind (wpAny_newList (wpAny_pure ⟨Code.quiet_builtin _ (by decide +kernel), codeAny_builtin F.entry_list_iadd ?_⟩))
  rw [Around.under_plainId F.plain_list_iadd _]
  show wpAny _ _ (Builtin.List.listExtendWith (.ref s.heap.objs.size) (.ref r) (.ref s.heap.objs.size)) _ _ { s with heap := s.heap.push (seqObj "list" #[] 0) }
  have fin : ∀ h' tk acc' c', (∀ b o, b ≠ s.heap.objs.size → (s.heap.push (seqObj "list" #[] 0)).get? b = some o → h'.get? b = some o) → h'.get? s.heap.objs.size = some { cls := .type "list", dict := none, data := .seq acc' c', slots := #[] } →
      ItemsOf (fun i v => ∃ t, v = .int (x + i * c) t) acc' n → wpAny (model G.prog G.w) A (do
      let o ← load s.heap.objs.size
      match o.data with
      | .seq xs _ => pure xs.toList
      | _ => unsupported "internal:collect") R NoE { s with heap := h', toks := tk } := fun h' tk acc' c' hk hS hI => by
    refine wpAny_bind (wpAny_load hS (wpAny_pure (h _ _ _ (fun b o e => hk b o (Nat.ne_of_lt (Heap.lt_size e)) (Heap.get?_push_of_some _ e)) ?_)))
    exact rng_vrs hI
  have key := wpAny_extend_range (prog := G.prog) (w := G.w) (A := A) (s := { s with heap := s.heap.push (seqObj "list" #[] 0) }) (R := fun r s' => r = .ok (.ret (.ref s.heap.objs.size)) ∧ ∃ h' tk acc' c', s' = { s with heap := h', toks := tk } ∧ (∀ b o, b ≠ s.heap.objs.size → (s.heap.push (seqObj "list" #[] 0)).get? b = some o → h'.get? b = some o) ∧ h'.get? s.heap.objs.size = some { cls := .type "list", dict := none, data := .seq acc' c', slots := #[] } ∧
      ItemsOf (fun i v => ∃ t, v = .int (x + i * c) t) acc' n) hh (Heap.get?_push_of_some _ hr) hsm hn hlen s.heap.objs.size (.ref s.heap.objs.size) 0 (Heap.get?_push_size _ rfl) fun h' tk acc' c' hk hS hI => ⟨rfl, h', tk, acc', c', rfl, hk, hS, hI⟩
  refine wpAny_mono key (fun fi s' hf => ?_) fun e s' he => by cases he.1
  cases fi with
  | done f =>
    refine hide fun WW9 hW9 => ?_
    obtain ⟨hf, h', tk, acc', c', eq9_0, g1, g2, g3⟩ := hf
    refine hW9 ?_
    clear hW9 WW9
    subst eq9_0
    injection hf with hf; subst hf
    exact fin h' tk acc' c' g1 g2 g3
  | again c1 =>
    refine ⟨hf.1, codeAny_mono hf.2 fun r s' hr => ?_⟩
    refine hide fun WW9 hW9 => ?_
    obtain ⟨eq9_0, h', tk, acc', c', eq9_1, g1, g2, g3⟩ := hr
    refine hW9 ?_
    clear hW9 WW9
    subst eq9_0 eq9_1
    exact fin h' tk acc' c' g1 g2 g3

theorem op_sortedK {p kf : PV} {xs : List β} {I : AH → Prop} (K : Sk G f lt) (hr : RunsOk xs.length) (hc : Coll G A.in1 p H (xs.map g)) (hz : xs.length ≤ sizeLine) (hfn : ∃ o, kf = .fnc o) (hI : ∀ a ys a2 zs, H a = none → H a2 = none → I ((H.set a ys).set a2 zs)) (hkey : KeyOk G A.in1.in1 kf I xs g (fun x => f (kx x)))
    (h : ∀ a', H a' = none → Q (.ref a') (H.set a' (.lst ((isort (fun x y => lt (kx x) (kx y)) xs).map g)))) :
    OpL G A (fun vs => call (.builtin "sorted") (vs.take 1) ([Str.ofString "key"].zip (vs.drop 1))) [p, kf] H Q := by
  intro s _ ok zq9
  refine hide fun WW9 hW9 => ?_
  obtain ⟨v, _, eq9_0, hv, kv, _, eq9_1, hkv, eq9_2⟩ := zq9
  refine hW9 ?_
  clear hW9 WW9
  subst eq9_0 eq9_1 eq9_2
  obtain ⟨ko, rfl⟩ := hfn
  show wpAny _ _ (call (.builtin "sorted") [v] [(Str.ofString "key", kv)]) _ _ _
  refine hide fun WW9 hW9 => ?_
  obtain ⟨q, fd, c, oc, cvs, t, eq9_0, hq⟩ := id hkv
  refine hW9 ?_
  clear hW9 WW9
  subst eq9_0
  refine call_function_entry_kw kind_sorted plain_sorted entry_sorted (ksk_s1 _ _) ?_
  unfold Builtin.«sorted»
  refine wpAny_bind (m := checkCount "sorted" 1 1 _) (wpAny_pure ?_)
  refine wpAny_bind (hc s v _ ok hv fun vs h' tk keep hvs => ?_)
  obtain ⟨ok1, k1⟩ := keep_all (tk := tk) ok keep
  have hzl : vs.length ≤ sizeLine := by rw [hvs.length, List.length_map]; exact hz
  refine wpAny_bind (wpAny_newList ?_ hzl)
  obtain ⟨ok2, k2⟩ := push_list (s := { s with heap := h', toks := tk }) ok1 hvs (by rw [List.length_map]; exact hz)
  have hHf := H_fresh ok1
  generalize ha' : ({ s with heap := h', toks := tk } : Shared).heap.objs.size = a' at ok2 k2 hHf
  have hkv2 : VR (h'.push { cls := .type "list", data := .seq vs.toArray }) (.fnc ko) (.ref q) := (k1.trans k2).vr ok hkv
  have hob : (h'.push { cls := .type "list", data := .seq vs.toArray }).get? a' = some { cls := .type "list", data := .seq vs.toArray } := by rw [← ha']; exact Heap.get?_push_size _ rfl
  refine wpAny_bind (wpAny_holding (wpAny_call_entry_kw slot_list_sort ⟨_, hob, rfl⟩ entry_list_sort ?_ (ksk_l1 _ _)))
  show wpAny _ _ (Builtin.«list.sort» ⟨[.ref a'], [(Str.ofString "key", .ref q)]⟩) _ _ _
  rw [ksk_t1]
  refine sortK_tree (b := false) (kx := kx) (I := I) K hr ok2 (AH.set_same ..) hkv2 (fun a1 ys a2 zs e1 e2 => ?_) hkey fun s' ok' k' => ⟨_, rfl, ?_⟩
  · subst e1
    rw [AH.set_set]
    by_cases h2 : a2 = a1
    · subst h2; rw [AH.set_same] at e2; cases e2
    · rw [AH.set_ne _ _ h2] at e2
      exact hI a1 ys a2 zs hHf e2
  · rw [AH.set_set] at ok' k'
    have k12 := k1.trans k2
    exact wpAny_pure ⟨_, rfl, .ref a', _, rfl, ok', ⟨k'.os.trans k12.os, fun b o e hm => (k12.kept b o e hm).step fun o' e' => k'.kept b o' e' fun zz0 => zz0.elim fun ys hy => by
        by_cases hb : b = a'
        · subst hb; exact absurd (Heap.lt_size (keep b o e)) (by rw [ha']; exact Nat.lt_irrefl _)
        · rw [AH.set_ne _ _ hb] at hy; exact hm ⟨ys, hy⟩, fun b o e => by
        by_cases hb : b = a'
        · subst hb; left
          cases e2 : s.heap.get? b with
          | none => rfl
          | some o2 => exact absurd (Heap.lt_size (keep b o2 e2)) (by rw [ha']; exact Nat.lt_irrefl _)
        · rw [AH.set_ne _ _ hb] at e; exact .inr ⟨o, e, id⟩⟩, h a' hHf⟩
end
end Mine
open PySem PySem.W PyProof.Rows
set_option Elab.async false
set_option maxRecDepth 100000
namespace Mine
section
variable {α β : Type} {lt : α → α → Bool} {ltb : β → β → Bool}

noncomputable def hpop (lt : α → α → Bool) (ys : List α) (last : α) : α × List α := match ys with
  | [] => (last, [])
  | y :: r => (y, sup lt 0 last (last :: r))
theorem HeapAt.pre {s : Nat} {xs : List α} {y : α} (h : HeapAt lt s (xs ++ [y])) : HeapAt lt s xs := fun k u v hu hv h0 hs =>
  h k u v (by rw [List.getElem?_append_left (List.getElem?_eq_some_iff.mp hu).1]; exact hu) (by rw [List.getElem?_append_left (List.getElem?_eq_some_iff.mp hv).1]; exact hv) h0 hs
theorem hreplace_all (o : SWO lt) (x : α) {y : α} {r : List α} (hh : HeapAt lt 0 (y :: r)) : (sup lt 0 x (x :: r)).Perm (x :: r) ∧ HeapAt lt 0 (sup lt 0 x (x :: r)) ∧ ∀ z ∈ y :: r, lt z y = false := by
  refine ⟨sup_perm' rfl, sup_heap o x (by simp) ?_, fun z hz => ?_⟩
  · exact HeapAt.set0 (xs := y :: r) hh x
  · obtain ⟨k, hk⟩ := List.mem_iff_getElem?.mp hz
    exact hh.root o rfl k z hk
theorem hpop_all (o : SWO lt) {ys : List α} {last : α} (hh : HeapAt lt 0 (ys ++ [last])) : ((hpop lt ys last).1 :: (hpop lt ys last).2).Perm (ys ++ [last]) ∧ HeapAt lt 0 (hpop lt ys last).2 ∧ ∀ z ∈ ys ++ [last], lt z (hpop lt ys last).1 = false := by
  cases ys with
  | nil => exact ⟨List.Perm.refl _, HeapAt.nil 0, fun z hz => by rw [List.mem_singleton.mp hz]; exact o.irr _⟩
  | cons y r =>
    obtain ⟨h1, h2, h3⟩ := hreplace_all o last hh.pre
    refine ⟨?_, h2, fun z hz => ?_⟩
    · refine (List.Perm.cons y h1).trans ?_
      rw [List.cons_append]
      exact List.Perm.cons y (List.perm_append_singleton last r).symm
    · obtain ⟨k, hk⟩ := List.mem_iff_getElem?.mp hz
      exact hh.root o (r := y) rfl k z hk
theorem hpop_map (f : α → β) (hf : ∀ x y, ltb (f x) (f y) = lt x y) (ys : List α) (last : α) : hpop ltb (ys.map f) (f last) = (f (hpop lt ys last).1, (hpop lt ys last).2.map f) := by
  cases ys with
  | nil => rfl
  | cons y r => simp only [hpop, List.map_cons]; rw [← List.map_cons, sup_map f hf]
end
end Mine
open PySem PySem.W PyProof.Rows
set_option Elab.async false
set_option maxRecDepth 100000
set_option maxHeartbeats 8000000
set_option linter.unusedVariables false
set_option linter.unusedSimpArgs false
namespace Mine
open_top hd09 for PySem.Challenge.rw_dn0043_09
end Mine
namespace Mine

noncomputable abbrev KK (G : Cx) : Frag := Mine.hd09.heap_39 G.w.params

theorem siftdown_ok {G : Cx} {A : Around} {H : AH} {Q : PV → AH → Prop} {S : PV → Prop} {lt : PV → PV → Bool} {a : Addr} {xs : List PV} {start pos : Nat} {x : PV} (hK : G.K = KK G) (hA : A.depth < 900 ∧ A.units < 9000) (hc : Cmp G S lt)
    (hH : H a = some (.lst xs)) (hS : ∀ y ∈ xs, S y) (hx : xs[pos]? = some x) (hQ : Q .none (H.set a (.lst (sdown lt start x pos xs)))) :
    OpL G A (fun vs => call (.ref 42) vs) [.ref a, .int start, .int pos] H Q := by
  refine call_fn (ns := ["heap", "startpos", "pos"]) (dps := []) (dvs := []) hK (by kernel_rfl) (Nat.lt_of_lt_of_le hA.1 (by decide)) (fun _ => rfl) ?_ ?_
  · intro h vs hvs
    refine hide fun WW9 hW9 => ?_
    obtain ⟨v1, v2, v3, eq9_0, _, _, _⟩ := hvs.three_inv
    refine hW9 ?_
    clear hW9 WW9
    subst eq9_0
    kernel_rfl
  intro F hF
  have hu : F.A.units < cLine := hF.lt hA.2 (by decide)
  have hlt := (List.getElem?_eq_some_iff.mp hx).1
  have hSx : S x := hS x (List.mem_of_getElem? hx)
  ((simp only [bindσ, List.zip_cons_cons, List.zip_nil_right, List.zip_nil_left, List.cons_append, List.nil_append]; rw [show (fun _ => none : Loc) = Loc.nil from rfl]))
  ((refine Exs_cons (Ex_Assign (sto_local (by assumption) (by kernel_rfl)) ?_); (repeat (with_reducible first | (refine Ev_Nm (p := ?_) ?_ ?_; rotate_left; · repeat (first | exact Loc.here | refine Loc.there (by decide) ?_)) | apply Ev_Int | apply Ev_None | apply Ev_Str | apply Ev_BinOp | refine Ev_Compare ?_ (by with_unfolding_all rfl) | apply Ev_Subscript | apply Ev_IfExp | refine EvB_Compare ?_ (by with_unfolding_all rfl) | apply EvB_Not | apply EvB_And | apply EvB_Or | apply EvP_none | apply EvP_some | apply EvL_nil | refine EvL_cons ?_ (by with_unfolding_all rfl) | apply op_add | apply op_sub | apply op_lt | apply op_le | apply op_gt | apply op_ge | apply op_eq | apply op_iadd))))
  refine sub_list hH (p := x) (by rw [HO.items_lst, pyIdx_nat]; exact hx) ?_
  refine Exs_cons (Ex_While2 (fun n σ' H' => ∃ ys, n < ys.length ∧ ys.length = xs.length ∧ (∀ y ∈ ys, S y) ∧ H' = H.set a (.lst ys) ∧ sdown lt start x n ys = sdown lt start x pos xs ∧
    σ' = (((Loc.nil.set "heap" (.ref a)).set "startpos" (.int start)).set "pos" (.int n)).set "newitem" x) pos ⟨_, ?_, xs, hlt, rfl, hS, (AH.set_self hH).symm, rfl, rfl⟩ ?_)
  · (repeat (first | exact Loc.le_nil _ | (refine Loc.le_set (by (with_reducible repeat (first | exact Loc.here | refine Loc.there (by decide) ?_))) ?_)))
  · intro n _ _ zq9
    refine hide fun WW9 hW9 => ?_
    obtain ⟨ys, hn, hlen, hSy, eq9_0, hsd, eq9_1⟩ := zq9
    refine hW9 ?_
    clear hW9 WW9
    subst eq9_0 eq9_1
    (repeat (with_reducible first | (refine Ev_Nm (p := ?_) ?_ ?_; rotate_left; · repeat (first | exact Loc.here | refine Loc.there (by decide) ?_)) | apply Ev_Int | apply Ev_None | apply Ev_Str | apply Ev_BinOp | refine Ev_Compare ?_ (by with_unfolding_all rfl) | apply Ev_Subscript | apply Ev_IfExp | refine EvB_Compare ?_ (by with_unfolding_all rfl) | apply EvB_Not | apply EvB_And | apply EvB_Or | apply EvP_none | apply EvP_some | apply EvL_nil | refine EvL_cons ?_ (by with_unfolding_all rfl) | apply op_add | apply op_sub | apply op_lt | apply op_le | apply op_gt | apply op_ge | apply op_eq | apply op_iadd))
    by_cases hsp : start < n
    · refine ⟨true, by simp [hsp], ?_⟩
      simp only [if_true]
      have hpl : (n - 1) / 2 < ys.length := by exact o9_155 hn hsp
      obtain ⟨p, hp⟩ : ∃ p, ys[(n - 1) / 2]? = some p := ⟨_, List.getElem?_eq_getElem hpl⟩
      have hSp : S p := hSy p (List.mem_of_getElem? hp)
      rw [sdown_eq, dif_pos hsp, hp] at hsd
      ((refine Exs_cons (Ex_Assign (sto_local (by assumption) (by kernel_rfl)) ?_); (repeat (with_reducible first | (refine Ev_Nm (p := ?_) ?_ ?_; rotate_left; · repeat (first | exact Loc.here | refine Loc.there (by decide) ?_)) | apply Ev_Int | apply Ev_None | apply Ev_Str | apply Ev_BinOp | refine Ev_Compare ?_ (by with_unfolding_all rfl) | apply Ev_Subscript | apply Ev_IfExp | refine EvB_Compare ?_ (by with_unfolding_all rfl) | apply EvB_Not | apply EvB_And | apply EvB_Or | apply EvP_none | apply EvP_some | apply EvL_nil | refine EvL_cons ?_ (by with_unfolding_all rfl) | apply op_add | apply op_sub | apply op_lt | apply op_le | apply op_gt | apply op_ge | apply op_eq | apply op_iadd))))
      refine op_rshift1 (by exact o9_230 hsp) ?_
      rw [show ((n : Int) - 1) / 2 = (((n - 1) / 2 : Nat) : Int) by exact o9_231 hsp]
      ((refine Exs_cons (Ex_Assign (sto_local (by assumption) (by kernel_rfl)) ?_); (repeat (with_reducible first | (refine Ev_Nm (p := ?_) ?_ ?_; rotate_left; · repeat (first | exact Loc.here | refine Loc.there (by decide) ?_)) | apply Ev_Int | apply Ev_None | apply Ev_Str | apply Ev_BinOp | refine Ev_Compare ?_ (by with_unfolding_all rfl) | apply Ev_Subscript | apply Ev_IfExp | refine EvB_Compare ?_ (by with_unfolding_all rfl) | apply EvB_Not | apply EvB_And | apply EvB_Or | apply EvP_none | apply EvP_some | apply EvL_nil | refine EvL_cons ?_ (by with_unfolding_all rfl) | apply op_add | apply op_sub | apply op_lt | apply op_le | apply op_gt | apply op_ge | apply op_eq | apply op_iadd))))
      refine sub_list (AH.set_same _ _ _) (p := p) (by rw [HO.items_lst, pyIdx_nat]; exact hp) ?_
      refine Exs_cons (Ex_If ?_)
      (repeat (with_reducible first | (refine Ev_Nm (p := ?_) ?_ ?_; rotate_left; · repeat (first | exact Loc.here | refine Loc.there (by decide) ?_)) | apply Ev_Int | apply Ev_None | apply Ev_Str | apply Ev_BinOp | refine Ev_Compare ?_ (by with_unfolding_all rfl) | apply Ev_Subscript | apply Ev_IfExp | refine EvB_Compare ?_ (by with_unfolding_all rfl) | apply EvB_Not | apply EvB_And | apply EvB_Or | apply EvP_none | apply EvP_some | apply EvL_nil | refine EvL_cons ?_ (by with_unfolding_all rfl) | apply op_add | apply op_sub | apply op_lt | apply op_le | apply op_gt | apply op_ge | apply op_eq | apply op_iadd))
      refine hc x p hSx hSp _ _ _ hu ⟨_, rfl, ?_⟩
      cases hl : lt x p with
      | true =>
        simp only [if_true]
        simp only [hl, if_true] at hsd
        ((refine Exs_cons (Ex_AssignSub ?_); (repeat (with_reducible first | (refine Ev_Nm (p := ?_) ?_ ?_; rotate_left; · repeat (first | exact Loc.here | refine Loc.there (by decide) ?_)) | apply Ev_Int | apply Ev_None | apply Ev_Str | apply Ev_BinOp | refine Ev_Compare ?_ (by with_unfolding_all rfl) | apply Ev_Subscript | apply Ev_IfExp | refine EvB_Compare ?_ (by with_unfolding_all rfl) | apply EvB_Not | apply EvB_And | apply EvB_Or | apply EvP_none | apply EvP_some | apply EvL_nil | refine EvL_cons ?_ (by with_unfolding_all rfl) | apply op_add | apply op_sub | apply op_lt | apply op_le | apply op_gt | apply op_ge | apply op_eq | apply op_iadd))))
        refine os_list (AH.set_same _ _ _) (by exact o9_232) (by exact o9_233 hn) ?_
        rw [AH.set_set, Int.toNat_natCast]
        ((refine Exs_cons (Ex_Assign (sto_local (by assumption) (by kernel_rfl)) ?_); (repeat (with_reducible first | (refine Ev_Nm (p := ?_) ?_ ?_; rotate_left; · repeat (first | exact Loc.here | refine Loc.there (by decide) ?_)) | apply Ev_Int | apply Ev_None | apply Ev_Str | apply Ev_BinOp | refine Ev_Compare ?_ (by with_unfolding_all rfl) | apply Ev_Subscript | apply Ev_IfExp | refine EvB_Compare ?_ (by with_unfolding_all rfl) | apply EvB_Not | apply EvB_And | apply EvB_Or | apply EvP_none | apply EvP_some | apply EvL_nil | refine EvL_cons ?_ (by with_unfolding_all rfl) | apply op_add | apply op_sub | apply op_lt | apply op_le | apply op_gt | apply op_ge | apply op_eq | apply op_iadd))))
        refine Exs_cons (Ex_Continue ?_)
        refine ⟨(n - 1) / 2, by exact o9_152 hsp, _, ?_, ys.set n p, by rw [List.length_set]; exact hpl, by rw [List.length_set]; exact hlen, fun y hy => ?_, rfl, hsd, rfl⟩
        · (repeat (first | exact Loc.le_nil _ | (refine Loc.le_set (by (with_reducible repeat (first | exact Loc.here | refine Loc.there (by decide) ?_))) ?_)))
        · rcases List.mem_or_eq_of_mem_set hy with h | h
          · exact hSy y h
          · rw [h]; exact hSp
      | false =>
        simp only [Bool.false_eq_true, if_false]
        simp only [hl, Bool.false_eq_true, if_false] at hsd
        refine Exs_nil (Exs_cons (Ex_Break ?_))
        ((refine Exs_cons (Ex_AssignSub ?_); (repeat (with_reducible first | (refine Ev_Nm (p := ?_) ?_ ?_; rotate_left; · repeat (first | exact Loc.here | refine Loc.there (by decide) ?_)) | apply Ev_Int | apply Ev_None | apply Ev_Str | apply Ev_BinOp | refine Ev_Compare ?_ (by with_unfolding_all rfl) | apply Ev_Subscript | apply Ev_IfExp | refine EvB_Compare ?_ (by with_unfolding_all rfl) | apply EvB_Not | apply EvB_And | apply EvB_Or | apply EvP_none | apply EvP_some | apply EvL_nil | refine EvL_cons ?_ (by with_unfolding_all rfl) | apply op_add | apply op_sub | apply op_lt | apply op_le | apply op_gt | apply op_ge | apply op_eq | apply op_iadd))))
        refine os_list (AH.set_same _ _ _) (by exact o9_232) (by exact o9_233 hn) ?_
        rw [AH.set_set, Int.toNat_natCast, hsd]
        exact Exs_nil hQ
    · refine ⟨false, by simp [hsp], ?_⟩
      simp only [Bool.false_eq_true, if_false]
      rw [sdown_eq, dif_neg hsp] at hsd
      ((refine Exs_cons (Ex_AssignSub ?_); (repeat (with_reducible first | (refine Ev_Nm (p := ?_) ?_ ?_; rotate_left; · repeat (first | exact Loc.here | refine Loc.there (by decide) ?_)) | apply Ev_Int | apply Ev_None | apply Ev_Str | apply Ev_BinOp | refine Ev_Compare ?_ (by with_unfolding_all rfl) | apply Ev_Subscript | apply Ev_IfExp | refine EvB_Compare ?_ (by with_unfolding_all rfl) | apply EvB_Not | apply EvB_And | apply EvB_Or | apply EvP_none | apply EvP_some | apply EvL_nil | refine EvL_cons ?_ (by with_unfolding_all rfl) | apply op_add | apply op_sub | apply op_lt | apply op_le | apply op_gt | apply op_ge | apply op_eq | apply op_iadd))))
      refine os_list (AH.set_same _ _ _) (by exact o9_232) (by exact o9_233 hn) ?_
      rw [AH.set_set, Int.toNat_natCast, hsd]
      exact Exs_nil hQ

noncomputable def whileBody (b : List Stmt) (i j : Nat) : List Stmt := match b[i]? with
  | some (.While _ body _ _) => body.drop j
  | _ => []
theorem siftup_ok {G : Cx} {A : Around} {H : AH} {Q : PV → AH → Prop} {S : PV → Prop} {lt : PV → PV → Bool} {a : Addr} {xs : List PV} {start : Nat} {x : PV} (hK : G.K = KK G) (hA : A.depth < 890 ∧ A.units < 8900) (hc : Cmp G S lt)
    (hH : H a = some (.lst xs)) (hS : ∀ y ∈ xs, S y) (hx : xs[start]? = some x) (hQ : Q .none (H.set a (.lst (sup lt start x xs)))) :
    OpL G A (fun vs => call (.ref 49) vs) [.ref a, .int start] H Q := by
  refine call_fn (ns := ["heap", "pos"]) (dps := []) (dvs := []) hK (by kernel_rfl) (Nat.lt_of_lt_of_le hA.1 (by decide)) (fun _ => rfl) ?_ ?_
  · intro h vs hvs
    refine hide fun WW9 hW9 => ?_
    obtain ⟨v1, v2, eq9_0, _, _⟩ := hvs.two_inv
    refine hW9 ?_
    clear hW9 WW9
    subst eq9_0
    kernel_rfl
  intro F hF
  have hu : F.A.units < cLine := hF.lt hA.2 (by decide)
  have hFA : F.A.depth < 900 ∧ F.A.units < 9000 := hF.room hA (by decide) (by decide)
  have hlt := (List.getElem?_eq_some_iff.mp hx).1
  have hSx : S x := hS x (List.mem_of_getElem? hx)
  ((simp only [bindσ, List.zip_cons_cons, List.zip_nil_right, List.zip_nil_left, List.cons_append, List.nil_append]; rw [show (fun _ => none : Loc) = Loc.nil from rfl]))
  refine Exs_cons (Ex_Assign (sto_local hF (by kernel_rfl)) (Ev_Bi "len" hK (kind_of hF (by kernel_rfl)) (by kernel_rfl) (by decide +kernel) (by decide) ?_))
  (repeat (with_reducible first | (refine Ev_Nm (p := ?_) ?_ ?_; rotate_left; · repeat (first | exact Loc.here | refine Loc.there (by decide) ?_)) | apply Ev_Int | apply Ev_None | apply Ev_Str | apply Ev_BinOp | refine Ev_Compare ?_ (by with_unfolding_all rfl) | apply Ev_Subscript | apply Ev_IfExp | refine EvB_Compare ?_ (by with_unfolding_all rfl) | apply EvB_Not | apply EvB_And | apply EvB_Or | apply EvP_none | apply EvP_some | apply EvL_nil | refine EvL_cons ?_ (by with_unfolding_all rfl) | apply op_add | apply op_sub | apply op_lt | apply op_le | apply op_gt | apply op_ge | apply op_eq | apply op_iadd))
  refine op_len hH ?_
  rw [HO.items_lst]
  ((refine Exs_cons (Ex_Assign (sto_local (by assumption) (by kernel_rfl)) ?_); (repeat (with_reducible first | (refine Ev_Nm (p := ?_) ?_ ?_; rotate_left; · repeat (first | exact Loc.here | refine Loc.there (by decide) ?_)) | apply Ev_Int | apply Ev_None | apply Ev_Str | apply Ev_BinOp | refine Ev_Compare ?_ (by with_unfolding_all rfl) | apply Ev_Subscript | apply Ev_IfExp | refine EvB_Compare ?_ (by with_unfolding_all rfl) | apply EvB_Not | apply EvB_And | apply EvB_Or | apply EvP_none | apply EvP_some | apply EvL_nil | refine EvL_cons ?_ (by with_unfolding_all rfl) | apply op_add | apply op_sub | apply op_lt | apply op_le | apply op_gt | apply op_ge | apply op_eq | apply op_iadd))))
  ((refine Exs_cons (Ex_Assign (sto_local (by assumption) (by kernel_rfl)) ?_); (repeat (with_reducible first | (refine Ev_Nm (p := ?_) ?_ ?_; rotate_left; · repeat (first | exact Loc.here | refine Loc.there (by decide) ?_)) | apply Ev_Int | apply Ev_None | apply Ev_Str | apply Ev_BinOp | refine Ev_Compare ?_ (by with_unfolding_all rfl) | apply Ev_Subscript | apply Ev_IfExp | refine EvB_Compare ?_ (by with_unfolding_all rfl) | apply EvB_Not | apply EvB_And | apply EvB_Or | apply EvP_none | apply EvP_some | apply EvL_nil | refine EvL_cons ?_ (by with_unfolding_all rfl) | apply op_add | apply op_sub | apply op_lt | apply op_le | apply op_gt | apply op_ge | apply op_eq | apply op_iadd))))
  refine sub_list hH (p := x) (by rw [HO.items_lst, pyIdx_nat]; exact hx) ?_
  ((refine Exs_cons (Ex_Assign (sto_local (by assumption) (by kernel_rfl)) ?_); (repeat (with_reducible first | (refine Ev_Nm (p := ?_) ?_ ?_; rotate_left; · repeat (first | exact Loc.here | refine Loc.there (by decide) ?_)) | apply Ev_Int | apply Ev_None | apply Ev_Str | apply Ev_BinOp | refine Ev_Compare ?_ (by with_unfolding_all rfl) | apply Ev_Subscript | apply Ev_IfExp | refine EvB_Compare ?_ (by with_unfolding_all rfl) | apply EvB_Not | apply EvB_And | apply EvB_Or | apply EvP_none | apply EvP_some | apply EvL_nil | refine EvL_cons ?_ (by with_unfolding_all rfl) | apply op_add | apply op_sub | apply op_lt | apply op_le | apply op_gt | apply op_ge | apply op_eq | apply op_iadd))))
  refine op_mul (IntMulOk.of_left (by decide)) ?_
  (repeat (with_reducible first | (refine Ev_Nm (p := ?_) ?_ ?_; rotate_left; · repeat (first | exact Loc.here | refine Loc.there (by decide) ?_)) | apply Ev_Int | apply Ev_None | apply Ev_Str | apply Ev_BinOp | refine Ev_Compare ?_ (by with_unfolding_all rfl) | apply Ev_Subscript | apply Ev_IfExp | refine EvB_Compare ?_ (by with_unfolding_all rfl) | apply EvB_Not | apply EvB_And | apply EvB_Or | apply EvP_none | apply EvP_some | apply EvL_nil | refine EvL_cons ?_ (by with_unfolding_all rfl) | apply op_add | apply op_sub | apply op_lt | apply op_le | apply op_gt | apply op_ge | apply op_eq | apply op_iadd))
  refine Exs_cons (Ex_While2 (fun n σ' H' => ∃ pos ys, n = xs.length - pos ∧ pos < ys.length ∧ ys.length = xs.length ∧ (∀ y ∈ ys, S y) ∧ H' = H.set a (.lst ys) ∧ sgo lt pos ys = sgo lt start xs ∧
    σ' = (((((Loc.nil.set "heap" (.ref a)).set "startpos" (.int start)).set "pos" (.int pos)).set "newitem" x).set "endpos" (.int xs.length)).set "childpos" (.int (2 * pos + 1))) (xs.length - start)
    ⟨_, ?_, start, xs, rfl, hlt, rfl, hS, (AH.set_self hH).symm, rfl, rfl⟩ ?_)
  · (repeat (first | exact Loc.le_nil _ | (refine Loc.le_set (by (with_reducible repeat (first | exact Loc.here | refine Loc.there (by decide) ?_))) ?_)))
  · intro n _ _ zq9
    refine hide fun WW9 hW9 => ?_
    obtain ⟨pos, ys, eq9_0, hn, hlen, hSy, eq9_1, hsd, eq9_2⟩ := zq9
    refine hW9 ?_
    clear hW9 WW9
    subst eq9_0 eq9_1 eq9_2
    (repeat (with_reducible first | (refine Ev_Nm (p := ?_) ?_ ?_; rotate_left; · repeat (first | exact Loc.here | refine Loc.there (by decide) ?_)) | apply Ev_Int | apply Ev_None | apply Ev_Str | apply Ev_BinOp | refine Ev_Compare ?_ (by with_unfolding_all rfl) | apply Ev_Subscript | apply Ev_IfExp | refine EvB_Compare ?_ (by with_unfolding_all rfl) | apply EvB_Not | apply EvB_And | apply EvB_Or | apply EvP_none | apply EvP_some | apply EvL_nil | refine EvL_cons ?_ (by with_unfolding_all rfl) | apply op_add | apply op_sub | apply op_lt | apply op_le | apply op_gt | apply op_ge | apply op_eq | apply op_iadd))
    by_cases hch : 2 * pos + 1 < ys.length
    · refine ⟨true, by simp; exact o9_234 hch hlen, ?_⟩
      simp only [if_true]
      obtain ⟨hcl, hcp⟩ := child_lt lt ys pos hch
      obtain ⟨l, hl⟩ : ∃ l, ys[2 * pos + 1]? = some l := ⟨_, List.getElem?_eq_getElem hch⟩
      obtain ⟨c, hcc⟩ : ∃ c, ys[child lt ys pos]? = some c := ⟨_, List.getElem?_eq_getElem hcl⟩
      rw [sgo_eq, dif_pos hch, hcc] at hsd
      have hSc : S c := hSy c (List.mem_of_getElem? hcc)
      have hSl : S l := hSy l (List.mem_of_getElem? hl)
      have hmem : ∀ y ∈ ys.set pos c, S y := fun y hy => by
        rcases List.mem_or_eq_of_mem_set hy with h | h
        · exact hSy y h
        · rw [h]; exact hSc
      have tail : ∀ (Post : PF → Loc → AH → Prop) (σ2 : Loc) (ch : Int), ch = (child lt ys pos : Int) → Loc.le ((((((Loc.nil.set "heap" (.ref a)).set "startpos" (.int start)).set "newitem" x).set "endpos" (.int xs.length)).set "pos" (.int pos)).set "childpos" (.int ch)) σ2 →
          (∀ σ3, Loc.le ((((((Loc.nil.set "heap" (.ref a)).set "startpos" (.int start)).set "pos" (.int (child lt ys pos))).set "newitem" x).set "endpos" (.int xs.length)).set "childpos" (.int (2 * (child lt ys pos) + 1))) σ3 → Post .next σ3 (H.set a (.lst (ys.set pos c)))) →
          Exs G F (whileBody (bodyOf (fnOf (KK G) 49)) 4 2) σ2 (H.set a (.lst ys)) Post := by
        intro Post σ2 ch hch hσ hP
        subst hch
        refine Exs.le ?_ hσ
        show Exs G F (_ :: _) _ _ _
        ((refine Exs_cons (Ex_AssignSub ?_); (repeat (with_reducible first | (refine Ev_Nm (p := ?_) ?_ ?_; rotate_left; · repeat (first | exact Loc.here | refine Loc.there (by decide) ?_)) | apply Ev_Int | apply Ev_None | apply Ev_Str | apply Ev_BinOp | refine Ev_Compare ?_ (by with_unfolding_all rfl) | apply Ev_Subscript | apply Ev_IfExp | refine EvB_Compare ?_ (by with_unfolding_all rfl) | apply EvB_Not | apply EvB_And | apply EvB_Or | apply EvP_none | apply EvP_some | apply EvL_nil | refine EvL_cons ?_ (by with_unfolding_all rfl) | apply op_add | apply op_sub | apply op_lt | apply op_le | apply op_gt | apply op_ge | apply op_eq | apply op_iadd))))
        refine sub_list (AH.set_same _ _ _) (p := c) (by rw [HO.items_lst, pyIdx_nat]; exact hcc) ?_
        (repeat (with_reducible first | (refine Ev_Nm (p := ?_) ?_ ?_; rotate_left; · repeat (first | exact Loc.here | refine Loc.there (by decide) ?_)) | apply Ev_Int | apply Ev_None | apply Ev_Str | apply Ev_BinOp | refine Ev_Compare ?_ (by with_unfolding_all rfl) | apply Ev_Subscript | apply Ev_IfExp | refine EvB_Compare ?_ (by with_unfolding_all rfl) | apply EvB_Not | apply EvB_And | apply EvB_Or | apply EvP_none | apply EvP_some | apply EvL_nil | refine EvL_cons ?_ (by with_unfolding_all rfl) | apply op_add | apply op_sub | apply op_lt | apply op_le | apply op_gt | apply op_ge | apply op_eq | apply op_iadd))
        refine os_list (AH.set_same _ _ _) (by exact o9_232) (by exact o9_233 hn) ?_
        rw [AH.set_set, Int.toNat_natCast]
        ((refine Exs_cons (Ex_Assign (sto_local (by assumption) (by kernel_rfl)) ?_); (repeat (with_reducible first | (refine Ev_Nm (p := ?_) ?_ ?_; rotate_left; · repeat (first | exact Loc.here | refine Loc.there (by decide) ?_)) | apply Ev_Int | apply Ev_None | apply Ev_Str | apply Ev_BinOp | refine Ev_Compare ?_ (by with_unfolding_all rfl) | apply Ev_Subscript | apply Ev_IfExp | refine EvB_Compare ?_ (by with_unfolding_all rfl) | apply EvB_Not | apply EvB_And | apply EvB_Or | apply EvP_none | apply EvP_some | apply EvL_nil | refine EvL_cons ?_ (by with_unfolding_all rfl) | apply op_add | apply op_sub | apply op_lt | apply op_le | apply op_gt | apply op_ge | apply op_eq | apply op_iadd))))
        ((refine Exs_cons (Ex_Assign (sto_local (by assumption) (by kernel_rfl)) ?_); (repeat (with_reducible first | (refine Ev_Nm (p := ?_) ?_ ?_; rotate_left; · repeat (first | exact Loc.here | refine Loc.there (by decide) ?_)) | apply Ev_Int | apply Ev_None | apply Ev_Str | apply Ev_BinOp | refine Ev_Compare ?_ (by with_unfolding_all rfl) | apply Ev_Subscript | apply Ev_IfExp | refine EvB_Compare ?_ (by with_unfolding_all rfl) | apply EvB_Not | apply EvB_And | apply EvB_Or | apply EvP_none | apply EvP_some | apply EvL_nil | refine EvL_cons ?_ (by with_unfolding_all rfl) | apply op_add | apply op_sub | apply op_lt | apply op_le | apply op_gt | apply op_ge | apply op_eq | apply op_iadd))))
        refine op_mul (IntMulOk.of_left (by decide)) ?_
        (repeat (with_reducible first | (refine Ev_Nm (p := ?_) ?_ ?_; rotate_left; · repeat (first | exact Loc.here | refine Loc.there (by decide) ?_)) | apply Ev_Int | apply Ev_None | apply Ev_Str | apply Ev_BinOp | refine Ev_Compare ?_ (by with_unfolding_all rfl) | apply Ev_Subscript | apply Ev_IfExp | refine EvB_Compare ?_ (by with_unfolding_all rfl) | apply EvB_Not | apply EvB_And | apply EvB_Or | apply EvP_none | apply EvP_some | apply EvL_nil | refine EvL_cons ?_ (by with_unfolding_all rfl) | apply op_add | apply op_sub | apply op_lt | apply op_le | apply op_gt | apply op_ge | apply op_eq | apply op_iadd))
        refine Exs_nil (hP _ ?_)
        (repeat (first | exact Loc.le_nil _ | (refine Loc.le_set (by (with_reducible repeat (first | exact Loc.here | refine Loc.there (by decide) ?_))) ?_)))
      have next : ∀ σ3, Loc.le ((((((Loc.nil.set "heap" (.ref a)).set "startpos" (.int start)).set "pos" (.int (child lt ys pos))).set "newitem" x).set "endpos" (.int xs.length)).set "childpos" (.int (2 * (child lt ys pos) + 1))) σ3 → ∃ m, m < xs.length - pos ∧ ∃ σ'', Loc.le σ'' σ3 ∧ ∃ pos' ys', m = xs.length - pos' ∧ pos' < ys'.length ∧ ys'.length = xs.length ∧ (∀ y ∈ ys', S y) ∧ H.set a (.lst (ys.set pos c)) = H.set a (.lst ys') ∧ sgo lt pos' ys' = sgo lt start xs ∧
          σ'' = (((((Loc.nil.set "heap" (.ref a)).set "startpos" (.int start)).set "pos" (.int pos')).set "newitem" x).set "endpos" (.int xs.length)).set "childpos" (.int (2 * pos' + 1)) := fun σ3 hσ =>
        ⟨xs.length - child lt ys pos, by exact o9_235 hcl hcp hn hlen, _, hσ, child lt ys pos, ys.set pos c, rfl, by rw [List.length_set]; exact hcl, by rw [List.length_set]; exact hlen, hmem, rfl, hsd, rfl⟩
      ((refine Exs_cons (Ex_Assign (sto_local (by assumption) (by kernel_rfl)) ?_); (repeat (with_reducible first | (refine Ev_Nm (p := ?_) ?_ ?_; rotate_left; · repeat (first | exact Loc.here | refine Loc.there (by decide) ?_)) | apply Ev_Int | apply Ev_None | apply Ev_Str | apply Ev_BinOp | refine Ev_Compare ?_ (by with_unfolding_all rfl) | apply Ev_Subscript | apply Ev_IfExp | refine EvB_Compare ?_ (by with_unfolding_all rfl) | apply EvB_Not | apply EvB_And | apply EvB_Or | apply EvP_none | apply EvP_some | apply EvL_nil | refine EvL_cons ?_ (by with_unfolding_all rfl) | apply op_add | apply op_sub | apply op_lt | apply op_le | apply op_gt | apply op_ge | apply op_eq | apply op_iadd))))
      refine Exs_cons (Ex_If ?_)
      (repeat (with_reducible first | (refine Ev_Nm (p := ?_) ?_ ?_; rotate_left; · repeat (first | exact Loc.here | refine Loc.there (by decide) ?_)) | apply Ev_Int | apply Ev_None | apply Ev_Str | apply Ev_BinOp | refine Ev_Compare ?_ (by with_unfolding_all rfl) | apply Ev_Subscript | apply Ev_IfExp | refine EvB_Compare ?_ (by with_unfolding_all rfl) | apply EvB_Not | apply EvB_And | apply EvB_Or | apply EvP_none | apply EvP_some | apply EvL_nil | refine EvL_cons ?_ (by with_unfolding_all rfl) | apply op_add | apply op_sub | apply op_lt | apply op_le | apply op_gt | apply op_ge | apply op_eq | apply op_iadd))
      by_cases hr : 2 * pos + 2 < ys.length
      · refine ⟨true, by simp; exact o9_236 hr hlen, ?_⟩
        simp only [if_true]
        obtain ⟨r, hrr⟩ : ∃ r, ys[2 * pos + 2]? = some r := ⟨_, List.getElem?_eq_getElem hr⟩
        have hSr : S r := hSy r (List.mem_of_getElem? hrr)
        (repeat (with_reducible first | (refine Ev_Nm (p := ?_) ?_ ?_; rotate_left; · repeat (first | exact Loc.here | refine Loc.there (by decide) ?_)) | apply Ev_Int | apply Ev_None | apply Ev_Str | apply Ev_BinOp | refine Ev_Compare ?_ (by with_unfolding_all rfl) | apply Ev_Subscript | apply Ev_IfExp | refine EvB_Compare ?_ (by with_unfolding_all rfl) | apply EvB_Not | apply EvB_And | apply EvB_Or | apply EvP_none | apply EvP_some | apply EvL_nil | refine EvL_cons ?_ (by with_unfolding_all rfl) | apply op_add | apply op_sub | apply op_lt | apply op_le | apply op_gt | apply op_ge | apply op_eq | apply op_iadd))
        refine sub_list (AH.set_same _ _ _) (p := l) (by rw [HO.items_lst, pyIdx_of (j := 2 * pos + 1) (by exact o9_237)]; exact hl) ?_
        (repeat (with_reducible first | (refine Ev_Nm (p := ?_) ?_ ?_; rotate_left; · repeat (first | exact Loc.here | refine Loc.there (by decide) ?_)) | apply Ev_Int | apply Ev_None | apply Ev_Str | apply Ev_BinOp | refine Ev_Compare ?_ (by with_unfolding_all rfl) | apply Ev_Subscript | apply Ev_IfExp | refine EvB_Compare ?_ (by with_unfolding_all rfl) | apply EvB_Not | apply EvB_And | apply EvB_Or | apply EvP_none | apply EvP_some | apply EvL_nil | refine EvL_cons ?_ (by with_unfolding_all rfl) | apply op_add | apply op_sub | apply op_lt | apply op_le | apply op_gt | apply op_ge | apply op_eq | apply op_iadd))
        refine sub_list (AH.set_same _ _ _) (p := r) (by rw [HO.items_lst, pyIdx_of (j := 2 * pos + 2) (by exact o9_238)]; exact hrr) ?_
        refine hc l r hSl hSr _ _ _ hu ⟨_, rfl, ?_⟩
        cases hlr : lt l r with
        | false =>
          have ec : child lt ys pos = 2 * pos + 2 := by unfold child; rw [if_pos ⟨hr, by rw [hl, hrr]; exact hlr⟩]
          simp only [Bool.not_false, if_true]
          ((refine Exs_cons (Ex_Assign (sto_local (by assumption) (by kernel_rfl)) ?_); (repeat (with_reducible first | (refine Ev_Nm (p := ?_) ?_ ?_; rotate_left; · repeat (first | exact Loc.here | refine Loc.there (by decide) ?_)) | apply Ev_Int | apply Ev_None | apply Ev_Str | apply Ev_BinOp | refine Ev_Compare ?_ (by with_unfolding_all rfl) | apply Ev_Subscript | apply Ev_IfExp | refine EvB_Compare ?_ (by with_unfolding_all rfl) | apply EvB_Not | apply EvB_And | apply EvB_Or | apply EvP_none | apply EvP_some | apply EvL_nil | refine EvL_cons ?_ (by with_unfolding_all rfl) | apply op_add | apply op_sub | apply op_lt | apply op_le | apply op_gt | apply op_ge | apply op_eq | apply op_iadd))))
          refine Exs_nil (tail _ _ (2 * (pos : Int) + 1 + 1) ?_ ?_ next)
          · rw [ec]; exact o9_238
          · (repeat (first | exact Loc.le_nil _ | (refine Loc.le_set (by (with_reducible repeat (first | exact Loc.here | refine Loc.there (by decide) ?_))) ?_)))
        | true =>
          have ec : child lt ys pos = 2 * pos + 1 := by unfold child; rw [if_neg (by rw [hl, hrr]; intro h; simp only [hlr] at h; exact absurd h.2 (by decide))]
          simp only [Bool.not_true, Bool.false_eq_true, if_false]
          refine Exs_nil (tail _ _ (2 * (pos : Int) + 1) ?_ ?_ next)
          · rw [ec]; rfl
          · (repeat (first | exact Loc.le_nil _ | (refine Loc.le_set (by (with_reducible repeat (first | exact Loc.here | refine Loc.there (by decide) ?_))) ?_)))
      · refine ⟨false, by simp; exact o9_239 hch hlen hr, ?_⟩
        simp only [Bool.false_eq_true, if_false]
        have ec : child lt ys pos = 2 * pos + 1 := by unfold child; rw [if_neg (fun h => hr h.1)]
        refine Exs_nil (tail _ _ (2 * (pos : Int) + 1) ?_ ?_ next)
        · rw [ec]; rfl
        · (repeat (first | exact Loc.le_nil _ | (refine Loc.le_set (by (with_reducible repeat (first | exact Loc.here | refine Loc.there (by decide) ?_))) ?_)))
    · refine ⟨false, by simp; exact o9_240 hlen hch, ?_⟩
      simp only [Bool.false_eq_true, if_false]
      rw [sgo_eq, dif_neg hch] at hsd
      ((refine Exs_cons (Ex_AssignSub ?_); (repeat (with_reducible first | (refine Ev_Nm (p := ?_) ?_ ?_; rotate_left; · repeat (first | exact Loc.here | refine Loc.there (by decide) ?_)) | apply Ev_Int | apply Ev_None | apply Ev_Str | apply Ev_BinOp | refine Ev_Compare ?_ (by with_unfolding_all rfl) | apply Ev_Subscript | apply Ev_IfExp | refine EvB_Compare ?_ (by with_unfolding_all rfl) | apply EvB_Not | apply EvB_And | apply EvB_Or | apply EvP_none | apply EvP_some | apply EvL_nil | refine EvL_cons ?_ (by with_unfolding_all rfl) | apply op_add | apply op_sub | apply op_lt | apply op_le | apply op_gt | apply op_ge | apply op_eq | apply op_iadd))))
      refine os_list (AH.set_same _ _ _) (by exact o9_232) (by exact o9_233 hn) ?_
      rw [AH.set_set, Int.toNat_natCast]
      refine Exs_cons (Ex_Expr (Ev_Fn (fa := 42) hK (kind_of hF (by kernel_rfl)) (by kernel_rfl) (by kernel_rfl) ?_))
      (repeat (with_reducible first | (refine Ev_Nm (p := ?_) ?_ ?_; rotate_left; · repeat (first | exact Loc.here | refine Loc.there (by decide) ?_)) | apply Ev_Int | apply Ev_None | apply Ev_Str | apply Ev_BinOp | refine Ev_Compare ?_ (by with_unfolding_all rfl) | apply Ev_Subscript | apply Ev_IfExp | refine EvB_Compare ?_ (by with_unfolding_all rfl) | apply EvB_Not | apply EvB_And | apply EvB_Or | apply EvP_none | apply EvP_some | apply EvL_nil | refine EvL_cons ?_ (by with_unfolding_all rfl) | apply op_add | apply op_sub | apply op_lt | apply op_le | apply op_gt | apply op_ge | apply op_eq | apply op_iadd))
      refine siftdown_ok hK hFA hc (AH.set_same _ _ _) (x := x) (fun y hy => ?_) (by rw [List.getElem?_set_self hn]) ?_
      · rcases List.mem_or_eq_of_mem_set hy with h | h
        · exact hSy y h
        · rw [h]; exact hSx
      rw [AH.set_set]
      refine Exs_nil ?_
      have hfin : sdown lt start x pos (ys.set pos x) = sup lt start x xs := by unfold sup; rw [← hsd]
      rw [hfin]; exact hQ

theorem heappush_ok {G : Cx} {A : Around} {H : AH} {Q : PV → AH → Prop} {S : PV → Prop} {lt : PV → PV → Bool} {a : Addr} {xs : List PV} {x : PV} (hK : G.K = KK G) (hA : A.depth < 880 ∧ A.units < 8800) (hc : Cmp G S lt)
    (hH : H a = some (.lst xs)) (hS : ∀ y ∈ xs, S y) (hSx : S x) (hz : xs.length < sizeLine) (hQ : Q .none (H.set a (.lst (hpush lt x xs)))) :
    OpL G A (fun vs => call (.ref 21) vs) [.ref a, x] H Q := by
  refine call_fn (ns := ["heap", "item"]) (dps := []) (dvs := []) hK (by kernel_rfl) (Nat.lt_of_lt_of_le hA.1 (by decide)) (fun _ => rfl) ?_ ?_
  · intro h vs hvs
    obtain ⟨v1, v2, rfl, _, _⟩ := hvs.two_inv
    kernel_rfl
  intro F hF
  have hFA : F.A.depth < 900 ∧ F.A.units < 9000 := hF.room hA (by decide) (by decide)
  ((simp only [bindσ, List.zip_cons_cons, List.zip_nil_right, List.zip_nil_left, List.cons_append, List.nil_append]; rw [show (fun _ => none : Loc) = Loc.nil from rfl]))
  refine Exs_cons (Ex_Expr (Ev_MethL PySem.F.slot_list_append rfl ?_))
  (repeat (with_reducible first | (refine Ev_Nm (p := ?_) ?_ ?_; rotate_left; · repeat (first | exact Loc.here | refine Loc.there (by decide) ?_)) | apply Ev_Int | apply Ev_None | apply Ev_Str | apply Ev_BinOp | refine Ev_Compare ?_ (by with_unfolding_all rfl) | apply Ev_Subscript | apply Ev_IfExp | refine EvB_Compare ?_ (by with_unfolding_all rfl) | apply EvB_Not | apply EvB_And | apply EvB_Or | apply EvP_none | apply EvP_some | apply EvL_nil | refine EvL_cons ?_ (by with_unfolding_all rfl) | apply op_add | apply op_sub | apply op_lt | apply op_le | apply op_gt | apply op_ge | apply op_eq | apply op_iadd))
  refine ⟨a, _, rfl, hH, ?_⟩
  (repeat (with_reducible first | (refine Ev_Nm (p := ?_) ?_ ?_; rotate_left; · repeat (first | exact Loc.here | refine Loc.there (by decide) ?_)) | apply Ev_Int | apply Ev_None | apply Ev_Str | apply Ev_BinOp | refine Ev_Compare ?_ (by with_unfolding_all rfl) | apply Ev_Subscript | apply Ev_IfExp | refine EvB_Compare ?_ (by with_unfolding_all rfl) | apply EvB_Not | apply EvB_And | apply EvB_Or | apply EvP_none | apply EvP_some | apply EvL_nil | refine EvL_cons ?_ (by with_unfolding_all rfl) | apply op_add | apply op_sub | apply op_lt | apply op_le | apply op_gt | apply op_ge | apply op_eq | apply op_iadd))
  refine op_append hH hz ?_
  refine Exs_cons (Ex_Expr (Ev_Fn (fa := 42) hK (kind_of hF (by kernel_rfl)) (by kernel_rfl) (by kernel_rfl) ?_))
  (repeat (with_reducible first | (refine Ev_Nm (p := ?_) ?_ ?_; rotate_left; · repeat (first | exact Loc.here | refine Loc.there (by decide) ?_)) | apply Ev_Int | apply Ev_None | apply Ev_Str | apply Ev_BinOp | refine Ev_Compare ?_ (by with_unfolding_all rfl) | apply Ev_Subscript | apply Ev_IfExp | refine EvB_Compare ?_ (by with_unfolding_all rfl) | apply EvB_Not | apply EvB_And | apply EvB_Or | apply EvP_none | apply EvP_some | apply EvL_nil | refine EvL_cons ?_ (by with_unfolding_all rfl) | apply op_add | apply op_sub | apply op_lt | apply op_le | apply op_gt | apply op_ge | apply op_eq | apply op_iadd))
  refine Ev_Bi "len" hK (kind_of hF (by kernel_rfl)) (by kernel_rfl) (by decide +kernel) (by decide) ?_
  (repeat (with_reducible first | (refine Ev_Nm (p := ?_) ?_ ?_; rotate_left; · repeat (first | exact Loc.here | refine Loc.there (by decide) ?_)) | apply Ev_Int | apply Ev_None | apply Ev_Str | apply Ev_BinOp | refine Ev_Compare ?_ (by with_unfolding_all rfl) | apply Ev_Subscript | apply Ev_IfExp | refine EvB_Compare ?_ (by with_unfolding_all rfl) | apply EvB_Not | apply EvB_And | apply EvB_Or | apply EvP_none | apply EvP_some | apply EvL_nil | refine EvL_cons ?_ (by with_unfolding_all rfl) | apply op_add | apply op_sub | apply op_lt | apply op_le | apply op_gt | apply op_ge | apply op_eq | apply op_iadd))
  refine op_len (AH.set_same _ _ _) ?_
  (repeat (with_reducible first | (refine Ev_Nm (p := ?_) ?_ ?_; rotate_left; · repeat (first | exact Loc.here | refine Loc.there (by decide) ?_)) | apply Ev_Int | apply Ev_None | apply Ev_Str | apply Ev_BinOp | refine Ev_Compare ?_ (by with_unfolding_all rfl) | apply Ev_Subscript | apply Ev_IfExp | refine EvB_Compare ?_ (by with_unfolding_all rfl) | apply EvB_Not | apply EvB_And | apply EvB_Or | apply EvP_none | apply EvP_some | apply EvL_nil | refine EvL_cons ?_ (by with_unfolding_all rfl) | apply op_add | apply op_sub | apply op_lt | apply op_le | apply op_gt | apply op_ge | apply op_eq | apply op_iadd))
  rw [show ((HO.lst (xs ++ [x])).items.length : Int) - 1 = (xs.length : Int) by rw [HO.items_lst, List.length_append]; simp]
  refine siftdown_ok hK hFA hc (start := 0) (AH.set_same _ _ _) (x := x) (fun y hy => ?_) (by simp) ?_
  · rcases List.mem_append.mp hy with h | h
    · exact hS y h
    · rw [List.mem_singleton.mp h]; exact hSx
  rw [AH.set_set]
  exact Exs_nil hQ

theorem heappop_ok {G : Cx} {A : Around} {H : AH} {Q : PV → AH → Prop} {S : PV → Prop} {lt : PV → PV → Bool} {a : Addr} {ys : List PV} {x : PV} (hK : G.K = KK G) (hA : A.depth < 880 ∧ A.units < 8800) (hc : Cmp G S lt)
    (hH : H a = some (.lst (ys ++ [x]))) (hS : ∀ y ∈ ys ++ [x], S y) (hQ : Q (hpop lt ys x).1 (H.set a (.lst (hpop lt ys x).2))) :
    OpL G A (fun vs => call (.ref 28) vs) [.ref a] H Q := by
  refine call_fn (ns := ["heap"]) (dps := []) (dvs := []) hK (by kernel_rfl) (Nat.lt_of_lt_of_le hA.1 (by decide)) (fun _ => rfl) ?_ ?_
  · intro h vs hvs
    obtain ⟨v1, rfl, _⟩ := hvs.one_inv
    kernel_rfl
  intro F hF
  have hFA : F.A.depth < 890 ∧ F.A.units < 8900 := hF.room hA (by decide) (by decide)
  ((simp only [bindσ, List.zip_cons_cons, List.zip_nil_right, List.zip_nil_left, List.cons_append, List.nil_append]; rw [show (fun _ => none : Loc) = Loc.nil from rfl]))
  refine Exs_cons (Ex_Assign (sto_local hF (by kernel_rfl)) (Ev_MethL0 PySem.F.slot_list_pop rfl ?_))
  (repeat (with_reducible first | (refine Ev_Nm (p := ?_) ?_ ?_; rotate_left; · repeat (first | exact Loc.here | refine Loc.there (by decide) ?_)) | apply Ev_Int | apply Ev_None | apply Ev_Str | apply Ev_BinOp | refine Ev_Compare ?_ (by with_unfolding_all rfl) | apply Ev_Subscript | apply Ev_IfExp | refine EvB_Compare ?_ (by with_unfolding_all rfl) | apply EvB_Not | apply EvB_And | apply EvB_Or | apply EvP_none | apply EvP_some | apply EvL_nil | refine EvL_cons ?_ (by with_unfolding_all rfl) | apply op_add | apply op_sub | apply op_lt | apply op_le | apply op_gt | apply op_ge | apply op_eq | apply op_iadd))
  refine ⟨a, _, rfl, hH, op_pop hH ?_⟩
  refine Exs_cons (Ex_If (EvB_val ?_))
  (repeat (with_reducible first | (refine Ev_Nm (p := ?_) ?_ ?_; rotate_left; · repeat (first | exact Loc.here | refine Loc.there (by decide) ?_)) | apply Ev_Int | apply Ev_None | apply Ev_Str | apply Ev_BinOp | refine Ev_Compare ?_ (by with_unfolding_all rfl) | apply Ev_Subscript | apply Ev_IfExp | refine EvB_Compare ?_ (by with_unfolding_all rfl) | apply EvB_Not | apply EvB_And | apply EvB_Or | apply EvP_none | apply EvP_some | apply EvL_nil | refine EvL_cons ?_ (by with_unfolding_all rfl) | apply op_add | apply op_sub | apply op_lt | apply op_le | apply op_gt | apply op_ge | apply op_eq | apply op_iadd))
  refine ob_list (AH.set_same _ _ _) ?_
  rw [HO.items_lst]
  cases ys with
  | nil =>
    simp only [List.isEmpty_nil, Bool.not_true, Bool.false_eq_true, if_false]
    refine Exs_nil (Exs_cons (Ex_Return ?_))
    (repeat (with_reducible first | (refine Ev_Nm (p := ?_) ?_ ?_; rotate_left; · repeat (first | exact Loc.here | refine Loc.there (by decide) ?_)) | apply Ev_Int | apply Ev_None | apply Ev_Str | apply Ev_BinOp | refine Ev_Compare ?_ (by with_unfolding_all rfl) | apply Ev_Subscript | apply Ev_IfExp | refine EvB_Compare ?_ (by with_unfolding_all rfl) | apply EvB_Not | apply EvB_And | apply EvB_Or | apply EvP_none | apply EvP_some | apply EvL_nil | refine EvL_cons ?_ (by with_unfolding_all rfl) | apply op_add | apply op_sub | apply op_lt | apply op_le | apply op_gt | apply op_ge | apply op_eq | apply op_iadd))
    exact hQ
  | cons y r =>
    simp only [List.isEmpty_cons, Bool.not_false, if_true]
    ((refine Exs_cons (Ex_Assign (sto_local (by assumption) (by kernel_rfl)) ?_); (repeat (with_reducible first | (refine Ev_Nm (p := ?_) ?_ ?_; rotate_left; · repeat (first | exact Loc.here | refine Loc.there (by decide) ?_)) | apply Ev_Int | apply Ev_None | apply Ev_Str | apply Ev_BinOp | refine Ev_Compare ?_ (by with_unfolding_all rfl) | apply Ev_Subscript | apply Ev_IfExp | refine EvB_Compare ?_ (by with_unfolding_all rfl) | apply EvB_Not | apply EvB_And | apply EvB_Or | apply EvP_none | apply EvP_some | apply EvL_nil | refine EvL_cons ?_ (by with_unfolding_all rfl) | apply op_add | apply op_sub | apply op_lt | apply op_le | apply op_gt | apply op_ge | apply op_eq | apply op_iadd))))
    refine sub_list (AH.set_same _ _ _) (p := y) rfl ?_
    ((refine Exs_cons (Ex_AssignSub ?_); (repeat (with_reducible first | (refine Ev_Nm (p := ?_) ?_ ?_; rotate_left; · repeat (first | exact Loc.here | refine Loc.there (by decide) ?_)) | apply Ev_Int | apply Ev_None | apply Ev_Str | apply Ev_BinOp | refine Ev_Compare ?_ (by with_unfolding_all rfl) | apply Ev_Subscript | apply Ev_IfExp | refine EvB_Compare ?_ (by with_unfolding_all rfl) | apply EvB_Not | apply EvB_And | apply EvB_Or | apply EvP_none | apply EvP_some | apply EvL_nil | refine EvL_cons ?_ (by with_unfolding_all rfl) | apply op_add | apply op_sub | apply op_lt | apply op_le | apply op_gt | apply op_ge | apply op_eq | apply op_iadd))))
    refine os_list (AH.set_same _ _ _) (by decide) (by simp only [List.length_cons]; exact o9_241) ?_
    refine Exs_cons (Ex_Expr (Ev_Fn (fa := 49) hK (kind_of hF (by kernel_rfl)) (by kernel_rfl) (by kernel_rfl) ?_))
    (repeat (with_reducible first | (refine Ev_Nm (p := ?_) ?_ ?_; rotate_left; · repeat (first | exact Loc.here | refine Loc.there (by decide) ?_)) | apply Ev_Int | apply Ev_None | apply Ev_Str | apply Ev_BinOp | refine Ev_Compare ?_ (by with_unfolding_all rfl) | apply Ev_Subscript | apply Ev_IfExp | refine EvB_Compare ?_ (by with_unfolding_all rfl) | apply EvB_Not | apply EvB_And | apply EvB_Or | apply EvP_none | apply EvP_some | apply EvL_nil | refine EvL_cons ?_ (by with_unfolding_all rfl) | apply op_add | apply op_sub | apply op_lt | apply op_le | apply op_gt | apply op_ge | apply op_eq | apply op_iadd))
    refine siftup_ok (start := 0) hK hFA hc (AH.set_same _ _ _) (x := x) (fun z hz => ?_) rfl ?_
    · rcases List.mem_cons.mp hz with rfl | h
      · exact hS _ (List.mem_append_right _ (List.mem_singleton.mpr rfl))
      · exact hS z (List.mem_append_left _ (List.mem_cons_of_mem _ h))
    rw [AH.set_set, AH.set_set]
    refine Exs_cons (Ex_Return ?_)
    (repeat (with_reducible first | (refine Ev_Nm (p := ?_) ?_ ?_; rotate_left; · repeat (first | exact Loc.here | refine Loc.there (by decide) ?_)) | apply Ev_Int | apply Ev_None | apply Ev_Str | apply Ev_BinOp | refine Ev_Compare ?_ (by with_unfolding_all rfl) | apply Ev_Subscript | apply Ev_IfExp | refine EvB_Compare ?_ (by with_unfolding_all rfl) | apply EvB_Not | apply EvB_And | apply EvB_Or | apply EvP_none | apply EvP_some | apply EvL_nil | refine EvL_cons ?_ (by with_unfolding_all rfl) | apply op_add | apply op_sub | apply op_lt | apply op_le | apply op_gt | apply op_ge | apply op_eq | apply op_iadd))
    exact hQ

theorem heapreplace_ok {G : Cx} {A : Around} {H : AH} {Q : PV → AH → Prop} {S : PV → Prop} {lt : PV → PV → Bool} {a : Addr} {y x : PV} {r : List PV} (hK : G.K = KK G) (hA : A.depth < 880 ∧ A.units < 8800) (hc : Cmp G S lt)
    (hH : H a = some (.lst (y :: r))) (hS : ∀ z ∈ r, S z) (hSx : S x) (hQ : Q y (H.set a (.lst (sup lt 0 x (x :: r))))) :
    OpL G A (fun vs => call (.ref 35) vs) [.ref a, x] H Q := by
  refine call_fn (ns := ["heap", "item"]) (dps := []) (dvs := []) hK (by kernel_rfl) (Nat.lt_of_lt_of_le hA.1 (by decide)) (fun _ => rfl) ?_ ?_
  · intro h vs hvs
    obtain ⟨v1, v2, rfl, _, _⟩ := hvs.two_inv
    kernel_rfl
  intro F hF
  have hFA : F.A.depth < 890 ∧ F.A.units < 8900 := hF.room hA (by decide) (by decide)
  ((simp only [bindσ, List.zip_cons_cons, List.zip_nil_right, List.zip_nil_left, List.cons_append, List.nil_append]; rw [show (fun _ => none : Loc) = Loc.nil from rfl]))
  ((refine Exs_cons (Ex_Assign (sto_local (by assumption) (by kernel_rfl)) ?_); (repeat (with_reducible first | (refine Ev_Nm (p := ?_) ?_ ?_; rotate_left; · repeat (first | exact Loc.here | refine Loc.there (by decide) ?_)) | apply Ev_Int | apply Ev_None | apply Ev_Str | apply Ev_BinOp | refine Ev_Compare ?_ (by with_unfolding_all rfl) | apply Ev_Subscript | apply Ev_IfExp | refine EvB_Compare ?_ (by with_unfolding_all rfl) | apply EvB_Not | apply EvB_And | apply EvB_Or | apply EvP_none | apply EvP_some | apply EvL_nil | refine EvL_cons ?_ (by with_unfolding_all rfl) | apply op_add | apply op_sub | apply op_lt | apply op_le | apply op_gt | apply op_ge | apply op_eq | apply op_iadd))))
  refine sub_list hH (p := y) rfl ?_
  ((refine Exs_cons (Ex_AssignSub ?_); (repeat (with_reducible first | (refine Ev_Nm (p := ?_) ?_ ?_; rotate_left; · repeat (first | exact Loc.here | refine Loc.there (by decide) ?_)) | apply Ev_Int | apply Ev_None | apply Ev_Str | apply Ev_BinOp | refine Ev_Compare ?_ (by with_unfolding_all rfl) | apply Ev_Subscript | apply Ev_IfExp | refine EvB_Compare ?_ (by with_unfolding_all rfl) | apply EvB_Not | apply EvB_And | apply EvB_Or | apply EvP_none | apply EvP_some | apply EvL_nil | refine EvL_cons ?_ (by with_unfolding_all rfl) | apply op_add | apply op_sub | apply op_lt | apply op_le | apply op_gt | apply op_ge | apply op_eq | apply op_iadd))))
  refine os_list hH (by decide) (by simp only [List.length_cons]; exact o9_241) ?_
  refine Exs_cons (Ex_Expr (Ev_Fn (fa := 49) hK (kind_of hF (by kernel_rfl)) (by kernel_rfl) (by kernel_rfl) ?_))
  (repeat (with_reducible first | (refine Ev_Nm (p := ?_) ?_ ?_; rotate_left; · repeat (first | exact Loc.here | refine Loc.there (by decide) ?_)) | apply Ev_Int | apply Ev_None | apply Ev_Str | apply Ev_BinOp | refine Ev_Compare ?_ (by with_unfolding_all rfl) | apply Ev_Subscript | apply Ev_IfExp | refine EvB_Compare ?_ (by with_unfolding_all rfl) | apply EvB_Not | apply EvB_And | apply EvB_Or | apply EvP_none | apply EvP_some | apply EvL_nil | refine EvL_cons ?_ (by with_unfolding_all rfl) | apply op_add | apply op_sub | apply op_lt | apply op_le | apply op_gt | apply op_ge | apply op_eq | apply op_iadd))
  refine siftup_ok (start := 0) hK hFA hc (AH.set_same _ _ _) (x := x) (fun z hz => ?_) rfl ?_
  · rcases List.mem_cons.mp hz with rfl | h
    · exact hSx
    · exact hS z h
  rw [AH.set_set]
  refine Exs_cons (Ex_Return ?_)
  (repeat (with_reducible first | (refine Ev_Nm (p := ?_) ?_ ?_; rotate_left; · repeat (first | exact Loc.here | refine Loc.there (by decide) ?_)) | apply Ev_Int | apply Ev_None | apply Ev_Str | apply Ev_BinOp | refine Ev_Compare ?_ (by with_unfolding_all rfl) | apply Ev_Subscript | apply Ev_IfExp | refine EvB_Compare ?_ (by with_unfolding_all rfl) | apply EvB_Not | apply EvB_And | apply EvB_Or | apply EvP_none | apply EvP_some | apply EvL_nil | refine EvL_cons ?_ (by with_unfolding_all rfl) | apply op_add | apply op_sub | apply op_lt | apply op_le | apply op_gt | apply op_ge | apply op_eq | apply op_iadd))
  exact hQ
theorem heapreplace_raises {G : Cx} {A : Around} {H : AH} {X : AH → Prop} {a : Addr} {x : PV} (hK : G.K = KK G) (hst : Stk G A) (hA : A.depth < 880 ∧ A.units < 8800) (hh : A.handled = none) (hH : H a = some (.lst [])) (hX : X H) :
    OpX G A (fun vs => call (.ref 35) vs) [.ref a, x] H X := by
  refine call_fnX (ns := ["heap", "item"]) (dps := []) (dvs := []) hK hst (by kernel_rfl) (Nat.lt_of_lt_of_le hA.1 (by decide)) (fun _ => rfl) ?_ ?_
  · intro h vs hvs
    obtain ⟨v1, v2, rfl, _, _⟩ := hvs.two_inv
    kernel_rfl
  intro F hF hE
  have hFh : F.A.handled = none := by rw [hF.handled]; exact hh
  ((simp only [bindσ, List.zip_cons_cons, List.zip_nil_right, List.zip_nil_left, List.cons_append, List.nil_append]; rw [show (fun _ => none : Loc) = Loc.nil from rfl]))
  refine ExsX_first (ExX_Assign (EvX_Sub ?_))
  (repeat (with_reducible first | (refine Ev_Nm (p := ?_) ?_ ?_; rotate_left; · repeat (first | exact Loc.here | refine Loc.there (by decide) ?_)) | apply Ev_Int | apply Ev_None | apply Ev_Str | apply Ev_BinOp | refine Ev_Compare ?_ (by with_unfolding_all rfl) | apply Ev_Subscript | apply Ev_IfExp | refine EvB_Compare ?_ (by with_unfolding_all rfl) | apply EvB_Not | apply EvB_And | apply EvB_Or | apply EvP_none | apply EvP_some | apply EvL_nil | refine EvL_cons ?_ (by with_unfolding_all rfl) | apply op_add | apply op_sub | apply op_lt | apply op_le | apply op_gt | apply op_ge | apply op_eq | apply op_iadd))
  exact sub_empty hFh hH rfl (by decide) hX


noncomputable def KeyAt (G : Cx) (ko : Obj) (H : AH) (ys : List PV) (kk : PV → PV) : Prop := ∀ y ∈ ys, ∀ A : Around, A.depth < 960 ∧ A.units < 9500 → OpC G A (.fnc ko) [y] H (fun p H' => p = kk y ∧ H' = H)
theorem OpC.mono {G : Cx} {A : Around} {p : PV} {ps : List PV} {H : AH} {Q Q' : PV → AH → Prop} (h : OpC G A p ps H Q) (hq : ∀ p H', Q p H' → Q' p H') : OpC G A p ps H Q' := fun s v vs ok hv hvs => wpAny_mono (h s v vs ok hv hvs) (fun _ _ x => x.mono hq) fun _ _ x => x
theorem bisectRK_loop {G : Cx} {A : Around} {F : Fx} {H : AH} {Q : PV → AH → Prop} {S : PV → Prop} {lt : PV → PV → Bool} {kk : PV → PV} {ko : Obj} {a : Addr} {ho : HO} {x : PV} (hK : G.K = KK G) (hF : FnF A (fnOf (KK G) 67).scope F) (hA : A.depth < 890 ∧ A.units < 8900) (hc : Cmp G S lt)
    (hH : H a = some ho) (hkey : KeyAt G ko H ho.items kk) (hS : ∀ y ∈ ho.items, S (kk y)) (hSx : S x) (hQ : Q (.int (bisR lt x (ho.items.map kk) 0 ho.items.length)) H) :
    Exs G F (bodyOf (fnOf (KK G) 67)) (((((Loc.nil.set "a" (.ref a)).set "x" x).set "lo" (.int (0 : Nat))).set "hi" .none).set "key" (.fnc ko)) H (fun f _ H' => match f with | .ret p => Q p H' | _ => Q .none H') := by
  have hu : F.A.units < cLine := hF.lt hA.2 (by decide)
  have hFA : F.A.depth < 960 ∧ F.A.units < 9500 := hF.room hA (by decide) (by decide)
  refine Exs_cons (Ex_If ?_)
  (repeat (with_reducible first | (refine Ev_Nm (p := ?_) ?_ ?_; rotate_left; · repeat (first | exact Loc.here | refine Loc.there (by decide) ?_)) | apply Ev_Int | apply Ev_None | apply Ev_Str | apply Ev_BinOp | refine Ev_Compare ?_ (by with_unfolding_all rfl) | apply Ev_Subscript | apply Ev_IfExp | refine EvB_Compare ?_ (by with_unfolding_all rfl) | apply EvB_Not | apply EvB_And | apply EvB_Or | apply EvP_none | apply EvP_some | apply EvL_nil | refine EvL_cons ?_ (by with_unfolding_all rfl) | apply op_add | apply op_sub | apply op_lt | apply op_le | apply op_gt | apply op_ge | apply op_eq | apply op_iadd))
  refine ⟨false, by simp, ?_⟩
  simp only [Bool.false_eq_true, if_false]
  refine Exs_nil (Exs_cons (Ex_If ?_))
  (repeat (with_reducible first | (refine Ev_Nm (p := ?_) ?_ ?_; rotate_left; · repeat (first | exact Loc.here | refine Loc.there (by decide) ?_)) | apply Ev_Int | apply Ev_None | apply Ev_Str | apply Ev_BinOp | refine Ev_Compare ?_ (by with_unfolding_all rfl) | apply Ev_Subscript | apply Ev_IfExp | refine EvB_Compare ?_ (by with_unfolding_all rfl) | apply EvB_Not | apply EvB_And | apply EvB_Or | apply EvP_none | apply EvP_some | apply EvL_nil | refine EvL_cons ?_ (by with_unfolding_all rfl) | apply op_add | apply op_sub | apply op_lt | apply op_le | apply op_gt | apply op_ge | apply op_eq | apply op_iadd))
  refine op_is_none ⟨true, rfl, ?_⟩
  simp only [if_true]
  refine Exs_cons (Ex_Assign (sto_local hF (by kernel_rfl)) (Ev_Bi "len" hK (kind_of hF (by kernel_rfl)) (by kernel_rfl) (by decide +kernel) (by decide) ?_))
  (repeat (with_reducible first | (refine Ev_Nm (p := ?_) ?_ ?_; rotate_left; · repeat (first | exact Loc.here | refine Loc.there (by decide) ?_)) | apply Ev_Int | apply Ev_None | apply Ev_Str | apply Ev_BinOp | refine Ev_Compare ?_ (by with_unfolding_all rfl) | apply Ev_Subscript | apply Ev_IfExp | refine EvB_Compare ?_ (by with_unfolding_all rfl) | apply EvB_Not | apply EvB_And | apply EvB_Or | apply EvP_none | apply EvP_some | apply EvL_nil | refine EvL_cons ?_ (by with_unfolding_all rfl) | apply op_add | apply op_sub | apply op_lt | apply op_le | apply op_gt | apply op_ge | apply op_eq | apply op_iadd))
  refine op_len hH ?_
  refine Exs_nil (Exs_cons (Ex_If ?_))
  (repeat (with_reducible first | (refine Ev_Nm (p := ?_) ?_ ?_; rotate_left; · repeat (first | exact Loc.here | refine Loc.there (by decide) ?_)) | apply Ev_Int | apply Ev_None | apply Ev_Str | apply Ev_BinOp | refine Ev_Compare ?_ (by with_unfolding_all rfl) | apply Ev_Subscript | apply Ev_IfExp | refine EvB_Compare ?_ (by with_unfolding_all rfl) | apply EvB_Not | apply EvB_And | apply EvB_Or | apply EvP_none | apply EvP_some | apply EvL_nil | refine EvL_cons ?_ (by with_unfolding_all rfl) | apply op_add | apply op_sub | apply op_lt | apply op_le | apply op_gt | apply op_ge | apply op_eq | apply op_iadd))
  refine op_is_none_ne (by simp) (by simp) ⟨false, rfl, ?_⟩
  simp only [Bool.false_eq_true, if_false]
  refine Exs_cons (Ex_While2 (fun n σ' H' => ∃ l h : Nat, n = h - l ∧ l ≤ h ∧ h ≤ ho.items.length ∧ H' = H ∧ bisR lt x (ho.items.map kk) l h = bisR lt x (ho.items.map kk) 0 ho.items.length ∧
    σ' = ((((Loc.nil.set "a" (.ref a)).set "x" x).set "lo" (.int l)).set "hi" (.int h)).set "key" (.fnc ko)) (ho.items.length - 0) ⟨_, ?_, 0, ho.items.length, rfl, Nat.zero_le _, Nat.le_refl _, rfl, rfl, rfl⟩ ?_)
  · (repeat (first | exact Loc.le_nil _ | (refine Loc.le_set (by (with_reducible repeat (first | exact Loc.here | refine Loc.there (by decide) ?_))) ?_)))
  intro n _ _ zq9
  refine hide fun WW9 hW9 => ?_
  obtain ⟨l, h, eq9_0, hlh, hh, eq9_1, hb, eq9_2⟩ := zq9
  refine hW9 ?_
  clear hW9 WW9
  subst eq9_0 eq9_1 eq9_2
  (repeat (with_reducible first | (refine Ev_Nm (p := ?_) ?_ ?_; rotate_left; · repeat (first | exact Loc.here | refine Loc.there (by decide) ?_)) | apply Ev_Int | apply Ev_None | apply Ev_Str | apply Ev_BinOp | refine Ev_Compare ?_ (by with_unfolding_all rfl) | apply Ev_Subscript | apply Ev_IfExp | refine EvB_Compare ?_ (by with_unfolding_all rfl) | apply EvB_Not | apply EvB_And | apply EvB_Or | apply EvP_none | apply EvP_some | apply EvL_nil | refine EvL_cons ?_ (by with_unfolding_all rfl) | apply op_add | apply op_sub | apply op_lt | apply op_le | apply op_gt | apply op_ge | apply op_eq | apply op_iadd))
  by_cases hlt : l < h
  · refine ⟨true, by simp; exact o9_242 hlt, ?_⟩
    simp only [if_true]
    obtain ⟨y, hy⟩ : ∃ y, ho.items[(l + h) / 2]? = some y := ⟨_, List.getElem?_eq_getElem (by exact o9_210 hlt hh)⟩
    have hym := List.mem_of_getElem? hy
    rw [bisR_eq, dif_pos hlt, List.getElem?_map, hy] at hb
    ((refine Exs_cons (Ex_Assign (sto_local (by assumption) (by kernel_rfl)) ?_); (repeat (with_reducible first | (refine Ev_Nm (p := ?_) ?_ ?_; rotate_left; · repeat (first | exact Loc.here | refine Loc.there (by decide) ?_)) | apply Ev_Int | apply Ev_None | apply Ev_Str | apply Ev_BinOp | refine Ev_Compare ?_ (by with_unfolding_all rfl) | apply Ev_Subscript | apply Ev_IfExp | refine EvB_Compare ?_ (by with_unfolding_all rfl) | apply EvB_Not | apply EvB_And | apply EvB_Or | apply EvP_none | apply EvP_some | apply EvL_nil | refine EvL_cons ?_ (by with_unfolding_all rfl) | apply op_add | apply op_sub | apply op_lt | apply op_le | apply op_gt | apply op_ge | apply op_eq | apply op_iadd))))
    refine op_floordiv (by decide) (by decide) ?_
    rw [show ((l : Int) + h).fdiv 2 = (((l + h) / 2 : Nat) : Int) by rw [Int.fdiv_eq_ediv_of_nonneg _ (by decide)]; exact o9_243]
    refine Exs_cons (Ex_If ?_)
    (repeat (with_reducible first | (refine Ev_Nm (p := ?_) ?_ ?_; rotate_left; · repeat (first | exact Loc.here | refine Loc.there (by decide) ?_)) | apply Ev_Int | apply Ev_None | apply Ev_Str | apply Ev_BinOp | refine Ev_Compare ?_ (by with_unfolding_all rfl) | apply Ev_Subscript | apply Ev_IfExp | refine EvB_Compare ?_ (by with_unfolding_all rfl) | apply EvB_Not | apply EvB_And | apply EvB_Or | apply EvP_none | apply EvP_some | apply EvL_nil | refine EvL_cons ?_ (by with_unfolding_all rfl) | apply op_add | apply op_sub | apply op_lt | apply op_le | apply op_gt | apply op_ge | apply op_eq | apply op_iadd))
    refine Ev_CallV (o := ko) (by (with_reducible repeat (first | exact Loc.here | refine Loc.there (by decide) ?_))) ?_
    (repeat (with_reducible first | (refine Ev_Nm (p := ?_) ?_ ?_; rotate_left; · repeat (first | exact Loc.here | refine Loc.there (by decide) ?_)) | apply Ev_Int | apply Ev_None | apply Ev_Str | apply Ev_BinOp | refine Ev_Compare ?_ (by with_unfolding_all rfl) | apply Ev_Subscript | apply Ev_IfExp | refine EvB_Compare ?_ (by with_unfolding_all rfl) | apply EvB_Not | apply EvB_And | apply EvB_Or | apply EvP_none | apply EvP_some | apply EvL_nil | refine EvL_cons ?_ (by with_unfolding_all rfl) | apply op_add | apply op_sub | apply op_lt | apply op_le | apply op_gt | apply op_ge | apply op_eq | apply op_iadd))
    refine sub_list hH (p := y) (by rw [pyIdx_nat]; exact hy) ?_
    (repeat (with_reducible first | (refine Ev_Nm (p := ?_) ?_ ?_; rotate_left; · repeat (first | exact Loc.here | refine Loc.there (by decide) ?_)) | apply Ev_Int | apply Ev_None | apply Ev_Str | apply Ev_BinOp | refine Ev_Compare ?_ (by with_unfolding_all rfl) | apply Ev_Subscript | apply Ev_IfExp | refine EvB_Compare ?_ (by with_unfolding_all rfl) | apply EvB_Not | apply EvB_And | apply EvB_Or | apply EvP_none | apply EvP_some | apply EvL_nil | refine EvL_cons ?_ (by with_unfolding_all rfl) | apply op_add | apply op_sub | apply op_lt | apply op_le | apply op_gt | apply op_ge | apply op_eq | apply op_iadd))
    refine (hkey y hym F.A hFA).mono ?_
    rintro _ _ ⟨rfl, rfl⟩
    refine hc x (kk y) hSx (hS y hym) _ _ _ hu ⟨_, rfl, ?_⟩
    cases hl : lt x (kk y) with
    | true =>
      simp only [if_true]
      simp only [Option.map_some, hl, if_true] at hb
      ((refine Exs_cons (Ex_Assign (sto_local (by assumption) (by kernel_rfl)) ?_); (repeat (with_reducible first | (refine Ev_Nm (p := ?_) ?_ ?_; rotate_left; · repeat (first | exact Loc.here | refine Loc.there (by decide) ?_)) | apply Ev_Int | apply Ev_None | apply Ev_Str | apply Ev_BinOp | refine Ev_Compare ?_ (by with_unfolding_all rfl) | apply Ev_Subscript | apply Ev_IfExp | refine EvB_Compare ?_ (by with_unfolding_all rfl) | apply EvB_Not | apply EvB_And | apply EvB_Or | apply EvP_none | apply EvP_some | apply EvL_nil | refine EvL_cons ?_ (by with_unfolding_all rfl) | apply op_add | apply op_sub | apply op_lt | apply op_le | apply op_gt | apply op_ge | apply op_eq | apply op_iadd))))
      refine Exs_nil (Exs_nil ⟨(l + h) / 2 - l, by exact o9_200 hlt, _, ?_, l, (l + h) / 2, rfl, by exact o9_203 hlt, by exact o9_211 hlt hh, rfl, hb, rfl⟩)
      (repeat (first | exact Loc.le_nil _ | (refine Loc.le_set (by (with_reducible repeat (first | exact Loc.here | refine Loc.there (by decide) ?_))) ?_)))
    | false =>
      simp only [Bool.false_eq_true, if_false]
      simp only [Option.map_some, hl, Bool.false_eq_true, if_false] at hb
      ((refine Exs_cons (Ex_Assign (sto_local (by assumption) (by kernel_rfl)) ?_); (repeat (with_reducible first | (refine Ev_Nm (p := ?_) ?_ ?_; rotate_left; · repeat (first | exact Loc.here | refine Loc.there (by decide) ?_)) | apply Ev_Int | apply Ev_None | apply Ev_Str | apply Ev_BinOp | refine Ev_Compare ?_ (by with_unfolding_all rfl) | apply Ev_Subscript | apply Ev_IfExp | refine EvB_Compare ?_ (by with_unfolding_all rfl) | apply EvB_Not | apply EvB_And | apply EvB_Or | apply EvP_none | apply EvP_some | apply EvL_nil | refine EvL_cons ?_ (by with_unfolding_all rfl) | apply op_add | apply op_sub | apply op_lt | apply op_le | apply op_gt | apply op_ge | apply op_eq | apply op_iadd))))
      rw [show (((l + h) / 2 : Nat) : Int) + 1 = (((l + h) / 2 + 1 : Nat) : Int) by exact o9_244]
      refine Exs_nil (Exs_nil ⟨h - ((l + h) / 2 + 1), by exact o9_201 hlt, _, ?_, (l + h) / 2 + 1, h, rfl, by exact o9_206 hlt, by exact o9_15 hh, rfl, hb, rfl⟩)
      (repeat (first | exact Loc.le_nil _ | (refine Loc.le_set (by (with_reducible repeat (first | exact Loc.here | refine Loc.there (by decide) ?_))) ?_)))
  · refine ⟨false, by simp; exact o9_245 hlh hlt, ?_⟩
    simp only [Bool.false_eq_true, if_false]
    rw [bisR_eq, dif_neg hlt] at hb
    refine Exs_nil (Exs_cons (Ex_Return ?_))
    (repeat (with_reducible first | (refine Ev_Nm (p := ?_) ?_ ?_; rotate_left; · repeat (first | exact Loc.here | refine Loc.there (by decide) ?_)) | apply Ev_Int | apply Ev_None | apply Ev_Str | apply Ev_BinOp | refine Ev_Compare ?_ (by with_unfolding_all rfl) | apply Ev_Subscript | apply Ev_IfExp | refine EvB_Compare ?_ (by with_unfolding_all rfl) | apply EvB_Not | apply EvB_And | apply EvB_Or | apply EvP_none | apply EvP_some | apply EvL_nil | refine EvL_cons ?_ (by with_unfolding_all rfl) | apply op_add | apply op_sub | apply op_lt | apply op_le | apply op_gt | apply op_ge | apply op_eq | apply op_iadd))
    rw [hb]; exact hQ

theorem bisect_rightK_ok {G : Cx} {A : Around} {H : AH} {Q : PV → AH → Prop} {S : PV → Prop} {lt : PV → PV → Bool} {kk : PV → PV} {ko : Obj} {a : Addr} {ho : HO} {x : PV} (hK : G.K = KK G) (hA : A.depth < 890 ∧ A.units < 8900) (hc : Cmp G S lt)
    (hH : H a = some ho) (hkey : KeyAt G ko H ho.items kk) (hS : ∀ y ∈ ho.items, S (kk y)) (hSx : S x) (hQ : Q (.int (bisR lt x (ho.items.map kk) 0 ho.items.length)) H) :
    OpL G A (fun vs => call (.ref 67) (vs.take 4) ([Str.ofString "key"].zip (vs.drop 4))) [.ref a, x, .int (0 : Nat), .none, .fnc ko] H Q := by
  refine call_fnE (ns := ["a", "x", "lo", "hi", "key"]) (pb := [("a", .ref a), ("x", x), ("lo", .int (0 : Nat)), ("hi", .none), ("key", .fnc ko)]) (ar := fun vs => ⟨vs.take 4, [Str.ofString "key"].zip (vs.drop 4)⟩) hK (by kernel_rfl) (Nat.lt_of_lt_of_le hA.1 (by decide)) (by simp) ?_ ?_
  · intro h _ zq9
    refine hide fun WW9 hW9 => ?_
    obtain ⟨v1, _, eq9_0, h1, v2, _, eq9_1, h2, v3, _, eq9_2, h3, v4, _, eq9_3, h4, v5, _, eq9_4, h5, eq9_5⟩ := zq9
    refine hW9 ?_
    clear hW9 WW9
    subst eq9_0 eq9_1 eq9_2 eq9_3 eq9_4 eq9_5
    refine ⟨[("a", v1), ("x", v2), ("lo", v3), ("hi", v4), ("key", v5)], by kernel_rfl, fun h' hm => ⟨_, _, rfl, hm _ _ h1, _, _, rfl, hm _ _ h2, _, _, rfl, hm _ _ h3, _, _, rfl, hm _ _ h4, _, _, rfl, hm _ _ h5, rfl⟩⟩
  intro F hF _
  ((simp only [bindσ, List.zip_cons_cons, List.zip_nil_right, List.zip_nil_left, List.cons_append, List.nil_append]; rw [show (fun _ => none : Loc) = Loc.nil from rfl]))
  exact bisectRK_loop hK hF hA hc hH hkey hS hSx hQ

theorem insort_rightK_ok {G : Cx} {A : Around} {H : AH} {Q : PV → AH → Prop} {S : PV → Prop} {lt : PV → PV → Bool} {kk : PV → PV} {ko : Obj} {a : Addr} {xs : List PV} {x : PV} (hK : G.K = KK G) (hA : A.depth < 880 ∧ A.units < 8800) (hc : Cmp G S lt)
    (hH : H a = some (.lst xs)) (hkey : KeyAt G ko H (x :: xs) kk) (hS : ∀ y ∈ x :: xs, S (kk y)) (hz : xs.length < sizeLine)
    (hQ : Q .none (H.set a (.lst (xs.take (bisR lt (kk x) (xs.map kk) 0 xs.length) ++ x :: xs.drop (bisR lt (kk x) (xs.map kk) 0 xs.length))))) :
    OpL G A (fun vs => call (.ref 58) (vs.take 2) ([Str.ofString "key"].zip (vs.drop 2))) [.ref a, x, .fnc ko] H Q := by
  refine call_fnE (ns := ["a", "x", "lo", "hi", "key"]) (pb := [("a", .ref a), ("x", x), ("lo", .int (0 : Nat)), ("hi", .none), ("key", .fnc ko)]) (ar := fun vs => ⟨vs.take 2, [Str.ofString "key"].zip (vs.drop 2)⟩) hK (by kernel_rfl) (Nat.lt_of_lt_of_le hA.1 (by decide)) (by simp) ?_ ?_
  · rintro h _ ⟨v1, _, rfl, h1, v2, _, rfl, h2, v5, _, rfl, h5, rfl⟩
    refine ⟨([("a", v1), ("x", v2)] : List (Str × Value)) ++ List.zip ([("lo" : Str), ("hi" : Str)]) (tupItems (KK G) 50) ++ ([("key", v5)] : List (Str × Value)), by kernel_rfl, fun h' hm => ⟨_, _, rfl, hm _ _ h1, _, _, rfl, hm _ _ h2, _, _, rfl, ⟨_, rfl⟩, _, _, rfl, rfl, _, _, rfl, hm _ _ h5, rfl⟩⟩
  intro F hF _
  have hFA : F.A.depth < 890 ∧ F.A.units < 8900 := hF.room hA (by decide) (by decide)
  have hFA2 : F.A.depth < 960 ∧ F.A.units < 9500 := hF.room hA (by decide) (by decide)
  ((simp only [bindσ, List.zip_cons_cons, List.zip_nil_right, List.zip_nil_left, List.cons_append, List.nil_append]; rw [show (fun _ => none : Loc) = Loc.nil from rfl]))
  refine Exs_cons (Ex_If ?_)
  (repeat (with_reducible first | (refine Ev_Nm (p := ?_) ?_ ?_; rotate_left; · repeat (first | exact Loc.here | refine Loc.there (by decide) ?_)) | apply Ev_Int | apply Ev_None | apply Ev_Str | apply Ev_BinOp | refine Ev_Compare ?_ (by with_unfolding_all rfl) | apply Ev_Subscript | apply Ev_IfExp | refine EvB_Compare ?_ (by with_unfolding_all rfl) | apply EvB_Not | apply EvB_And | apply EvB_Or | apply EvP_none | apply EvP_some | apply EvL_nil | refine EvL_cons ?_ (by with_unfolding_all rfl) | apply op_add | apply op_sub | apply op_lt | apply op_le | apply op_gt | apply op_ge | apply op_eq | apply op_iadd))
  refine op_is_none_ne (by simp) (by simp) ⟨false, rfl, ?_⟩
  simp only [Bool.false_eq_true, if_false]
  refine Exs_cons (Ex_Assign (sto_local hF (by kernel_rfl)) (Ev_FnK (fa := 67) [Str.ofString "key"] hK (kind_of hF (by kernel_rfl)) (by kernel_rfl) (by kernel_rfl) ?_))
  (repeat (with_reducible first | (refine Ev_Nm (p := ?_) ?_ ?_; rotate_left; · repeat (first | exact Loc.here | refine Loc.there (by decide) ?_)) | apply Ev_Int | apply Ev_None | apply Ev_Str | apply Ev_BinOp | refine Ev_Compare ?_ (by with_unfolding_all rfl) | apply Ev_Subscript | apply Ev_IfExp | refine EvB_Compare ?_ (by with_unfolding_all rfl) | apply EvB_Not | apply EvB_And | apply EvB_Or | apply EvP_none | apply EvP_some | apply EvL_nil | refine EvL_cons ?_ (by with_unfolding_all rfl) | apply op_add | apply op_sub | apply op_lt | apply op_le | apply op_gt | apply op_ge | apply op_eq | apply op_iadd))
  refine Ev_CallV (o := ko) (by (with_reducible repeat (first | exact Loc.here | refine Loc.there (by decide) ?_))) ?_
  (repeat (with_reducible first | (refine Ev_Nm (p := ?_) ?_ ?_; rotate_left; · repeat (first | exact Loc.here | refine Loc.there (by decide) ?_)) | apply Ev_Int | apply Ev_None | apply Ev_Str | apply Ev_BinOp | refine Ev_Compare ?_ (by with_unfolding_all rfl) | apply Ev_Subscript | apply Ev_IfExp | refine EvB_Compare ?_ (by with_unfolding_all rfl) | apply EvB_Not | apply EvB_And | apply EvB_Or | apply EvP_none | apply EvP_some | apply EvL_nil | refine EvL_cons ?_ (by with_unfolding_all rfl) | apply op_add | apply op_sub | apply op_lt | apply op_le | apply op_gt | apply op_ge | apply op_eq | apply op_iadd))
  refine (hkey x List.mem_cons_self F.A hFA2).mono ?_
  rintro _ _ ⟨rfl, rfl⟩
  (repeat (with_reducible first | (refine Ev_Nm (p := ?_) ?_ ?_; rotate_left; · repeat (first | exact Loc.here | refine Loc.there (by decide) ?_)) | apply Ev_Int | apply Ev_None | apply Ev_Str | apply Ev_BinOp | refine Ev_Compare ?_ (by with_unfolding_all rfl) | apply Ev_Subscript | apply Ev_IfExp | refine EvB_Compare ?_ (by with_unfolding_all rfl) | apply EvB_Not | apply EvB_And | apply EvB_Or | apply EvP_none | apply EvP_some | apply EvL_nil | refine EvL_cons ?_ (by with_unfolding_all rfl) | apply op_add | apply op_sub | apply op_lt | apply op_le | apply op_gt | apply op_ge | apply op_eq | apply op_iadd))
  refine EvK_cons ?_
  (repeat (with_reducible first | (refine Ev_Nm (p := ?_) ?_ ?_; rotate_left; · repeat (first | exact Loc.here | refine Loc.there (by decide) ?_)) | apply Ev_Int | apply Ev_None | apply Ev_Str | apply Ev_BinOp | refine Ev_Compare ?_ (by with_unfolding_all rfl) | apply Ev_Subscript | apply Ev_IfExp | refine EvB_Compare ?_ (by with_unfolding_all rfl) | apply EvB_Not | apply EvB_And | apply EvB_Or | apply EvP_none | apply EvP_some | apply EvL_nil | refine EvL_cons ?_ (by with_unfolding_all rfl) | apply op_add | apply op_sub | apply op_lt | apply op_le | apply op_gt | apply op_ge | apply op_eq | apply op_iadd))
  refine EvK_nil (OpL.toU ?_)
  refine bisect_rightK_ok hK hFA hc hH (fun y hy => hkey y (List.mem_cons_of_mem _ hy)) (fun y hy => hS y (List.mem_cons_of_mem _ hy)) (hS x List.mem_cons_self) ?_
  refine Exs_nil (Exs_cons (Ex_Expr (Ev_MethL PySem.F.slot_list_insert rfl ?_)))
  (repeat (with_reducible first | (refine Ev_Nm (p := ?_) ?_ ?_; rotate_left; · repeat (first | exact Loc.here | refine Loc.there (by decide) ?_)) | apply Ev_Int | apply Ev_None | apply Ev_Str | apply Ev_BinOp | refine Ev_Compare ?_ (by with_unfolding_all rfl) | apply Ev_Subscript | apply Ev_IfExp | refine EvB_Compare ?_ (by with_unfolding_all rfl) | apply EvB_Not | apply EvB_And | apply EvB_Or | apply EvP_none | apply EvP_some | apply EvL_nil | refine EvL_cons ?_ (by with_unfolding_all rfl) | apply op_add | apply op_sub | apply op_lt | apply op_le | apply op_gt | apply op_ge | apply op_eq | apply op_iadd))
  refine ⟨a, _, rfl, hH, ?_⟩
  (repeat (with_reducible first | (refine Ev_Nm (p := ?_) ?_ ?_; rotate_left; · repeat (first | exact Loc.here | refine Loc.there (by decide) ?_)) | apply Ev_Int | apply Ev_None | apply Ev_Str | apply Ev_BinOp | refine Ev_Compare ?_ (by with_unfolding_all rfl) | apply Ev_Subscript | apply Ev_IfExp | refine EvB_Compare ?_ (by with_unfolding_all rfl) | apply EvB_Not | apply EvB_And | apply EvB_Or | apply EvP_none | apply EvP_some | apply EvL_nil | refine EvL_cons ?_ (by with_unfolding_all rfl) | apply op_add | apply op_sub | apply op_lt | apply op_le | apply op_gt | apply op_ge | apply op_eq | apply op_iadd))
  have hb := bisR_le lt (kk x) (xs.map kk) 0 xs.length (Nat.zero_le _)
  refine op_insert hH (by rw [HO.items_lst]; exact o9_246 hb) (by rw [HO.items_lst]; exact o9_247 hb) hz ?_
  rw [HO.items_lst, Int.toNat_natCast]
  exact Exs_nil hQ

theorem law_works_ok {G : Cx} {A : Around} {H : AH} {Q : PV → AH → Prop} {a : Addr} {ns : List Int} (hK : G.K = KK G) (hA : A.depth < 870 ∧ A.units < 8700) (hh : A.handled = none) (hH : H a = some (.fro (ns.map .int))) (hlen : ns.length ≤ 63)
    (hQ : ∀ fs ts : List Int, fs.length = ts.length → 2 ≤ fs.length → fs.length ≤ 9 → (∀ x ∈ ts, 1 ≤ x) → ∀ a1 a2, H a1 = none → H a2 = none → a1 ≠ a2 → Q (.tup [.ref a1, .ref a2]) ((H.set a1 (.lst (fs.map .int))).set a2 (.lst (ts.map .int)))) :
    OpL G A (fun vs => call (.ref 72) vs) [.ref a] H Q := by
  refine OpL.drop (call_fn (ns := ["script"]) (dps := []) (dvs := []) hK (by kernel_rfl) (Nat.lt_of_lt_of_le hA.1 (by decide)) (fun _ => rfl) ?_ ?_)
  · intro h vs hvs
    refine hide fun WW9 hW9 => ?_
    obtain ⟨v1, eq9_0, _⟩ := hvs.one_inv
    refine hW9 ?_
    clear hW9 WW9
    subst eq9_0
    kernel_rfl
  intro F hF
  have hu : F.A.units < cLine := hF.lt hA.2 (by decide)
  have hFA : F.A.depth < 890 ∧ F.A.units < 8900 := hF.room hA (by decide) (by decide)
  have hFh : F.A.handled = none := by rw [hF.handled]; exact hh
  ((simp only [bindσ, List.zip_cons_cons, List.zip_nil_right, List.zip_nil_left, List.cons_append, List.nil_append]; rw [show (fun _ => none : Loc) = Loc.nil from rfl]))
  -- count
  refine Exs_cons (Ex_Assign (sto_cell hF (by kernel_rfl)) (Ev_Bi "min" hK (kind_of hF (by kernel_rfl)) (by kernel_rfl) (by decide +kernel) (by decide) ?_))
  (repeat (with_reducible first | (refine Ev_Nm (p := ?_) ?_ ?_; rotate_left; · repeat (first | exact Loc.here | refine Loc.there (by decide) ?_)) | apply Ev_Int | apply Ev_None | apply Ev_Str | apply Ev_BinOp | refine Ev_Compare ?_ (by with_unfolding_all rfl) | apply Ev_Subscript | apply Ev_IfExp | refine EvB_Compare ?_ (by with_unfolding_all rfl) | apply EvB_Not | apply EvB_And | apply EvB_Or | apply EvP_none | apply EvP_some | apply EvL_nil | refine EvL_cons ?_ (by with_unfolding_all rfl) | apply op_add | apply op_sub | apply op_lt | apply op_le | apply op_gt | apply op_ge | apply op_eq | apply op_iadd))
  refine Ev_Bi "len" hK (kind_of hF (by kernel_rfl)) (by kernel_rfl) (by decide +kernel) (by decide) ?_
  (repeat (with_reducible first | (refine Ev_Nm (p := ?_) ?_ ?_; rotate_left; · repeat (first | exact Loc.here | refine Loc.there (by decide) ?_)) | apply Ev_Int | apply Ev_None | apply Ev_Str | apply Ev_BinOp | refine Ev_Compare ?_ (by with_unfolding_all rfl) | apply Ev_Subscript | apply Ev_IfExp | refine EvB_Compare ?_ (by with_unfolding_all rfl) | apply EvB_Not | apply EvB_And | apply EvB_Or | apply EvP_none | apply EvP_some | apply EvL_nil | refine EvL_cons ?_ (by with_unfolding_all rfl) | apply op_add | apply op_sub | apply op_lt | apply op_le | apply op_gt | apply op_ge | apply op_eq | apply op_iadd))
  refine op_len hH ?_
  rw [HO.items_fro, List.length_map]
  (repeat (with_reducible first | (refine Ev_Nm (p := ?_) ?_ ?_; rotate_left; · repeat (first | exact Loc.here | refine Loc.there (by decide) ?_)) | apply Ev_Int | apply Ev_None | apply Ev_Str | apply Ev_BinOp | refine Ev_Compare ?_ (by with_unfolding_all rfl) | apply Ev_Subscript | apply Ev_IfExp | refine EvB_Compare ?_ (by with_unfolding_all rfl) | apply EvB_Not | apply EvB_And | apply EvB_Or | apply EvP_none | apply EvP_some | apply EvL_nil | refine EvL_cons ?_ (by with_unfolding_all rfl) | apply op_add | apply op_sub | apply op_lt | apply op_le | apply op_gt | apply op_ge | apply op_eq | apply op_iadd))
  refine op_floordiv (by decide) (by decide) ?_
  (repeat (with_reducible first | (refine Ev_Nm (p := ?_) ?_ ?_; rotate_left; · repeat (first | exact Loc.here | refine Loc.there (by decide) ?_)) | apply Ev_Int | apply Ev_None | apply Ev_Str | apply Ev_BinOp | refine Ev_Compare ?_ (by with_unfolding_all rfl) | apply Ev_Subscript | apply Ev_IfExp | refine EvB_Compare ?_ (by with_unfolding_all rfl) | apply EvB_Not | apply EvB_And | apply EvB_Or | apply EvP_none | apply EvP_some | apply EvL_nil | refine EvL_cons ?_ (by with_unfolding_all rfl) | apply op_add | apply op_sub | apply op_lt | apply op_le | apply op_gt | apply op_ge | apply op_eq | apply op_iadd))
  refine op_min2 hFh ?_
  obtain ⟨c, hc, hc2, hc8⟩ : ∃ c : Nat, min 9 (2 + (ns.length : Int).fdiv 3) = (c : Int) ∧ 2 ≤ c ∧ c ≤ 9 := ⟨min 9 (2 + ns.length / 3), by rw [Int.fdiv_eq_ediv_of_nonneg _ (by decide)]; exact o9_248, by exact o9_249 hlen, by exact o9_250⟩
  rw [hc]
  -- firsts
  refine Exs_cons (Ex_CompL (α := Nat) (τ := (Loc.nil.set "script" (.ref a)).set "count" (.int c)) (fun i => .int i) (fun _ => true) (fun k => .int (pickL ns (some (2 * k)) none (some (2 * c))).sum) hF (by kernel_rfl) (by kernel_rfl) (by kernel_rfl) (by (repeat (first | exact Loc.le_nil _ | (refine Loc.le_set (Loc.fr_app (by kernel_rfl) (by (with_reducible repeat (first | exact Loc.here | refine Loc.there (by decide) ?_)))) ?_)))) rfl (by kernel_rfl) ?_)
  refine Ev_Ty "range" hK (kind_of hF (by kernel_rfl)) (by kernel_rfl) (by decide +kernel) (by decide) ?_
  (repeat (with_reducible first | (refine Ev_Nm (p := ?_) ?_ ?_; rotate_left; · repeat (first | exact Loc.here | refine Loc.there (by decide) ?_)) | apply Ev_Int | apply Ev_None | apply Ev_Str | apply Ev_BinOp | refine Ev_Compare ?_ (by with_unfolding_all rfl) | apply Ev_Subscript | apply Ev_IfExp | refine EvB_Compare ?_ (by with_unfolding_all rfl) | apply EvB_Not | apply EvB_And | apply EvB_Or | apply EvP_none | apply EvP_some | apply EvL_nil | refine EvL_cons ?_ (by with_unfolding_all rfl) | apply op_add | apply op_sub | apply op_lt | apply op_le | apply op_gt | apply op_ge | apply op_eq | apply op_iadd))
  refine op_range1 ?_
  refine ⟨List.range c, Iter_upto hFh (by exact o9_251 hc2 hc8), by rw [List.length_range, sizeLine_eq]; exact o9_252 hc2 hc8, ?_, ?_⟩
  · intro F' hF' k hk
    have hk' := List.mem_range.mp hk
    refine As_Name (hF'.sto _ (.inl (by kernel_rfl))) ?_
    refine ⟨rfl, ?_⟩
    simp only [if_true]
    refine Ev_Bi "sum" hK (hF'.kind _ _ (by kernel_rfl) (by decide)) (by kernel_rfl) (by decide +kernel) (by decide) (EvL_cons (Ev_Slice ?_) rfl)
    (repeat (with_reducible first | (refine Ev_Nm (p := ?_) ?_ ?_; rotate_left; · repeat (first | exact Loc.here | refine Loc.there (by decide) ?_)) | apply Ev_Int | apply Ev_None | apply Ev_Str | apply Ev_BinOp | refine Ev_Compare ?_ (by with_unfolding_all rfl) | apply Ev_Subscript | apply Ev_IfExp | refine EvB_Compare ?_ (by with_unfolding_all rfl) | apply EvB_Not | apply EvB_And | apply EvB_Or | apply EvP_none | apply EvP_some | apply EvL_nil | refine EvL_cons ?_ (by with_unfolding_all rfl) | apply op_add | apply op_sub | apply op_lt | apply op_le | apply op_gt | apply op_ge | apply op_eq | apply op_iadd))
    refine op_mul (mul_okL (by decide) (by decide)) ?_
    refine ⟨_, rfl, ?_⟩
    (repeat (with_reducible first | (refine Ev_Nm (p := ?_) ?_ ?_; rotate_left; · repeat (first | exact Loc.here | refine Loc.there (by decide) ?_)) | apply Ev_Int | apply Ev_None | apply Ev_Str | apply Ev_BinOp | refine Ev_Compare ?_ (by with_unfolding_all rfl) | apply Ev_Subscript | apply Ev_IfExp | refine EvB_Compare ?_ (by with_unfolding_all rfl) | apply EvB_Not | apply EvB_And | apply EvB_Or | apply EvP_none | apply EvP_some | apply EvL_nil | refine EvL_cons ?_ (by with_unfolding_all rfl) | apply op_add | apply op_sub | apply op_lt | apply op_le | apply op_gt | apply op_ge | apply op_eq | apply op_iadd))
    refine op_mul (mul_okL (by decide) (by decide)) ?_
    refine ⟨_, rfl, by simp; exact o9_253 hc2 hc8, a, _, rfl, hH, fun a' ha' => ?_⟩
    refine EvL_nil (op_sum (ns := pickL ns (some (2 * k)) none (some (2 * c))) (by rw [hF'.A]; exact hFh) (AH.set_same ..) ?_ ⟨rfl, AH.le_new ha'⟩)
    rw [HO.items_lst, HO.items_fro, pickL_map]
  intro a1 ha1
  rw [filter_yes]
  obtain ⟨fs, hfs, hfl⟩ : ∃ fs : List Int, (List.range c).map (fun k : Nat => PV.int (pickL ns (some (2 * (k : Int))) none (some (2 * (c : Int)))).sum) = fs.map .int ∧ fs.length = c := ⟨(List.range c).map fun k : Nat => (pickL ns (some (2 * (k : Int))) none (some (2 * (c : Int)))).sum, by rw [List.map_map]; rfl, by simp⟩
  rw [hfs]; clear hfs
  have hH1 : (H.set a1 (.lst (fs.map .int))) a = some (.fro (ns.map .int)) := by rw [AH.set_ne _ _ (by rintro rfl; rw [hH] at ha1; cases ha1)]; exact hH
  -- stays
  refine Exs_cons (Ex_CompC (α := Nat) (τ := (Loc.nil.set "script" (.ref a)).set "count" (.int c)) (fun i => .int i) (fun _ => true) (fun k => .int (1 + (if (pickL ns (some (2 * k + 1)) none (some (2 * c))).sum < 0 then -(pickL ns (some (2 * k + 1)) none (some (2 * c))).sum else (pickL ns (some (2 * k + 1)) none (some (2 * c))).sum))) hF (by kernel_rfl) (by kernel_rfl) (by kernel_rfl) (by (repeat (first | exact Loc.le_nil _ | (refine Loc.le_set (Loc.fr_app (by kernel_rfl) (by (with_reducible repeat (first | exact Loc.here | refine Loc.there (by decide) ?_)))) ?_)))) ?_)
  refine Ev_Ty "range" hK (kind_of hF (by kernel_rfl)) (by kernel_rfl) (by decide +kernel) (by decide) ?_
  (repeat (with_reducible first | (refine Ev_Nm (p := ?_) ?_ ?_; rotate_left; · repeat (first | exact Loc.here | refine Loc.there (by decide) ?_)) | apply Ev_Int | apply Ev_None | apply Ev_Str | apply Ev_BinOp | refine Ev_Compare ?_ (by with_unfolding_all rfl) | apply Ev_Subscript | apply Ev_IfExp | refine EvB_Compare ?_ (by with_unfolding_all rfl) | apply EvB_Not | apply EvB_And | apply EvB_Or | apply EvP_none | apply EvP_some | apply EvL_nil | refine EvL_cons ?_ (by with_unfolding_all rfl) | apply op_add | apply op_sub | apply op_lt | apply op_le | apply op_gt | apply op_ge | apply op_eq | apply op_iadd))
  refine op_range1 ?_
  refine ⟨List.range c, Iter_upto hFh (by exact o9_254 hc2 hc8 hfl), by rw [List.length_range, sizeLine_eq]; exact o9_255 hc2 hc8 hfl, ?_, ?_⟩
  · intro F' hF' k hk
    have hk' := List.mem_range.mp hk
    refine As_Name (hF'.sto _ (.inl (by kernel_rfl))) ?_
    refine ⟨rfl, ?_⟩
    simp only [if_true]
    (repeat (with_reducible first | (refine Ev_Nm (p := ?_) ?_ ?_; rotate_left; · repeat (first | exact Loc.here | refine Loc.there (by decide) ?_)) | apply Ev_Int | apply Ev_None | apply Ev_Str | apply Ev_BinOp | refine Ev_Compare ?_ (by with_unfolding_all rfl) | apply Ev_Subscript | apply Ev_IfExp | refine EvB_Compare ?_ (by with_unfolding_all rfl) | apply EvB_Not | apply EvB_And | apply EvB_Or | apply EvP_none | apply EvP_some | apply EvL_nil | refine EvL_cons ?_ (by with_unfolding_all rfl) | apply op_add | apply op_sub | apply op_lt | apply op_le | apply op_gt | apply op_ge | apply op_eq | apply op_iadd))
    refine Ev_Bi "abs" hK (hF'.kind _ _ (by kernel_rfl) (by decide)) (by kernel_rfl) (by decide +kernel) (by decide) (EvL_cons ?_ rfl)
    refine Ev_Bi "sum" hK (hF'.kind _ _ (by kernel_rfl) (by decide)) (by kernel_rfl) (by decide +kernel) (by decide) (EvL_cons (Ev_Slice ?_) rfl)
    (repeat (with_reducible first | (refine Ev_Nm (p := ?_) ?_ ?_; rotate_left; · repeat (first | exact Loc.here | refine Loc.there (by decide) ?_)) | apply Ev_Int | apply Ev_None | apply Ev_Str | apply Ev_BinOp | refine Ev_Compare ?_ (by with_unfolding_all rfl) | apply Ev_Subscript | apply Ev_IfExp | refine EvB_Compare ?_ (by with_unfolding_all rfl) | apply EvB_Not | apply EvB_And | apply EvB_Or | apply EvP_none | apply EvP_some | apply EvL_nil | refine EvL_cons ?_ (by with_unfolding_all rfl) | apply op_add | apply op_sub | apply op_lt | apply op_le | apply op_gt | apply op_ge | apply op_eq | apply op_iadd))
    refine op_mul (mul_okL (by decide) (by decide)) ?_
    (repeat (with_reducible first | (refine Ev_Nm (p := ?_) ?_ ?_; rotate_left; · repeat (first | exact Loc.here | refine Loc.there (by decide) ?_)) | apply Ev_Int | apply Ev_None | apply Ev_Str | apply Ev_BinOp | refine Ev_Compare ?_ (by with_unfolding_all rfl) | apply Ev_Subscript | apply Ev_IfExp | refine EvB_Compare ?_ (by with_unfolding_all rfl) | apply EvB_Not | apply EvB_And | apply EvB_Or | apply EvP_none | apply EvP_some | apply EvL_nil | refine EvL_cons ?_ (by with_unfolding_all rfl) | apply op_add | apply op_sub | apply op_lt | apply op_le | apply op_gt | apply op_ge | apply op_eq | apply op_iadd))
    refine ⟨_, rfl, ?_⟩
    (repeat (with_reducible first | (refine Ev_Nm (p := ?_) ?_ ?_; rotate_left; · repeat (first | exact Loc.here | refine Loc.there (by decide) ?_)) | apply Ev_Int | apply Ev_None | apply Ev_Str | apply Ev_BinOp | refine Ev_Compare ?_ (by with_unfolding_all rfl) | apply Ev_Subscript | apply Ev_IfExp | refine EvB_Compare ?_ (by with_unfolding_all rfl) | apply EvB_Not | apply EvB_And | apply EvB_Or | apply EvP_none | apply EvP_some | apply EvL_nil | refine EvL_cons ?_ (by with_unfolding_all rfl) | apply op_add | apply op_sub | apply op_lt | apply op_le | apply op_gt | apply op_ge | apply op_eq | apply op_iadd))
    refine op_mul (mul_okL (by decide) (by decide)) ?_
    refine ⟨_, rfl, by simp; exact o9_256 hc2 hc8 hfl, a, _, rfl, hH1, fun a' ha' => ?_⟩
    refine EvL_nil (op_sum (ns := pickL ns (some (2 * k + 1)) none (some (2 * c))) (by rw [hF'.A]; exact hFh) (AH.set_same ..) ?_ ?_)
    · rw [HO.items_lst, HO.items_fro, pickL_map]
    refine EvL_nil (op_abs ?_)
    (repeat (with_reducible first | (refine Ev_Nm (p := ?_) ?_ ?_; rotate_left; · repeat (first | exact Loc.here | refine Loc.there (by decide) ?_)) | apply Ev_Int | apply Ev_None | apply Ev_Str | apply Ev_BinOp | refine Ev_Compare ?_ (by with_unfolding_all rfl) | apply Ev_Subscript | apply Ev_IfExp | refine EvB_Compare ?_ (by with_unfolding_all rfl) | apply EvB_Not | apply EvB_And | apply EvB_Or | apply EvP_none | apply EvP_some | apply EvL_nil | refine EvL_cons ?_ (by with_unfolding_all rfl) | apply op_add | apply op_sub | apply op_lt | apply op_le | apply op_gt | apply op_ge | apply op_eq | apply op_iadd))
    exact ⟨rfl, AH.le_new ha'⟩
  intro a2 ha2
  rw [filter_yes]
  obtain ⟨ss, hss, hsl, hsp⟩ : ∃ ss : List Int, (List.range c).map (fun k : Nat => PV.int (1 + (if (pickL ns (some (2 * (k : Int) + 1)) none (some (2 * (c : Int)))).sum < 0 then -(pickL ns (some (2 * (k : Int) + 1)) none (some (2 * (c : Int)))).sum else (pickL ns (some (2 * (k : Int) + 1)) none (some (2 * (c : Int)))).sum))) = ss.map .int ∧ ss.length = c ∧ ∀ x ∈ ss, 1 ≤ x :=
    ⟨(List.range c).map fun k : Nat => 1 + (if (pickL ns (some (2 * (k : Int) + 1)) none (some (2 * (c : Int)))).sum < 0 then -(pickL ns (some (2 * (k : Int) + 1)) none (some (2 * (c : Int)))).sum else (pickL ns (some (2 * (k : Int) + 1)) none (some (2 * (c : Int)))).sum), by rw [List.map_map]; rfl, by simp, fun x hx => by
      refine hide fun WW9 hW9 => ?_
      obtain ⟨k, _, eq9_0⟩ := List.mem_map.mp hx
      refine hW9 ?_
      clear hW9 WW9
      subst eq9_0
      split <;> (first | exact o9_257 (by assumption) | exact o9_258 (by assumption))⟩
  rw [hss]; clear hss
  have h21 : a2 ≠ a1 := by rintro rfl; rw [AH.set_same] at ha2; cases ha2
  have h2a : a2 ≠ a := by rintro rfl; rw [hH1] at ha2; cases ha2
  have h1a : a1 ≠ a := by rintro rfl; rw [hH] at ha1; cases ha1
  have tail : ∀ (gs : List Int) (a3 : Addr) (H' : AH) (σ' : Loc), gs.length = c → AH.le ((H.set a3 (.lst (gs.map .int))).set a2 (.lst (ss.map .int))) H' → H a3 = none → H a2 = none → a3 ≠ a2 → Loc.le ((((Loc.nil.set "script" (.ref a)).set "count" (.int c)).set "firsts" (.ref a3)).set "takes" (.ref a2)) σ' →
      Exs G F ((bodyOf (fnOf (KK G) 72)).drop 4) σ' H' (fun f _ H' => match f with | .ret p => ∃ H'', AH.le H'' H' ∧ Q p H'' | _ => ∃ H'', AH.le H'' H' ∧ Q .none H'') := by
    intro gs a3 H' σ' hgl hle h3 h2 hne hσ
    refine Exs.le ?_ hσ
    show Exs G F (_ :: _) _ _ _
    refine Exs_cons (Ex_Return (Ev_Tuple ?_))
    (repeat (with_reducible first | (refine Ev_Nm (p := ?_) ?_ ?_; rotate_left; · repeat (first | exact Loc.here | refine Loc.there (by decide) ?_)) | apply Ev_Int | apply Ev_None | apply Ev_Str | apply Ev_BinOp | refine Ev_Compare ?_ (by with_unfolding_all rfl) | apply Ev_Subscript | apply Ev_IfExp | refine EvB_Compare ?_ (by with_unfolding_all rfl) | apply EvB_Not | apply EvB_And | apply EvB_Or | apply EvP_none | apply EvP_some | apply EvL_nil | refine EvL_cons ?_ (by with_unfolding_all rfl) | apply op_add | apply op_sub | apply op_lt | apply op_le | apply op_gt | apply op_ge | apply op_eq | apply op_iadd))
    exact ⟨by rw [sizeLine_eq]; exact Nat.le_of_ble_eq_true rfl, _, hle, hQ gs ss (by exact o9_259 hgl hsl hfl) (by exact o9_260 hc2 hc8 hfl hsl hgl) (by exact o9_261 hc2 hc8 hfl hsl hgl) hsp a3 a2 h3 h2 hne⟩
  refine Exs_cons (Ex_If ?_)
  (repeat (with_reducible first | (refine Ev_Nm (p := ?_) ?_ ?_; rotate_left; · repeat (first | exact Loc.here | refine Loc.there (by decide) ?_)) | apply Ev_Int | apply Ev_None | apply Ev_Str | apply Ev_BinOp | refine Ev_Compare ?_ (by with_unfolding_all rfl) | apply Ev_Subscript | apply Ev_IfExp | refine EvB_Compare ?_ (by with_unfolding_all rfl) | apply EvB_Not | apply EvB_And | apply EvB_Or | apply EvP_none | apply EvP_some | apply EvL_nil | refine EvL_cons ?_ (by with_unfolding_all rfl) | apply op_add | apply op_sub | apply op_lt | apply op_le | apply op_gt | apply op_ge | apply op_eq | apply op_iadd))
  refine Ev_Bi "sum" hK (kind_of hF (by kernel_rfl)) (by kernel_rfl) (by decide +kernel) (by decide) ?_
  (repeat (with_reducible first | (refine Ev_Nm (p := ?_) ?_ ?_; rotate_left; · repeat (first | exact Loc.here | refine Loc.there (by decide) ?_)) | apply Ev_Int | apply Ev_None | apply Ev_Str | apply Ev_BinOp | refine Ev_Compare ?_ (by with_unfolding_all rfl) | apply Ev_Subscript | apply Ev_IfExp | refine EvB_Compare ?_ (by with_unfolding_all rfl) | apply EvB_Not | apply EvB_And | apply EvB_Or | apply EvP_none | apply EvP_some | apply EvL_nil | refine EvL_cons ?_ (by with_unfolding_all rfl) | apply op_add | apply op_sub | apply op_lt | apply op_le | apply op_gt | apply op_ge | apply op_eq | apply op_iadd))
  refine op_sum (ns := ns) hFh (by rw [AH.set_ne _ _ (Ne.symm h2a)]; exact hH1) rfl ?_
  (repeat (with_reducible first | (refine Ev_Nm (p := ?_) ?_ ?_; rotate_left; · repeat (first | exact Loc.here | refine Loc.there (by decide) ?_)) | apply Ev_Int | apply Ev_None | apply Ev_Str | apply Ev_BinOp | refine Ev_Compare ?_ (by with_unfolding_all rfl) | apply Ev_Subscript | apply Ev_IfExp | refine EvB_Compare ?_ (by with_unfolding_all rfl) | apply EvB_Not | apply EvB_And | apply EvB_Or | apply EvP_none | apply EvP_some | apply EvL_nil | refine EvL_cons ?_ (by with_unfolding_all rfl) | apply op_add | apply op_sub | apply op_lt | apply op_le | apply op_gt | apply op_ge | apply op_eq | apply op_iadd))
  refine op_mod (by decide) ?_
  (repeat (with_reducible first | (refine Ev_Nm (p := ?_) ?_ ?_; rotate_left; · repeat (first | exact Loc.here | refine Loc.there (by decide) ?_)) | apply Ev_Int | apply Ev_None | apply Ev_Str | apply Ev_BinOp | refine Ev_Compare ?_ (by with_unfolding_all rfl) | apply Ev_Subscript | apply Ev_IfExp | refine EvB_Compare ?_ (by with_unfolding_all rfl) | apply EvB_Not | apply EvB_And | apply EvB_Or | apply EvP_none | apply EvP_some | apply EvL_nil | refine EvL_cons ?_ (by with_unfolding_all rfl) | apply op_add | apply op_sub | apply op_lt | apply op_le | apply op_gt | apply op_ge | apply op_eq | apply op_iadd))
  refine ⟨_, rfl, ?_⟩
  have hle2 : AH.le H ((H.set a1 (.lst (fs.map .int))).set a2 (.lst (ss.map .int))) := AH.le_trans (AH.le_new ha1) (AH.le_new ha2)
  have hf1 : ((H.set a1 (.lst (fs.map .int))).set a2 (.lst (ss.map .int))) a1 = some (.lst (fs.map .int)) := by rw [AH.set_ne _ _ (Ne.symm h21), AH.set_same]
  split
  · refine Exs_cons (Ex_hold hf1 ?_)
    refine Ex_CompL (α := Int) (τ := Loc.nil.set "takes" (.ref a2)) (fun i => .int i) (fun _ => true) (fun x => .int (x.fmod ss.sum)) hF (by kernel_rfl) (by kernel_rfl) (by kernel_rfl) (by (repeat (first | exact Loc.le_nil _ | (refine Loc.le_set (Loc.fr_app (by kernel_rfl) (by (with_reducible repeat (first | exact Loc.here | refine Loc.there (by decide) ?_)))) ?_)))) rfl (by kernel_rfl) ?_
    (repeat (with_reducible first | (refine Ev_Nm (p := ?_) ?_ ?_; rotate_left; · repeat (first | exact Loc.here | refine Loc.there (by decide) ?_)) | apply Ev_Int | apply Ev_None | apply Ev_Str | apply Ev_BinOp | refine Ev_Compare ?_ (by with_unfolding_all rfl) | apply Ev_Subscript | apply Ev_IfExp | refine EvB_Compare ?_ (by with_unfolding_all rfl) | apply EvB_Not | apply EvB_And | apply EvB_Or | apply EvP_none | apply EvP_some | apply EvL_nil | refine EvL_cons ?_ (by with_unfolding_all rfl) | apply op_add | apply op_sub | apply op_lt | apply op_le | apply op_gt | apply op_ge | apply op_eq | apply op_iadd))
    have hfr : (((H.set a1 (.lst (fs.map .int))).set a2 (.lst (ss.map .int))).set a1 (.fro (HO.lst (fs.map .int)).items)) a1 = some (.fro (fs.map .int)) := AH.set_same ..
    have hs2 : (((H.set a1 (.lst (fs.map .int))).set a2 (.lst (ss.map .int))).set a1 (.fro (HO.lst (fs.map .int)).items)) a2 = some (.lst (ss.map .int)) := by rw [AH.set_ne _ _ h21, AH.set_same]
    have hspos : ss.sum ≠ 0 := by
      have key : ∀ l : List Int, (∀ x ∈ l, 1 ≤ x) → (l.length : Int) ≤ l.sum := by
        intro l; induction l with
        | nil => intro _; simp
        | cons x l ih => intro h; have := ih fun y hy => h y (List.mem_cons_of_mem _ hy); have := h x (List.mem_cons_self ..); simp only [List.length_cons, List.sum_cons]; exact o9_262 (by assumption) this
      have := key ss hsp; exact o9_263 hc2 hc8 hfl hsl this
    refine ⟨fs, Iter_list hFh hfr (not_mut_fro hfr), by rw [hfl, sizeLine_eq]; exact o9_264 hc2 hc8 hfl hsl, ?_, ?_⟩
    · intro F' hF' x hx
      refine As_Name (hF'.sto _ (.inl (by kernel_rfl))) ?_
      refine ⟨rfl, ?_⟩
      simp only [if_true]
      (repeat (with_reducible first | (refine Ev_Nm (p := ?_) ?_ ?_; rotate_left; · repeat (first | exact Loc.here | refine Loc.there (by decide) ?_)) | apply Ev_Int | apply Ev_None | apply Ev_Str | apply Ev_BinOp | refine Ev_Compare ?_ (by with_unfolding_all rfl) | apply Ev_Subscript | apply Ev_IfExp | refine EvB_Compare ?_ (by with_unfolding_all rfl) | apply EvB_Not | apply EvB_And | apply EvB_Or | apply EvP_none | apply EvP_some | apply EvL_nil | refine EvL_cons ?_ (by with_unfolding_all rfl) | apply op_add | apply op_sub | apply op_lt | apply op_le | apply op_gt | apply op_ge | apply op_eq | apply op_iadd))
      refine Ev_Bi "sum" hK (hF'.kind _ _ (by kernel_rfl) (by decide)) (by kernel_rfl) (by decide +kernel) (by decide) ?_
      (repeat (with_reducible first | (refine Ev_Nm (p := ?_) ?_ ?_; rotate_left; · repeat (first | exact Loc.here | refine Loc.there (by decide) ?_)) | apply Ev_Int | apply Ev_None | apply Ev_Str | apply Ev_BinOp | refine Ev_Compare ?_ (by with_unfolding_all rfl) | apply Ev_Subscript | apply Ev_IfExp | refine EvB_Compare ?_ (by with_unfolding_all rfl) | apply EvB_Not | apply EvB_And | apply EvB_Or | apply EvP_none | apply EvP_some | apply EvL_nil | refine EvL_cons ?_ (by with_unfolding_all rfl) | apply op_add | apply op_sub | apply op_lt | apply op_le | apply op_gt | apply op_ge | apply op_eq | apply op_iadd))
      refine op_sum (ns := ss) (by rw [hF'.A]; exact hFh) hs2 rfl ?_
      (repeat (with_reducible first | (refine Ev_Nm (p := ?_) ?_ ?_; rotate_left; · repeat (first | exact Loc.here | refine Loc.there (by decide) ?_)) | apply Ev_Int | apply Ev_None | apply Ev_Str | apply Ev_BinOp | refine Ev_Compare ?_ (by with_unfolding_all rfl) | apply Ev_Subscript | apply Ev_IfExp | refine EvB_Compare ?_ (by with_unfolding_all rfl) | apply EvB_Not | apply EvB_And | apply EvB_Or | apply EvP_none | apply EvP_some | apply EvL_nil | refine EvL_cons ?_ (by with_unfolding_all rfl) | apply op_add | apply op_sub | apply op_lt | apply op_le | apply op_gt | apply op_ge | apply op_eq | apply op_iadd))
      exact op_mod hspos ⟨rfl, AH.le_refl _⟩
    intro a3 ha3
    rw [filter_yes]
    have h31 : a3 ≠ a1 := by rintro rfl; rw [hfr] at ha3; cases ha3
    have h32 : a3 ≠ a2 := by rintro rfl; rw [hs2] at ha3; cases ha3
    have hH2 : H a2 = none := by rw [AH.set_ne _ _ h21] at ha2; exact ha2
    have ha3' : H a3 = none := by rw [AH.set_ne _ _ h31, AH.set_ne _ _ h32, AH.set_ne _ _ h31] at ha3; exact ha3
    refine Exs_nil (tail (fs.map fun x => x.fmod ss.sum) a3 _ _ (by rw [List.length_map]; exact hfl) ?_ ha3' hH2 h32 ?_)
    · rw [AH.set_comm _ _ _ h31, AH.set_set, AH.set_self hf1, AH.set_comm _ _ _ (Ne.symm h32), List.map_map]
      refine AH.le_set _ _ (AH.le_set _ _ (AH.le_new ha1))
    · (repeat (first | exact Loc.le_nil _ | (refine Loc.le_set (by (with_reducible repeat (first | exact Loc.here | refine Loc.there (by decide) ?_))) ?_)))
  · have hH2 : H a2 = none := by rw [AH.set_ne _ _ h21] at ha2; exact ha2
    refine Exs_nil (tail fs a1 _ _ hfl (AH.le_refl _) ha1 hH2 (Ne.symm h21) ?_)
    (repeat (first | exact Loc.le_nil _ | (refine Loc.le_set (by (with_reducible repeat (first | exact Loc.here | refine Loc.there (by decide) ?_))) ?_)))


noncomputable def hrs (r p : Nat → Int) (S : List Nat) (t : Int) : Int := ((S.filter fun j => decide (t ≤ r j)).map p).sum
theorem sum_perm {l l' : List Int} (h : l.Perm l') : l.sum = l'.sum := by
  induction h with
  | nil => rfl
  | cons x _ ih => simp [ih]
  | swap x y l => simp; exact o9_265
  | trans _ _ h1 h2 => exact h1.trans h2
theorem hrs_perm {r p : Nat → Int} {S S' : List Nat} (h : S.Perm S') (t : Int) : hrs r p S t = hrs r p S' t := sum_perm ((h.filter _).map _)
theorem hrs_cons {r p : Nat → Int} (j : Nat) (S : List Nat) (t : Int) : hrs r p (j :: S) t = (if t ≤ r j then p j else 0) + hrs r p S t := by
  unfold hrs
  by_cases h : t ≤ r j
  · rw [List.filter_cons_of_pos (by simpa using h), List.map_cons, List.sum_cons, if_pos h]
  · rw [List.filter_cons_of_neg (by simpa using h), if_neg h, Int.zero_add]
theorem hrs_nn {r p : Nat → Int} (hp : ∀ j, 1 ≤ p j) (t : Int) : ∀ S : List Nat, 0 ≤ hrs r p S t
  | [] => by simp [hrs]
  | j :: S => by
    rw [hrs_cons]
    have := hrs_nn (r := r) hp t S
    have := hp j
    split <;> (first | exact o9_266 (by assumption) this | exact o9_267 (by assumption))
theorem hrs_none {r p : Nat → Int} {t : Int} : ∀ {S : List Nat}, (∀ j ∈ S, r j < t) → hrs r p S t = 0
  | [], _ => by simp [hrs]
  | j :: S, h => by
    rw [hrs_cons, if_neg (by have := h j List.mem_cons_self; exact o9_268 this), hrs_none fun i hi => h i (List.mem_cons_of_mem _ hi)]; rfl
noncomputable def Over (r p : Nat → Int) (S : List Nat) (C : Int) : Prop := ∀ i ∈ S, r i + hrs r p S (r i) ≤ C
noncomputable def Late (r p : Nat → Int) (S : List Nat) (C : Int) : Prop := ∃ i ∈ S, C ≤ r i + hrs r p S (r i)
theorem Late.mono {r p : Nat → Int} {S : List Nat} {C C' : Int} (h : Late r p S C) (hc : C' ≤ C) : Late r p S C' := by obtain ⟨i, hi, h⟩ := h; exact ⟨i, hi, Int.le_trans hc h⟩
noncomputable def EndAt (r p : Nat → Int) (n k : Nat) (C : Int) : Prop := (∀ S : List Nat, S.Nodup → (∀ j ∈ S, j < n) → S.length = k → Late r p S C) ∧ ∃ S : List Nat, S.Nodup ∧ (∀ j ∈ S, j < n) ∧ S.length = k ∧ Over r p S C
noncomputable def left (T : List (Int × Nat)) : Int := (T.map (·.1)).sum
theorem left_perm {T T' : List (Int × Nat)} (h : T.Perm T') : left T = left T' := sum_perm (h.map _)
theorem left_cons (m : Int × Nat) (T : List (Int × Nat)) : left (m :: T) = m.1 + left T := rfl
theorem left_nn : ∀ {T : List (Int × Nat)}, (∀ x ∈ T, 0 < x.1) → 0 ≤ left T
  | [], _ => Int.le_refl _
  | m :: T, h => by
    have := left_nn fun x hx => h x (List.mem_cons_of_mem _ hx)
    have := h m List.mem_cons_self
    rw [left_cons]; exact o9_269 this (by assumption)
structure SInv (r p : Nat → Int) (n : Nat) (Ar : List Nat) (now : Int) (hp : List (Int × Nat)) (ends : List Int) (done : List Nat) : Prop where
  nd : Ar.Nodup
  lt : ∀ j ∈ Ar, j < n
  perm : (done ++ hp.map (·.2)).Perm Ar
  len : ends.length = done.length
  pos : ∀ x ∈ hp, 0 < x.1
  rel : ∀ j ∈ Ar, r j ≤ now
  lo : ∀ S : List Nat, S.Nodup → (∀ j ∈ S, j ∈ Ar) → ∀ q, S.length = done.length + q → 1 ≤ q → ∃ T U, (T ++ U).Perm hp ∧ T.length = q ∧ Late r p S (now + left T)
  hi : ∀ T U, (T ++ U).Perm hp → ∀ t, t ≤ now → t + hrs r p (done ++ T.map (·.2)) t ≤ now + left T
  out : ∀ k C, ends[k]? = some C → EndAt r p n (k + 1) C
section
variable {r p : Nat → Int} {n : Nat} {Ar : List Nat} {now : Int} {hp hp' : List (Int × Nat)} {ends : List Int} {done : List Nat}
theorem SInv.start (r p : Nat → Int) (n : Nat) (now : Int) : SInv r p n [] now [] [] [] := by
  refine ⟨List.nodup_nil, by simp, List.Perm.refl _, rfl, by simp, by simp, fun S hn hS q hq h1 => ?_, fun T U h t ht => ?_, by simp⟩
  · cases S with
    | nil => simp at hq; exact (o9_270 hq h1).elim
    | cons j S => have := hS j List.mem_cons_self; cases this
  · have := h.length_eq
    rw [List.length_append] at this
    have hT : T = [] := List.length_eq_zero_iff.mp (by simp at this; simp [this])
    subst hT
    simp [hrs, left]; exact o9_271 ht
theorem SInv.reheap (x : SInv r p n Ar now hp ends done) (h : hp.Perm hp') : SInv r p n Ar now hp' ends done :=
  ⟨x.nd, x.lt, ((h.map _).symm.append_left done).trans x.perm, x.len, fun y hy => x.pos y (h.mem_iff.mpr hy), x.rel, fun S a b q c d => by
    obtain ⟨T, U, e1, e2, e3⟩ := x.lo S a b q c d; exact ⟨T, U, e1.trans h, e2, e3⟩, fun T U e => x.hi T U (e.trans h.symm), x.out⟩
theorem SInv.card (x : SInv r p n Ar now hp ends done) : Ar.length = done.length + hp.length := by
  have := x.perm.length_eq; rw [List.length_append, List.length_map] at this; exact o9_272 this
theorem sub_card : ∀ {S Ar : List Nat}, S.Nodup → (∀ j ∈ S, j ∈ Ar) → S.length ≤ Ar.length
  | [], _, _, _ => Nat.zero_le _
  | j :: S, Ar, hS, h => by
    obtain ⟨h1, h2⟩ := List.nodup_cons.mp hS
    have hp := List.perm_cons_erase (h j List.mem_cons_self)
    have := sub_card (S := S) (Ar := Ar.erase j) h2 fun i hi => by
      have := hp.mem_iff.mp (h i (List.mem_cons_of_mem _ hi))
      rcases List.mem_cons.mp this with rfl | this
      · exact absurd hi h1
      · exact this
    rw [hp.length_eq, List.length_cons, List.length_cons]; exact o9_273 this

theorem SInv.idle (x : SInv r p n Ar now [] ends done) {f : Int} (hf : now ≤ f) : SInv r p n Ar f [] ends done := by
  refine ⟨x.nd, x.lt, x.perm, x.len, x.pos, fun j hj => Int.le_trans (x.rel j hj) hf, fun S hn hS q hq h1 => ?_, fun T U h t ht => ?_, x.out⟩
  · have h1 := sub_card hn hS
    have h2 := x.card
    rw [List.length_nil] at h2; exact (o9_274 (by assumption) h2 hq h1).elim
  · have hT : T = [] := by
      have := h.length_eq
      rw [List.length_append, List.length_nil] at this
      exact List.length_eq_zero_iff.mp (by exact o9_275 this)
    by_cases ht' : t ≤ now
    · have := x.hi T U h t ht'; exact o9_276 this hf
    · subst hT
      have : hrs r p (done ++ List.map (fun z : Int × Nat => z.2) []) t = 0 := hrs_none fun j hj => by
        have hj' : j ∈ done := by simpa using hj
        have := x.rel j (x.perm.mem_iff.mp (List.mem_append_left _ hj')); exact o9_277 this ht'
      rw [this]; simp [left]; exact o9_271 ht

theorem SInv.work {m : Int × Nat} {rest : List (Int × Nat)} {d : Int} (x : SInv r p n Ar now (m :: rest) ends done) (hm : ∀ z ∈ rest, m.1 ≤ z.1) (h0 : 0 ≤ d) (hd : d < m.1) :
    SInv r p n Ar (now + d) ((m.1 - d, m.2) :: rest) ends done := by
  refine ⟨x.nd, x.lt, x.perm, x.len, fun z hz => ?_, fun j hj => by have := x.rel j hj; exact o9_278 h0 this, fun S hn hS q hq h1 => ?_, fun T U h t ht => ?_, x.out⟩
  · rcases List.mem_cons.mp hz with rfl | hz
    · show 0 < m.1 - d; exact o9_279 hd
    · exact x.pos z (List.mem_cons_of_mem _ hz)
  · obtain ⟨T, U, e1, e2, e3⟩ := x.lo S hn hS q hq h1
    have hmem : m ∈ T ++ U := e1.mem_iff.mpr List.mem_cons_self
    rcases List.mem_append.mp hmem with hT | hU
    · obtain ⟨T1, hT1⟩ : ∃ T1, T.Perm (m :: T1) := ⟨_, List.perm_cons_erase hT⟩
      have hrest : (T1 ++ U).Perm rest := List.Perm.cons_inv ((hT1.symm.append_right U).trans e1)
      refine ⟨(m.1 - d, m.2) :: T1, U, List.Perm.cons _ hrest, by rw [← e2, hT1.length_eq]; rfl, e3.mono ?_⟩
      rw [left_perm hT1, left_cons, left_cons]
      show now + d + (m.1 - d + left T1) ≤ _; exact o9_280
    · obtain ⟨U1, hU1⟩ : ∃ U1, U.Perm (m :: U1) := ⟨_, List.perm_cons_erase hU⟩
      cases T with
      | nil => simp at e2; exact (o9_270 e2 h1).elim
      | cons t T1 =>
        have hrest : ((t :: T1) ++ U1).Perm rest := by
          refine List.Perm.cons_inv (a := m) (List.Perm.trans ?_ e1)
          exact (List.perm_middle (l₁ := t :: T1)).symm.trans (hU1.symm.append_left _)
        refine ⟨(m.1 - d, m.2) :: T1, t :: U1, List.Perm.cons _ ((List.perm_middle (l₁ := T1) (a := t)).trans hrest), by simpa using e2, e3.mono ?_⟩
        have := hm t (hrest.mem_iff.mp (List.mem_append_left _ List.mem_cons_self))
        rw [left_cons, left_cons]
        show now + d + (m.1 - d + left T1) ≤ _; exact o9_281 this
  · by_cases ht' : t ≤ now
    · have hmem : (m.1 - d, m.2) ∈ T ++ U := h.mem_iff.mpr List.mem_cons_self
      rcases List.mem_append.mp hmem with hT | hU
      · obtain ⟨T1, hT1⟩ : ∃ T1, T.Perm ((m.1 - d, m.2) :: T1) := ⟨_, List.perm_cons_erase hT⟩
        have hrest : (T1 ++ U).Perm rest := List.Perm.cons_inv ((hT1.symm.append_right U).trans h)
        have := x.hi (m :: T1) U (List.Perm.cons _ hrest) t ht'
        rw [hrs_perm ((hT1.map (·.2)).append_left done), left_perm hT1]
        rw [left_cons] at this ⊢
        simp only [List.map_cons] at this ⊢
        exact o9_282 this
      · obtain ⟨U1, hU1⟩ : ∃ U1, U.Perm ((m.1 - d, m.2) :: U1) := ⟨_, List.perm_cons_erase hU⟩
        have hrest : (T ++ U1).Perm rest := List.Perm.cons_inv (a := (m.1 - d, m.2)) ((List.perm_middle (l₁ := T)).symm.trans ((hU1.symm.append_left _).trans h))
        have := x.hi T (m :: U1) ((List.perm_middle (l₁ := T)).trans (List.Perm.cons _ hrest)) t ht'
        exact o9_283 h0 this
    · have hz : hrs r p (done ++ T.map (·.2)) t = 0 := hrs_none fun j hj => by
        have : j ∈ done ++ (m :: rest).map (·.2) := by
          rcases List.mem_append.mp hj with hj | hj
          · exact List.mem_append_left _ hj
          · refine List.mem_append_right _ ?_
            obtain ⟨z, hz, rfl⟩ := List.mem_map.mp hj
            have hz' : z ∈ (m.1 - d, m.2) :: rest := h.mem_iff.mp (List.mem_append_left _ hz)
            rcases List.mem_cons.mp hz' with rfl | hz'
            · exact List.mem_map.mpr ⟨m, List.mem_cons_self, rfl⟩
            · exact List.mem_map.mpr ⟨z, List.mem_cons_of_mem _ hz', rfl⟩
        have := x.rel j (x.perm.mem_iff.mp this); exact o9_277 this ht'
      have hT : 0 ≤ left T := left_nn fun z hz => by
        have hz' : z ∈ (m.1 - d, m.2) :: rest := h.mem_iff.mp (List.mem_append_left _ hz)
        rcases List.mem_cons.mp hz' with rfl | hz'
        · show 0 < m.1 - d; exact o9_279 hd
        · exact x.pos z (List.mem_cons_of_mem _ hz')
      rw [hz]; exact o9_284 hT ht

theorem SInv.come {j : Nat} (x : SInv r p n Ar now hp ends done) (hj : j ∉ Ar) (hjn : j < n) (hr : r j = now) (hp1 : ∀ j, 1 ≤ p j) : SInv r p n (j :: Ar) now ((p j, j) :: hp) ends done := by
  refine ⟨List.nodup_cons.mpr ⟨hj, x.nd⟩, fun i hi => ?_, ?_, x.len, fun z hz => ?_, fun i hi => ?_, fun S hn hS q hq h1 => ?_, fun T U h t ht => ?_, x.out⟩
  · rcases List.mem_cons.mp hi with rfl | hi
    · exact hjn
    · exact x.lt i hi
  · exact List.perm_middle.trans (List.Perm.cons j x.perm)
  · rcases List.mem_cons.mp hz with rfl | hz
    · have := hp1 j; show 0 < p j; exact o9_285 this
    · exact x.pos z hz
  · rcases List.mem_cons.mp hi with rfl | hi
    · rw [hr]; exact Int.le_refl _
    · exact x.rel i hi
  · by_cases hjS : j ∈ S
    · have hpm := List.perm_cons_erase hjS
      have hn' := (hpm.nodup_iff.mp hn)
      obtain ⟨hj0, hn0⟩ := List.nodup_cons.mp hn'
      have hS0 : ∀ i ∈ S.erase j, i ∈ Ar := fun i hi => by
        have := hS i (List.mem_of_mem_erase hi)
        rcases List.mem_cons.mp this with rfl | this
        · exact absurd hi hj0
        · exact this
      have hl0 : S.length = (S.erase j).length + 1 := by rw [hpm.length_eq]; rfl
      by_cases hq1 : q = 1
      · refine ⟨[(p j, j)], hp, List.Perm.refl _, by simp [hq1], j, hjS, ?_⟩
        rw [hrs_perm hpm, hrs_cons, if_pos (Int.le_refl _), hr]
        have := hrs_nn (r := r) hp1 now (S.erase j)
        show now + (p j + 0) ≤ _; exact o9_286 this
      · obtain ⟨T, U, e1, e2, i, hi, e3⟩ := x.lo (S.erase j) hn0 hS0 (q - 1) (by exact o9_287 h1 hl0 hq) (by exact o9_288 h1 hq1)
        refine ⟨(p j, j) :: T, U, List.Perm.cons _ e1, by simp [e2]; exact o9_289 h1, i, List.mem_of_mem_erase hi, ?_⟩
        rw [hrs_perm hpm, hrs_cons, if_pos (by rw [hr]; exact x.rel i (hS0 i hi)), left_cons]
        show now + (p j + left T) ≤ _; exact o9_290 e3
    · obtain ⟨T, U, e1, e2, e3⟩ := x.lo S hn (fun i hi => by
        rcases List.mem_cons.mp (hS i hi) with rfl | h
        · exact absurd hi hjS
        · exact h) q hq h1
      exact ⟨T, (p j, j) :: U, List.perm_middle.trans (List.Perm.cons _ e1), e2, e3⟩
  · have hmem : (p j, j) ∈ T ++ U := h.mem_iff.mpr List.mem_cons_self
    rcases List.mem_append.mp hmem with hT | hU
    · obtain ⟨T1, hT1⟩ : ∃ T1, T.Perm ((p j, j) :: T1) := ⟨_, List.perm_cons_erase hT⟩
      have hrest : (T1 ++ U).Perm hp := List.Perm.cons_inv ((hT1.symm.append_right U).trans h)
      have := x.hi T1 U hrest t ht
      have e : (done ++ T.map (·.2)).Perm (j :: (done ++ T1.map (·.2))) := ((hT1.map (·.2)).append_left done).trans List.perm_middle
      rw [hrs_perm e, hrs_cons, if_pos (by exact o9_291 ht hr), left_perm hT1, left_cons]
      show t + (p j + _) ≤ now + (p j + left T1); exact o9_290 this
    · obtain ⟨U1, hU1⟩ : ∃ U1, U.Perm ((p j, j) :: U1) := ⟨_, List.perm_cons_erase hU⟩
      have hrest : (T ++ U1).Perm hp := List.Perm.cons_inv (a := (p j, j)) ((List.perm_middle (l₁ := T)).symm.trans ((hU1.symm.append_left _).trans h))
      exact x.hi T U1 hrest t ht

theorem SInv.pop {m : Int × Nat} {rest : List (Int × Nat)} (x : SInv r p n Ar now (m :: rest) ends done) (hm : ∀ z ∈ rest, m.1 ≤ z.1) (hp1 : ∀ j, 1 ≤ p j) (hfut : ∀ j, j < n → j ∉ Ar → now + m.1 ≤ r j) :
    SInv r p n Ar (now + m.1) rest (ends ++ [now + m.1]) (done ++ [m.2]) := by
  have hm0 := x.pos m List.mem_cons_self
  have hmin : ∀ z ∈ m :: rest, m.1 ≤ z.1 := fun z hz => by
    rcases List.mem_cons.mp hz with rfl | hz
    · exact Int.le_refl _
    · exact hm z hz
  have hperm : (done ++ [m.2] ++ rest.map (·.2)).Perm Ar := by rw [List.append_assoc]; exact x.perm
  have hi' : ∀ T U, (T ++ U).Perm rest → ∀ t, t ≤ now + m.1 → t + hrs r p (done ++ [m.2] ++ T.map (·.2)) t ≤ now + m.1 + left T := fun T U h t ht => by
    by_cases ht' : t ≤ now
    · have := x.hi (m :: T) U (List.Perm.cons _ h) t ht'
      rw [left_cons] at this
      rw [List.append_assoc]
      simp only [List.map_cons] at this
      show t + hrs r p (done ++ (m.2 :: T.map (·.2))) t ≤ _; exact o9_292 this
    · have hz : hrs r p (done ++ [m.2] ++ T.map (·.2)) t = 0 := hrs_none fun j hj => by
        have : j ∈ done ++ [m.2] ++ rest.map (·.2) := by
          rcases List.mem_append.mp hj with hj | hj
          · exact List.mem_append_left _ hj
          · refine List.mem_append_right _ ?_
            obtain ⟨z, hz, rfl⟩ := List.mem_map.mp hj
            exact List.mem_map.mpr ⟨z, h.mem_iff.mp (List.mem_append_left _ hz), rfl⟩
        have := x.rel j (hperm.mem_iff.mp this); exact o9_277 this ht'
      have hT : 0 ≤ left T := left_nn fun z hz => x.pos z (List.mem_cons_of_mem _ (h.mem_iff.mp (List.mem_append_left _ hz)))
      rw [hz]; exact o9_284 hT ht
  have hnd := hperm.nodup_iff.mpr x.nd
  refine ⟨x.nd, x.lt, hperm, by rw [List.length_append, List.length_append, x.len]; rfl, fun z hz => x.pos z (List.mem_cons_of_mem _ hz), fun j hj => by have := x.rel j hj; exact o9_293 hm0 this, fun S hn hS q hq h1 => ?_, hi', fun k C hk => ?_⟩
  · rw [List.length_append, List.length_singleton] at hq
    obtain ⟨T, U, e1, e2, e3⟩ := x.lo S hn hS (q + 1) (by exact o9_294 hq) (by exact o9_295 h1)
    have hmem : m ∈ T ++ U := e1.mem_iff.mpr List.mem_cons_self
    rcases List.mem_append.mp hmem with hT | hU
    · obtain ⟨T1, hT1⟩ : ∃ T1, T.Perm (m :: T1) := ⟨_, List.perm_cons_erase hT⟩
      refine ⟨T1, U, List.Perm.cons_inv ((hT1.symm.append_right U).trans e1), ?_, e3.mono ?_⟩
      · have := hT1.length_eq; simp at this; exact o9_296 this e2
      · rw [left_perm hT1, left_cons]; exact o9_297
    · obtain ⟨U1, hU1⟩ : ∃ U1, U.Perm (m :: U1) := ⟨_, List.perm_cons_erase hU⟩
      cases T with
      | nil => simp at e2
      | cons t T1 =>
        have hrest : ((t :: T1) ++ U1).Perm rest := by
          refine List.Perm.cons_inv (a := m) (List.Perm.trans ?_ e1)
          exact (List.perm_middle (l₁ := t :: T1)).symm.trans (hU1.symm.append_left _)
        refine ⟨T1, t :: U1, (List.perm_middle (l₁ := T1) (a := t)).trans hrest, by simpa using e2, e3.mono ?_⟩
        have := hm t (hrest.mem_iff.mp (List.mem_append_left _ List.mem_cons_self))
        rw [left_cons]; exact o9_298 this
  · by_cases hkl : k < ends.length
    · exact x.out k C (by rw [List.getElem?_append_left hkl] at hk; exact hk)
    · have hke : k = ends.length := by
        have := (List.getElem?_eq_some_iff.mp hk).1
        rw [List.length_append, List.length_singleton] at this; exact o9_299 this hkl
      subst hke
      rw [List.getElem?_append_right (Nat.le_refl _), Nat.sub_self] at hk
      obtain rfl : now + m.1 = C := by simpa using hk
      refine ⟨fun S hn hS hl => ?_, done ++ [m.2], (List.nodup_append.mp hnd).1, fun j hj => x.lt j (hperm.mem_iff.mp (List.mem_append_left _ hj)), by rw [List.length_append, x.len]; rfl, fun i hi => ?_⟩
      · by_cases hin : ∀ j ∈ S, j ∈ Ar
        · obtain ⟨T, U, e1, e2, e3⟩ := x.lo S hn hin 1 (by rw [hl, x.len]) (Nat.le_refl _)
          match T, e2 with
          | [t], _ =>
            refine e3.mono ?_
            have := hmin t (e1.mem_iff.mp (List.mem_append_left _ List.mem_cons_self))
            show _ ≤ now + (t.1 + 0); exact o9_300 this
        · obtain ⟨j, hj, hja⟩ : ∃ j, j ∈ S ∧ j ∉ Ar := by
            apply Classical.byContradiction; intro hno
            exact hin fun j hj => Classical.byContradiction fun hja => hno ⟨j, hj, hja⟩
          refine ⟨j, hj, ?_⟩
          have h1 := hfut j (hS j hj) hja
          have h2 := hrs_nn (r := r) hp1 (r j) S
          exact o9_301 h2 h1
      · have hia := x.rel i (hperm.mem_iff.mp (List.mem_append_left _ hi))
        have := hi' [] rest (List.Perm.refl _) (r i) (by exact o9_293 hm0 hia)
        simpa [left] using this
end

noncomputable def cI (c : Nat) : PV := .int c
noncomputable def kkF (fs : List Int) : PV → PV
  | .int j => .int (fs.getD j.toNat 0)
  | p => p
theorem lam_firsts {G : Cx} {ko : Obj} {name qual : Str} {params : Arguments} {p1 p2 p3 : Pos} {scope : Scope} {pm ctv : Value} {c c' af : Addr} {fs : List Int} {H : AH} {o : Obj} {ho : HO} {xs : List Nat} {clos : List (Str × Addr)}
    (hko : ko = kla_obj name qual params (.Subscript (.Name "firsts" p1) (.Name "j" p2) p3) scope clos pm c' ctv) (hcl : clos = [(Str.ofString "firsts", c)])
    (hsc : scopeOk scope = true) (hco : scope.isCoroutine = false) (hgen : scope.isGenerator = false) (hnames : scope.names = [(Str.ofString "j", NameKind.local), (Str.ofString "firsts", NameKind.free)])
    (hbind : ∀ v, bindArgs (kla_fn name qual params (.Subscript (.Name "firsts" p1) (.Name "j" p2) p3) scope [(Str.ofString "firsts", c)] pm (.ref c') ctv) ⟨[v], []⟩ = pure [(Str.ofString "j", v)])
    (hD : G.D c o) (hd : o.data = .cell (some (.ref af))) (hH : H af = some ho) (hi : ho.items = fs.map .int) (hxs : ∀ j ∈ xs, j < fs.length) : KeyAt G ko H (xs.map cI) (kkF fs) := by
  subst hcl
  intro y hy A hA
  obtain ⟨j, hj, rfl⟩ := List.mem_map.mp hy
  have hjl := hxs j hj
  refine call_lam (pb := [("j", cI j)]) (Loc.nil.set "firsts" (.ref af)) hko (Nat.lt_of_lt_of_le hA.1 (by decide)) hsc hco hgen ?_ ?_ ?_ ?_ ?_ ?_ ?_
  · rw [hnames]; decide
  · rw [hnames]; intro x hx; rw [List.mem_singleton.mp hx]; rfl
  · intro h vs hvs
    obtain ⟨v, rfl, hv⟩ := hvs.one_inv
    exact ⟨_, hbind v, fun h' hm => ⟨v, [], rfl, hm _ _ hv, rfl⟩⟩
  · intro x hx
    rw [hnames] at hx
    have hxf : x = Str.ofString "firsts" := by
      by_cases h1 : x = Str.ofString "j"
      · subst h1; simp at hx
      · by_cases h2 : x = Str.ofString "firsts"
        · exact h2
        · rw [List.lookup_cons, beq_eq_false_iff_ne.mpr h1, List.lookup_cons, beq_eq_false_iff_ne.mpr h2] at hx; cases hx
    subst hxf
    exact ⟨c, o, _, by simp, hD, hd, fun p hp => ⟨af, by rw [Loc.here] at hp; cases hp; rfl, rfl⟩⟩
  · intro x p hp
    have hxf : x = Str.ofString "firsts" := by
      by_cases h : x = Str.ofString "firsts"
      · exact h
      · rw [Loc.set_app, if_neg h] at hp; cases hp
    subst hxf; rw [hnames]; rfl
  · simp
  · intro F h1 h2
    simp only [bindσ]
    (repeat (with_reducible first | (refine Ev_Nm (p := ?_) ?_ ?_; rotate_left; · repeat (first | exact Loc.here | refine Loc.there (by decide) ?_)) | apply Ev_Int | apply Ev_None | apply Ev_Str | apply Ev_BinOp | refine Ev_Compare ?_ (by with_unfolding_all rfl) | apply Ev_Subscript | apply Ev_IfExp | refine EvB_Compare ?_ (by with_unfolding_all rfl) | apply EvB_Not | apply EvB_And | apply EvB_Or | apply EvP_none | apply EvP_some | apply EvL_nil | refine EvL_cons ?_ (by with_unfolding_all rfl) | apply op_add | apply op_sub | apply op_lt | apply op_le | apply op_gt | apply op_ge | apply op_eq | apply op_iadd))
    refine sub_list hH (p := .int (fs.getD j 0)) ?_ ?_
    · rw [hi, pyIdx_nat, List.getElem?_map, List.getD_eq_getElem?_getD, List.getElem?_eq_getElem hjl]; rfl
    · exact ⟨by simp [kkF, cI], rfl⟩

noncomputable def forBody (b : List Stmt) (i j : Nat) : List Stmt := match b[i]? with
  | some (.For _ _ body _ _) => body.drop j
  | _ => []
theorem snoc_of {α : Type} (x : α) (l : List α) : ∃ ys y, x :: l = ys ++ [y] := ⟨(x :: l).dropLast, (x :: l).getLast (by simp), (List.dropLast_concat_getLast (by simp)).symm⟩
theorem hpop_fst {α : Type} {lt : α → α → Bool} {ys l : List α} {y x : α} (h : x :: l = ys ++ [y]) : (hpop lt ys y).1 = x := by
  cases ys with
  | nil => cases h; rfl
  | cons z zs => cases h; rfl
inductive EI1 (r p : Nat → Int) (n : Nat) (xs : List Nat) (HH : HO → List (Int × Nat) → List Int → AH) (τ : Loc) (i : Nat) : Loc → AH → Prop where
  | mk (now : Int) (hp : List (Int × Nat)) (e : List Int) (done : List Nat) (I : SInv r p n (xs.take i).reverse now hp e done) (hh : HeapAt ltP 0 hp) (hn : ∀ j ∈ xs.drop i, now ≤ r j) : EI1 r p n xs HH τ i (τ.set "now" (.int now)) (HH (.fro (xs.map cI)) hp e)
inductive EI2 (r p : Nat → Int) (n i k : Nat) (xs : List Nat) (HH : HO → List (Int × Nat) → List Int → AH) (τ : Loc) : Nat → Loc → AH → Prop where
  | mk (now : Int) (hp : List (Int × Nat)) (e : List Int) (done : List Nat) (I : SInv r p n (xs.take i).reverse now hp e done) (hh : HeapAt ltP 0 hp) (hn : now ≤ r k) : EI2 r p n i k xs HH τ hp.length ((τ.set "now" (.int now)).set "k" (cI k)) (HH (.fro (xs.map cI)) hp e)
inductive EI3 (r p : Nat → Int) (n : Nat) (xs : List Nat) (HH : HO → List (Int × Nat) → List Int → AH) (τ : Loc) : Nat → Loc → AH → Prop where
  | mk (now : Int) (hp : List (Int × Nat)) (e : List Int) (done : List Nat) (I : SInv r p n xs.reverse now hp e done) (hh : HeapAt ltP 0 hp) : EI3 r p n xs HH τ hp.length (τ.set "now" (.int now)) (HH (.lst (xs.map cI)) hp e)
theorem law_ends_ok {G : Cx} {A : Around} {H : AH} {Q : PV → AH → Prop} {af at_ : Addr} {fs ts : List Int} (hK : G.K = KK G) (hst : Stk G A) (hA : A.depth < 850 ∧ A.units < 8500) (hh : A.handled = none)
    (hT : G.T 74) (htq : ∀ l c, G.tq 74 l c = (fnOf (KK G) 79).qualname ++ ".<locals>." ++ "<lambda>") (hbm : BM G)
    (hHf : H af = some (.lst (fs.map .int))) (hHt : H at_ = some (.lst (ts.map .int))) (hl : fs.length = ts.length) (h2 : 2 ≤ fs.length) (h9 : fs.length ≤ 9) (hts : ∀ x ∈ ts, 1 ≤ x)
    (hQ : ∀ ends : List Int, ends.length = fs.length → (∀ k C, ends[k]? = some C → EndAt (fun j => fs.getD j 0) (fun j => ts.getD j 1) fs.length (k + 1) C) → ∀ a', H a' = none → Q (.ref a') (H.set a' (.lst (ends.map .int)))) :
    OpL G A (fun vs => call (.ref 79) vs) [.ref af, .ref at_] H Q := by
  refine OpL.drop (call_fnE (ns := ["firsts", "takes"]) (pb := [("firsts", .ref af), ("takes", .ref at_)]) (ar := fun vs => ⟨vs, []⟩) hK (by kernel_rfl) (Nat.lt_of_lt_of_le hA.1 (by decide)) (by simp) ?_ ?_)
  · intro h _ zq9
    refine hide fun WW9 hW9 => ?_
    obtain ⟨v1, _, eq9_0, h1, v2, _, eq9_1, h2, eq9_2⟩ := zq9
    refine hW9 ?_
    clear hW9 WW9
    subst eq9_0 eq9_1 eq9_2
    exact ⟨[("firsts", v1), ("takes", v2)], by kernel_rfl, fun h' hm => ⟨_, _, rfl, hm _ _ h1, _, _, rfl, hm _ _ h2, rfl⟩⟩
  intro F hF hE
  have hu : F.A.units < cLine := hF.lt hA.2 (by decide)
  have hu1 : F.A.units + 1 < cLine := hF.lt1 hA.2 (by decide)
  have hFA : F.A.depth < 880 ∧ F.A.units < 8800 := hF.room hA (by decide) (by decide)
  have hFh : F.A.handled = none := by rw [hF.handled]; exact hh
  have hcell : ∀ {τ : Loc} {D : Addr → Obj → Prop}, BelowD G F τ D → τ "firsts" = some (.ref af) → ∃ c o, F.env.cells.lookup (Str.ofString "firsts") = some c ∧ D c o ∧ o.data = .cell (some (.ref af)) := fun {τ D} b hτ => by
    refine hide fun WW9 hW9 => ?_
    obtain ⟨c, hc, h⟩ := b.cell "firsts" (kind_of hF (by kernel_rfl))
    refine hW9 ?_
    clear hW9 WW9
    obtain ⟨o, v, h1, h2, h3⟩ := h (by rw [hF.W]; exact .inr ⟨_, hc⟩)
    rw [h3 af hτ] at h2
    exact ⟨c, o, hc, h1, h2⟩
  have hcode : F.env.code = .ref 78 := hE.code.trans (by kernel_rfl)
  have hhd : CodeHd G.base 78 74 := codeHd_of_K G.kin (by rw [hK]; kernel_rfl)
  let L : Nat → Nat → Bool := fun x y => decide (fs.getD x 0 < fs.getD y 0)
  have oL : SWO L := int_swo.comap fun j => fs.getD j 0
  ((simp only [bindσ, List.zip_cons_cons, List.zip_nil_right, List.zip_nil_left, List.cons_append, List.nil_append]; rw [show (fun _ => none : Loc) = Loc.nil from rfl]))
  refine Exs_cons (Ex_Assign (sto_local hF (by kernel_rfl)) (Ev_List (EvL_nil ⟨Nat.zero_le _, fun ac hac => ?_⟩)))
  have nfc : af ≠ ac := by rintro rfl; rw [hHf] at hac; cases hac
  have ntc : at_ ≠ ac := by rintro rfl; rw [hHt] at hac; cases hac
  have gf : ∀ z, (H.set ac z) af = some (.lst (fs.map .int)) := fun z => by rw [AH.set_ne _ _ nfc]; exact hHf
  refine Exs_cons (Ex_For2 ?_)
  refine Ev_Ty "range" hK (kind_of hF (by kernel_rfl)) (by kernel_rfl) (by decide +kernel) (by decide) (EvL_cons ?_ rfl)
  refine Ev_Bi "len" hK (kind_of hF (by kernel_rfl)) (by kernel_rfl) (by decide +kernel) (by decide) ?_
  (repeat (with_reducible first | (refine Ev_Nm (p := ?_) ?_ ?_; rotate_left; · repeat (first | exact Loc.here | refine Loc.there (by decide) ?_)) | apply Ev_Int | apply Ev_None | apply Ev_Str | apply Ev_BinOp | refine Ev_Compare ?_ (by with_unfolding_all rfl) | apply Ev_Subscript | apply Ev_IfExp | refine EvB_Compare ?_ (by with_unfolding_all rfl) | apply EvB_Not | apply EvB_And | apply EvB_Or | apply EvP_none | apply EvP_some | apply EvL_nil | refine EvL_cons ?_ (by with_unfolding_all rfl) | apply op_add | apply op_sub | apply op_lt | apply op_le | apply op_gt | apply op_ge | apply op_eq | apply op_iadd))
  refine op_len (gf _) ?_
  rw [HO.items_lst, List.length_map]
  (repeat (with_reducible first | (refine Ev_Nm (p := ?_) ?_ ?_; rotate_left; · repeat (first | exact Loc.here | refine Loc.there (by decide) ?_)) | apply Ev_Int | apply Ev_None | apply Ev_Str | apply Ev_BinOp | refine Ev_Compare ?_ (by with_unfolding_all rfl) | apply Ev_Subscript | apply Ev_IfExp | refine EvB_Compare ?_ (by with_unfolding_all rfl) | apply EvB_Not | apply EvB_And | apply EvB_Or | apply EvP_none | apply EvP_some | apply EvL_nil | refine EvL_cons ?_ (by with_unfolding_all rfl) | apply op_add | apply op_sub | apply op_lt | apply op_le | apply op_gt | apply op_ge | apply op_eq | apply op_iadd))
  refine op_range1 ?_
  generalize hστ : ((Loc.nil.set "firsts" (.ref af)).set "takes" (.ref at_)).set "coming" (.ref ac) = τ
  refine ⟨_, fun i σ' H' => σ' = τ ∧ ∃ xs : List Nat, H' = H.set ac (.lst (xs.map cI)) ∧ Srt L xs ∧ SEq L xs (List.range i), Iter_upto hFh (by exact o9_302 h2 hl h9), ⟨τ, ?_, rfl, [], rfl, List.Pairwise.nil, SEq.refl _⟩, ?_, ?_⟩
  · subst hστ; (repeat (first | exact Loc.le_nil _ | (refine Loc.le_set (by (with_reducible repeat (first | exact Loc.here | refine Loc.there (by decide) ?_))) ?_)))
  · intro i x _ _ hx zq9
    refine hide fun WW9 hW9 => ?_
    obtain ⟨eq9_0, xs, eq9_1, hsr, hse⟩ := zq9
    refine hW9 ?_
    clear hW9 WW9
    subst eq9_0 eq9_1
    subst hστ
    rw [List.getElem?_map] at hx
    obtain ⟨hi, hxi⟩ : i < fs.length ∧ x = .int i := by
      rcases Nat.lt_or_ge i fs.length with h | h
      · rw [List.getElem?_range h] at hx; cases hx; exact ⟨h, rfl⟩
      · rw [List.getElem?_eq_none (by simpa using h)] at hx; cases hx
    subst hxi
    have hxl : ∀ j ∈ i :: xs, j < fs.length := fun j hj => by
      rcases List.mem_cons.mp hj with rfl | hj
      · exact hi
      · have := (hse.perm oL).mem_iff.mp hj; have := List.mem_range.mp this; exact o9_303 this hl hi
    have hxn : xs.length = i := by rw [(hse.perm oL).length_eq, List.length_range]
    refine As_Name (sto_local hF (by kernel_rfl)) ?_
    refine Exs_cons (Ex_Expr (Ev_FnK (fa := 58) [Str.ofString "key"] hK (kind_of hF (by kernel_rfl)) (by kernel_rfl) (by kernel_rfl) ?_))
    (repeat (with_reducible first | (refine Ev_Nm (p := ?_) ?_ ?_; rotate_left; · repeat (first | exact Loc.here | refine Loc.there (by decide) ?_)) | apply Ev_Int | apply Ev_None | apply Ev_Str | apply Ev_BinOp | refine Ev_Compare ?_ (by with_unfolding_all rfl) | apply Ev_Subscript | apply Ev_IfExp | refine EvB_Compare ?_ (by with_unfolding_all rfl) | apply EvB_Not | apply EvB_And | apply EvB_Or | apply EvP_none | apply EvP_some | apply EvL_nil | refine EvL_cons ?_ (by with_unfolding_all rfl) | apply op_add | apply op_sub | apply op_lt | apply op_le | apply op_gt | apply op_ge | apply op_eq | apply op_iadd))
    refine EvK_cons (Ev_Lambda (c := 78) (P := 74) (by kernel_rfl) (free_ok hF (by kernel_rfl)) hcode hhd hT (by rw [hE.qual]; exact htq _ _) hbm fun c' ctv => ?_)
    refine EvK_nil (under fun D dD b => ?_)
    refine hide fun WW9 hW9 => ?_
    obtain ⟨c, o, hc1, hc2, hc3⟩ := hcell b (by (with_reducible repeat (first | exact Loc.here | refine Loc.there (by decide) ?_)))
    refine hW9 ?_
    clear hW9 WW9
    refine insort_rightK_ok (G := G.with D dD) (kk := kkF fs) (x := cI i) (xs := xs.map cI) hK hFA (cmpI _) (AH.set_same ..) ?_ (fun y hy => ?_) (by rw [List.length_map, hxn, sizeLine_eq]; exact o9_304 hl h2 h9 hi hxn) ?_
    · refine lam_firsts (xs := i :: xs) (c := c) rfl ?_ (by kernel_rfl) rfl rfl rfl (fun v => ?_) hc2 hc3 (gf _) rfl hxl
      · show [(Str.ofString "firsts", (F.env.cells.lookup (Str.ofString "firsts")).getD 0)] = _; rw [hc1]; rfl
      · rfl
    · refine hide fun WW9 hW9 => ?_
      obtain ⟨j, _, eq9_0⟩ := List.mem_map.mp (show y ∈ (i :: xs).map cI from hy)
      refine hW9 ?_
      clear hW9 WW9
      subst eq9_0
      exact ⟨_, rfl⟩
    · have hb : bisR ltPI (kkF fs (cI i)) ((xs.map cI).map (kkF fs)) 0 (xs.map cI).length = bisR L i xs 0 xs.length := by
        rw [List.map_map, List.length_map]
        exact bisR_map (lt := L) (ltb := ltPI) (fun j => PV.int (fs.getD j 0)) (fun _ _ => rfl) i xs 0 xs.length
      rw [hb, ← List.map_take, ← List.map_drop, ← List.map_cons (f := cI), ← List.map_append]
      refine Exs_nil ⟨_, ?_, rfl, insR L i xs, by rw [AH.set_set]; rfl, insR_srt oL i hsr, ?_⟩
      · (repeat (first | exact Loc.le_nil _ | (refine Loc.le_set (by (with_reducible repeat (first | exact Loc.here | refine Loc.there (by decide) ?_))) ?_)))
      · rw [List.range_succ]; exact (insR_seq oL i hsr).trans (hse.right [i])
  intro _ _ zq9
  refine hide fun WW9 hW9 => ?_
  obtain ⟨eq9_0, xs, eq9_1, hsr, hse⟩ := zq9
  refine hW9 ?_
  clear hW9 WW9
  subst eq9_0 eq9_1
  rw [List.length_map, List.length_range] at hse
  have hxs : xs = isort L (List.range fs.length) := isort_uniq oL hse hsr
  have hxp := hse.perm oL
  have hxl : ∀ j ∈ xs, j < fs.length := fun j hj => List.mem_range.mp (hxp.mem_iff.mp hj)
  have hxn : xs.length = fs.length := by rw [hxp.length_eq, List.length_range]
  subst hστ
  refine Exs_cons (Ex_If ?_)
  (repeat (with_reducible first | (refine Ev_Nm (p := ?_) ?_ ?_; rotate_left; · repeat (first | exact Loc.here | refine Loc.there (by decide) ?_)) | apply Ev_Int | apply Ev_None | apply Ev_Str | apply Ev_BinOp | refine Ev_Compare ?_ (by with_unfolding_all rfl) | apply Ev_Subscript | apply Ev_IfExp | refine EvB_Compare ?_ (by with_unfolding_all rfl) | apply EvB_Not | apply EvB_And | apply EvB_Or | apply EvP_none | apply EvP_some | apply EvL_nil | refine EvL_cons ?_ (by with_unfolding_all rfl) | apply op_add | apply op_sub | apply op_lt | apply op_le | apply op_gt | apply op_ge | apply op_eq | apply op_iadd))
  refine Ev_BiK "sorted" [Str.ofString "key"] hK (kind_of hF (by kernel_rfl)) (by kernel_rfl) (by decide +kernel) (by decide) (EvL_cons ?_ rfl)
  refine Ev_Ty "range" hK (kind_of hF (by kernel_rfl)) (by kernel_rfl) (by decide +kernel) (by decide) (EvL_cons ?_ rfl)
  refine Ev_Bi "len" hK (kind_of hF (by kernel_rfl)) (by kernel_rfl) (by decide +kernel) (by decide) ?_
  (repeat (with_reducible first | (refine Ev_Nm (p := ?_) ?_ ?_; rotate_left; · repeat (first | exact Loc.here | refine Loc.there (by decide) ?_)) | apply Ev_Int | apply Ev_None | apply Ev_Str | apply Ev_BinOp | refine Ev_Compare ?_ (by with_unfolding_all rfl) | apply Ev_Subscript | apply Ev_IfExp | refine EvB_Compare ?_ (by with_unfolding_all rfl) | apply EvB_Not | apply EvB_And | apply EvB_Or | apply EvP_none | apply EvP_some | apply EvL_nil | refine EvL_cons ?_ (by with_unfolding_all rfl) | apply op_add | apply op_sub | apply op_lt | apply op_le | apply op_gt | apply op_ge | apply op_eq | apply op_iadd))
  refine op_len (gf _) ?_
  rw [HO.items_lst, List.length_map]
  (repeat (with_reducible first | (refine Ev_Nm (p := ?_) ?_ ?_; rotate_left; · repeat (first | exact Loc.here | refine Loc.there (by decide) ?_)) | apply Ev_Int | apply Ev_None | apply Ev_Str | apply Ev_BinOp | refine Ev_Compare ?_ (by with_unfolding_all rfl) | apply Ev_Subscript | apply Ev_IfExp | refine EvB_Compare ?_ (by with_unfolding_all rfl) | apply EvB_Not | apply EvB_And | apply EvB_Or | apply EvP_none | apply EvP_some | apply EvL_nil | refine EvL_cons ?_ (by with_unfolding_all rfl) | apply op_add | apply op_sub | apply op_lt | apply op_le | apply op_gt | apply op_ge | apply op_eq | apply op_iadd))
  refine op_range1 ?_
  (repeat (with_reducible first | (refine Ev_Nm (p := ?_) ?_ ?_; rotate_left; · repeat (first | exact Loc.here | refine Loc.there (by decide) ?_)) | apply Ev_Int | apply Ev_None | apply Ev_Str | apply Ev_BinOp | refine Ev_Compare ?_ (by with_unfolding_all rfl) | apply Ev_Subscript | apply Ev_IfExp | refine EvB_Compare ?_ (by with_unfolding_all rfl) | apply EvB_Not | apply EvB_And | apply EvB_Or | apply EvP_none | apply EvP_some | apply EvL_nil | refine EvL_cons ?_ (by with_unfolding_all rfl) | apply op_add | apply op_sub | apply op_lt | apply op_le | apply op_gt | apply op_ge | apply op_eq | apply op_iadd))
  refine EvK_cons (Ev_Lambda (c := 78) (P := 74) (by kernel_rfl) (free_ok hF (by kernel_rfl)) hcode hhd hT (by rw [hE.qual]; exact htq _ _) hbm fun c' ctv => ?_)
  refine EvK_nil (under fun D dD b => ?_)
  refine hide fun WW9 hW9 => ?_
  obtain ⟨c, o, hc1, hc2, hc3⟩ := hcell b (by (with_reducible repeat (first | exact Loc.here | refine Loc.there (by decide) ?_)))
  refine hW9 ?_
  clear hW9 WW9
  refine op_sortedK (G := G.with D dD) (Sk.ints _) (g := cI) (kx := fun j => fs.getD j 0) (xs := List.range fs.length) (I := fun H' => H' af = some (.lst (fs.map .int))) (runs_small (by rw [List.length_range]; exact o9_305 h2 hl h9 hxn)) ?_ (by rw [List.length_range, sizeLine_eq]; exact o9_306 h2 hl h9 hxn) ⟨_, rfl⟩ (fun a1 ys a2 zs e1 e2 => ?_) ?_ fun as has => ?_
  · have := Coll_range (G := G.with D dD) (A := F.A.in1) (H := H.set ac (.lst (xs.map cI))) (x := 0) (y := fs.length) (c := 1) (n := fs.length) hFh (small_one (by exact o9_144) (by exact o9_145) (by exact o9_307 h2 hl h9 hxn) (by exact o9_308 h2 hl h9 hxn)) (by rw [rangeSize_one]; split <;> (first | exact o9_148 | exact o9_309 hl h2 h9 hxn (by assumption))) (by exact o9_310 h2 hl h9 hxn)
    refine cast (congrArg _ ?_) this
    exact List.map_congr_left fun i _ => by simp [cI]
  · rw [AH.set_ne _ _ (by rintro rfl; rw [gf] at e2; cases e2), AH.set_ne _ _ (by rintro rfl; rw [gf] at e1; cases e1)]; exact gf _
  · intro j hj H' hI
    refine OpC.mono (Q := fun p H'' => p = kkF fs (cI j) ∧ H'' = H') (lam_firsts (G := G.with D dD) (xs := [j]) (c := c) (fs := fs) (H := H') rfl ?_ (by kernel_rfl) rfl rfl rfl (fun v => ?_) hc2 hc3 hI rfl (fun i hi => by rw [List.mem_singleton.mp hi]; exact List.mem_range.mp hj) (cI j) (List.mem_singleton.mpr rfl) F.A.in1.in1 ?_) fun p H'' zz2 => by obtain ⟨h1, h2⟩ := zz2; exact ⟨by rw [h1]; simp [kkF, cI], h2⟩
    · show [(Str.ofString "firsts", (F.env.cells.lookup (Str.ofString "firsts")).getD 0)] = _; rw [hc1]; rfl
    · rfl
    · have := hFA; exact ⟨by show F.A.depth < _; exact o9_311 hFA, by show F.A.units + 1 + 1 < _; exact o9_312 hFA⟩
  have nas : as ≠ ac := by rintro rfl; rw [AH.set_same] at has; cases has
  have hasH : H as = none := by rw [AH.set_ne _ _ nas] at has; exact has
  have hcmp : isort (fun x y => decide (fs.getD x 0 < fs.getD y 0)) (List.range fs.length) = xs := hxs.symm
  rw [hcmp]
  refine op_neL hu1 (r := true) (a := ac) (b := as) (by rw [AH.set_ne _ _ (Ne.symm nas), AH.set_same]) (AH.set_same ..) ?_ ⟨false, rfl, ?_⟩
  · rw [HO.items_lst, eqPs_map (f := cI) (fun x y => ?_)]
    · simp
    · show some ((x : Int) == (y : Int)) = some (decide (x = y))
      congr 1; apply bool_eq_of_iff; rw [beq_iff_eq, decide_eq_true_iff]; (first | lia | omega)
  simp only [Bool.false_eq_true, if_false]
  refine Exs_nil (Exs.drop0 (AH.le_new has) ?_)
  obtain ⟨x0, hx0⟩ : ∃ x0, xs[0]? = some x0 := ⟨_, List.getElem?_eq_getElem (by exact o9_314 h2 hxn hl h9)⟩
  have gi : ∀ j, j < fs.length → pyIdx (fs.map PV.int) (j : Int) = some (.int (fs.getD j 0)) := fun j hj => by
    rw [pyIdx_nat, List.getElem?_map, List.getD_eq_getElem?_getD, List.getElem?_eq_getElem hj]; rfl
  have gti : ∀ j, j < fs.length → pyIdx (ts.map PV.int) (j : Int) = some (.int (ts.getD j 1)) := fun j hj => by
    rw [pyIdx_nat, List.getElem?_map, List.getD_eq_getElem?_getD, List.getElem?_eq_getElem (by exact o9_315 hj hl hxn)]; rfl
  have hp1 : ∀ j, 1 ≤ ts.getD j 1 := fun j => by
    rw [List.getD_eq_getElem?_getD]
    rcases Nat.lt_or_ge j ts.length with h | h
    · rw [List.getElem?_eq_getElem h]; exact hts _ (List.getElem_mem h)
    · rw [List.getElem?_eq_none h]; exact Int.le_refl _
  ((refine Exs_cons (Ex_Assign (sto_local (by assumption) (by kernel_rfl)) ?_); (repeat (with_reducible first | (refine Ev_Nm (p := ?_) ?_ ?_; rotate_left; · repeat (first | exact Loc.here | refine Loc.there (by decide) ?_)) | apply Ev_Int | apply Ev_None | apply Ev_Str | apply Ev_BinOp | refine Ev_Compare ?_ (by with_unfolding_all rfl) | apply Ev_Subscript | apply Ev_IfExp | refine EvB_Compare ?_ (by with_unfolding_all rfl) | apply EvB_Not | apply EvB_And | apply EvB_Or | apply EvP_none | apply EvP_some | apply EvL_nil | refine EvL_cons ?_ (by with_unfolding_all rfl) | apply op_add | apply op_sub | apply op_lt | apply op_le | apply op_gt | apply op_ge | apply op_eq | apply op_iadd))))
  refine sub_list (AH.set_same ..) (p := cI x0) (by rw [HO.items_lst, show (0 : Int) = ((0 : Nat) : Int) from rfl, pyIdx_nat, List.getElem?_map, hx0]; rfl) ?_
  refine sub_list (gf _) (p := .int (fs.getD x0 0)) (by rw [HO.items_lst]; exact gi x0 (hxl x0 (List.mem_of_getElem? hx0))) ?_
  refine Exs_cons (Ex_Assign (sto_local hF (by kernel_rfl)) (Ev_List (EvL_nil ⟨Nat.zero_le _, fun ah hah => ?_⟩)))
  refine Exs_cons (Ex_Assign (sto_local hF (by kernel_rfl)) (Ev_List (EvL_nil ⟨Nat.zero_le _, fun ae hae => ?_⟩)))
  have n1 : ae ≠ ah := by rintro rfl; rw [AH.set_same] at hae; cases hae
  have n2 : ah ≠ ac := by rintro rfl; rw [AH.set_same] at hah; cases hah
  have n3 : ae ≠ ac := by rintro rfl; rw [AH.set_ne _ _ n1, AH.set_same] at hae; cases hae
  rw [AH.set_ne _ _ n1, AH.set_ne _ _ n3] at hae
  rw [AH.set_ne _ _ n2] at hah
  have m1 : af ≠ ah := by rintro rfl; rw [hHf] at hah; cases hah
  have m2 : af ≠ ae := by rintro rfl; rw [hHf] at hae; cases hae
  have m3 : at_ ≠ ah := by rintro rfl; rw [hHt] at hah; cases hah
  have m4 : at_ ≠ ae := by rintro rfl; rw [hHt] at hae; cases hae
  generalize hHH : (fun (cz : HO) (hp : List (Int × Nat)) (e : List Int) => ((H.set ac cz).set ah (.lst (hp.map pP))).set ae (.lst (e.map .int))) = HH
  have e0 : HH (.lst (xs.map cI)) [] [] = ((H.set ac (.lst (xs.map cI))).set ah (.lst [])).set ae (.lst []) := by rw [← hHH]; rfl
  have gh : ∀ cz hp e, HH cz hp e ah = some (.lst (hp.map pP)) := fun cz hp e => by rw [← hHH]; dsimp only; rw [AH.set_ne _ _ (Ne.symm n1), AH.set_same]
  have ge : ∀ cz hp e, HH cz hp e ae = some (.lst (e.map .int)) := fun cz hp e => by rw [← hHH]; dsimp only; rw [AH.set_same]
  have gc : ∀ cz hp e, HH cz hp e ac = some cz := fun cz hp e => by rw [← hHH]; dsimp only; rw [AH.set_ne _ _ (Ne.symm n3), AH.set_ne _ _ (Ne.symm n2), AH.set_same]
  have gF : ∀ cz hp e, HH cz hp e af = some (.lst (fs.map .int)) := fun cz hp e => by rw [← hHH]; dsimp only; rw [AH.set_ne _ _ m2, AH.set_ne _ _ m1]; exact gf _
  have gT : ∀ cz hp e, HH cz hp e at_ = some (.lst (ts.map .int)) := fun cz hp e => by rw [← hHH]; dsimp only; rw [AH.set_ne _ _ m4, AH.set_ne _ _ m3, AH.set_ne _ _ ntc]; exact hHt
  have sh : ∀ cz hp e hp', (HH cz hp e).set ah (.lst (List.map pP hp')) = HH cz hp' e := fun cz hp e hp' => by rw [← hHH]; dsimp only; rw [AH.set_comm _ _ _ n1, AH.set_set]
  have se : ∀ cz hp e (e' : List Int), (HH cz hp e).set ae (.lst (e'.map .int)) = HH cz hp e' := fun cz hp e e' => by rw [← hHH]; dsimp only; rw [AH.set_set]
  have sc : ∀ cz hp e cz', (HH cz hp e).set ac cz' = HH cz' hp e := fun cz hp e cz' => by rw [← hHH]; dsimp only; rw [AH.set_comm _ _ _ n3, AH.set_comm _ _ _ n2, AH.set_set]
  rw [← e0]
  have hemp : ∀ cz hp e a', (HH cz hp e) a' = none → ((HH cz hp e).set a' (.lst [])) ah = some (.lst (hp.map pP)) ∧ eqPs (HO.lst (hp.map pP)).items (HO.lst []).items = some hp.isEmpty := fun cz hp e a' ha' => by
    refine ⟨by rw [AH.set_ne _ _ (by rintro rfl; rw [gh] at ha'; cases ha')]; exact gh .., ?_⟩
    rw [HO.items_lst, HO.items_lst]
    cases hp <;> rfl
  have hS : ∀ (l : List (Int × Nat)), ∀ y ∈ l.map pP, IsTI y := fun l y hy => by obtain ⟨z, _, rfl⟩ := List.mem_map.mp hy; exact isT_pP z
  -- the works come
  generalize hτ : (((((Loc.nil.set "firsts" (.ref af)).set "takes" (.ref at_)).set "coming" (.ref ac)).set "heap" (.ref ah)).set "ends" (.ref ae)) = τ
  let r : Nat → Int := fun j => fs.getD j 0
  let p : Nat → Int := fun j => ts.getD j 1
  have hmin : ∀ (m : Int × Nat) (l : List (Int × Nat)), (∀ z ∈ l, ltP z m = false) → ∀ z ∈ l, m.1 ≤ z.1 := fun m l h z hz => ltP_fst (h z hz)
  have hord : ∀ i x, xs[i]? = some x → ∀ j ∈ xs.drop (i + 1), r x ≤ r j := fun i x hx j hj => by
    obtain ⟨k, hk⟩ := List.mem_iff_getElem?.mp hj
    rw [List.getElem?_drop] at hk
    obtain ⟨hi1, hi2⟩ := List.getElem?_eq_some_iff.mp hx
    obtain ⟨hk1, hk2⟩ := List.getElem?_eq_some_iff.mp hk
    have := List.pairwise_iff_getElem.mp hsr i (i + 1 + k) hi1 hk1 (by exact o9_316 hk1 hi1)
    rw [hi2, hk2] at this
    have := of_decide_eq_false this
    show fs.getD x 0 ≤ fs.getD j 0; exact o9_317 hk1 hi1 this
  have hnd : xs.Nodup := hxp.nodup_iff.mpr List.nodup_range
  refine Exs_cons (Ex_hold (a := ac) (gc _ _ _) (Ex_For2 ?_))
  rw [sc]
  (repeat (with_reducible first | (refine Ev_Nm (p := ?_) ?_ ?_; rotate_left; · repeat (first | exact Loc.here | refine Loc.there (by decide) ?_)) | apply Ev_Int | apply Ev_None | apply Ev_Str | apply Ev_BinOp | refine Ev_Compare ?_ (by with_unfolding_all rfl) | apply Ev_Subscript | apply Ev_IfExp | refine EvB_Compare ?_ (by with_unfolding_all rfl) | apply EvB_Not | apply EvB_And | apply EvB_Or | apply EvP_none | apply EvP_some | apply EvL_nil | refine EvL_cons ?_ (by with_unfolding_all rfl) | apply op_add | apply op_sub | apply op_lt | apply op_le | apply op_gt | apply op_ge | apply op_eq | apply op_iadd))
  rw [HO.items_lst]
  refine ⟨_, EI1 r p fs.length xs HH τ,
    Iter_list hFh (gc _ _ _) (not_mut_fro (gc _ _ _)), ⟨τ.set "now" (.int (r x0)), ?_, EI1.mk (r x0) [] [] [] (SInv.start r p _ _) (HeapAt.nil 0) fun j hj => ?_⟩, ?_, ?_⟩
  · subst hτ; (repeat (first | exact Loc.le_nil _ | (refine Loc.le_set (by (with_reducible repeat (first | exact Loc.here | refine Loc.there (by decide) ?_))) ?_)))
  · obtain ⟨xr, rfl⟩ : ∃ xr, xs = x0 :: xr := by
      cases xs with
      | nil => cases hx0
      | cons a b => cases hx0; exact ⟨b, rfl⟩
    rcases List.mem_cons.mp hj with rfl | hj
    · exact Int.le_refl _
    · exact hord 0 x0 rfl j hj
  · intro i x _ _ hx zq9
    refine hide fun WW9 hW9 => ?_
    obtain ⟨now, hp, e, done, I, hheap, hnow⟩ := zq9
    refine hW9 ?_
    clear hW9 WW9
    rw [HO.items_fro, List.getElem?_map] at hx
    refine hide fun WW9 hW9 => ?_
    obtain ⟨k, hk, eq9_0⟩ := Option.map_eq_some_iff.mp hx
    refine hW9 ?_
    clear hW9 WW9
    subst eq9_0
    have hkl := hxl k (List.mem_of_getElem? hk)
    have hdr : xs.drop i = k :: xs.drop (i + 1) := by
      obtain ⟨h1, h2⟩ := List.getElem?_eq_some_iff.mp hk
      rw [List.drop_eq_getElem_cons h1, h2]
    have htk : (xs.take (i + 1)).reverse = k :: (xs.take i).reverse := by rw [List.take_add_one, hk]; simp
    have hknew : k ∉ (xs.take i).reverse := fun hm => by
      have hm' : k ∈ xs.take i := List.mem_reverse.mp hm
      have hn2 : (xs.take i ++ xs.drop i).Nodup := by rw [List.take_append_drop]; exact hnd
      exact (List.nodup_append.mp hn2).2.2 k hm' k (by rw [hdr]; exact List.mem_cons_self) rfl
    have hfut : ∀ j, j < fs.length → j ∉ (xs.take i).reverse → r k ≤ r j := fun j hj hja => by
      have : j ∈ xs := hxp.mem_iff.mpr (List.mem_range.mpr hj)
      rw [← List.take_append_drop i xs] at this
      rcases List.mem_append.mp this with h | h
      · exact absurd (List.mem_reverse.mpr h) hja
      · rw [hdr] at h
        rcases List.mem_cons.mp h with rfl | h
        · exact Int.le_refl _
        · exact hord i k hk j h
    refine As_Name (sto_local hF (by kernel_rfl)) ?_
    subst hτ
    have after : ∀ (now : Int) (hp : List (Int × Nat)) (e : List Int) (done : List Nat) (Post : PF → Loc → AH → Prop), SInv r p fs.length (xs.take i).reverse now hp e done → HeapAt ltP 0 hp → now ≤ r k → (∀ m l, hp = m :: l → r k < now + m.1) →
        (∀ σ3 H3, (∃ σ'', Loc.le σ'' σ3 ∧ EI1 r p fs.length xs HH (((((Loc.nil.set "firsts" (.ref af)).set "takes" (.ref at_)).set "coming" (.ref ac)).set "heap" (.ref ah)).set "ends" (.ref ae)) (i + 1) σ'' H3) → Post .next σ3 H3) →
        Exs G F (forBody (bodyOf (fnOf (KK G) 79)) 6 1) (((((((Loc.nil.set "firsts" (.ref af)).set "takes" (.ref at_)).set "coming" (.ref ac)).set "heap" (.ref ah)).set "ends" (.ref ae)).set "now" (.int now)).set "k" (cI k)) (HH (.fro (xs.map cI)) hp e) Post := by
      intro now hp e done Post I hheap hnk hnext hP
      have last : ∀ (σ1 : Loc) (hp' : List (Int × Nat)), Loc.le ((((((Loc.nil.set "firsts" (.ref af)).set "takes" (.ref at_)).set "coming" (.ref ac)).set "heap" (.ref ah)).set "ends" (.ref ae)).set "k" (cI k)) σ1 →
          SInv r p fs.length (k :: (xs.take i).reverse) (r k) hp' e done → HeapAt ltP 0 hp' → Exs G F (forBody (bodyOf (fnOf (KK G) 79)) 6 2) σ1 (HH (.fro (xs.map cI)) hp' e) Post := by
        intro σ1 hp' hσ I' hh'
        refine Exs.le ?_ hσ
        show Exs G F (_ :: _) _ _ _
        ((refine Exs_cons (Ex_Assign (sto_local (by assumption) (by kernel_rfl)) ?_); (repeat (with_reducible first | (refine Ev_Nm (p := ?_) ?_ ?_; rotate_left; · repeat (first | exact Loc.here | refine Loc.there (by decide) ?_)) | apply Ev_Int | apply Ev_None | apply Ev_Str | apply Ev_BinOp | refine Ev_Compare ?_ (by with_unfolding_all rfl) | apply Ev_Subscript | apply Ev_IfExp | refine EvB_Compare ?_ (by with_unfolding_all rfl) | apply EvB_Not | apply EvB_And | apply EvB_Or | apply EvP_none | apply EvP_some | apply EvL_nil | refine EvL_cons ?_ (by with_unfolding_all rfl) | apply op_add | apply op_sub | apply op_lt | apply op_le | apply op_gt | apply op_ge | apply op_eq | apply op_iadd))))
        refine sub_list (gF _ _ _) (p := .int (r k)) (by rw [HO.items_lst]; exact gi k hkl) ?_
        refine Exs_nil (hP _ _ ⟨_, ?_, EI1.mk (r k) hp' e done (by rw [htk]; exact I') hh' fun j hj => hord i k hk j hj⟩)
        (repeat (first | exact Loc.le_nil _ | (refine Loc.le_set (by (with_reducible repeat (first | exact Loc.here | refine Loc.there (by decide) ?_))) ?_)))
      have hitem : PV.tup [.int (ts.getD k 1), cI k] = pP (p k, k) := rfl
      show Exs G F (_ :: _) _ _ _
      refine Exs_cons (Ex_If (EvB.drop ?_))
      (repeat (with_reducible first | (refine Ev_Nm (p := ?_) ?_ ?_; rotate_left; · repeat (first | exact Loc.here | refine Loc.there (by decide) ?_)) | apply Ev_Int | apply Ev_None | apply Ev_Str | apply Ev_BinOp | refine Ev_Compare ?_ (by with_unfolding_all rfl) | apply Ev_Subscript | apply Ev_IfExp | refine EvB_Compare ?_ (by with_unfolding_all rfl) | apply EvB_Not | apply EvB_And | apply EvB_Or | apply EvP_none | apply EvP_some | apply EvL_nil | refine EvL_cons ?_ (by with_unfolding_all rfl) | apply op_add | apply op_sub | apply op_lt | apply op_le | apply op_gt | apply op_ge | apply op_eq | apply op_iadd))
      refine Ev_List (EvL_nil ⟨Nat.zero_le _, fun a' ha' => ?_⟩)
      obtain ⟨q1, q2⟩ := hemp _ _ _ a' ha'
      refine op_eqL hu1 q1 (AH.set_same ..) q2 ⟨_, rfl, _, AH.le_new ha', ?_⟩
      cases hp with
      | nil =>
        simp only [List.isEmpty_nil, if_true]
        refine Exs_cons (Ex_Try_caught (Y := fun σ' H' => σ' = (((((((Loc.nil.set "firsts" (.ref af)).set "takes" (.ref at_)).set "coming" (.ref ac)).set "heap" (.ref ah)).set "ends" (.ref ae)).set "now" (.int now)).set "k" (cI k)) ∧ H' = HH (.fro (xs.map cI)) [] e) hK hst hF hE (by kernel_rfl) (kind_of hF (by kernel_rfl)) (by kernel_rfl)
          (ExsX_first (ExX_Expr (EvX_FnU (fa := 35) hK (kind_of hF (by kernel_rfl)) (by kernel_rfl) (by kernel_rfl) ?_))) ?_)
        · (repeat (with_reducible first | (refine Ev_Nm (p := ?_) ?_ ?_; rotate_left; · repeat (first | exact Loc.here | refine Loc.there (by decide) ?_)) | apply Ev_Int | apply Ev_None | apply Ev_Str | apply Ev_BinOp | refine Ev_Compare ?_ (by with_unfolding_all rfl) | apply Ev_Subscript | apply Ev_IfExp | refine EvB_Compare ?_ (by with_unfolding_all rfl) | apply EvB_Not | apply EvB_And | apply EvB_Or | apply EvP_none | apply EvP_some | apply EvL_nil | refine EvL_cons ?_ (by with_unfolding_all rfl) | apply op_add | apply op_sub | apply op_lt | apply op_le | apply op_gt | apply op_ge | apply op_eq | apply op_iadd))
          refine Ev_Tuple ?_
          (repeat (with_reducible first | (refine Ev_Nm (p := ?_) ?_ ?_; rotate_left; · repeat (first | exact Loc.here | refine Loc.there (by decide) ?_)) | apply Ev_Int | apply Ev_None | apply Ev_Str | apply Ev_BinOp | refine Ev_Compare ?_ (by with_unfolding_all rfl) | apply Ev_Subscript | apply Ev_IfExp | refine EvB_Compare ?_ (by with_unfolding_all rfl) | apply EvB_Not | apply EvB_And | apply EvB_Or | apply EvP_none | apply EvP_some | apply EvL_nil | refine EvL_cons ?_ (by with_unfolding_all rfl) | apply op_add | apply op_sub | apply op_lt | apply op_le | apply op_gt | apply op_ge | apply op_eq | apply op_iadd))
          refine sub_list (gT _ _ _) (p := .int (ts.getD k 1)) (by rw [HO.items_lst]; exact gti k hkl) ?_
          (repeat (with_reducible first | (refine Ev_Nm (p := ?_) ?_ ?_; rotate_left; · repeat (first | exact Loc.here | refine Loc.there (by decide) ?_)) | apply Ev_Int | apply Ev_None | apply Ev_Str | apply Ev_BinOp | refine Ev_Compare ?_ (by with_unfolding_all rfl) | apply Ev_Subscript | apply Ev_IfExp | refine EvB_Compare ?_ (by with_unfolding_all rfl) | apply EvB_Not | apply EvB_And | apply EvB_Or | apply EvP_none | apply EvP_some | apply EvL_nil | refine EvL_cons ?_ (by with_unfolding_all rfl) | apply op_add | apply op_sub | apply op_lt | apply op_le | apply op_gt | apply op_ge | apply op_eq | apply op_iadd))
          refine ⟨by rw [sizeLine_eq]; exact Nat.le_of_ble_eq_true rfl, ?_⟩
          (repeat (with_reducible first | (refine Ev_Nm (p := ?_) ?_ ?_; rotate_left; · repeat (first | exact Loc.here | refine Loc.there (by decide) ?_)) | apply Ev_Int | apply Ev_None | apply Ev_Str | apply Ev_BinOp | refine Ev_Compare ?_ (by with_unfolding_all rfl) | apply Ev_Subscript | apply Ev_IfExp | refine EvB_Compare ?_ (by with_unfolding_all rfl) | apply EvB_Not | apply EvB_And | apply EvB_Or | apply EvP_none | apply EvP_some | apply EvL_nil | refine EvL_cons ?_ (by with_unfolding_all rfl) | apply op_add | apply op_sub | apply op_lt | apply op_le | apply op_gt | apply op_ge | apply op_eq | apply op_iadd))
          exact underX fun D dD b => heapreplace_raises (G := G.with D dD) hK (hst.push hF hE (by kernel_rfl) b) hFA hFh (gh _ _ _) ⟨rfl, rfl⟩
        · rintro e' _ _ ⟨rfl, rfl⟩
          have hkp : F.env.kindOf "heappush" = some .globalImplicit := kind_of hF (by kernel_rfl)
          refine Exs_cons (Ex_Expr (Ev_Fn (fa := 21) hK hkp (by kernel_rfl) (by kernel_rfl) ?_))
          (repeat (with_reducible first | (refine Ev_Nm (p := ?_) ?_ ?_; rotate_left; · repeat (first | exact Loc.here | refine Loc.there (by decide) ?_)) | apply Ev_Int | apply Ev_None | apply Ev_Str | apply Ev_BinOp | refine Ev_Compare ?_ (by with_unfolding_all rfl) | apply Ev_Subscript | apply Ev_IfExp | refine EvB_Compare ?_ (by with_unfolding_all rfl) | apply EvB_Not | apply EvB_And | apply EvB_Or | apply EvP_none | apply EvP_some | apply EvL_nil | refine EvL_cons ?_ (by with_unfolding_all rfl) | apply op_add | apply op_sub | apply op_lt | apply op_le | apply op_gt | apply op_ge | apply op_eq | apply op_iadd))
          refine Ev_Tuple ?_
          (repeat (with_reducible first | (refine Ev_Nm (p := ?_) ?_ ?_; rotate_left; · repeat (first | exact Loc.here | refine Loc.there (by decide) ?_)) | apply Ev_Int | apply Ev_None | apply Ev_Str | apply Ev_BinOp | refine Ev_Compare ?_ (by with_unfolding_all rfl) | apply Ev_Subscript | apply Ev_IfExp | refine EvB_Compare ?_ (by with_unfolding_all rfl) | apply EvB_Not | apply EvB_And | apply EvB_Or | apply EvP_none | apply EvP_some | apply EvL_nil | refine EvL_cons ?_ (by with_unfolding_all rfl) | apply op_add | apply op_sub | apply op_lt | apply op_le | apply op_gt | apply op_ge | apply op_eq | apply op_iadd))
          refine sub_list (gT _ _ _) (p := .int (ts.getD k 1)) (by rw [HO.items_lst]; exact gti k hkl) ?_
          (repeat (with_reducible first | (refine Ev_Nm (p := ?_) ?_ ?_; rotate_left; · repeat (first | exact Loc.here | refine Loc.there (by decide) ?_)) | apply Ev_Int | apply Ev_None | apply Ev_Str | apply Ev_BinOp | refine Ev_Compare ?_ (by with_unfolding_all rfl) | apply Ev_Subscript | apply Ev_IfExp | refine EvB_Compare ?_ (by with_unfolding_all rfl) | apply EvB_Not | apply EvB_And | apply EvB_Or | apply EvP_none | apply EvP_some | apply EvL_nil | refine EvL_cons ?_ (by with_unfolding_all rfl) | apply op_add | apply op_sub | apply op_lt | apply op_le | apply op_gt | apply op_ge | apply op_eq | apply op_iadd))
          refine ⟨by rw [sizeLine_eq]; exact Nat.le_of_ble_eq_true rfl, ?_⟩
          (repeat (with_reducible first | (refine Ev_Nm (p := ?_) ?_ ?_; rotate_left; · repeat (first | exact Loc.here | refine Loc.there (by decide) ?_)) | apply Ev_Int | apply Ev_None | apply Ev_Str | apply Ev_BinOp | refine Ev_Compare ?_ (by with_unfolding_all rfl) | apply Ev_Subscript | apply Ev_IfExp | refine EvB_Compare ?_ (by with_unfolding_all rfl) | apply EvB_Not | apply EvB_And | apply EvB_Or | apply EvP_none | apply EvP_some | apply EvL_nil | refine EvL_cons ?_ (by with_unfolding_all rfl) | apply op_add | apply op_sub | apply op_lt | apply op_le | apply op_gt | apply op_ge | apply op_eq | apply op_iadd))
          rw [hitem]
          refine heappush_ok hK hFA (cmpT G) (gh _ _ _) (hS _) (isT_pP _) (by simp [sizeLine_eq]) ?_
          rw [hpush_map (lt := ltP) (ltb := ltPT) pP ltPT_pP, sh]
          refine Exs_nil (Exs_nil (last _ _ ?_ (((I.idle hnk).come hknew hkl rfl hp1).reheap (hpush_perm _ _).symm) (hpush_heap ltP_swo _ hheap)))
          (repeat (first | exact Loc.le_nil _ | (refine Loc.le_set (by (with_reducible repeat (first | exact Loc.here | refine Loc.there (by decide) ?_))) ?_)))
      | cons m l =>
        simp only [List.isEmpty_cons, Bool.false_eq_true, if_false]
        have hlt := hnext m l rfl
        refine hide fun WW9 hW9 => ?_
        obtain ⟨s1, s2, s3⟩ := hreplace_all ltP_swo (p k, k) hheap
        refine hW9 ?_
        clear hW9 WW9
        have hm' : ∀ z ∈ l, m.1 ≤ z.1 := hmin m l fun z hz => s3 z (List.mem_cons_of_mem _ hz)
        have I2 := (I.work (d := r k - now) hm' (by exact o9_318 hnk) (by exact o9_319 hlt))
        rw [show now + (r k - now) = r k by exact o9_320] at I2
        have I3 := I2.come hknew hkl rfl hp1
        refine Exs_cons (Ex_AssignTuple (Ev_Fn (fa := 35) hK (kind_of hF (by kernel_rfl)) (by kernel_rfl) (by kernel_rfl) ?_))
        (repeat (with_reducible first | (refine Ev_Nm (p := ?_) ?_ ?_; rotate_left; · repeat (first | exact Loc.here | refine Loc.there (by decide) ?_)) | apply Ev_Int | apply Ev_None | apply Ev_Str | apply Ev_BinOp | refine Ev_Compare ?_ (by with_unfolding_all rfl) | apply Ev_Subscript | apply Ev_IfExp | refine EvB_Compare ?_ (by with_unfolding_all rfl) | apply EvB_Not | apply EvB_And | apply EvB_Or | apply EvP_none | apply EvP_some | apply EvL_nil | refine EvL_cons ?_ (by with_unfolding_all rfl) | apply op_add | apply op_sub | apply op_lt | apply op_le | apply op_gt | apply op_ge | apply op_eq | apply op_iadd))
        refine Ev_Tuple ?_
        (repeat (with_reducible first | (refine Ev_Nm (p := ?_) ?_ ?_; rotate_left; · repeat (first | exact Loc.here | refine Loc.there (by decide) ?_)) | apply Ev_Int | apply Ev_None | apply Ev_Str | apply Ev_BinOp | refine Ev_Compare ?_ (by with_unfolding_all rfl) | apply Ev_Subscript | apply Ev_IfExp | refine EvB_Compare ?_ (by with_unfolding_all rfl) | apply EvB_Not | apply EvB_And | apply EvB_Or | apply EvP_none | apply EvP_some | apply EvL_nil | refine EvL_cons ?_ (by with_unfolding_all rfl) | apply op_add | apply op_sub | apply op_lt | apply op_le | apply op_gt | apply op_ge | apply op_eq | apply op_iadd))
        refine sub_list (gT _ _ _) (p := .int (ts.getD k 1)) (by rw [HO.items_lst]; exact gti k hkl) ?_
        (repeat (with_reducible first | (refine Ev_Nm (p := ?_) ?_ ?_; rotate_left; · repeat (first | exact Loc.here | refine Loc.there (by decide) ?_)) | apply Ev_Int | apply Ev_None | apply Ev_Str | apply Ev_BinOp | refine Ev_Compare ?_ (by with_unfolding_all rfl) | apply Ev_Subscript | apply Ev_IfExp | refine EvB_Compare ?_ (by with_unfolding_all rfl) | apply EvB_Not | apply EvB_And | apply EvB_Or | apply EvP_none | apply EvP_some | apply EvL_nil | refine EvL_cons ?_ (by with_unfolding_all rfl) | apply op_add | apply op_sub | apply op_lt | apply op_le | apply op_gt | apply op_ge | apply op_eq | apply op_iadd))
        refine ⟨by rw [sizeLine_eq]; exact Nat.le_of_ble_eq_true rfl, ?_⟩
        (repeat (with_reducible first | (refine Ev_Nm (p := ?_) ?_ ?_; rotate_left; · repeat (first | exact Loc.here | refine Loc.there (by decide) ?_)) | apply Ev_Int | apply Ev_None | apply Ev_Str | apply Ev_BinOp | refine Ev_Compare ?_ (by with_unfolding_all rfl) | apply Ev_Subscript | apply Ev_IfExp | refine EvB_Compare ?_ (by with_unfolding_all rfl) | apply EvB_Not | apply EvB_And | apply EvB_Or | apply EvP_none | apply EvP_some | apply EvL_nil | refine EvL_cons ?_ (by with_unfolding_all rfl) | apply op_add | apply op_sub | apply op_lt | apply op_le | apply op_gt | apply op_ge | apply op_eq | apply op_iadd))
        rw [hitem]
        refine heapreplace_ok (y := pP m) (r := l.map pP) hK hFA (cmpT G) (gh _ _ _) (hS _) (isT_pP _) ?_
        rw [show pP (p k, k) :: l.map pP = ((p k, k) :: l).map pP from rfl, sup_map (lt := ltP) (ltb := ltPT) pP ltPT_pP, sh]
        refine As_Tuple hFh rfl (As_Name (sto_local hF (by kernel_rfl)) (As_Name (sto_local hF (by kernel_rfl)) ?_))
        refine Exs_cons (Ex_Expr (Ev_Fn (fa := 21) hK (kind_of hF (by kernel_rfl)) (by kernel_rfl) (by kernel_rfl) ?_))
        (repeat (with_reducible first | (refine Ev_Nm (p := ?_) ?_ ?_; rotate_left; · repeat (first | exact Loc.here | refine Loc.there (by decide) ?_)) | apply Ev_Int | apply Ev_None | apply Ev_Str | apply Ev_BinOp | refine Ev_Compare ?_ (by with_unfolding_all rfl) | apply Ev_Subscript | apply Ev_IfExp | refine EvB_Compare ?_ (by with_unfolding_all rfl) | apply EvB_Not | apply EvB_And | apply EvB_Or | apply EvP_none | apply EvP_some | apply EvL_nil | refine EvL_cons ?_ (by with_unfolding_all rfl) | apply op_add | apply op_sub | apply op_lt | apply op_le | apply op_gt | apply op_ge | apply op_eq | apply op_iadd))
        refine Ev_Tuple ?_
        (repeat (with_reducible first | (refine Ev_Nm (p := ?_) ?_ ?_; rotate_left; · repeat (first | exact Loc.here | refine Loc.there (by decide) ?_)) | apply Ev_Int | apply Ev_None | apply Ev_Str | apply Ev_BinOp | refine Ev_Compare ?_ (by with_unfolding_all rfl) | apply Ev_Subscript | apply Ev_IfExp | refine EvB_Compare ?_ (by with_unfolding_all rfl) | apply EvB_Not | apply EvB_And | apply EvB_Or | apply EvP_none | apply EvP_some | apply EvL_nil | refine EvL_cons ?_ (by with_unfolding_all rfl) | apply op_add | apply op_sub | apply op_lt | apply op_le | apply op_gt | apply op_ge | apply op_eq | apply op_iadd))
        refine sub_list (gF _ _ _) (p := .int (r k)) (by rw [HO.items_lst]; exact gi k hkl) ?_
        (repeat (with_reducible first | (refine Ev_Nm (p := ?_) ?_ ?_; rotate_left; · repeat (first | exact Loc.here | refine Loc.there (by decide) ?_)) | apply Ev_Int | apply Ev_None | apply Ev_Str | apply Ev_BinOp | refine Ev_Compare ?_ (by with_unfolding_all rfl) | apply Ev_Subscript | apply Ev_IfExp | refine EvB_Compare ?_ (by with_unfolding_all rfl) | apply EvB_Not | apply EvB_And | apply EvB_Or | apply EvP_none | apply EvP_some | apply EvL_nil | refine EvL_cons ?_ (by with_unfolding_all rfl) | apply op_add | apply op_sub | apply op_lt | apply op_le | apply op_gt | apply op_ge | apply op_eq | apply op_iadd))
        refine ⟨by rw [sizeLine_eq]; exact Nat.le_of_ble_eq_true rfl, ?_⟩
        (repeat (with_reducible first | (refine Ev_Nm (p := ?_) ?_ ?_; rotate_left; · repeat (first | exact Loc.here | refine Loc.there (by decide) ?_)) | apply Ev_Int | apply Ev_None | apply Ev_Str | apply Ev_BinOp | refine Ev_Compare ?_ (by with_unfolding_all rfl) | apply Ev_Subscript | apply Ev_IfExp | refine EvB_Compare ?_ (by with_unfolding_all rfl) | apply EvB_Not | apply EvB_And | apply EvB_Or | apply EvP_none | apply EvP_some | apply EvL_nil | refine EvL_cons ?_ (by with_unfolding_all rfl) | apply op_add | apply op_sub | apply op_lt | apply op_le | apply op_gt | apply op_ge | apply op_eq | apply op_iadd))
        rw [show PV.tup [.int (m.1 + now - r k), .int m.2] = pP (m.1 - (r k - now), m.2) by show _ = PV.tup _; congr 3; (first | lia | omega)]
        refine heappush_ok hK hFA (cmpT G) (gh _ _ _) (hS _) (isT_pP _) ?_ ?_
        · have h1 := s1.length_eq; have h2 := I3.card; have h3 := sub_card I3.nd (fun j hj => List.mem_range.mpr (I3.lt j hj)); simp only [List.length_map, List.length_range, List.length_cons] at *; rw [sizeLine_eq]; exact o9_322 hl (by assumption) h9 hxn h1 h2 h3
        rw [hpush_map (lt := ltP) (ltb := ltPT) pP ltPT_pP, sh]
        refine Exs_nil (last _ _ ?_ (I3.reheap ?_) (hpush_heap ltP_swo _ s2))
        · (repeat (first | exact Loc.le_nil _ | (refine Loc.le_set (by (with_reducible repeat (first | exact Loc.here | refine Loc.there (by decide) ?_))) ?_)))
        · exact (List.Perm.swap ..).trans (((s1.symm.cons _)).trans (hpush_perm _ _).symm)
    refine Exs_cons (Ex_While2 (EI2 r p fs.length i k xs HH (((((Loc.nil.set "firsts" (.ref af)).set "takes" (.ref at_)).set "coming" (.ref ac)).set "heap" (.ref ah)).set "ends" (.ref ae))) hp.length ⟨_, ?_, EI2.mk now hp e done I hheap (hnow k (by rw [hdr]; exact List.mem_cons_self))⟩ ?_)
    · (repeat (first | exact Loc.le_nil _ | (refine Loc.le_set (by (with_reducible repeat (first | exact Loc.here | refine Loc.there (by decide) ?_))) ?_)))
    clear I hheap hnow
    intro _ _ _ zq9
    refine hide fun WW9 hW9 => ?_
    obtain ⟨now, hp, e, done, I, hheap, hnk⟩ := zq9
    refine hW9 ?_
    clear hW9 WW9
    refine EvB.drop ?_
    (repeat (with_reducible first | (refine Ev_Nm (p := ?_) ?_ ?_; rotate_left; · repeat (first | exact Loc.here | refine Loc.there (by decide) ?_)) | apply Ev_Int | apply Ev_None | apply Ev_Str | apply Ev_BinOp | refine Ev_Compare ?_ (by with_unfolding_all rfl) | apply Ev_Subscript | apply Ev_IfExp | refine EvB_Compare ?_ (by with_unfolding_all rfl) | apply EvB_Not | apply EvB_And | apply EvB_Or | apply EvP_none | apply EvP_some | apply EvL_nil | refine EvL_cons ?_ (by with_unfolding_all rfl) | apply op_add | apply op_sub | apply op_lt | apply op_le | apply op_gt | apply op_ge | apply op_eq | apply op_iadd))
    refine Ev_List (EvL_nil ⟨Nat.zero_le _, fun a' ha' => ?_⟩)
    obtain ⟨q1, q2⟩ := hemp _ _ _ a' ha'
    refine op_neL hu1 q1 (AH.set_same ..) q2 ⟨_, rfl, ?_⟩
    cases hp with
    | nil =>
      simp only [List.isEmpty_nil, Bool.not_true, Bool.false_eq_true, if_false]
      refine ⟨_, AH.le_new ha', ?_⟩
      exact after now [] e done _ I hheap hnk (fun _ _ h => by cases h) fun σ3 H3 h => h
    | cons m l =>
      simp only [List.isEmpty_cons, Bool.not_false, if_true]
      (repeat (with_reducible first | (refine Ev_Nm (p := ?_) ?_ ?_; rotate_left; · repeat (first | exact Loc.here | refine Loc.there (by decide) ?_)) | apply Ev_Int | apply Ev_None | apply Ev_Str | apply Ev_BinOp | refine Ev_Compare ?_ (by with_unfolding_all rfl) | apply Ev_Subscript | apply Ev_IfExp | refine EvB_Compare ?_ (by with_unfolding_all rfl) | apply EvB_Not | apply EvB_And | apply EvB_Or | apply EvP_none | apply EvP_some | apply EvL_nil | refine EvL_cons ?_ (by with_unfolding_all rfl) | apply op_add | apply op_sub | apply op_lt | apply op_le | apply op_gt | apply op_ge | apply op_eq | apply op_iadd))
      refine sub_list q1 (p := pP m) rfl ?_
      (repeat (with_reducible first | (refine Ev_Nm (p := ?_) ?_ ?_; rotate_left; · repeat (first | exact Loc.here | refine Loc.there (by decide) ?_)) | apply Ev_Int | apply Ev_None | apply Ev_Str | apply Ev_BinOp | refine Ev_Compare ?_ (by with_unfolding_all rfl) | apply Ev_Subscript | apply Ev_IfExp | refine EvB_Compare ?_ (by with_unfolding_all rfl) | apply EvB_Not | apply EvB_And | apply EvB_Or | apply EvP_none | apply EvP_some | apply EvL_nil | refine EvL_cons ?_ (by with_unfolding_all rfl) | apply op_add | apply op_sub | apply op_lt | apply op_le | apply op_gt | apply op_ge | apply op_eq | apply op_iadd))
      refine sub_tup (by simp) (p := .int m.1) rfl ?_
      (repeat (with_reducible first | (refine Ev_Nm (p := ?_) ?_ ?_; rotate_left; · repeat (first | exact Loc.here | refine Loc.there (by decide) ?_)) | apply Ev_Int | apply Ev_None | apply Ev_Str | apply Ev_BinOp | refine Ev_Compare ?_ (by with_unfolding_all rfl) | apply Ev_Subscript | apply Ev_IfExp | refine EvB_Compare ?_ (by with_unfolding_all rfl) | apply EvB_Not | apply EvB_And | apply EvB_Or | apply EvP_none | apply EvP_some | apply EvL_nil | refine EvL_cons ?_ (by with_unfolding_all rfl) | apply op_add | apply op_sub | apply op_lt | apply op_le | apply op_gt | apply op_ge | apply op_eq | apply op_iadd))
      refine sub_list (ho := .lst (fs.map .int)) (by rw [AH.set_ne _ _ (by rintro rfl; rw [gF] at ha'; cases ha')]; exact gF _ _ _) (p := .int (r k)) (gi k hkl) ?_
      (repeat (with_reducible first | (refine Ev_Nm (p := ?_) ?_ ?_; rotate_left; · repeat (first | exact Loc.here | refine Loc.there (by decide) ?_)) | apply Ev_Int | apply Ev_None | apply Ev_Str | apply Ev_BinOp | refine Ev_Compare ?_ (by with_unfolding_all rfl) | apply Ev_Subscript | apply Ev_IfExp | refine EvB_Compare ?_ (by with_unfolding_all rfl) | apply EvB_Not | apply EvB_And | apply EvB_Or | apply EvP_none | apply EvP_some | apply EvL_nil | refine EvL_cons ?_ (by with_unfolding_all rfl) | apply op_add | apply op_sub | apply op_lt | apply op_le | apply op_gt | apply op_ge | apply op_eq | apply op_iadd))
      refine ⟨_, rfl, HH (.fro (xs.map cI)) (m :: l) e, AH.le_new ha', ?_⟩
      by_cases hle : now + m.1 ≤ r k
      · rw [if_pos (by simpa using hle)]
        refine hide fun WW9 hW9 => ?_
        obtain ⟨ys, y, hys⟩ := snoc_of m l
        refine hW9 ?_
        clear hW9 WW9
        have hfst := hpop_fst (lt := ltP) hys
        rw [hys] at hheap
        refine hide fun WW9 hW9 => ?_
        obtain ⟨p1, p2, p3⟩ := hpop_all ltP_swo hheap
        refine hW9 ?_
        clear hW9 WW9
        rw [hfst, ← hys] at p1
        have hmin' : ∀ z ∈ (hpop ltP ys y).2, m.1 ≤ z.1 := hmin m _ fun z hz => by
          have := p3 z (by rw [← hys]; exact p1.mem_iff.mp (List.mem_cons_of_mem _ hz)); rw [hfst] at this; exact this
        have I2 := (I.reheap p1.symm).pop hmin' hp1 fun j hj hja => by have := hfut j hj hja; exact o9_323 hle this
        have hmp : (m :: l).map pP = ys.map pP ++ [pP y] := by rw [hys, List.map_append]; rfl
        have hpm := hpop_map (ltb := ltPT) pP ltPT_pP ys y
        refine Exs_cons (Ex_AugName (sto_local hF (by kernel_rfl)) (p := .int now) (by (with_reducible repeat (first | exact Loc.here | refine Loc.there (by decide) ?_))) (Ev_Subscript (Ev_Fn (fa := 28) hK (kind_of hF (by kernel_rfl)) (by kernel_rfl) (by kernel_rfl) ?_)))
        (repeat (with_reducible first | (refine Ev_Nm (p := ?_) ?_ ?_; rotate_left; · repeat (first | exact Loc.here | refine Loc.there (by decide) ?_)) | apply Ev_Int | apply Ev_None | apply Ev_Str | apply Ev_BinOp | refine Ev_Compare ?_ (by with_unfolding_all rfl) | apply Ev_Subscript | apply Ev_IfExp | refine EvB_Compare ?_ (by with_unfolding_all rfl) | apply EvB_Not | apply EvB_And | apply EvB_Or | apply EvP_none | apply EvP_some | apply EvL_nil | refine EvL_cons ?_ (by with_unfolding_all rfl) | apply op_add | apply op_sub | apply op_lt | apply op_le | apply op_gt | apply op_ge | apply op_eq | apply op_iadd))
        refine heappop_ok hK hFA (cmpT G) (by rw [gh, hmp]) (by rw [← hmp]; exact hS _) ?_
        rw [hpm, hfst, sh]
        (repeat (with_reducible first | (refine Ev_Nm (p := ?_) ?_ ?_; rotate_left; · repeat (first | exact Loc.here | refine Loc.there (by decide) ?_)) | apply Ev_Int | apply Ev_None | apply Ev_Str | apply Ev_BinOp | refine Ev_Compare ?_ (by with_unfolding_all rfl) | apply Ev_Subscript | apply Ev_IfExp | refine EvB_Compare ?_ (by with_unfolding_all rfl) | apply EvB_Not | apply EvB_And | apply EvB_Or | apply EvP_none | apply EvP_some | apply EvL_nil | refine EvL_cons ?_ (by with_unfolding_all rfl) | apply op_add | apply op_sub | apply op_lt | apply op_le | apply op_gt | apply op_ge | apply op_eq | apply op_iadd))
        refine sub_tup (by simp) (p := .int m.1) rfl ?_
        (repeat (with_reducible first | (refine Ev_Nm (p := ?_) ?_ ?_; rotate_left; · repeat (first | exact Loc.here | refine Loc.there (by decide) ?_)) | apply Ev_Int | apply Ev_None | apply Ev_Str | apply Ev_BinOp | refine Ev_Compare ?_ (by with_unfolding_all rfl) | apply Ev_Subscript | apply Ev_IfExp | refine EvB_Compare ?_ (by with_unfolding_all rfl) | apply EvB_Not | apply EvB_And | apply EvB_Or | apply EvP_none | apply EvP_some | apply EvL_nil | refine EvL_cons ?_ (by with_unfolding_all rfl) | apply op_add | apply op_sub | apply op_lt | apply op_le | apply op_gt | apply op_ge | apply op_eq | apply op_iadd))
        refine Exs_cons (Ex_Expr (Ev_MethL PySem.F.slot_list_append rfl ?_))
        (repeat (with_reducible first | (refine Ev_Nm (p := ?_) ?_ ?_; rotate_left; · repeat (first | exact Loc.here | refine Loc.there (by decide) ?_)) | apply Ev_Int | apply Ev_None | apply Ev_Str | apply Ev_BinOp | refine Ev_Compare ?_ (by with_unfolding_all rfl) | apply Ev_Subscript | apply Ev_IfExp | refine EvB_Compare ?_ (by with_unfolding_all rfl) | apply EvB_Not | apply EvB_And | apply EvB_Or | apply EvP_none | apply EvP_some | apply EvL_nil | refine EvL_cons ?_ (by with_unfolding_all rfl) | apply op_add | apply op_sub | apply op_lt | apply op_le | apply op_gt | apply op_ge | apply op_eq | apply op_iadd))
        refine ⟨ae, _, rfl, ge _ _ _, ?_⟩
        (repeat (with_reducible first | (refine Ev_Nm (p := ?_) ?_ ?_; rotate_left; · repeat (first | exact Loc.here | refine Loc.there (by decide) ?_)) | apply Ev_Int | apply Ev_None | apply Ev_Str | apply Ev_BinOp | refine Ev_Compare ?_ (by with_unfolding_all rfl) | apply Ev_Subscript | apply Ev_IfExp | refine EvB_Compare ?_ (by with_unfolding_all rfl) | apply EvB_Not | apply EvB_And | apply EvB_Or | apply EvP_none | apply EvP_some | apply EvL_nil | refine EvL_cons ?_ (by with_unfolding_all rfl) | apply op_add | apply op_sub | apply op_lt | apply op_le | apply op_gt | apply op_ge | apply op_eq | apply op_iadd))
        refine op_append (ge _ _ _) ?_ ?_
        · have := I.card; have := I.len; have := sub_card I.nd (fun j hj => List.mem_range.mpr (I.lt j hj)); simp only [List.length_map, List.length_range, List.length_cons] at *; rw [sizeLine_eq]; exact o9_324 hl h2 h9 hxn (by assumption) (by assumption) this
        rw [show e.map PV.int ++ [.int (now + m.1)] = (e ++ [now + m.1]).map .int by simp, se]
        refine Exs_nil ⟨(hpop ltP ys y).2.length, ?_, _, ?_, EI2.mk (now + m.1) (hpop ltP ys y).2 (e ++ [now + m.1]) (done ++ [m.2]) I2 p2 hle⟩
        · have := p1.length_eq; simp only [List.length_cons] at this ⊢; exact o9_325 this
        · (repeat (first | exact Loc.le_nil _ | (refine Loc.le_set (by (with_reducible repeat (first | exact Loc.here | refine Loc.there (by decide) ?_))) ?_)))
      · rw [if_neg (by simpa using hle)]
        exact after now (m :: l) e done _ I hheap hnk (fun m' l' h => by cases h; exact o9_326 hle) fun σ3 H3 h => h
  · intro _ _ zq9
    refine hide fun WW9 hW9 => ?_
    obtain ⟨now, hp, e, done, I, hheap, _⟩ := zq9
    refine hW9 ?_
    clear hW9 WW9
    rw [HO.items_fro, List.length_map, List.take_length] at I
    subst hτ
    rw [sc]
    refine Exs_cons (Ex_While2 (EI3 r p fs.length xs HH (((((Loc.nil.set "firsts" (.ref af)).set "takes" (.ref at_)).set "coming" (.ref ac)).set "heap" (.ref ah)).set "ends" (.ref ae))) hp.length ⟨_, ?_, EI3.mk now hp e done I hheap⟩ ?_)
    · (repeat (first | exact Loc.le_nil _ | (refine Loc.le_set (by (with_reducible repeat (first | exact Loc.here | refine Loc.there (by decide) ?_))) ?_)))
    clear I hheap
    intro _ _ _ zq9
    refine hide fun WW9 hW9 => ?_
    obtain ⟨now, hp, e, done, I, hheap⟩ := zq9
    refine hW9 ?_
    clear hW9 WW9
    refine EvB.drop ?_
    (repeat (with_reducible first | (refine Ev_Nm (p := ?_) ?_ ?_; rotate_left; · repeat (first | exact Loc.here | refine Loc.there (by decide) ?_)) | apply Ev_Int | apply Ev_None | apply Ev_Str | apply Ev_BinOp | refine Ev_Compare ?_ (by with_unfolding_all rfl) | apply Ev_Subscript | apply Ev_IfExp | refine EvB_Compare ?_ (by with_unfolding_all rfl) | apply EvB_Not | apply EvB_And | apply EvB_Or | apply EvP_none | apply EvP_some | apply EvL_nil | refine EvL_cons ?_ (by with_unfolding_all rfl) | apply op_add | apply op_sub | apply op_lt | apply op_le | apply op_gt | apply op_ge | apply op_eq | apply op_iadd))
    refine Ev_List (EvL_nil ⟨Nat.zero_le _, fun a' ha' => ?_⟩)
    obtain ⟨q1, q2⟩ := hemp _ _ _ a' ha'
    refine op_neL hu1 q1 (AH.set_same ..) q2 ⟨_, rfl, _, AH.le_new ha', ?_⟩
    cases hp with
    | nil =>
      simp only [List.isEmpty_nil, Bool.not_true, Bool.false_eq_true, if_false]
      refine Exs_cons (Ex_Return ?_)
      (repeat (with_reducible first | (refine Ev_Nm (p := ?_) ?_ ?_; rotate_left; · repeat (first | exact Loc.here | refine Loc.there (by decide) ?_)) | apply Ev_Int | apply Ev_None | apply Ev_Str | apply Ev_BinOp | refine Ev_Compare ?_ (by with_unfolding_all rfl) | apply Ev_Subscript | apply Ev_IfExp | refine EvB_Compare ?_ (by with_unfolding_all rfl) | apply EvB_Not | apply EvB_And | apply EvB_Or | apply EvP_none | apply EvP_some | apply EvL_nil | refine EvL_cons ?_ (by with_unfolding_all rfl) | apply op_add | apply op_sub | apply op_lt | apply op_le | apply op_gt | apply op_ge | apply op_eq | apply op_iadd))
      refine ⟨H.set ae (.lst (e.map .int)), ?_, hQ e ?_ I.out ae hae⟩
      · rw [← hHH]; dsimp only
        exact AH.le_set _ _ (AH.le_trans (AH.le_new hac) (AH.le_new (by rw [AH.set_ne _ _ n2]; exact hah)))
      · have h1 := I.card; have h2 := I.len; simp only [List.length_reverse, List.length_nil] at h1; exact o9_327 h2 hl h1 hxn
    | cons m l =>
      simp only [List.isEmpty_cons, Bool.not_false, if_true]
      refine hide fun WW9 hW9 => ?_
      obtain ⟨ys, y, hys⟩ := snoc_of m l
      refine hW9 ?_
      clear hW9 WW9
      have hfst := hpop_fst (lt := ltP) hys
      rw [hys] at hheap
      refine hide fun WW9 hW9 => ?_
      obtain ⟨p1, p2, p3⟩ := hpop_all ltP_swo hheap
      refine hW9 ?_
      clear hW9 WW9
      rw [hfst, ← hys] at p1
      have hmin' : ∀ z ∈ (hpop ltP ys y).2, m.1 ≤ z.1 := hmin m _ fun z hz => by
        have := p3 z (by rw [← hys]; exact p1.mem_iff.mp (List.mem_cons_of_mem _ hz)); rw [hfst] at this; exact this
      have I2 := (I.reheap p1.symm).pop hmin' hp1 fun j hj hja => absurd (List.mem_reverse.mpr (hxp.mem_iff.mpr (List.mem_range.mpr hj))) hja
      have hmp : (m :: l).map pP = ys.map pP ++ [pP y] := by rw [hys, List.map_append]; rfl
      have hpm := hpop_map (ltb := ltPT) pP ltPT_pP ys y
      refine Exs_cons (Ex_AugName (sto_local hF (by kernel_rfl)) (p := .int now) (by (with_reducible repeat (first | exact Loc.here | refine Loc.there (by decide) ?_))) (Ev_Subscript (Ev_Fn (fa := 28) hK (kind_of hF (by kernel_rfl)) (by kernel_rfl) (by kernel_rfl) ?_)))
      (repeat (with_reducible first | (refine Ev_Nm (p := ?_) ?_ ?_; rotate_left; · repeat (first | exact Loc.here | refine Loc.there (by decide) ?_)) | apply Ev_Int | apply Ev_None | apply Ev_Str | apply Ev_BinOp | refine Ev_Compare ?_ (by with_unfolding_all rfl) | apply Ev_Subscript | apply Ev_IfExp | refine EvB_Compare ?_ (by with_unfolding_all rfl) | apply EvB_Not | apply EvB_And | apply EvB_Or | apply EvP_none | apply EvP_some | apply EvL_nil | refine EvL_cons ?_ (by with_unfolding_all rfl) | apply op_add | apply op_sub | apply op_lt | apply op_le | apply op_gt | apply op_ge | apply op_eq | apply op_iadd))
      refine heappop_ok hK hFA (cmpT G) (by rw [gh, hmp]) (by rw [← hmp]; exact hS _) ?_
      rw [hpm, hfst, sh]
      (repeat (with_reducible first | (refine Ev_Nm (p := ?_) ?_ ?_; rotate_left; · repeat (first | exact Loc.here | refine Loc.there (by decide) ?_)) | apply Ev_Int | apply Ev_None | apply Ev_Str | apply Ev_BinOp | refine Ev_Compare ?_ (by with_unfolding_all rfl) | apply Ev_Subscript | apply Ev_IfExp | refine EvB_Compare ?_ (by with_unfolding_all rfl) | apply EvB_Not | apply EvB_And | apply EvB_Or | apply EvP_none | apply EvP_some | apply EvL_nil | refine EvL_cons ?_ (by with_unfolding_all rfl) | apply op_add | apply op_sub | apply op_lt | apply op_le | apply op_gt | apply op_ge | apply op_eq | apply op_iadd))
      refine sub_tup (by simp) (p := .int m.1) rfl ?_
      (repeat (with_reducible first | (refine Ev_Nm (p := ?_) ?_ ?_; rotate_left; · repeat (first | exact Loc.here | refine Loc.there (by decide) ?_)) | apply Ev_Int | apply Ev_None | apply Ev_Str | apply Ev_BinOp | refine Ev_Compare ?_ (by with_unfolding_all rfl) | apply Ev_Subscript | apply Ev_IfExp | refine EvB_Compare ?_ (by with_unfolding_all rfl) | apply EvB_Not | apply EvB_And | apply EvB_Or | apply EvP_none | apply EvP_some | apply EvL_nil | refine EvL_cons ?_ (by with_unfolding_all rfl) | apply op_add | apply op_sub | apply op_lt | apply op_le | apply op_gt | apply op_ge | apply op_eq | apply op_iadd))
      refine Exs_cons (Ex_Expr (Ev_MethL PySem.F.slot_list_append rfl ?_))
      (repeat (with_reducible first | (refine Ev_Nm (p := ?_) ?_ ?_; rotate_left; · repeat (first | exact Loc.here | refine Loc.there (by decide) ?_)) | apply Ev_Int | apply Ev_None | apply Ev_Str | apply Ev_BinOp | refine Ev_Compare ?_ (by with_unfolding_all rfl) | apply Ev_Subscript | apply Ev_IfExp | refine EvB_Compare ?_ (by with_unfolding_all rfl) | apply EvB_Not | apply EvB_And | apply EvB_Or | apply EvP_none | apply EvP_some | apply EvL_nil | refine EvL_cons ?_ (by with_unfolding_all rfl) | apply op_add | apply op_sub | apply op_lt | apply op_le | apply op_gt | apply op_ge | apply op_eq | apply op_iadd))
      refine ⟨ae, _, rfl, ge _ _ _, ?_⟩
      (repeat (with_reducible first | (refine Ev_Nm (p := ?_) ?_ ?_; rotate_left; · repeat (first | exact Loc.here | refine Loc.there (by decide) ?_)) | apply Ev_Int | apply Ev_None | apply Ev_Str | apply Ev_BinOp | refine Ev_Compare ?_ (by with_unfolding_all rfl) | apply Ev_Subscript | apply Ev_IfExp | refine EvB_Compare ?_ (by with_unfolding_all rfl) | apply EvB_Not | apply EvB_And | apply EvB_Or | apply EvP_none | apply EvP_some | apply EvL_nil | refine EvL_cons ?_ (by with_unfolding_all rfl) | apply op_add | apply op_sub | apply op_lt | apply op_le | apply op_gt | apply op_ge | apply op_eq | apply op_iadd))
      refine op_append (ge _ _ _) ?_ ?_
      · have := I.card; have := I.len; have := sub_card I.nd (fun j hj => List.mem_range.mpr (I.lt j hj)); simp only [List.length_map, List.length_range, List.length_cons] at *; rw [sizeLine_eq]; exact o9_324 hl h2 h9 hxn (by assumption) (by assumption) this
      rw [show e.map PV.int ++ [.int (now + m.1)] = (e ++ [now + m.1]).map .int by simp, se]
      refine Exs_nil ⟨(hpop ltP ys y).2.length, ?_, _, ?_, EI3.mk (now + m.1) (hpop ltP ys y).2 (e ++ [now + m.1]) (done ++ [m.2]) I2 p2⟩
      · have := p1.length_eq; simp only [List.length_cons] at this ⊢; exact o9_325 this
      · (repeat (first | exact Loc.le_nil _ | (refine Loc.le_set (by (with_reducible repeat (first | exact Loc.here | refine Loc.there (by decide) ?_))) ?_)))


noncomputable def setOf (n : Nat) (q : Nat → Bool) : List Nat := (List.range n).filter q
theorem setOf_lt {n : Nat} {q : Nat → Bool} {j : Nat} (h : j ∈ setOf n q) : j < n := List.mem_range.mp (List.mem_filter.mp h).1
theorem setOf_nodup (n : Nat) (q : Nat → Bool) : (setOf n q).Nodup := List.nodup_range.filter _
theorem bits_zero : ∀ (n m : Nat), m < 2 ^ n → (∀ k < n, bit m k = false) → m = 0
  | 0, m, h, _ => by simpa using h
  | n + 1, m, h, hb => by
    have h0 := hb 0 (by exact o9_328)
    have hd : m / 2 = 0 := bits_zero n (m / 2) (by rw [Nat.pow_succ] at h; exact o9_329 h) fun k hk => by
      have := hb (k + 1) (by exact o9_330 hk)
      unfold bit at this ⊢
      rw [Nat.div_div_eq_div_mul, ← Nat.pow_succ']; exact this
    unfold bit at h0
    rw [Nat.pow_zero, Nat.div_one] at h0
    have := beq_eq_false_iff_ne.mp h0
    exact o9_331 this hd
theorem bit_int (m k : Nat) : (((m : Int).fdiv ((2 ^ k : Nat) : Int)).fmod 2 == 1) = bit m k := by
  unfold bit
  rw [Int.fdiv_eq_ediv_of_nonneg _ (Int.natCast_nonneg _), Int.fmod_eq_emod_of_nonneg _ (by decide)]
  apply bool_eq_of_iff
  rw [beq_iff_eq, beq_iff_eq]
  have : ((m : Int) / ((2 ^ k : Nat) : Int)) = ((m / 2 ^ k : Nat) : Int) := by simp
  rw [this]; (first | lia | omega)
noncomputable def overs (r p : Nat → Int) (S : List Nat) : List Int := S.map fun k => r k + hrs r p S (r k)
noncomputable def LInv (r p : Nat → Int) (n N : Nat) (rows : List (List Int)) : Prop := rows.length = n + 1 ∧ ∀ k row, rows[k]? = some row → row.length < N ∧
  (∀ V ∈ row, ∃ S : List Nat, S.Nodup ∧ (∀ j ∈ S, j < n) ∧ S.length = k ∧ V ∈ overs r p S ∧ ∀ x ∈ overs r p S, x ≤ V) ∧
  ∀ m, 1 ≤ m → m < N → (setOf n (bit m)).length = k → ∃ V ∈ row, V ∈ overs r p (setOf n (bit m))
theorem LInv.zero (r p : Nat → Int) (n : Nat) : LInv r p n 1 (List.replicate (n + 1) []) := by
  refine ⟨by simp, fun k row h => ?_⟩
  have hr : row = [] := by
    rw [List.getElem?_replicate] at h; split at h
    · cases h; rfl
    · cases h
  subst hr
  exact ⟨by simp, by simp, fun m h1 h2 => by exact (o9_333 h1 h2).elim⟩
theorem LInv.step {r p : Nat → Int} {n N : Nat} {rows : List (List Int)} (h : LInv r p n N rows) {V : Int} {row : List Int} (hrow : rows[(setOf n (bit N)).length]? = some row) (h1 : V ∈ overs r p (setOf n (bit N))) (h2 : ∀ x ∈ overs r p (setOf n (bit N)), x ≤ V) :
    LInv r p n (N + 1) (rows.set (setOf n (bit N)).length (row ++ [V])) := by
  refine ⟨by rw [List.length_set]; exact h.1, fun k row' hk => ?_⟩
  by_cases hkk : k = (setOf n (bit N)).length
  · subst hkk
    rw [List.getElem?_set_self (List.getElem?_eq_some_iff.mp hrow).1] at hk
    cases hk
    refine hide fun WW9 hW9 => ?_
    obtain ⟨g0, g1, g2⟩ := h.2 _ row hrow
    refine hW9 ?_
    clear hW9 WW9
    refine ⟨by rw [List.length_append, List.length_singleton]; exact o9_330 g0, fun W hW => ?_, fun m hm1 hm2 hml => ?_⟩
    · rcases List.mem_append.mp hW with hW | hW
      · exact g1 W hW
      · rw [List.mem_singleton.mp hW]
        exact ⟨setOf n (bit N), setOf_nodup _ _, fun j hj => setOf_lt hj, rfl, h1, h2⟩
    · rcases Nat.lt_or_eq_of_le (Nat.lt_succ_iff.mp hm2) with hlt | heq
      · obtain ⟨W, w1, w2⟩ := g2 m hm1 hlt hml; exact ⟨W, List.mem_append_left _ w1, w2⟩
      · subst heq
        exact ⟨V, List.mem_append_right _ (List.mem_singleton.mpr rfl), h1⟩
  · rw [List.getElem?_set_ne (Ne.symm hkk)] at hk
    refine hide fun WW9 hW9 => ?_
    obtain ⟨g0, g1, g2⟩ := h.2 k row' hk
    refine hW9 ?_
    clear hW9 WW9
    refine ⟨by exact o9_334 g0, g1, fun m hm1 hm2 hml => ?_⟩
    rcases Nat.lt_or_eq_of_le (Nat.lt_succ_iff.mp hm2) with hlt | heq
    · exact g2 m hm1 hlt hml
    · subst heq; exact absurd hml.symm hkk

theorem LInv.min {r p : Nat → Int} {n : Nat} {rows : List (List Int)} (h : LInv r p n (2 ^ n) rows) {k : Nat} {row : List Int} {C : Int} (hrow : rows[k + 1]? = some row) (hC : EndAt r p n (k + 1) C) :
    row ≠ [] ∧ ∀ m ∈ row, (∀ x ∈ row, m ≤ x) → m = C := by
  refine hide fun WW9 hW9 => ?_
  obtain ⟨_, g1, g2⟩ := h.2 _ row hrow
  refine hW9 ?_
  clear hW9 WW9
  refine hide fun WW9 hW9 => ?_
  obtain ⟨hlow, S, s1, s2, s3, s4⟩ := hC
  refine hW9 ?_
  clear hW9 WW9
  refine hide fun WW9 hW9 => ?_
  obtain ⟨m0, hm0, hb⟩ := bits_all (fun j => decide (j ∈ S)) n
  refine hW9 ?_
  clear hW9 WW9
  have hset : setOf n (bit m0) = (List.range n).filter fun j => decide (j ∈ S) := List.filter_congr fun j hj => by rw [hb j (List.mem_range.mp hj)]
  have hperm : S.Perm (setOf n (bit m0)) := by
    rw [List.perm_ext_iff_of_nodup s1 (setOf_nodup _ _)]
    intro j
    rw [hset, List.mem_filter, List.mem_range]
    exact ⟨fun hj => ⟨s2 j hj, by simpa using hj⟩, fun hj => by simpa using hj.2⟩
  have hlen : (setOf n (bit m0)).length = k + 1 := by rw [← hperm.length_eq]; exact s3
  have hm1 : 1 ≤ m0 := by
    rcases Nat.eq_zero_or_pos m0 with h0 | h0
    · subst h0
      have : setOf n (bit 0) = [] := List.filter_eq_nil_iff.mpr fun j _ => by simp [bit]
      rw [this] at hlen; cases hlen
    · exact h0
  refine hide fun WW9 hW9 => ?_
  obtain ⟨V, v1, v2⟩ := g2 m0 hm1 hm0 hlen
  refine hW9 ?_
  clear hW9 WW9
  refine ⟨(by rintro rfl; cases v1), fun m hm hmin => ?_⟩
  refine hide fun WW9 hW9 => ?_
  obtain ⟨S', t1, t2, t3, t4, t5⟩ := g1 m hm
  refine hW9 ?_
  clear hW9 WW9
  apply Int.le_antisymm
  · -- m ≤ V0 ≤ C
    refine hide fun WW9 hW9 => ?_
    obtain ⟨i, hi, eq9_0⟩ := List.mem_map.mp v2
    refine hW9 ?_
    clear hW9 WW9
    subst eq9_0
    refine Int.le_trans (hmin _ v1) ?_
    rw [← hrs_perm hperm]
    exact s4 i (hperm.mem_iff.mpr hi)
  · refine hide fun WW9 hW9 => ?_
    obtain ⟨i, hi, hle⟩ := hlow S' t1 t2 t3
    refine hW9 ?_
    clear hW9 WW9
    exact Int.le_trans hle (t5 _ (List.mem_map.mpr ⟨i, hi, rfl⟩))

theorem Ev.frz {G : Cx} {F : Fx} {σ : Loc} {H : AH} {e : Expr} {Q : PV → AH → Prop} (h : Ev G F e σ H (fun p H1 => ∃ a ho, H1 a = some ho ∧ Q p (H1.set a (.fro ho.items)))) : Ev G F e σ H Q := fun s ok lr =>
  wpAny_mono (h s ok lr) (fun v s1 zz2 => zz2.on fun p H1 hv ok1 k1 zz2_5 => zz2_5.elim fun a zz2_5 => zz2_5.elim fun ho zz2_5 => zz2_5.elim fun hH hq => ⟨p, _, hv, frz_ok ok1 hH, ⟨k1.os, k1.kept, fun b o e => by
    by_cases hb : b = a
    · subst hb; rw [AH.set_same] at e; cases e
      exact (k1.dom b ho hH).imp id fun zz0 => by obtain ⟨o', h1, _⟩ := zz0; exact ⟨o', h1, fun h => by cases h⟩
    · rw [AH.set_ne _ _ hb] at e; exact k1.dom b o e⟩, hq⟩) fun _ _ x => x
theorem free_ok2 {F F' : Fx} {scope scope2 : Scope} (hF' : CF F F' scope) (h : (scope2.names.all fun x => x.2 != .free || scope.names.lookup x.1 == some .cell || scope.names.lookup x.1 == some .free) = true) : freeOk F' scope2 := fun x hx => by
  have := List.all_eq_true.mp h _ (mem_of_lookup hx)
  simp only [Bool.or_eq_true, bne_self_eq_false, Bool.false_eq_true, false_or, beq_iff_eq] at this
  rcases this with h | h
  · exact .inl (hF'.kind x _ h (by decide))
  · exact hF'.free x h

structure Rows (H : AH) (as : List Addr) (rows : List (List Int)) (H' : AH) : Prop where
  len : rows.length = as.length
  nd : as.Nodup
  new : ∀ a ∈ as, H a = none
  le : AH.le H H'
  here : ∀ (i : Nat) (a : Addr) (row : List Int), as[i]? = some a → rows[i]? = some row → H' a = some (.lst (row.map .int))
theorem Rows.nil (H : AH) : Rows H [] [] H := ⟨rfl, List.nodup_nil, by simp, AH.le_refl _, by simp⟩
theorem Rows.snoc {H H' : AH} {as : List Addr} {rows : List (List Int)} (x : Rows H as rows H') {a : Addr} (ha : H' a = none) : Rows H (as ++ [a]) (rows ++ [[]]) (H'.set a (.lst [])) := by
  have haH : H a = none := by
    cases e : H a with
    | none => rfl
    | some o => rw [x.le a o e] at ha; cases ha
  have hna : a ∉ as := fun hm => by
    obtain ⟨i, hi⟩ := List.mem_iff_getElem?.mp hm
    obtain ⟨row, hrow⟩ : ∃ row, rows[i]? = some row := ⟨_, List.getElem?_eq_getElem (by rw [x.len]; exact (List.getElem?_eq_some_iff.mp hi).1)⟩
    rw [x.here i a row hi hrow] at ha; cases ha
  refine ⟨by simp [x.len], List.nodup_append.mpr ⟨x.nd, by simp, fun b hb c hc => by rw [List.mem_singleton.mp hc]; rintro rfl; exact hna hb⟩, fun b hb => ?_, AH.le_trans x.le (AH.le_new ha), fun i b row hb hrow => ?_⟩
  · rcases List.mem_append.mp hb with hb | hb
    · exact x.new b hb
    · rw [List.mem_singleton.mp hb]; exact haH
  · rcases Nat.lt_or_ge i as.length with hi | hi
    · rw [List.getElem?_append_left hi] at hb
      rw [List.getElem?_append_left (by rw [x.len]; exact hi)] at hrow
      rw [AH.set_ne _ _ (by rintro rfl; exact hna (List.mem_of_getElem? hb))]
      exact x.here i b row hb hrow
    · rw [List.getElem?_append_right hi] at hb
      rw [List.getElem?_append_right (by rw [x.len]; exact hi), x.len] at hrow
      obtain ⟨h0, hb⟩ : i - as.length = 0 ∧ b = a := by
        have := (List.getElem?_eq_some_iff.mp hb).1
        have h0 : i - as.length = 0 := by simpa using this
        rw [h0] at hb; exact ⟨h0, by simpa using hb.symm⟩
      subst hb
      rw [h0] at hrow
      obtain rfl : row = [] := by simpa using hrow.symm
      exact AH.set_same ..
theorem Rows.more {H H' H'' : AH} {as : List Addr} {rows : List (List Int)} (x : Rows H as rows H') (h : AH.le H' H'') : Rows H as rows H'' :=
  ⟨x.len, x.nd, x.new, AH.le_trans x.le h, fun i a row ha hr => h _ _ (x.here i a row ha hr)⟩
theorem Rows.put {H H' : AH} {as : List Addr} {rows : List (List Int)} (x : Rows H as rows H') {i : Nat} {a : Addr} {row : List Int} (ha : as[i]? = some a) : Rows H as (rows.set i row) (H'.set a (.lst (row.map .int))) := by
  refine ⟨by rw [List.length_set]; exact x.len, x.nd, x.new, fun b o e => ?_, fun j b row' hb hr => ?_⟩
  · rw [AH.set_ne _ _ (by rintro rfl; rw [x.new b (List.mem_of_getElem? ha)] at e; cases e)]; exact x.le b o e
  · by_cases hj : j = i
    · subst hj
      rw [ha] at hb; cases hb
      rw [List.getElem?_set_self (by rw [x.len]; exact (List.getElem?_eq_some_iff.mp ha).1)] at hr; cases hr
      exact AH.set_same ..
    · rw [List.getElem?_set_ne (Ne.symm hj)] at hr
      rw [AH.set_ne _ _ fun hba => ?_]
      · exact x.here j b row' hb hr
      · subst hba
        obtain ⟨h1, h2⟩ := List.getElem?_eq_some_iff.mp ha
        obtain ⟨h3, h4⟩ := List.getElem?_eq_some_iff.mp hb
        exact hj ((List.getElem_inj x.nd).mp (h4.trans h2.symm))
theorem law_least_ok {G : Cx} {A : Around} {H : AH} {Q : PV → AH → Prop} {af at_ : Addr} {fs ts ends : List Int} (hK : G.K = KK G) (hA : A.depth < 850 ∧ A.units < 8500) (hh : A.handled = none)
    (hHf : H af = some (.lst (fs.map .int))) (hHt : H at_ = some (.lst (ts.map .int))) (hl : fs.length = ts.length) (h2 : 2 ≤ fs.length) (h9 : fs.length ≤ 9) (hel : ends.length = fs.length)
    (hends : ∀ k C, ends[k]? = some C → EndAt (fun j => fs.getD j 0) (fun j => ts.getD j 1) fs.length (k + 1) C)
    (hQ : ∀ a', H a' = none → Q (.ref a') (H.set a' (.lst (ends.map .int)))) :
    OpL G A (fun vs => call (.ref 84) vs) [.ref af, .ref at_] H Q := by
  refine OpL.drop (call_fn (ns := ["firsts", "takes"]) (dps := []) (dvs := []) hK (by kernel_rfl) (Nat.lt_of_lt_of_le hA.1 (by decide)) (fun _ => rfl) ?_ ?_)
  · intro h vs hvs
    refine hide fun WW9 hW9 => ?_
    obtain ⟨v1, v2, eq9_0, _, _⟩ := hvs.two_inv
    refine hW9 ?_
    clear hW9 WW9
    subst eq9_0
    kernel_rfl
  intro F hF
  have hu : F.A.units < cLine := hF.lt hA.2 (by decide)
  have hFA : F.A.depth < 880 ∧ F.A.units < 8800 := hF.room hA (by decide) (by decide)
  have hFh : F.A.handled = none := by rw [hF.handled]; exact hh
  have gi : ∀ j, j < fs.length → pyIdx (fs.map PV.int) (j : Int) = some (.int (fs.getD j 0)) := fun j hj => by
    rw [pyIdx_nat, List.getElem?_map, List.getD_eq_getElem?_getD, List.getElem?_eq_getElem hj]; rfl
  have gti : ∀ j, j < fs.length → pyIdx (ts.map PV.int) (j : Int) = some (.int (ts.getD j 1)) := fun j hj => by
    rw [pyIdx_nat, List.getElem?_map, List.getD_eq_getElem?_getD, List.getElem?_eq_getElem (by exact o9_315 hj hl hel)]; rfl
  ((simp only [bindσ, List.zip_cons_cons, List.zip_nil_right, List.zip_nil_left, List.cons_append, List.nil_append]; rw [show (fun _ => none : Loc) = Loc.nil from rfl]))
  refine Exs_cons (Ex_Assign (sto_local hF (by kernel_rfl)) (Ev_Bi "len" hK (kind_of hF (by kernel_rfl)) (by kernel_rfl) (by decide +kernel) (by decide) ?_))
  (repeat (with_reducible first | (refine Ev_Nm (p := ?_) ?_ ?_; rotate_left; · repeat (first | exact Loc.here | refine Loc.there (by decide) ?_)) | apply Ev_Int | apply Ev_None | apply Ev_Str | apply Ev_BinOp | refine Ev_Compare ?_ (by with_unfolding_all rfl) | apply Ev_Subscript | apply Ev_IfExp | refine EvB_Compare ?_ (by with_unfolding_all rfl) | apply EvB_Not | apply EvB_And | apply EvB_Or | apply EvP_none | apply EvP_some | apply EvL_nil | refine EvL_cons ?_ (by with_unfolding_all rfl) | apply op_add | apply op_sub | apply op_lt | apply op_le | apply op_gt | apply op_ge | apply op_eq | apply op_iadd))
  refine op_len hHf ?_
  rw [HO.items_lst, List.length_map]
  refine Exs_cons (Ex_AssignComp (by kernel_rfl) (free_ok hF (by kernel_rfl)) (kind_of hF (by kernel_rfl)) (by kernel_rfl) (by kernel_rfl) ?_)
  refine Ev_Ty "range" hK (kind_of hF (by kernel_rfl)) (by kernel_rfl) (by decide +kernel) (by decide) ?_
  (repeat (with_reducible first | (refine Ev_Nm (p := ?_) ?_ ?_; rotate_left; · repeat (first | exact Loc.here | refine Loc.there (by decide) ?_)) | apply Ev_Int | apply Ev_None | apply Ev_Str | apply Ev_BinOp | refine Ev_Compare ?_ (by with_unfolding_all rfl) | apply Ev_Subscript | apply Ev_IfExp | refine EvB_Compare ?_ (by with_unfolding_all rfl) | apply EvB_Not | apply EvB_And | apply EvB_Or | apply EvP_none | apply EvP_some | apply EvL_nil | refine EvL_cons ?_ (by with_unfolding_all rfl) | apply op_add | apply op_sub | apply op_lt | apply op_le | apply op_gt | apply op_ge | apply op_eq | apply op_iadd))
  refine op_range1 ?_
  rw [show (fs.length : Int) + 1 = ((fs.length + 1 : Nat) : Int) by exact o9_335]
  refine ⟨_, fun i acc H' => ∃ as : List Addr, acc = as.map .ref ∧ Rows H as (List.replicate i []) H', Iter_upto hFh (by exact o9_336 h2 hl h9 hel), by rw [List.length_map, List.length_range, sizeLine_eq]; exact o9_337 h2 hl h9 hel, ⟨[], rfl, Rows.nil H⟩, ?_, ?_⟩
  · intro F' hF' i x acc H' hx zq9
    refine hide fun WW9 hW9 => ?_
    obtain ⟨as, eq9_0, hR⟩ := zq9
    refine hW9 ?_
    clear hW9 WW9
    subst eq9_0
    rw [List.getElem?_map] at hx
    refine hide fun WW9 hW9 => ?_
    obtain ⟨k, _, eq9_0⟩ := Option.map_eq_some_iff.mp hx
    refine hW9 ?_
    clear hW9 WW9
    subst eq9_0
    refine As_Name (hF'.sto _ (.inl (by kernel_rfl))) ?_
    show Ev _ _ _ _ _ _
    refine Ev_List (EvL_nil ⟨Nat.zero_le _, fun a ha => ⟨as ++ [a], by simp, ?_⟩⟩)
    rw [List.replicate_succ']
    exact hR.snoc ha
  rintro _ H1 ⟨as, rfl, hR⟩ al hal
  rw [List.length_map, List.length_range] at hR
  have hasl : as.length = fs.length + 1 := by rw [← hR.len, List.length_replicate]
  have hla : al ∉ as := fun hm => by
    obtain ⟨i, hi⟩ := List.mem_iff_getElem?.mp hm
    obtain ⟨row, hrow⟩ : ∃ row, (List.replicate (fs.length + 1) ([] : List Int))[i]? = some row := ⟨_, List.getElem?_eq_getElem (by rw [List.length_replicate, ← hasl]; exact (List.getElem?_eq_some_iff.mp hi).1)⟩
    rw [hR.here i al row hi hrow] at hal; cases hal
  have h2n : 2 ^ fs.length ≤ 512 := Nat.le_trans (Nat.pow_le_pow_right (by decide) h9) (by decide)
  let r : Nat → Int := fun j => fs.getD j 0
  let p : Nat → Int := fun j => ts.getD j 1
  refine Exs_cons (Ex_For2 ?_)
  refine Ev_Ty "range" hK (kind_of hF (by kernel_rfl)) (by kernel_rfl) (by decide +kernel) (by decide) ?_
  (repeat (with_reducible first | (refine Ev_Nm (p := ?_) ?_ ?_; rotate_left; · repeat (first | exact Loc.here | refine Loc.there (by decide) ?_)) | apply Ev_Int | apply Ev_None | apply Ev_Str | apply Ev_BinOp | refine Ev_Compare ?_ (by with_unfolding_all rfl) | apply Ev_Subscript | apply Ev_IfExp | refine EvB_Compare ?_ (by with_unfolding_all rfl) | apply EvB_Not | apply EvB_And | apply EvB_Or | apply EvP_none | apply EvP_some | apply EvL_nil | refine EvL_cons ?_ (by with_unfolding_all rfl) | apply op_add | apply op_sub | apply op_lt | apply op_le | apply op_gt | apply op_ge | apply op_eq | apply op_iadd))
  refine op_pow (by exact o9_338 hl h2 h9 hel hasl) (by exact o9_339 hl h2 h9 hel hasl) (by decide) ?_
  rw [show (2 : Int) ^ ((fs.length : Int).toNat) = ((2 ^ fs.length : Nat) : Int) by simp]
  (repeat (with_reducible first | (refine Ev_Nm (p := ?_) ?_ ?_; rotate_left; · repeat (first | exact Loc.here | refine Loc.there (by decide) ?_)) | apply Ev_Int | apply Ev_None | apply Ev_Str | apply Ev_BinOp | refine Ev_Compare ?_ (by with_unfolding_all rfl) | apply Ev_Subscript | apply Ev_IfExp | refine EvB_Compare ?_ (by with_unfolding_all rfl) | apply EvB_Not | apply EvB_And | apply EvB_Or | apply EvP_none | apply EvP_some | apply EvL_nil | refine EvL_cons ?_ (by with_unfolding_all rfl) | apply op_add | apply op_sub | apply op_lt | apply op_le | apply op_gt | apply op_ge | apply op_eq | apply op_iadd))
  refine op_range2 ?_
  generalize hστ : ((((Loc.nil.set "firsts" (.ref af)).set "takes" (.ref at_)).set "count" (.int fs.length)).set "least" (.ref al)) = τ
  refine ⟨_, fun i σ' H' => σ' = τ ∧ ∃ rows, Rows H as rows H' ∧ H' al = some (.lst (as.map .ref)) ∧ LInv r p fs.length (i + 1) rows, Iter_from (m := 1) hFh (by exact o9_340 h2n) (by decide), ⟨τ, ?_, rfl, _, hR.more (AH.le_new hal), AH.set_same .., LInv.zero r p _⟩, ?_, ?_⟩
  · subst hστ; (repeat (first | exact Loc.le_nil _ | (refine Loc.le_set (by (with_reducible repeat (first | exact Loc.here | refine Loc.there (by decide) ?_))) ?_)))
  · intro i x _ H' hx zq9
    refine hide fun WW9 hW9 => ?_
    obtain ⟨eq9_0, rows, hR', hal', I⟩ := zq9
    refine hW9 ?_
    clear hW9 WW9
    subst eq9_0
    subst hστ
    obtain ⟨hi, hxi⟩ : i + 1 < 2 ^ fs.length ∧ x = .int ((i + 1 : Nat) : Int) := by
      rw [List.getElem?_map] at hx
      rcases Nat.lt_or_ge i (2 ^ fs.length - 1) with h | h
      · rw [List.getElem?_range' h] at hx; cases hx; exact ⟨by exact o9_341 h, by rw [Nat.one_mul, Nat.add_comm]⟩
      · rw [List.getElem?_eq_none (by simpa using h)] at hx; cases hx
    subst hxi
    have hf' := hR'.le _ _ hHf
    have ht' := hR'.le _ _ hHt
    refine As_Name (sto_cell hF (by kernel_rfl)) ?_
    refine Exs_cons (Ex_CompC (α := Nat) (τ := Loc.nil.set "number" (.int ((i + 1 : Nat) : Int))) (fun i => .int i) (fun k => bit (i + 1) k) (fun i => .int i) hF (by kernel_rfl) (by kernel_rfl) (by kernel_rfl) (by (repeat (first | exact Loc.le_nil _ | (refine Loc.le_set (Loc.fr_app (by kernel_rfl) (by (with_reducible repeat (first | exact Loc.here | refine Loc.there (by decide) ?_)))) ?_)))) ?_)
    refine Ev_Ty "range" hK (kind_of hF (by kernel_rfl)) (by kernel_rfl) (by decide +kernel) (by decide) ?_
    (repeat (with_reducible first | (refine Ev_Nm (p := ?_) ?_ ?_; rotate_left; · repeat (first | exact Loc.here | refine Loc.there (by decide) ?_)) | apply Ev_Int | apply Ev_None | apply Ev_Str | apply Ev_BinOp | refine Ev_Compare ?_ (by with_unfolding_all rfl) | apply Ev_Subscript | apply Ev_IfExp | refine EvB_Compare ?_ (by with_unfolding_all rfl) | apply EvB_Not | apply EvB_And | apply EvB_Or | apply EvP_none | apply EvP_some | apply EvL_nil | refine EvL_cons ?_ (by with_unfolding_all rfl) | apply op_add | apply op_sub | apply op_lt | apply op_le | apply op_gt | apply op_ge | apply op_eq | apply op_iadd))
    refine op_range1 ?_
    refine ⟨List.range fs.length, Iter_upto hFh (by exact o9_342 hl h2 h9 hel hasl), by rw [List.length_range, sizeLine_eq]; exact o9_343 hl h2 h9 hel hasl, ?_, ?_⟩
    · intro F' hF' k hk
      have hk' := List.mem_range.mp hk
      refine As_Name (hF'.sto _ (.inl (by kernel_rfl))) ?_
      show EvB _ _ _ _ _ _
      (repeat (with_reducible first | (refine Ev_Nm (p := ?_) ?_ ?_; rotate_left; · repeat (first | exact Loc.here | refine Loc.there (by decide) ?_)) | apply Ev_Int | apply Ev_None | apply Ev_Str | apply Ev_BinOp | refine Ev_Compare ?_ (by with_unfolding_all rfl) | apply Ev_Subscript | apply Ev_IfExp | refine EvB_Compare ?_ (by with_unfolding_all rfl) | apply EvB_Not | apply EvB_And | apply EvB_Or | apply EvP_none | apply EvP_some | apply EvL_nil | refine EvL_cons ?_ (by with_unfolding_all rfl) | apply op_add | apply op_sub | apply op_lt | apply op_le | apply op_gt | apply op_ge | apply op_eq | apply op_iadd))
      refine op_pow (by exact o9_232) (by exact o9_344 hl h2 h9 hel hasl hk') (by decide) ?_
      have hp2 : 2 ^ k ≤ 512 := Nat.le_trans (Nat.pow_le_pow_right (by decide) (show k ≤ 9 by exact o9_345 hl h2 h9 hel hasl hk')) (by decide)
      have hp1 : 0 < 2 ^ k := Nat.two_pow_pos k
      have ep : (2 : Int) ^ ((k : Int).toNat) = ((2 ^ k : Nat) : Int) := by simp
      refine op_floordiv (by rw [ep]; exact o9_346 ep hp2 hp1) (by rw [ep]; exact o9_347 ep hp2 hp1) ?_
      (repeat (with_reducible first | (refine Ev_Nm (p := ?_) ?_ ?_; rotate_left; · repeat (first | exact Loc.here | refine Loc.there (by decide) ?_)) | apply Ev_Int | apply Ev_None | apply Ev_Str | apply Ev_BinOp | refine Ev_Compare ?_ (by with_unfolding_all rfl) | apply Ev_Subscript | apply Ev_IfExp | refine EvB_Compare ?_ (by with_unfolding_all rfl) | apply EvB_Not | apply EvB_And | apply EvB_Or | apply EvP_none | apply EvP_some | apply EvL_nil | refine EvL_cons ?_ (by with_unfolding_all rfl) | apply op_add | apply op_sub | apply op_lt | apply op_le | apply op_gt | apply op_ge | apply op_eq | apply op_iadd))
      refine op_mod (by decide) ?_
      (repeat (with_reducible first | (refine Ev_Nm (p := ?_) ?_ ?_; rotate_left; · repeat (first | exact Loc.here | refine Loc.there (by decide) ?_)) | apply Ev_Int | apply Ev_None | apply Ev_Str | apply Ev_BinOp | refine Ev_Compare ?_ (by with_unfolding_all rfl) | apply Ev_Subscript | apply Ev_IfExp | refine EvB_Compare ?_ (by with_unfolding_all rfl) | apply EvB_Not | apply EvB_And | apply EvB_Or | apply EvP_none | apply EvP_some | apply EvL_nil | refine EvL_cons ?_ (by with_unfolding_all rfl) | apply op_add | apply op_sub | apply op_lt | apply op_le | apply op_gt | apply op_ge | apply op_eq | apply op_iadd))
      refine ⟨_, rfl, ?_⟩
      rw [ep, bit_int]
      cases hb : bit (i + 1) k with
      | false =>
        simp only [Bool.false_eq_true, if_false]
        exact ⟨hb.symm, AH.le_refl _⟩
      | true =>
        simp only [if_true]
        refine ⟨hb.symm, ?_⟩
        show Ev _ _ _ _ _ _
        (repeat (with_reducible first | (refine Ev_Nm (p := ?_) ?_ ?_; rotate_left; · repeat (first | exact Loc.here | refine Loc.there (by decide) ?_)) | apply Ev_Int | apply Ev_None | apply Ev_Str | apply Ev_BinOp | refine Ev_Compare ?_ (by with_unfolding_all rfl) | apply Ev_Subscript | apply Ev_IfExp | refine EvB_Compare ?_ (by with_unfolding_all rfl) | apply EvB_Not | apply EvB_And | apply EvB_Or | apply EvP_none | apply EvP_some | apply EvL_nil | refine EvL_cons ?_ (by with_unfolding_all rfl) | apply op_add | apply op_sub | apply op_lt | apply op_le | apply op_gt | apply op_ge | apply op_eq | apply op_iadd))
        exact ⟨rfl, AH.le_refl _⟩
    intro aS haS
    rw [show (List.range fs.length).filter (fun k => bit (i + 1) k) = setOf fs.length (bit (i + 1)) from rfl]
    generalize hS : setOf fs.length (bit (i + 1)) = S
    have hSlt : ∀ j ∈ S, j < fs.length := fun j hj => by rw [← hS] at hj; exact setOf_lt hj
    have hSl : S.length ≤ fs.length := by
      rw [← hS]; exact Nat.le_trans (List.length_filter_le _ _) (by rw [List.length_range]; exact Nat.le_refl _)
    have hSne : S ≠ [] := by
      rintro rfl
      have := bits_zero fs.length (i + 1) hi fun k hk => by
        cases hb : bit (i + 1) k with
        | false => rfl
        | true => have : k ∈ setOf fs.length (bit (i + 1)) := List.mem_filter.mpr ⟨List.mem_range.mpr hk, hb⟩
                  rw [hS] at this; cases this
      exact o9_348 this
    have nSf : aS ≠ af := by rintro rfl; rw [hf'] at haS; cases haS
    have nSt : aS ≠ at_ := by rintro rfl; rw [ht'] at haS; cases haS
    have nSl : aS ≠ al := by rintro rfl; rw [hal'] at haS; cases haS
    refine Exs_cons (Ex_hold (a := aS) (AH.set_same ..) ?_)
    rw [HO.items_lst, AH.set_set]
    have hz : ∀ z, (H'.set aS z) af = some (.lst (fs.map .int)) := fun z => by rw [AH.set_ne _ _ (Ne.symm nSf)]; exact hf'
    have hzt : ∀ z, (H'.set aS z) at_ = some (.lst (ts.map .int)) := fun z => by rw [AH.set_ne _ _ (Ne.symm nSt)]; exact ht'
    have hfr : (H'.set aS (.fro (S.map fun i : Nat => .int i))) aS = some (.fro (S.map fun i : Nat => .int i)) := AH.set_same ..
    refine Ex_CompL (α := Nat) (τ := ((Loc.nil.set "firsts" (.ref af)).set "takes" (.ref at_)).set "some" (.ref aS)) (fun i => .int i) (fun _ => true) (fun k => .int (r k + hrs r p S (r k))) hF (by kernel_rfl) (by kernel_rfl) (by kernel_rfl) (by (repeat (first | exact Loc.le_nil _ | (refine Loc.le_set (Loc.fr_app (by kernel_rfl) (by (with_reducible repeat (first | exact Loc.here | refine Loc.there (by decide) ?_)))) ?_)))) (by kernel_rfl) (by kernel_rfl) ?_
    (repeat (with_reducible first | (refine Ev_Nm (p := ?_) ?_ ?_; rotate_left; · repeat (first | exact Loc.here | refine Loc.there (by decide) ?_)) | apply Ev_Int | apply Ev_None | apply Ev_Str | apply Ev_BinOp | refine Ev_Compare ?_ (by with_unfolding_all rfl) | apply Ev_Subscript | apply Ev_IfExp | refine EvB_Compare ?_ (by with_unfolding_all rfl) | apply EvB_Not | apply EvB_And | apply EvB_Or | apply EvP_none | apply EvP_some | apply EvL_nil | refine EvL_cons ?_ (by with_unfolding_all rfl) | apply op_add | apply op_sub | apply op_lt | apply op_le | apply op_gt | apply op_ge | apply op_eq | apply op_iadd))
    refine ⟨S, Iter_list hFh hfr (not_mut_fro hfr), by rw [sizeLine_eq]; exact o9_349 hl h2 h9 hel hasl hSl, ?_, ?_⟩
    · intro F' hF' k hk
      have hF'h : F'.A.handled = none := by rw [hF'.A]; exact hFh
      refine As_Name (hF'.sto _ (.inr (by kernel_rfl))) ?_
      refine ⟨rfl, ?_⟩
      simp only [if_true]
      (repeat (with_reducible first | (refine Ev_Nm (p := ?_) ?_ ?_; rotate_left; · repeat (first | exact Loc.here | refine Loc.there (by decide) ?_)) | apply Ev_Int | apply Ev_None | apply Ev_Str | apply Ev_BinOp | refine Ev_Compare ?_ (by with_unfolding_all rfl) | apply Ev_Subscript | apply Ev_IfExp | refine EvB_Compare ?_ (by with_unfolding_all rfl) | apply EvB_Not | apply EvB_And | apply EvB_Or | apply EvP_none | apply EvP_some | apply EvL_nil | refine EvL_cons ?_ (by with_unfolding_all rfl) | apply op_add | apply op_sub | apply op_lt | apply op_le | apply op_gt | apply op_ge | apply op_eq | apply op_iadd))
      refine sub_list (hz _) (p := .int (r k)) (by rw [HO.items_lst]; exact gi k (hSlt k hk)) ?_
      refine Ev_Bi "sum" hK (hF'.kind _ _ (by kernel_rfl) (by decide)) (by kernel_rfl) (by decide +kernel) (by decide) (EvL_cons ?_ rfl)
      refine Ev_Comp (α := Nat) (τ := ((Loc.nil.set "firsts" (.ref af)).set "takes" (.ref at_)).set "k" (.int k)) (fun i => .int i) (fun j => decide (r k ≤ r j)) (fun j => .int (p j)) (by kernel_rfl) (free_ok2 hF' (by kernel_rfl)) (by (repeat (first | exact Loc.le_nil _ | (refine Loc.le_set (Loc.fr_app (by kernel_rfl) (by (with_reducible repeat (first | exact Loc.here | refine Loc.there (by decide) ?_)))) ?_)))) ?_
      (repeat (with_reducible first | (refine Ev_Nm (p := ?_) ?_ ?_; rotate_left; · repeat (first | exact Loc.here | refine Loc.there (by decide) ?_)) | apply Ev_Int | apply Ev_None | apply Ev_Str | apply Ev_BinOp | refine Ev_Compare ?_ (by with_unfolding_all rfl) | apply Ev_Subscript | apply Ev_IfExp | refine EvB_Compare ?_ (by with_unfolding_all rfl) | apply EvB_Not | apply EvB_And | apply EvB_Or | apply EvP_none | apply EvP_some | apply EvL_nil | refine EvL_cons ?_ (by with_unfolding_all rfl) | apply op_add | apply op_sub | apply op_lt | apply op_le | apply op_gt | apply op_ge | apply op_eq | apply op_iadd))
      refine ⟨S, Iter_list hF'h hfr (not_mut_fro hfr), by rw [sizeLine_eq]; exact o9_349 hl h2 h9 hel hasl hSl, ?_, ?_⟩
      · intro F'' hF'' j hj
        refine As_Name (hF''.sto _ (.inl (by kernel_rfl))) ?_
        show EvB _ _ _ _ _ _
        (repeat (with_reducible first | (refine Ev_Nm (p := ?_) ?_ ?_; rotate_left; · repeat (first | exact Loc.here | refine Loc.there (by decide) ?_)) | apply Ev_Int | apply Ev_None | apply Ev_Str | apply Ev_BinOp | refine Ev_Compare ?_ (by with_unfolding_all rfl) | apply Ev_Subscript | apply Ev_IfExp | refine EvB_Compare ?_ (by with_unfolding_all rfl) | apply EvB_Not | apply EvB_And | apply EvB_Or | apply EvP_none | apply EvP_some | apply EvL_nil | refine EvL_cons ?_ (by with_unfolding_all rfl) | apply op_add | apply op_sub | apply op_lt | apply op_le | apply op_gt | apply op_ge | apply op_eq | apply op_iadd))
        refine sub_list (hz _) (p := .int (r j)) (by rw [HO.items_lst]; exact gi j (hSlt j hj)) ?_
        (repeat (with_reducible first | (refine Ev_Nm (p := ?_) ?_ ?_; rotate_left; · repeat (first | exact Loc.here | refine Loc.there (by decide) ?_)) | apply Ev_Int | apply Ev_None | apply Ev_Str | apply Ev_BinOp | refine Ev_Compare ?_ (by with_unfolding_all rfl) | apply Ev_Subscript | apply Ev_IfExp | refine EvB_Compare ?_ (by with_unfolding_all rfl) | apply EvB_Not | apply EvB_And | apply EvB_Or | apply EvP_none | apply EvP_some | apply EvL_nil | refine EvL_cons ?_ (by with_unfolding_all rfl) | apply op_add | apply op_sub | apply op_lt | apply op_le | apply op_gt | apply op_ge | apply op_eq | apply op_iadd))
        refine sub_list (hz _) (p := .int (r k)) (by rw [HO.items_lst]; exact gi k (hSlt k hk)) ?_
        (repeat (with_reducible first | (refine Ev_Nm (p := ?_) ?_ ?_; rotate_left; · repeat (first | exact Loc.here | refine Loc.there (by decide) ?_)) | apply Ev_Int | apply Ev_None | apply Ev_Str | apply Ev_BinOp | refine Ev_Compare ?_ (by with_unfolding_all rfl) | apply Ev_Subscript | apply Ev_IfExp | refine EvB_Compare ?_ (by with_unfolding_all rfl) | apply EvB_Not | apply EvB_And | apply EvB_Or | apply EvP_none | apply EvP_some | apply EvL_nil | refine EvL_cons ?_ (by with_unfolding_all rfl) | apply op_add | apply op_sub | apply op_lt | apply op_le | apply op_gt | apply op_ge | apply op_eq | apply op_iadd))
        refine ⟨_, rfl, ?_⟩
        cases hb : decide (r k ≤ r j) with
        | false =>
          simp only [Bool.false_eq_true, if_false]
          exact ⟨hb.symm, AH.le_refl _⟩
        | true =>
          simp only [if_true]
          refine ⟨hb.symm, ?_⟩
          show Ev _ _ _ _ _ _
          (repeat (with_reducible first | (refine Ev_Nm (p := ?_) ?_ ?_; rotate_left; · repeat (first | exact Loc.here | refine Loc.there (by decide) ?_)) | apply Ev_Int | apply Ev_None | apply Ev_Str | apply Ev_BinOp | refine Ev_Compare ?_ (by with_unfolding_all rfl) | apply Ev_Subscript | apply Ev_IfExp | refine EvB_Compare ?_ (by with_unfolding_all rfl) | apply EvB_Not | apply EvB_And | apply EvB_Or | apply EvP_none | apply EvP_some | apply EvL_nil | refine EvL_cons ?_ (by with_unfolding_all rfl) | apply op_add | apply op_sub | apply op_lt | apply op_le | apply op_gt | apply op_ge | apply op_eq | apply op_iadd))
          exact sub_list (hzt _) (p := .int (p j)) (by rw [HO.items_lst]; exact gti j (hSlt j hj)) ⟨rfl, AH.le_refl _⟩
      intro a1 ha1
      refine EvL_nil (op_sum (ns := (S.filter fun j => decide (r k ≤ r j)).map p) hF'h (AH.set_same ..) (by rw [HO.items_lst, List.map_map]; rfl) ?_)
      (repeat (with_reducible first | (refine Ev_Nm (p := ?_) ?_ ?_; rotate_left; · repeat (first | exact Loc.here | refine Loc.there (by decide) ?_)) | apply Ev_Int | apply Ev_None | apply Ev_Str | apply Ev_BinOp | refine Ev_Compare ?_ (by with_unfolding_all rfl) | apply Ev_Subscript | apply Ev_IfExp | refine EvB_Compare ?_ (by with_unfolding_all rfl) | apply EvB_Not | apply EvB_And | apply EvB_Or | apply EvP_none | apply EvP_some | apply EvL_nil | refine EvL_cons ?_ (by with_unfolding_all rfl) | apply op_add | apply op_sub | apply op_lt | apply op_le | apply op_gt | apply op_ge | apply op_eq | apply op_iadd))
      exact ⟨rfl, AH.le_new ha1⟩
    intro ao hao
    rw [filter_yes]
    have noS : ao ≠ aS := by rintro rfl; rw [hfr] at hao; cases hao
    rw [AH.set_comm _ _ _ (Ne.symm noS), AH.set_set, AH.set_comm _ _ _ noS]
    rw [AH.set_ne _ _ noS] at hao
    have nol : ao ≠ al := by rintro rfl; rw [hal'] at hao; cases hao
    have hle' : AH.le H' ((H'.set aS (.lst (S.map fun i : Nat => .int i))).set ao (.lst (S.map fun k => .int (r k + hrs r p S (r k))))) := AH.le_trans (AH.le_new haS) (AH.le_new (by rw [AH.set_ne _ _ noS]; exact hao))
    generalize hH2 : (H'.set aS (.lst (S.map fun i : Nat => .int i))).set ao (.lst (S.map fun k => .int (r k + hrs r p S (r k)))) = H2 at hle' ⊢
    have hS2 : H2 aS = some (.lst (S.map fun i : Nat => .int i)) := by rw [← hH2, AH.set_ne _ _ (Ne.symm noS), AH.set_same]
    have ho2 : H2 ao = some (.lst (S.map fun k => .int (r k + hrs r p S (r k)))) := by rw [← hH2, AH.set_same]
    have hR2 := hR'.more hle'
    have hal2 := hle' _ _ hal'
    obtain ⟨ak, hak⟩ : ∃ ak, as[S.length]? = some ak := ⟨_, List.getElem?_eq_getElem (by exact o9_350 hSl hasl hl hel)⟩
    obtain ⟨row, hrow⟩ : ∃ row, rows[S.length]? = some row := ⟨_, List.getElem?_eq_getElem (by rw [hR'.len]; exact o9_350 hSl hasl hl hel)⟩
    have hk2 := hR2.here _ ak row hak hrow
    have hrl := (I.2 _ row hrow).1
    refine Exs_cons (Ex_Expr (Ev_MethL PySem.F.slot_list_append rfl ?_))
    (repeat (with_reducible first | (refine Ev_Nm (p := ?_) ?_ ?_; rotate_left; · repeat (first | exact Loc.here | refine Loc.there (by decide) ?_)) | apply Ev_Int | apply Ev_None | apply Ev_Str | apply Ev_BinOp | refine Ev_Compare ?_ (by with_unfolding_all rfl) | apply Ev_Subscript | apply Ev_IfExp | refine EvB_Compare ?_ (by with_unfolding_all rfl) | apply EvB_Not | apply EvB_And | apply EvB_Or | apply EvP_none | apply EvP_some | apply EvL_nil | refine EvL_cons ?_ (by with_unfolding_all rfl) | apply op_add | apply op_sub | apply op_lt | apply op_le | apply op_gt | apply op_ge | apply op_eq | apply op_iadd))
    refine Ev_Bi "len" hK (kind_of hF (by kernel_rfl)) (by kernel_rfl) (by decide +kernel) (by decide) ?_
    (repeat (with_reducible first | (refine Ev_Nm (p := ?_) ?_ ?_; rotate_left; · repeat (first | exact Loc.here | refine Loc.there (by decide) ?_)) | apply Ev_Int | apply Ev_None | apply Ev_Str | apply Ev_BinOp | refine Ev_Compare ?_ (by with_unfolding_all rfl) | apply Ev_Subscript | apply Ev_IfExp | refine EvB_Compare ?_ (by with_unfolding_all rfl) | apply EvB_Not | apply EvB_And | apply EvB_Or | apply EvP_none | apply EvP_some | apply EvL_nil | refine EvL_cons ?_ (by with_unfolding_all rfl) | apply op_add | apply op_sub | apply op_lt | apply op_le | apply op_gt | apply op_ge | apply op_eq | apply op_iadd))
    refine op_len hS2 ?_
    rw [HO.items_lst, List.length_map]
    refine sub_list hal2 (p := .ref ak) (by rw [HO.items_lst, pyIdx_nat, List.getElem?_map, hak]; rfl) ?_
    refine ⟨ak, _, rfl, hk2, EvL_cons ?_ rfl⟩
    refine Ev_Bi "max" hK (kind_of hF (by kernel_rfl)) (by kernel_rfl) (by decide +kernel) (by decide) ?_
    (repeat (with_reducible first | (refine Ev_Nm (p := ?_) ?_ ?_; rotate_left; · repeat (first | exact Loc.here | refine Loc.there (by decide) ?_)) | apply Ev_Int | apply Ev_None | apply Ev_Str | apply Ev_BinOp | refine Ev_Compare ?_ (by with_unfolding_all rfl) | apply Ev_Subscript | apply Ev_IfExp | refine EvB_Compare ?_ (by with_unfolding_all rfl) | apply EvB_Not | apply EvB_And | apply EvB_Or | apply EvP_none | apply EvP_some | apply EvL_nil | refine EvL_cons ?_ (by with_unfolding_all rfl) | apply op_add | apply op_sub | apply op_lt | apply op_le | apply op_gt | apply op_ge | apply op_eq | apply op_iadd))
    refine op_maxL (ns := overs r p S) hFh ho2 (by rw [HO.items_lst]; unfold overs; rw [List.map_map]; rfl) (by unfold overs; simpa using hSne) fun V hV1 hV2 => ?_
    refine EvL_nil (op_append hk2 (by rw [List.length_map, sizeLine_eq]; exact o9_351 h2n hi hrl) ?_)
    rw [show row.map PV.int ++ [.int V] = (row ++ [V]).map .int by simp]
    refine Exs_nil ⟨_, ?_, rfl, rows.set S.length (row ++ [V]), hR2.put hak, ?_, ?_⟩
    · (repeat (first | exact Loc.le_nil _ | (refine Loc.le_set (by (with_reducible repeat (first | exact Loc.here | refine Loc.there (by decide) ?_))) ?_)))
    · rw [AH.set_ne _ _ (by rintro rfl; exact hla (List.mem_of_getElem? hak))]; exact hal2
    · rw [← hS] at hrow hV1 hV2 ⊢
      exact I.step hrow hV1 hV2
  · intro _ H' zq9
    refine hide fun WW9 hW9 => ?_
    obtain ⟨eq9_0, rows, hR', hal', I⟩ := zq9
    refine hW9 ?_
    clear hW9 WW9
    subst eq9_0
    rw [List.length_map, List.length_range', show 2 ^ fs.length - 1 + 1 = 2 ^ fs.length by have := Nat.two_pow_pos fs.length; exact o9_352 h2n this] at I
    subst hστ
    have hnl : H al = none := by
      cases e : H al with
      | none => rfl
      | some o => rw [hR.le _ _ e] at hal; cases hal
    refine Exs_cons (Ex_Return (Ev_Comp (α := Nat) (τ := Loc.nil) (fun k => .ref (as.getD (k + 1) 0)) (fun _ => true) (fun k => .int (ends.getD k 0)) (by kernel_rfl) (free_ok hF (by kernel_rfl)) (Loc.le_nil _) (Ev.frz (Ev_Slice ?_))))
    (repeat (with_reducible first | (refine Ev_Nm (p := ?_) ?_ ?_; rotate_left; · repeat (first | exact Loc.here | refine Loc.there (by decide) ?_)) | apply Ev_Int | apply Ev_None | apply Ev_Str | apply Ev_BinOp | refine Ev_Compare ?_ (by with_unfolding_all rfl) | apply Ev_Subscript | apply Ev_IfExp | refine EvB_Compare ?_ (by with_unfolding_all rfl) | apply EvB_Not | apply EvB_And | apply EvB_Or | apply EvP_none | apply EvP_some | apply EvL_nil | refine EvL_cons ?_ (by with_unfolding_all rfl) | apply op_add | apply op_sub | apply op_lt | apply op_le | apply op_gt | apply op_ge | apply op_eq | apply op_iadd))
    refine ⟨_, rfl, ?_⟩
    (repeat (with_reducible first | (refine Ev_Nm (p := ?_) ?_ ?_; rotate_left; · repeat (first | exact Loc.here | refine Loc.there (by decide) ?_)) | apply Ev_Int | apply Ev_None | apply Ev_Str | apply Ev_BinOp | refine Ev_Compare ?_ (by with_unfolding_all rfl) | apply Ev_Subscript | apply Ev_IfExp | refine EvB_Compare ?_ (by with_unfolding_all rfl) | apply EvB_Not | apply EvB_And | apply EvB_Or | apply EvP_none | apply EvP_some | apply EvL_nil | refine EvL_cons ?_ (by with_unfolding_all rfl) | apply op_add | apply op_sub | apply op_lt | apply op_le | apply op_gt | apply op_ge | apply op_eq | apply op_iadd))
    refine ⟨by simp, al, _, rfl, hal', fun a1 ha1 => ⟨a1, _, AH.set_same .., ?_⟩⟩
    rw [AH.set_set, HO.items_lst, HO.items_lst, show (1 : Int) = ((1 : Nat) : Int) from rfl, pickL_drop]
    have hfr : (H'.set a1 (.fro ((as.map PV.ref).drop 1))) a1 = some (.fro ((as.map PV.ref).drop 1)) := AH.set_same ..
    have hit : (as.map PV.ref).drop 1 = (List.range fs.length).map fun k => .ref (as.getD (k + 1) 0) := by
      apply List.ext_getElem?
      intro k
      rw [List.getElem?_drop, List.getElem?_map, List.getElem?_map]
      rcases Nat.lt_or_ge k fs.length with h | h
      · rw [List.getElem?_range h, List.getElem?_eq_getElem (show 1 + k < as.length by exact o9_353 h hasl hl hel)]
        simp only [Option.map_some, List.getD_eq_getElem?_getD]
        rw [List.getElem?_eq_getElem (show k + 1 < as.length by exact o9_354 h hasl hl hel)]
        simp only [Option.getD_some]
        congr 2; simp only [Nat.add_comm]
      · rw [List.getElem?_eq_none (show as.length ≤ 1 + k by exact o9_355 hasl hl h hel), List.getElem?_eq_none (by simpa using h)]; rfl
    refine ⟨List.range fs.length, ?_, by rw [List.length_range, sizeLine_eq]; exact o9_343 hl h2 h9 hel hasl, ?_, ?_⟩
    · rw [← hit]; exact Iter_list hFh hfr (not_mut_fro hfr)
    · intro F' hF' k hk
      have hk' := List.mem_range.mp hk
      have hF'h : F'.A.handled = none := by rw [hF'.A]; exact hFh
      obtain ⟨ak, hak⟩ : ∃ ak, as[k + 1]? = some ak := ⟨_, List.getElem?_eq_getElem (by exact o9_354 hk' hasl hl hel)⟩
      obtain ⟨row, hrow⟩ : ∃ row, rows[k + 1]? = some row := ⟨_, List.getElem?_eq_getElem (by rw [hR'.len]; exact o9_354 hk' hasl hl hel)⟩
      obtain ⟨C, hC⟩ : ∃ C, ends[k]? = some C := ⟨_, List.getElem?_eq_getElem (by exact o9_356 hk' hel hl hasl)⟩
      obtain ⟨hne, hmin⟩ := I.min hrow (hends k C hC)
      have hka : as.getD (k + 1) 0 = ak := by rw [List.getD_eq_getElem?_getD, hak]; rfl
      have hkC : ends.getD k 0 = C := by rw [List.getD_eq_getElem?_getD, hC]; rfl
      dsimp only
      rw [hka, hkC]
      have hk1 := hR'.here _ ak row hak hrow
      refine As_Name (hF'.sto _ (.inl (by kernel_rfl))) ?_
      refine ⟨rfl, ?_⟩
      simp only [if_true]
      refine Ev_Bi "min" hK (hF'.kind _ _ (by kernel_rfl) (by decide)) (by kernel_rfl) (by decide +kernel) (by decide) ?_
      (repeat (with_reducible first | (refine Ev_Nm (p := ?_) ?_ ?_; rotate_left; · repeat (first | exact Loc.here | refine Loc.there (by decide) ?_)) | apply Ev_Int | apply Ev_None | apply Ev_Str | apply Ev_BinOp | refine Ev_Compare ?_ (by with_unfolding_all rfl) | apply Ev_Subscript | apply Ev_IfExp | refine EvB_Compare ?_ (by with_unfolding_all rfl) | apply EvB_Not | apply EvB_And | apply EvB_Or | apply EvP_none | apply EvP_some | apply EvL_nil | refine EvL_cons ?_ (by with_unfolding_all rfl) | apply op_add | apply op_sub | apply op_lt | apply op_le | apply op_gt | apply op_ge | apply op_eq | apply op_iadd))
      refine op_minL (ns := row) hF'h (ho := .lst (row.map .int)) (by rw [AH.set_ne _ _ (by rintro rfl; rw [hk1] at ha1; cases ha1)]; exact hk1) rfl hne fun m hm1 hm2 => ?_
      exact ⟨by rw [hmin m hm1 hm2], AH.le_refl _⟩
    intro a2 ha2
    rw [filter_yes]
    have hen : (List.range fs.length).map (fun k => PV.int (ends.getD k 0)) = ends.map .int := by
      apply List.ext_getElem?
      intro k
      rw [List.getElem?_map, List.getElem?_map]
      rcases Nat.lt_or_ge k fs.length with h | h
      · rw [List.getElem?_range h]; simp only [Option.map_some]; rw [List.getD_eq_getElem?_getD, List.getElem?_eq_getElem (show k < ends.length by exact o9_356 h hel hl hasl)]; rfl
      · rw [List.getElem?_eq_none (by simpa using h), List.getElem?_eq_none (show ends.length ≤ k by exact o9_357 hel hl h hasl)]; rfl
    rw [hen]
    have hle3 : AH.le H (H'.set a1 (.fro ((as.map PV.ref).drop 1))) := AH.le_trans hR'.le (AH.le_new ha1)
    refine ⟨_, AH.le_set _ _ hle3, hQ a2 ?_⟩
    cases e : H a2 with
    | none => rfl
    | some o => rw [hle3 a2 o e] at ha2; cases ha2

theorem law_ok {G : Cx} {A : Around} {H : AH} {Q : PV → AH → Prop} {a : Addr} {ns : List Int} (hK : G.K = KK G) (hst : Stk G A) (hA : A.depth < 840 ∧ A.units < 8400) (hh : A.handled = none)
    (hT : G.T 74) (htq : ∀ l c, G.tq 74 l c = (fnOf (KK G) 79).qualname ++ ".<locals>." ++ "<lambda>") (hbm : BM G) (hH : H a = some (.fro (ns.map .int))) (hlen : ns.length ≤ 63) (hQ : ∀ H', Q (.bool true) H') :
    OpL G A (fun vs => call (.ref 91) vs) [.ref a] H Q := by
  refine call_fnE (ns := ["script"]) (pb := [("script", .ref a)]) (ar := fun vs => ⟨vs, []⟩) hK (by kernel_rfl) (Nat.lt_of_lt_of_le hA.1 (by decide)) (by simp) ?_ ?_
  · rintro h _ ⟨v1, _, rfl, h1, rfl⟩
    exact ⟨[("script", v1)], by kernel_rfl, fun h' hm => ⟨_, _, rfl, hm _ _ h1, rfl⟩⟩
  intro F hF hE
  have hu1 : F.A.units + 1 < cLine := hF.lt1 hA.2 (by decide)
  have hFA : F.A.depth < 850 ∧ F.A.units < 8500 := hF.room hA (by decide) (by decide)
  have hFA2 : F.A.depth < 870 ∧ F.A.units < 8700 := hF.room hA (by decide) (by decide)
  have hFh : F.A.handled = none := by rw [hF.handled]; exact hh
  ((simp only [bindσ, List.zip_cons_cons, List.zip_nil_right, List.zip_nil_left, List.cons_append, List.nil_append]; rw [show (fun _ => none : Loc) = Loc.nil from rfl]))
  refine Exs_cons (Ex_AssignTuple (Ev_Fn (fa := 72) hK (kind_of hF (by kernel_rfl)) (by kernel_rfl) (by kernel_rfl) ?_))
  (repeat (with_reducible first | (refine Ev_Nm (p := ?_) ?_ ?_; rotate_left; · repeat (first | exact Loc.here | refine Loc.there (by decide) ?_)) | apply Ev_Int | apply Ev_None | apply Ev_Str | apply Ev_BinOp | refine Ev_Compare ?_ (by with_unfolding_all rfl) | apply Ev_Subscript | apply Ev_IfExp | refine EvB_Compare ?_ (by with_unfolding_all rfl) | apply EvB_Not | apply EvB_And | apply EvB_Or | apply EvP_none | apply EvP_some | apply EvL_nil | refine EvL_cons ?_ (by with_unfolding_all rfl) | apply op_add | apply op_sub | apply op_lt | apply op_le | apply op_gt | apply op_ge | apply op_eq | apply op_iadd))
  refine law_works_ok hK hFA2 hFh hH hlen fun fs ts h1 h2 h9 hts a1 a2 n1 n2 hne => ?_
  refine As_Tuple hFh rfl (As_Name (sto_local hF (by kernel_rfl)) (As_Name (sto_local hF (by kernel_rfl)) ?_))
  have g1 : ((H.set a1 (.lst (fs.map .int))).set a2 (.lst (ts.map .int))) a1 = some (.lst (fs.map .int)) := by rw [AH.set_ne _ _ hne, AH.set_same]
  have g2 : ((H.set a1 (.lst (fs.map .int))).set a2 (.lst (ts.map .int))) a2 = some (.lst (ts.map .int)) := AH.set_same ..
  generalize (H.set a1 (.lst (fs.map .int))).set a2 (.lst (ts.map .int)) = H1 at g1 g2 ⊢
  refine Exs_cons (Ex_Return ?_)
  (repeat (with_reducible first | (refine Ev_Nm (p := ?_) ?_ ?_; rotate_left; · repeat (first | exact Loc.here | refine Loc.there (by decide) ?_)) | apply Ev_Int | apply Ev_None | apply Ev_Str | apply Ev_BinOp | refine Ev_Compare ?_ (by with_unfolding_all rfl) | apply Ev_Subscript | apply Ev_IfExp | refine EvB_Compare ?_ (by with_unfolding_all rfl) | apply EvB_Not | apply EvB_And | apply EvB_Or | apply EvP_none | apply EvP_some | apply EvL_nil | refine EvL_cons ?_ (by with_unfolding_all rfl) | apply op_add | apply op_sub | apply op_lt | apply op_le | apply op_gt | apply op_ge | apply op_eq | apply op_iadd))
  refine Ev_FnU (fa := 79) hK (kind_of hF (by kernel_rfl)) (by kernel_rfl) (by kernel_rfl) ?_
  (repeat (with_reducible first | (refine Ev_Nm (p := ?_) ?_ ?_; rotate_left; · repeat (first | exact Loc.here | refine Loc.there (by decide) ?_)) | apply Ev_Int | apply Ev_None | apply Ev_Str | apply Ev_BinOp | refine Ev_Compare ?_ (by with_unfolding_all rfl) | apply Ev_Subscript | apply Ev_IfExp | refine EvB_Compare ?_ (by with_unfolding_all rfl) | apply EvB_Not | apply EvB_And | apply EvB_Or | apply EvP_none | apply EvP_some | apply EvL_nil | refine EvL_cons ?_ (by with_unfolding_all rfl) | apply op_add | apply op_sub | apply op_lt | apply op_le | apply op_gt | apply op_ge | apply op_eq | apply op_iadd))
  refine under fun D dD b => ?_
  refine law_ends_ok (G := G.with D dD) hK (hst.push hF hE (by kernel_rfl) b) hFA hFh hT htq hbm g1 g2 h1 h2 h9 hts fun ends hel hends ae hae => ?_
  refine Ev_Fn (fa := 84) hK (kind_of hF (by kernel_rfl)) (by kernel_rfl) (by kernel_rfl) ?_
  (repeat (with_reducible first | (refine Ev_Nm (p := ?_) ?_ ?_; rotate_left; · repeat (first | exact Loc.here | refine Loc.there (by decide) ?_)) | apply Ev_Int | apply Ev_None | apply Ev_Str | apply Ev_BinOp | refine Ev_Compare ?_ (by with_unfolding_all rfl) | apply Ev_Subscript | apply Ev_IfExp | refine EvB_Compare ?_ (by with_unfolding_all rfl) | apply EvB_Not | apply EvB_And | apply EvB_Or | apply EvP_none | apply EvP_some | apply EvL_nil | refine EvL_cons ?_ (by with_unfolding_all rfl) | apply op_add | apply op_sub | apply op_lt | apply op_le | apply op_gt | apply op_ge | apply op_eq | apply op_iadd))
  have e1 : a1 ≠ ae := by rintro rfl; rw [g1] at hae; cases hae
  have e2 : a2 ≠ ae := by rintro rfl; rw [g2] at hae; cases hae
  refine law_least_ok hK hFA hFh (by rw [AH.set_ne _ _ e1]; exact g1) (by rw [AH.set_ne _ _ e2]; exact g2) h1 h2 h9 hel hends fun al hal => ?_
  have e3 : ae ≠ al := by rintro rfl; rw [AH.set_same] at hal; cases hal
  refine op_eqL hu1 (r := true) (by rw [AH.set_ne _ _ e3, AH.set_same]) (AH.set_same ..) ?_ (hQ _)
  rw [HO.items_lst, eqPs_ints]; simp

theorem well_list {P : Params} {h : Heap} {a : Addr} {xs : List WData} (w : Well P h (.ref a) (.list xs)) : ∃ vs : List Value, h.get? a = some { cls := .type "list", data := .seq vs.toArray } := by
  cases w with
  | list h1 _ => exact ⟨_, h1⟩
theorem ints_vrs {h : Heap} : ∀ {vs : List Value} {ns : List Int}, IntsAre vs ns → VRs h (ns.map .int) vs
  | _, _, .nil => rfl
  | _, _, .cons n t r => ⟨_, _, rfl, ⟨t, rfl⟩, ints_vrs r⟩
theorem hide_ns {h : Heap} {a P : Addr} {m : Str → Option Value} (x : h.Ns a m) (ht : h.get? P = some (tabObj #[])) : (hideAll h [P]).Ns a m := by
  obtain ⟨o, es, ep, ho, hd, r⟩ := x
  refine ⟨o, es, ep, hideAll_get _ ho ?_, hd, r⟩
  rw [List.mem_singleton]; rintro rfl
  rw [ht] at ho; cases ho; cases hd

theorem law_endT {prog : Program} {w : World} {K : Frag} {s₁ : Shared} {mg mb : Str → Option Value} {c : ClaimW} {cl : Str → Option Addr} {mean : ExcName → Option Value} {args : List WData} {l fa : Addr} {vs : List Value} {ns : List Int} {xs : List WData} (P tc : Addr) (q : Str)
    (kin : K.In s₁.heap) (ht : s₁.heap.get? P = some (tabObj #[])) (hKP : K.lookup P = none) (hcd : codeHdIn K tc P = true) (g : s₁.heap.Ns mainGlobals mg) (b : s₁.heap.Ns builtinsNs mb) (nl : s₁.heap.NoLimit) (bu : ∀ x : Str, x ≠ "__name__" → mb x = bootBuiltins x)
    (hbm : ∃ bm ob, mg "__builtins__" = some (.ref bm) ∧ bm ≠ builtinsNs ∧ s₁.heap.get? bm = some ob ∧ ob.cls = .type "module" ∧ ob.dict = some builtinsNs ∧ ob.data = .plain) (hg : s₁.gens = #[])
    (hL : s₁.heap.IsList l vs.toArray) (hw : Well w.params s₁.heap (.ref l) (.list xs)) (hI : IntsAre vs ns) (hz : ns.length ≤ 63)
    (hn : ∀ cls, c.raises args cls = false) (hp : c.post args (.bool true) args = true)
    (h : ∀ (G : Cx), G.prog = prog → G.w = w → G.K = K → G.mg = mg → G.T P → (∀ a b, G.tq P a b = q) → BM G → (∀ b o, ¬ G.D b o) → ∀ H : AH, H l = some (.fro (ns.map .int)) → OpL G callerA (fun vs => call (.ref fa) vs) [.ref l] H (fun p _ => p = .bool true)) :
    wpAny (model prog w) callerA (call (.ref fa) [.ref l]) (fun v s' => GoodWG c cl mean args s₁ (.ok (.ret v)) s') (fun e s' => GoodWG c cl mean args s₁ (.error e) s') s₁ := by
  obtain ⟨us, hus⟩ := well_list hw
  have huv : us = vs := by
    refine hide fun WW9 hW9 => ?_
    obtain ⟨o, ho, _, n, hd⟩ := hL
    refine hW9 ?_
    clear hW9 WW9
    rw [hus] at ho; cases ho
    injection hd with hd _
    simpa using hd
  subst huv
  have nP : ∀ b o, s₁.heap.get? b = some o → o.cls ≠ .none → b ∉ [P] := fun b o e hc hm => by
    rw [List.mem_singleton.mp hm, ht] at e; cases e; exact hc rfl
  refine hide fun WW9 hW9 => ?_
  obtain ⟨bm, ob, b1, b2, b3, b4, b5, b6⟩ := hbm
  refine hW9 ?_
  clear hW9 WW9
  have hbg : bm ≠ mainGlobals := fun e => by
    refine hide fun WW9 hW9 => ?_
    obtain ⟨o, es, ep, ho, hd, _⟩ := g
    refine hW9 ?_
    clear hW9 WW9
    rw [e, ho] at b3; cases b3; rw [b6] at hd; cases hd
  have key := h ⟨prog, w, K, hideAll s₁.heap [P], fun a o e => hideAll_get _ (kin a o e) (by rw [List.mem_singleton]; rintro rfl; rw [hKP] at e; cases e), mg, mb, hide_ns g ht, hide_ns b ht, (let ⟨mc, x, y⟩ := nl; ⟨mc, hide_ns x ht, y⟩), bu, fun _ _ => False, fun _ _ h => h.elim, fun a => a = P, fun _ _ _ => q, fun a e => hideAll_none _ (by rw [e]; exact List.mem_singleton.mpr rfl)⟩
    rfl rfl rfl rfl rfl (fun _ _ => rfl) ⟨bm, ob, b1, b2, hbg, hideAll_get _ b3 (nP _ _ b3 (by rw [b4]; simp)), b4, b5, b6⟩ (fun _ _ h => h) (fun a => if a = l then some (.fro (ns.map .int)) else none) (if_pos rfl) s₁ [.ref l]
    ⟨fun _ _ e => of_hideAll _ e, (fun a o e => by
      by_cases ha : a = l
      · rw [if_pos ha] at e; cases e; subst ha
        exact ⟨⟨us, 0, hus, ints_vrs hI, by rw [HO.items_fro, List.length_map, sizeLine_eq]; exact o9_358 hz⟩, fun xs hx => by cases hx⟩
      · rw [if_neg ha] at e; cases e), hg, fun _ _ h => h.elim, fun a e => by
        rw [show a = P from e]
        exact ⟨#[], ht, trivial, fun pos cv e => by simp [codeAmong] at e⟩⟩ ⟨_, _, rfl, rfl, rfl⟩
  refine wpAny_mono key (fun v s' zz2 => zz2.on fun p H' hv ok' k' hq => ?_) fun _ _ x => x.elim
  subst hq
  rw [show v = .bool true from hv]
  have hcode := codeHd_of_K kin hcd
  have hold : OldK s₁.heap s'.heap := by
    have key : ∀ b o, s₁.heap.get? b = some o → b ≠ P → s'.heap.get? b = some o := fun b o e hb => ok'.keep b o (hideAll_get _ e (by rw [List.mem_singleton]; exact hb))
    refine hide fun WW9 hW9 => ?_
    obtain ⟨ps, h1, _⟩ := ok'.tab P rfl
    refine hW9 ?_
    clear hW9 WW9
    refine ⟨fun b o e => ?_, fun b o e => ?_⟩
    · by_cases hb : b = P
      · subst hb; rw [ht] at e; cases e
        exact .inr (.inl ⟨(hcode.tab ht).isCodeTable, rfl, #[], ps, rfl, by rw [h1]; simp⟩)
      · exact .inl (key b o e hb)
    · by_cases hb : b = P
      · subst hb; exact ⟨_, h1⟩
      · exact ⟨o, key b o e hb⟩
  exact ⟨.inl ⟨_, .bool true, [], rfl, hn, .bool true, hp, fun _ => ⟨List.nodup_nil, by simp⟩⟩, hold, k'.os, .of_eq ok'.gens⟩

end Mine
theorem PySem.Challenge.cw_dn0043_09_holds : PySem.Challenge.rw_dn0043_09.Holds := by
  refine Mine.hd09 ?_
  k_fill
  intro w s₀ s₁ mg mb G Y fa o pm cd doc dV kV ho hd hcd hD hmg hg args vals as hpre hlay hrd hwl hlo
  have KX := km_in_of Y
  have KT := km_tabs_of Y 74 (by decide)
  clear hcd hd hD ho Y
  refine Ground.open G ?_
  intro T B D TE TW
  try (refine guard_noD D (by decide +kernel) ?_; clear D)
  clear TE TW B
  have hmg2 : mg "law" = some (.ref fa) := hmg
  clear hmg
  wrow_args hpre hlay hrd hwl hlo
  rename_i ns _ _ _ _ _ _ l vs _ hL _ w1 _ hI _ hc _
  have hfa : fa = 91 := by
    have this : mg "law" = some (.ref 91) := Mine.Cx.mg_of ⟨PySem.Challenge.rw_dn0043_09.row.prog, w, _, s₁.heap, KX, mg, mb, T.g, T.b, T.nolimit, T.builtins, fun _ _ => False, fun _ _ h => h.elim, fun _ => False, fun _ _ _ => Str.empty, fun _ h => h.elim⟩ (x := "law") (r := some (.ref 91)) (by kernel_rfl)
    rw [hmg2] at this
    injection this with this; injection this
  subst hfa
  refine Mine.law_endT 74 78 ((Mine.fnOf (Mine.hd09.heap_39 w.params) 79).qualname ++ ".<locals>." ++ "<lambda>") KX KT (by kernel_rfl) (by kernel_rfl) T.g T.b T.nolimit T.builtins T.bmain hg hL w1 hI (by exact Mine.o9_359 hc) (fun _ => rfl) (by with_unfolding_all rfl) fun G' h1 h2 h3 h4 h5 h6 h7 h8 H hH => ?_
  refine Mine.law_ok (by rw [h3, ← h2]) ⟨[], rfl, by simp⟩ ⟨by decide, by decide⟩ rfl h5 (by unfold Mine.KK; rw [h2]; exact h6) h7 hH (by exact Mine.o9_359 hc) fun _ => rfl
