import PyProof.Rows.All
import Wide.All
import OpenK.AllK
import Wide.FinOn
import KE.KDictIter
import KE.KStateDown
import PyProof.Rows.StrInSeq3
import PySem.Challenge.RW_in0177_02
set_option Elab.async false
set_option linter.unusedVariables false
set_option linter.unusedSimpArgs false
set_option maxRecDepth 100000
set_option maxHeartbeats 0
set_option compiler.extract_closed false
set_option genSizeOf false
set_option genInjectivity false
namespace Mine.Internal
open PySem PySem.W PyProof.Rows PySem.Calls PySem.Spec PySem.SeqAt
section
inductive T where
 | v (i : Nat) | w (i : Nat) | k (n : Nat) | bin (o : Nat) (a b : T) | un (o : Nat) (a : T) | sc (l : Bool) (n : Nat) (a : T)
noncomputable def nth {α : Type} (d : α) : List α → Nat → α
 | [], _ => d
 | x :: l, n => match n with
  | 0 => x
  | n + 1 => nth d l n
noncomputable def binN : Nat → Nat → Nat → Nat
 | 0 => fun a b => a + b
 | 1 => fun a b => a - b
 | 2 => fun a b => min a b
 | _ => fun a b => max a b
noncomputable def g9 : Nat → Int → Int → Int
 | 0 => fun a b => a + b
 | 1 => fun a b => a - b
 | 2 => fun a b => min a b
 | _ => fun a b => max a b
noncomputable def unP : Nat → Nat × Int → Nat × Int
 | 0 => fun x => (0, -x.2)
 | 1 => fun x => (0, (x.1 : Int))
 | _ => fun x => (x.2.toNat, 0)
noncomputable def T.den (c : List Nat) (e : List Int) : T → Nat × Int
 | v i => (nth 0 c i, 0)
 | w i => (0, nth 0 e i)
 | k n => (n, @OfNat.ofNat Int n instOfNat)
 | bin o a b => (binN o (a.den c e).1 (b.den c e).1, g9 o (a.den c e).2 (b.den c e).2)
 | un o a => unP o (a.den c e)
 | sc l n a => match l with
  | true => (n * (a.den c e).1, @OfNat.ofNat Int n instOfNat * (a.den c e).2)
  | false => ((a.den c e).1 * n, (a.den c e).2 * @OfNat.ofNat Int n instOfNat)
abbrev Lin := List Int
noncomputable def K1 : Lin → Lin → Lin
 | [], b => b
 | x :: a, b => match b with
  | [] => x :: a
  | y :: b => (x + y) :: K1 a b
noncomputable def QL (k : Int) (l : Lin) : Lin := l.map fun x => k * x
noncomputable def Qo (a b : Lin) : Lin := K1 a (QL (-1) b)
noncomputable def JJ : Nat → Lin
 | 0 => [1]
 | n + 1 => 0 :: JJ n
noncomputable def dot (ρ : Nat → Int) : Lin → Nat → Int
 | [], _ => 0
 | x :: a, n => x * ρ n + dot ρ a (n + 1)
theorem sh4 (a b c d : Int) : a + b + (c + d) = a + c + (b + d) := by rw [Int.add_assoc, Int.add_assoc, Int.add_left_comm b]
theorem qZ (ρ : Nat → Int) : ∀ (a b : Lin) (n : Nat), dot ρ (K1 a b) n = dot ρ a n + dot ρ b n
 | [], b, n => (Int.zero_add _).symm
 | x :: a, [], n => (Int.add_zero _).symm
 | x :: a, y :: b, n => by
  show (x + y) * ρ n + dot ρ (K1 a b) (n + 1) = x * ρ n + dot ρ a (n + 1) + (y * ρ n + dot ρ b (n + 1))
  rw [qZ ρ a b (n + 1), Int.add_mul]; exact sh4 _ _ _ _
theorem kj (ρ : Nat → Int) (k : Int) : ∀ (a : Lin) (n : Nat), dot ρ (QL k a) n = k * dot ρ a n
 | [], n => (Int.mul_zero _).symm
 | x :: a, n => by
  show k * x * ρ n + dot ρ (QL k a) (n + 1) = k * (x * ρ n + dot ρ a (n + 1))
  rw [kj ρ k a (n + 1), Int.mul_add, Int.mul_assoc]
theorem KP (ρ : Nat → Int) (a : Lin) : dot ρ (QL (-1) a) 0 = -dot ρ a 0 := by rw [kj, Int.neg_mul, Int.one_mul]
theorem qY (ρ : Nat → Int) (a b : Lin) : dot ρ (Qo a b) 0 = dot ρ a 0 - dot ρ b 0 := by
 unfold Qo; rw [qZ, KP]; rfl
theorem wJ (ρ : Nat → Int) : ∀ (i n : Nat), dot ρ (JJ i) n = ρ (i + n)
 | 0, n => by show 1 * ρ n + 0 = _; rw [Int.one_mul, Int.add_zero, Nat.zero_add]
 | i + 1, n => by
  show 0 * ρ n + dot ρ (JJ i) (n + 1) = _
  rw [wJ ρ i (n + 1), Int.zero_mul, Int.zero_add, Nat.add_right_comm]; rfl
noncomputable def bc (c : List Nat) (e : List Int) (n : Nat) : Int := match Nat.blt n 12 with
 | true => (nth 0 c n : Nat)
 | false => nth 0 e (n - 12)
noncomputable def env (c : List Nat) (e : List Int) : Nat → Int
 | 0 => 1
 | n + 1 => bc c e n
abbrev wQ := List Lin × Lin
noncomputable def Ok (ρ : Nat → Int) (cs : List Lin) : Prop := ∀ l ∈ cs, 0 ≤ dot ρ l 0
noncomputable def Is (ρ : Nat → Int) (A : List wQ) (x : Int) : Prop := ∃ z ∈ A, Ok ρ z.1 ∧ dot ρ z.2 0 = x
noncomputable def prod (A B : List wQ) (f : Lin → Lin → List wQ) : List wQ := A.flatMap fun x => B.flatMap fun y => (f x.2 y.2).map fun z => (x.1 ++ (y.1 ++ z.1), z.2)
theorem Ok.app {ρ : Nat → Int} {a b : List Lin} (x : Ok ρ a) (y : Ok ρ b) : Ok ρ (a ++ b) := fun l h => (List.mem_append.mp h).elim (x l) (y l)
theorem Ok.one {ρ : Nat → Int} {a : Lin} {x : Int} (e : dot ρ a 0 = x) (h : 0 ≤ x) : Ok ρ [a] := fun l q => by rw [List.mem_singleton.mp q, e]; exact h
theorem Ok.nil {ρ : Nat → Int} : Ok ρ [] := nofun
theorem Is.prod {ρ : Nat → Int} {A B : List wQ} {f : Lin → Lin → List wQ} {x y r : Int} (a : Is ρ A x) (b : Is ρ B y) (h : ∀ la lb, dot ρ la 0 = x → dot ρ lb 0 = y → Is ρ (f la lb) r) : Is ρ (prod A B f) r :=
 a.elim fun z a => b.elim fun u b => (h _ _ a.2.2 b.2.2).elim fun t q =>
  ⟨_, List.mem_flatMap.mpr ⟨z, a.1, List.mem_flatMap.mpr ⟨u, b.1, List.mem_map.mpr ⟨t, q.1, rfl⟩⟩⟩, a.2.1.app (b.2.1.app q.2.1), q.2.2⟩
noncomputable def Ws (A : List wQ) (f : Lin → List wQ) : List wQ := A.flatMap fun x => (f x.2).map fun z => (x.1 ++ z.1, z.2)
theorem Is.one {ρ : Nat → Int} {A : List wQ} {f : Lin → List wQ} {x r : Int} (a : Is ρ A x) (h : ∀ la, dot ρ la 0 = x → Is ρ (f la) r) : Is ρ (Ws A f) r :=
 a.elim fun z a => (h _ a.2.2).elim fun t q => ⟨_, List.mem_flatMap.mpr ⟨z, a.1, List.mem_map.mpr ⟨t, q.1, rfl⟩⟩, a.2.1.app q.2.1, q.2.2⟩
theorem vd (ρ : Nat → Int) (h0 : ρ 0 = 1) (n : Int) : dot ρ [n] 0 = n := by show n * ρ 0 + 0 = n; rw [h0, Int.mul_one, Int.add_zero]
noncomputable def j1 (a : Lin) : List wQ := [([], a)]
noncomputable def two (a b : Lin) (p q : Lin) : List wQ := [([Qo b a], p), ([Qo a b], q)]
noncomputable def cL : Nat → Bool → Lin → Lin → List wQ
 | 0 => fun _ a b => j1 (K1 a b)
 | 1 => fun z a b => cond z (j1 (Qo a b)) (two b a (Qo a b) [])
 | 2 => fun _ a b => two a b a b
 | _ => fun _ a b => two a b b a
noncomputable def T.lin : T → List wQ × List wQ
 | v i => (cond (Nat.blt i 12) [([JJ (i + 1)], JJ (i + 1))] [], j1 [])
 | w i => (j1 [], j1 (JJ (i + 13)))
 | k n => (j1 [n], j1 [n])
 | bin o a b => (prod a.lin.1 b.lin.1 (cL o false), prod a.lin.2 b.lin.2 (cL o true))
 | un o a => match o with
  | 0 => (j1 [], Ws a.lin.2 fun x => j1 (QL (-1) x))
  | 1 => (j1 [], a.lin.1)
  | _ => (Ws a.lin.2 fun x => two [] x x [], j1 [])
 | sc _ n a => (Ws a.lin.1 fun x => j1 (QL n x), Ws a.lin.2 fun x => j1 (QL n x))
noncomputable def T.good : T → Bool
 | v i => Nat.blt i 12
 | bin _ a b => a.good && b.good
 | un _ a => a.good
 | sc _ _ a => a.good
 | _ => true
theorem Is.a1 {ρ : Nat → Int} {p : Lin} {r : Int} (h : dot ρ p 0 = r) : Is ρ (j1 p) r := ⟨_, .head _, Ok.nil, h⟩
theorem Is.two {ρ : Nat → Int} {a b p q : Lin} {x y r : Int} (ha : dot ρ a 0 = x) (hb : dot ρ b 0 = y) (h1 : x ≤ y → dot ρ p 0 = r) (h2 : y ≤ x → dot ρ q 0 = r) : Is ρ (two a b p q) r :=
 (Int.le_total x y).elim (fun h => ⟨_, .head _, .one (qY ρ b a) (by rw [ha, hb]; exact Int.sub_nonneg_of_le h), h1 h⟩)
  fun h => ⟨_, .tail _ (.head _), .one (qY ρ a b) (by rw [ha, hb]; exact Int.sub_nonneg_of_le h), h2 h⟩
theorem bp {ρ : Nat → Int} {a b : Lin} {x y : Int} (ha : dot ρ a 0 = x) (hb : dot ρ b 0 = y) : ∀ o, Is ρ (cL o true a b) (g9 o x y)
 | 0 => .a1 (by rw [qZ, ha, hb]; rfl)
 | 1 => .a1 (by rw [qY, ha, hb]; rfl)
 | 2 => .two ha hb (fun h => ha.trans (Int.min_eq_left h).symm) fun h => hb.trans (Int.min_eq_right h).symm
 | _ + 3 => .two ha hb (fun h => hb.trans (Int.max_eq_right h).symm) fun h => ha.trans (Int.max_eq_left h).symm
theorem VN {ρ : Nat → Int} {a b : Lin} {x y : Nat} (ha : dot ρ a 0 = x) (hb : dot ρ b 0 = y) : ∀ o, Is ρ (cL o false a b) ((binN o x y : Nat) : Int)
 | 0 => .a1 (by rw [qZ, ha, hb]; rfl)
 | 1 => .two hb ha (fun h => by rw [qY, ha, hb]; exact (Int.natCast_sub (Int.ofNat_le.mp h)).symm) fun h => by
  show (0 : Int) = ((x - y : Nat) : Int); rw [Nat.sub_eq_zero_of_le (Int.ofNat_le.mp h)]; rfl
 | 2 => .two ha hb (fun h => by rw [ha]; exact congrArg _ (Nat.min_eq_left (Int.ofNat_le.mp h)).symm) fun h => by rw [hb]; exact congrArg _ (Nat.min_eq_right (Int.ofNat_le.mp h)).symm
 | _ + 3 => .two ha hb (fun h => by rw [hb]; exact congrArg _ (Nat.max_eq_right (Int.ofNat_le.mp h)).symm) fun h => by rw [ha]; exact congrArg _ (Nat.max_eq_left (Int.ofNat_le.mp h)).symm
theorem T.lin_is (c : List Nat) (e : List Int) : ∀ t : T, t.good = true → Is (env c e) t.lin.1 ((t.den c e).1 : Nat) ∧ Is (env c e) t.lin.2 (t.den c e).2
 | v i, g => by
  have e1 : dot (env c e) (JJ (i + 1)) 0 = (nth 0 c i : Nat) := by
   rw [wJ]; show bc c e i = _; unfold bc; rw [show Nat.blt i 12 = true from g]
  refine ⟨?_, .a1 rfl⟩
  unfold lin; rw [show Nat.blt i 12 = true from g]
  exact ⟨_, .head _, .one e1 (Int.natCast_nonneg _), e1⟩
 | w i, _ => ⟨.a1 rfl, .a1 (by
  rw [wJ]; show bc c e (i + 12) = nth 0 e i; unfold bc
  have : Nat.blt (i + 12) 12 = false := by cases h : Nat.blt (i + 12) 12 with | false => rfl | true => exact absurd (Nat.lt_of_lt_of_le (Nat.le_of_ble_eq_true h) (Nat.le_add_left _ _)) (Nat.lt_irrefl _)
  rw [this, Nat.add_sub_cancel])⟩
 | k n, _ => ⟨.a1 (vd _ rfl _), .a1 (vd _ rfl _)⟩
 | bin o a b, g =>
  have g := Bool.and_eq_true_iff.mp g
  have A := lin_is c e a g.1
  have B := lin_is c e b g.2
  ⟨A.1.prod B.1 fun x y hx hy => VN hx hy o, A.2.prod B.2 fun x y hx hy => bp hx hy o⟩
 | un 0 a, g => ⟨.a1 rfl, (lin_is c e a g).2.one fun x hx => .a1 (by rw [KP, hx]; rfl)⟩
 | un 1 a, g => ⟨.a1 rfl, (lin_is c e a g).1⟩
 | un (_ + 2) a, g => ⟨(lin_is c e a g).2.one fun x hx => .two rfl hx (fun h => hx.trans (Int.toNat_of_nonneg h).symm) fun h => by
  show (0 : Int) = ((a.den c e).2.toNat : Nat); rw [Int.toNat_of_nonpos h]; rfl, .a1 rfl⟩
 | sc l n a, g =>
  have A := lin_is c e a g
  match l with
  | true => ⟨A.1.one fun x hx => .a1 (by rw [kj, hx]; exact (Int.natCast_mul ..).symm), A.2.one fun x hx => .a1 (by rw [kj, hx]; rfl)⟩
  | false => ⟨A.1.one fun x hx => .a1 (by rw [kj, hx, Int.mul_comm]; exact (Int.natCast_mul ..).symm), A.2.one fun x hx => .a1 (by rw [kj, hx, Int.mul_comm]; rfl)⟩
inductive Pr where
 | rel (r : Nat) (z : Bool) (a b : T) | nt (p : Pr) | an (p q : Pr) | or (p q : Pr) | fl
noncomputable def fL : Nat → Nat → Nat → Prop
 | 0 => fun x y => x ≤ y
 | 1 => fun x y => x < y
 | 2 => fun x y => x = y
 | 3 => fun x y => x ≠ y
 | 4 => fun x y => x ≥ y
 | _ => fun x y => x > y
noncomputable def V2 : Nat → Int → Int → Prop
 | 0 => fun x y => x ≤ y
 | 1 => fun x y => x < y
 | 2 => fun x y => x = y
 | 3 => fun x y => x ≠ y
 | 4 => fun x y => x ≥ y
 | _ => fun x y => x > y
noncomputable def Pr.den (c : List Nat) (e : List Int) : Pr → Prop
 | rel r z a b => match z with
  | false => fL r (a.den c e).1 (b.den c e).1
  | true => V2 r (a.den c e).2 (b.den c e).2
 | nt p => ¬p.den c e
 | an p q => p.den c e ∧ q.den c e
 | or p q => p.den c e ∨ q.den c e
 | fl => False
abbrev Dnf := List (List Lin)
noncomputable def Sm (ρ : Nat → Int) (d : Dnf) : Prop := ∃ c ∈ d, Ok ρ c
noncomputable def cM (a b : Dnf) : Dnf := a.flatMap fun x => b.map fun y => x ++ y
theorem Sm.and {ρ : Nat → Int} {a b : Dnf} (x : Sm ρ a) (y : Sm ρ b) : Sm ρ (cM a b) :=
 x.elim fun c x => y.elim fun d y => ⟨_, List.mem_flatMap.mpr ⟨c, x.1, List.mem_map.mpr ⟨d, y.1, rfl⟩⟩, x.2.app y.2⟩
theorem Sm.inl {ρ : Nat → Int} {a b : Dnf} (x : Sm ρ a) : Sm ρ (a ++ b) := x.elim fun c x => ⟨c, List.mem_append_left _ x.1, x.2⟩
theorem Sm.inr {ρ : Nat → Int} {a b : Dnf} (x : Sm ρ b) : Sm ρ (a ++ b) := x.elim fun c x => ⟨c, List.mem_append_right _ x.1, x.2⟩
noncomputable def fM (d m : Lin) : Nat → Dnf
 | 0 => [[d]]
 | 1 => [[K1 d [-1]]]
 | 2 => [[d, m]]
 | 3 => [[K1 d [-1]], [K1 m [-1]]]
 | 4 => [[m]]
 | _ => [[K1 m [-1]]]
noncomputable def neg : Nat → Nat
 | 0 => 5
 | 1 => 4
 | 2 => 3
 | 3 => 2
 | 4 => 1
 | _ => 0
theorem wB {ρ : Nat → Int} (h0 : ρ 0 = 1) {d : Lin} {x y : Int} (hd : dot ρ d 0 = y - x) (h : x < y) : Ok ρ [K1 d [-1]] :=
 .one (x := y - x + -1) (by rw [qZ, vd ρ h0, hd]) (by omega)
theorem J9 {ρ : Nat → Int} (h0 : ρ 0 = 1) {d m : Lin} {x y : Int} (hd : dot ρ d 0 = y - x) (hm : dot ρ m 0 = x - y) : ∀ r, V2 r x y → Sm ρ (fM d m r)
 | 0, (h : x ≤ y) => ⟨_, .head _, .one hd (Int.sub_nonneg_of_le h)⟩
 | 1, (h : x < y) => ⟨_, .head _, wB h0 hd h⟩
 | 2, (h : x = y) => ⟨_, .head _, Ok.app (.one hd (Int.sub_nonneg_of_le (Int.le_of_eq h))) (.one hm (Int.sub_nonneg_of_le (Int.le_of_eq h.symm)))⟩
 | 3, (h : x ≠ y) => (Int.lt_or_gt_of_ne h).elim (fun q => ⟨_, .head _, wB h0 hd q⟩) fun q => ⟨_, .tail _ (.head _), wB h0 hm q⟩
 | 4, (h : x ≥ y) => ⟨_, .head _, .one hm (Int.sub_nonneg_of_le h)⟩
 | _ + 5, (h : x > y) => ⟨_, .head _, wB h0 hm h⟩
theorem Ka {x y : Int} : ∀ r, ¬V2 r x y → V2 (neg r) x y
 | 0, h => Int.lt_of_not_ge h
 | 1, h => Int.le_of_not_gt h
 | 2, h => h
 | 3, h => Classical.not_not.mp h
 | 4, h => Int.lt_of_not_ge h
 | _ + 5, h => Int.le_of_not_gt h
theorem Ys {x y : Nat} : ∀ r, fL r x y ↔ V2 r (x : Int) (y : Int)
 | 0 => Int.ofNat_le.symm
 | 1 => Int.ofNat_lt.symm
 | 2 => Int.ofNat_inj.symm
 | 3 => not_congr Int.ofNat_inj.symm
 | 4 => Int.ofNat_le.symm
 | _ + 5 => Int.ofNat_lt.symm
noncomputable def fO (r : Nat) (A B : List wQ) : Dnf := A.flatMap fun x => B.flatMap fun y => (fM (Qo y.2 x.2) (Qo x.2 y.2) r).map fun z => x.1 ++ (y.1 ++ z)
theorem wu {ρ : Nat → Int} (h0 : ρ 0 = 1) {A B : List wQ} {x y : Int} {r : Nat} (a : Is ρ A x) (b : Is ρ B y) (h : V2 r x y) : Sm ρ (fO r A B) :=
 a.elim fun z a => b.elim fun u b => (J9 h0 (d := Qo u.2 z.2) (m := Qo z.2 u.2) (by rw [qY, a.2.2, b.2.2]) (by rw [qY, a.2.2, b.2.2]) r h).elim fun t q =>
  ⟨_, List.mem_flatMap.mpr ⟨z, a.1, List.mem_flatMap.mpr ⟨u, b.1, List.mem_map.mpr ⟨t, q.1, rfl⟩⟩⟩, a.2.1.app (b.2.1.app q.2)⟩
noncomputable def Pr.dnf : Pr → Bool → Dnf
 | rel r z a b, s => fO (cond s r (neg r)) (cond z a.lin.2 a.lin.1) (cond z b.lin.2 b.lin.1)
 | nt p, s => p.dnf (!s)
 | an p q, s => cond s (cM (p.dnf true) (q.dnf true)) (p.dnf false ++ q.dnf false)
 | or p q, s => cond s (p.dnf true ++ q.dnf true) (cM (p.dnf false) (q.dnf false))
 | fl, s => cond s [] [[]]
noncomputable def Pr.good : Pr → Bool
 | rel _ _ a b => a.good && b.good
 | nt p => p.good
 | an p q => p.good && q.good
 | or p q => p.good && q.good
 | fl => true
theorem Pr.dnf_is (c : List Nat) (e : List Int) : ∀ p : Pr, p.good = true → (p.den c e → Sm (env c e) (p.dnf true)) ∧ (¬p.den c e → Sm (env c e) (p.dnf false))
 | rel r z a b, g =>
  have g := Bool.and_eq_true_iff.mp g
  have A := T.lin_is c e a g.1
  have B := T.lin_is c e b g.2
  match z with
  | false => ⟨fun h => wu rfl A.1 B.1 ((Ys r).mp h), fun h => wu rfl A.1 B.1 (Ka r fun q => h ((Ys r).mpr q))⟩
  | true => ⟨fun h => wu rfl A.2 B.2 h, fun h => wu rfl A.2 B.2 (Ka r h)⟩
 | nt p, g => have P := dnf_is c e p g; ⟨P.2, fun h => P.1 (Classical.not_not.mp h)⟩
 | an p q, g =>
  have g := Bool.and_eq_true_iff.mp g
  have P := dnf_is c e p g.1
  have Q := dnf_is c e q g.2
  ⟨fun h => (P.1 h.1).and (Q.1 h.2), fun h => (Classical.not_and_iff_not_or_not.mp h).elim (fun h => (P.2 h).inl) fun h => (Q.2 h).inr⟩
 | or p q, g =>
  have g := Bool.and_eq_true_iff.mp g
  have P := dnf_is c e p g.1
  have Q := dnf_is c e q g.2
  ⟨fun h => h.elim (fun h => (P.1 h).inl) fun h => (Q.1 h).inr, fun h => (P.2 fun q => h (.inl q)).and (Q.2 fun q => h (.inr q))⟩
 | fl, _ => ⟨fun h => h.elim, fun _ => ⟨_, .head _, Ok.nil⟩⟩
noncomputable def aR : Int → Bool
 | .ofNat n => !Nat.beq n 0
 | .negSucc _ => false
noncomputable def Vs : Int → Bool
 | .ofNat _ => false
 | .negSucc _ => true
noncomputable def isZ : Int → Bool
 | .ofNat n => Nat.beq n 0
 | .negSucc _ => false
noncomputable def bad : Lin → Bool
 | [] => false
 | x :: l => Vs x && l.all isZ
noncomputable def elim (i : Nat) (cs : List Lin) : List Lin :=
 cs.filter (fun l => isZ (nth 0 l i)) ++ (cs.filter fun l => aR (nth 0 l i)).flatMap fun p => (cs.filter fun l => Vs (nth 0 l i)).map fun n => K1 (QL (-(nth 0 n i)) p) (QL (nth 0 p i) n)
noncomputable def Kb : Nat → List Lin → Bool
 | 0, cs => cs.any bad
 | n + 1, cs => cs.any bad || Kb n (elim (n + 1) cs)
theorem aQ : ∀ {x : Int}, isZ x = true → x = 0
 | .ofNat n, h => congrArg Int.ofNat (Nat.eq_of_beq_eq_true h)
theorem YM (ρ : Nat → Int) : ∀ (l : Lin) (n : Nat), l.all isZ = true → dot ρ l n = 0
 | [], _, _ => rfl
 | x :: l, n, h => by
  have h := Bool.and_eq_true_iff.mp (List.all_cons.symm.trans h)
  show x * ρ n + dot ρ l (n + 1) = 0
  rw [aQ h.1, YM ρ l (n + 1) h.2, Int.zero_mul, Int.add_zero]
theorem YB : ∀ {x : Int}, Vs x = true → x < 0
 | .negSucc n, _ => Int.negSucc_lt_zero n
theorem QT : ∀ {x : Int}, aR x = true → 0 ≤ x
 | .ofNat n, _ => Int.natCast_nonneg n
theorem bq {ρ : Nat → Int} (h0 : ρ 0 = 1) : ∀ {l : Lin}, bad l = true → ¬0 ≤ dot ρ l 0
 | x :: l, h, q => by
  have h := Bool.and_eq_true_iff.mp h
  have q : 0 ≤ x * ρ 0 + dot ρ l 1 := q
  rw [YM ρ l 1 h.2, h0, Int.mul_one, Int.add_zero] at q
  exact Int.not_le.mpr (YB h.1) q
theorem VB {ρ : Nat → Int} {cs : List Lin} (i : Nat) (h : Ok ρ cs) : Ok ρ (elim i cs) := by
 refine Ok.app (fun l hl => h l (List.mem_filter.mp hl).1) fun l hl => ?_
 refine (List.mem_flatMap.mp hl).elim fun p hp => (List.mem_map.mp hp.2).elim fun n hn => ?_
 have p1 := List.mem_filter.mp hp.1
 have n1 := List.mem_filter.mp hn.1
 rw [← hn.2, qZ, kj, kj]
 exact Int.add_nonneg (Int.mul_nonneg (Int.neg_nonneg_of_nonpos (Int.le_of_lt (YB n1.2))) (h p p1.1)) (Int.mul_nonneg (QT p1.2) (h n n1.1))
theorem JB {ρ : Nat → Int} (h0 : ρ 0 = 1) {cs : List Lin} (h : cs.any bad = true) (q : Ok ρ cs) : False :=
 (List.any_eq_true.mp h).elim fun l hl => bq h0 hl.2 (q l hl.1)
theorem w4 {ρ : Nat → Int} (h0 : ρ 0 = 1) : ∀ (n : Nat) {cs : List Lin}, Kb n cs = true → ¬Ok ρ cs
 | 0, cs, h, q => JB h0 h q
 | n + 1, cs, h, q => (Bool.or_eq_true_iff.mp h).elim (fun h => JB h0 h q) fun h => w4 h0 n h (VB _ q)
noncomputable def ch (c : List Nat) (e : List Int) : List Pr → Prop
 | [] => False
 | p :: r => match r with
  | [] => p.den c e
  | q :: s => p.den c e → ch c e (q :: s)
noncomputable def chD : List Pr → Dnf
 | [] => [[]]
 | p :: r => match r with
  | [] => p.dnf false
  | q :: s => cM (p.dnf true) (chD (q :: s))
noncomputable def chk (ps : List Pr) : Bool := ps.all Pr.good && (chD ps).all fun c => Kb (c.foldl (fun n l => Nat.max n l.length) 0) c
theorem JA (c : List Nat) (e : List Int) : ∀ ps : List Pr, ps.all Pr.good = true → ¬ch c e ps → Sm (env c e) (chD ps)
 | [], _, _ => ⟨_, .head _, Ok.nil⟩
 | [p], g, h => (Pr.dnf_is c e p (Bool.and_eq_true_iff.mp (List.all_cons.symm.trans g)).1).2 h
 | p :: q :: r, g, h =>
  have g := Bool.and_eq_true_iff.mp (List.all_cons.symm.trans g)
  have h : ¬(p.den c e → ch c e (q :: r)) := h
  ((Pr.dnf_is c e p g.1).1 (Classical.byContradiction fun z => h fun y => absurd y z)).and (JA c e (q :: r) g.2 fun z => h fun _ => z)
theorem Jz (c : List Nat) (e : List Int) {ps : List Pr} (h : chk ps = true) : ch c e ps := Classical.byContradiction fun q =>
 have h := Bool.and_eq_true_iff.mp h
 (JA c e ps h.1 q).elim fun d hd => w4 rfl _ (List.all_eq_true.mp h.2 d hd.1) hd.2
noncomputable def lit (d : Nat) : T → T
 | .k n => .k (n * 32 + d)
 | t => t
noncomputable def ml (a b : T) : T := match a with
 | .k n => .sc true n b
 | _ => match b with
  | .k n => .sc false n a
  | _ => a
noncomputable def onT (st : List T) (f : T → T) : List T := match st with
 | [] => []
 | a :: r => f a :: r
noncomputable def on2 (st : List T) (f : T → T → T) : List T := match st with
 | [] => []
 | b :: r => onT r fun a => f a b
noncomputable def fK (st : List T) (r : Nat) (z : Bool) (ps : List Pr) : List Pr := match st with
 | [] => ps
 | b :: s => match s with
  | [] => ps
  | a :: _ => .rel r z a b :: ps
noncomputable def prT (d : Nat) (ps : List Pr) : List Pr := match ps with
 | [] => cond (Nat.beq d 25) [.fl] []
 | p :: r => cond (Nat.beq d 25) (.fl :: p :: r) (cond (Nat.beq d 22) (.nt p :: r) (match r with
  | [] => []
  | q :: s => cond (Nat.beq d 23) (.an q p :: s) (.or q p :: s)))
noncomputable def dec : Nat → Nat → List T → List Pr → List Pr
 | 0, _, _, ps => ps
 | f + 1, n, st, ps => cond (Nat.beq n 0) ps
  (cond (Nat.ble 64 (n % 128)) (dec f (n / 128) (onT st (lit (n % 128 - 64))) ps)
  (cond (Nat.ble 44 (n % 128)) (dec f (n / 128) (.w (n % 128 - 44) :: st) ps)
  (cond (Nat.ble 32 (n % 128)) (dec f (n / 128) (.v (n % 128 - 32) :: st) ps)
  (cond (Nat.ble 22 (n % 128)) (dec f (n / 128) st (prT (n % 128) ps))
  (cond (Nat.ble 16 (n % 128)) (dec f (n / 128) [] (fK st (n % 128 - 16) true ps))
  (cond (Nat.ble 10 (n % 128)) (dec f (n / 128) [] (fK st (n % 128 - 10) false ps))
  (cond (Nat.ble 9 (n % 128)) (dec f (n / 128) (.k 0 :: st) ps)
  (cond (Nat.ble 6 (n % 128)) (dec f (n / 128) (onT st (.un (n % 128 - 6))) ps)
  (cond (Nat.ble 5 (n % 128)) (dec f (n / 128) (on2 st ml) ps)
   (dec f (n / 128) (on2 st (.bin (n % 128 - 1))) ps))))))))))
noncomputable def ps (n : Nat) : List Pr := dec 60 n [] []
theorem ar (n : Nat) (c : List Nat) (e : List Int) (h : chk (ps n) = true := by kernel_rfl) : ch c e (ps n) := Jz c e h
theorem an (n : Nat) (c : List Nat) (h : chk (ps n) = true := by kernel_rfl) : ch c [] (ps n) := Jz c [] h
end
section
section
set_option linter.unusedVariables false
variable {p : Prop} {T1 T2 T3 T4 T5 T6 T7 T8 T9 T10 : Type} {a1 a2 a3 a4 a5 a6 a7 a8 a9 a10 a11 a12 a13 : Prop} {b1 b2 b3 b4 b5 b6 : T1 → Prop} {c1 c2 c3 c4 c5 : T1 → T2 → Prop} {d1 d2 d3 : T1 → T2 → T3 → Prop} {e1 e2 e3 e4 e5 : T1 → T2 → T3 → T4 → Prop} {f1 : T1 → T2 → T3 → T4 → T5 → Prop} {g1 g2 g3 g4 g5 g6 g7 g8 : T1 → T2 → T3 → T4 → T5 → T6 → Prop} {j1 : T1 → T2 → T3 → T4 → T5 → T6 → T7 → T8 → Prop} {l1 : T1 → T2 → T3 → T4 → T5 → T6 → T7 → T8 → T9 → Prop} {m1 : T1 → T2 → T3 → T4 → T5 → T6 → T7 → T8 → T9 → T10 → Prop}
theorem be (h : a1 ∧ a2 ∧ a3 ∧ a4 ∧ a5 ∧ a6 ∧ a7 ∧ a8 ∧ a9 ∧ a10 ∧ a11) (k : a1 → a2 → a3 → a4 → a5 → a6 → a7 → a8 → a9 → a10 → a11 → p) : p := k h.1 h.2.1 h.2.2.1 h.2.2.2.1 h.2.2.2.2.1 h.2.2.2.2.2.1 h.2.2.2.2.2.2.1 h.2.2.2.2.2.2.2.1 h.2.2.2.2.2.2.2.2.1 h.2.2.2.2.2.2.2.2.2.1 h.2.2.2.2.2.2.2.2.2.2
theorem VD (h : a1 ∧ a2 ∧ a3 ∧ a4 ∧ a5 ∧ a6 ∧ a7 ∧ a8 ∧ a9 ∧ a10) (k : a1 → a2 → a3 → a4 → a5 → a6 → a7 → a8 → a9 → a10 → p) : p := k h.1 h.2.1 h.2.2.1 h.2.2.2.1 h.2.2.2.2.1 h.2.2.2.2.2.1 h.2.2.2.2.2.2.1 h.2.2.2.2.2.2.2.1 h.2.2.2.2.2.2.2.2.1 h.2.2.2.2.2.2.2.2.2
theorem Q1 (h : a1 ∧ a2 ∧ a3 ∧ a4 ∧ a5 ∧ a6 ∧ a7 ∧ a8 ∧ a9) (k : a1 → a2 → a3 → a4 → a5 → a6 → a7 → a8 → a9 → p) : p := k h.1 h.2.1 h.2.2.1 h.2.2.2.1 h.2.2.2.2.1 h.2.2.2.2.2.1 h.2.2.2.2.2.2.1 h.2.2.2.2.2.2.2.1 h.2.2.2.2.2.2.2.2
theorem ZZ (h : a1 ∧ a2 ∧ a3 ∧ a4 ∧ a5 ∧ a6 ∧ a7 ∧ a8) (k : a1 → a2 → a3 → a4 → a5 → a6 → a7 → a8 → p) : p := k h.1 h.2.1 h.2.2.1 h.2.2.2.1 h.2.2.2.2.1 h.2.2.2.2.2.1 h.2.2.2.2.2.2.1 h.2.2.2.2.2.2.2
theorem vL (h : a1 ∧ a2 ∧ a3 ∧ a4 ∧ a5 ∧ a6 ∧ a7) (k : a1 → a2 → a3 → a4 → a5 → a6 → a7 → p) : p := k h.1 h.2.1 h.2.2.1 h.2.2.2.1 h.2.2.2.2.1 h.2.2.2.2.2.1 h.2.2.2.2.2.2
theorem kg (h : a1 ∧ a2 ∧ a3 ∧ a4 ∧ a5 ∧ a6) (k : a1 → a2 → a3 → a4 → a5 → a6 → p) : p := k h.1 h.2.1 h.2.2.1 h.2.2.2.1 h.2.2.2.2.1 h.2.2.2.2.2
theorem vb (h : a1 ∧ a2 ∧ a3 ∧ a4 ∧ a5) (k : a1 → a2 → a3 → a4 → a5 → p) : p := k h.1 h.2.1 h.2.2.1 h.2.2.2.1 h.2.2.2.2
theorem xS (h : a1 ∧ a2 ∧ a3 ∧ a4) (k : a1 → a2 → a3 → a4 → p) : p := k h.1 h.2.1 h.2.2.1 h.2.2.2
theorem zw (h : a1 ∧ a2 ∧ a3) (k : a1 → a2 → a3 → p) : p := k h.1 h.2.1 h.2.2
theorem xA (h : a1 ∧ ∃ x1, b1 x1 ∧ b2 x1 ∧ b3 x1) (k : a1 → ∀ x1, b1 x1 → b2 x1 → b3 x1 → p) : p := h.2.elim fun x1 h1 => k h.1 x1 h1.1 h1.2.1 h1.2.2
theorem xz (h : a1 ∧ ∃ x1 x2, c1 x1 x2 ∧ c2 x1 x2) (k : a1 → ∀ x1, ∀ x2, c1 x1 x2 → c2 x1 x2 → p) : p := h.2.elim fun x1 h1 => h1.elim fun x2 h2 => k h.1 x1 x2 h2.1 h2.2
theorem z5 (h : a1 ∧ a2) (k : a1 → a2 → p) : p := k h.1 h.2
theorem z4 (h : ∃ x1, b1 x1 ∧ b2 x1 ∧ b3 x1 ∧ b4 x1 ∧ b5 x1 ∧ b6 x1) (k : ∀ x1, b1 x1 → b2 x1 → b3 x1 → b4 x1 → b5 x1 → b6 x1 → p) : p := h.elim fun x1 h1 => k x1 h1.1 h1.2.1 h1.2.2.1 h1.2.2.2.1 h1.2.2.2.2.1 h1.2.2.2.2.2
theorem yw (h : ∃ x1, b1 x1 ∧ b2 x1 ∧ b3 x1 ∧ b4 x1) (k : ∀ x1, b1 x1 → b2 x1 → b3 x1 → b4 x1 → p) : p := h.elim fun x1 h1 => k x1 h1.1 h1.2.1 h1.2.2.1 h1.2.2.2
theorem zu (h : ∃ x1, b1 x1 ∧ b2 x1 ∧ b3 x1) (k : ∀ x1, b1 x1 → b2 x1 → b3 x1 → p) : p := h.elim fun x1 h1 => k x1 h1.1 h1.2.1 h1.2.2
theorem zc (h : ∃ x1, b1 x1 ∧ b2 x1) (k : ∀ x1, b1 x1 → b2 x1 → p) : p := h.elim fun x1 h1 => k x1 h1.1 h1.2
theorem qc (h : ∃ x1 x2, c1 x1 x2 ∧ c2 x1 x2 ∧ c3 x1 x2 ∧ c4 x1 x2 ∧ c5 x1 x2) (k : ∀ x1, ∀ x2, c1 x1 x2 → c2 x1 x2 → c3 x1 x2 → c4 x1 x2 → c5 x1 x2 → p) : p := h.elim fun x1 h1 => h1.elim fun x2 h2 => k x1 x2 h2.1 h2.2.1 h2.2.2.1 h2.2.2.2.1 h2.2.2.2.2
theorem zI (h : ∃ x1 x2, c1 x1 x2 ∧ c2 x1 x2) (k : ∀ x1, ∀ x2, c1 x1 x2 → c2 x1 x2 → p) : p := h.elim fun x1 h1 => h1.elim fun x2 h2 => k x1 x2 h2.1 h2.2
theorem bd (h : ∃ x1 x2 x3 x4 x5 x6 x7 x8 x9 x10, m1 x1 x2 x3 x4 x5 x6 x7 x8 x9 x10) (k : ∀ x1, ∀ x2, ∀ x3, ∀ x4, ∀ x5, ∀ x6, ∀ x7, ∀ x8, ∀ x9, ∀ x10, m1 x1 x2 x3 x4 x5 x6 x7 x8 x9 x10 → p) : p := h.elim fun x1 h1 => h1.elim fun x2 h2 => h2.elim fun x3 h3 => h3.elim fun x4 h4 => h4.elim fun x5 h5 => h5.elim fun x6 h6 => h6.elim fun x7 h7 => h7.elim fun x8 h8 => h8.elim fun x9 h9 => h9.elim fun x10 h10 => k x1 x2 x3 x4 x5 x6 x7 x8 x9 x10 h10
theorem VC (h : ∃ x1 x2 x3 x4 x5 x6 x7 x8 x9, l1 x1 x2 x3 x4 x5 x6 x7 x8 x9) (k : ∀ x1, ∀ x2, ∀ x3, ∀ x4, ∀ x5, ∀ x6, ∀ x7, ∀ x8, ∀ x9, l1 x1 x2 x3 x4 x5 x6 x7 x8 x9 → p) : p := h.elim fun x1 h1 => h1.elim fun x2 h2 => h2.elim fun x3 h3 => h3.elim fun x4 h4 => h4.elim fun x5 h5 => h5.elim fun x6 h6 => h6.elim fun x7 h7 => h7.elim fun x8 h8 => h8.elim fun x9 h9 => k x1 x2 x3 x4 x5 x6 x7 x8 x9 h9
theorem eW (h : ∃ x1 x2 x3 x4 x5 x6 x7 x8, j1 x1 x2 x3 x4 x5 x6 x7 x8) (k : ∀ x1, ∀ x2, ∀ x3, ∀ x4, ∀ x5, ∀ x6, ∀ x7, ∀ x8, j1 x1 x2 x3 x4 x5 x6 x7 x8 → p) : p := h.elim fun x1 h1 => h1.elim fun x2 h2 => h2.elim fun x3 h3 => h3.elim fun x4 h4 => h4.elim fun x5 h5 => h5.elim fun x6 h6 => h6.elim fun x7 h7 => h7.elim fun x8 h8 => k x1 x2 x3 x4 x5 x6 x7 x8 h8
theorem eX (h : ∃ x1 x2 x3 x4 x5 x6, g1 x1 x2 x3 x4 x5 x6) (k : ∀ x1, ∀ x2, ∀ x3, ∀ x4, ∀ x5, ∀ x6, g1 x1 x2 x3 x4 x5 x6 → p) : p := h.elim fun x1 h1 => h1.elim fun x2 h2 => h2.elim fun x3 h3 => h3.elim fun x4 h4 => h4.elim fun x5 h5 => h5.elim fun x6 h6 => k x1 x2 x3 x4 x5 x6 h6
theorem vJ (h : ∃ x1 x2 x3 x4 x5, f1 x1 x2 x3 x4 x5) (k : ∀ x1, ∀ x2, ∀ x3, ∀ x4, ∀ x5, f1 x1 x2 x3 x4 x5 → p) : p := h.elim fun x1 h1 => h1.elim fun x2 h2 => h2.elim fun x3 h3 => h3.elim fun x4 h4 => h4.elim fun x5 h5 => k x1 x2 x3 x4 x5 h5
theorem KM (h : ∃ x1 x2 x3 x4, e1 x1 x2 x3 x4) (k : ∀ x1, ∀ x2, ∀ x3, ∀ x4, e1 x1 x2 x3 x4 → p) : p := h.elim fun x1 h1 => h1.elim fun x2 h2 => h2.elim fun x3 h3 => h3.elim fun x4 h4 => k x1 x2 x3 x4 h4
theorem vK (h : ∃ x1 x2 x3, d1 x1 x2 x3) (k : ∀ x1, ∀ x2, ∀ x3, d1 x1 x2 x3 → p) : p := h.elim fun x1 h1 => h1.elim fun x2 h2 => h2.elim fun x3 h3 => k x1 x2 x3 h3
theorem yE (h : ∃ x1 x2, c1 x1 x2) (k : ∀ x1, ∀ x2, c1 x1 x2 → p) : p := h.elim fun x1 h1 => h1.elim fun x2 h2 => k x1 x2 h2
theorem yW (h : ∃ x1, b1 x1) (k : ∀ x1, b1 x1 → p) : p := h.elim fun x1 h1 => k x1 h1
theorem KA (h0 : a1) (h1 : a2) (h2 : a3) (h3 : a4) (h4 : a5) (h5 : a6) (h6 : a7) (h7 : a8) (h8 : a9) (h9 : a10) (h10 : a11) (h11 : a12) (h12 : a13) : a1 ∧ a2 ∧ a3 ∧ a4 ∧ a5 ∧ a6 ∧ a7 ∧ a8 ∧ a9 ∧ a10 ∧ a11 ∧ a12 ∧ a13 := ⟨h0, h1, h2, h3, h4, h5, h6, h7, h8, h9, h10, h11, h12⟩
theorem aT (h0 : a1) (h1 : a2) (h2 : a3) (h3 : a4) (h4 : a5) (h5 : a6) (h6 : a7) (h7 : a8) (h8 : a9) (h9 : a10) (h10 : a11) : a1 ∧ a2 ∧ a3 ∧ a4 ∧ a5 ∧ a6 ∧ a7 ∧ a8 ∧ a9 ∧ a10 ∧ a11 := ⟨h0, h1, h2, h3, h4, h5, h6, h7, h8, h9, h10⟩
theorem Kz (h0 : a1) (h1 : a2) (h2 : a3) (h3 : a4) (h4 : a5) (h5 : a6) (h6 : a7) (h7 : a8) (h8 : a9) (h9 : a10) : a1 ∧ a2 ∧ a3 ∧ a4 ∧ a5 ∧ a6 ∧ a7 ∧ a8 ∧ a9 ∧ a10 := ⟨h0, h1, h2, h3, h4, h5, h6, h7, h8, h9⟩
theorem QU (h0 : a1) (h1 : a2) (h2 : a3) (h3 : a4) (h4 : a5) (h5 : a6) (h6 : a7) (h7 : a8) (h8 : a9) : a1 ∧ a2 ∧ a3 ∧ a4 ∧ a5 ∧ a6 ∧ a7 ∧ a8 ∧ a9 := ⟨h0, h1, h2, h3, h4, h5, h6, h7, h8⟩
theorem ZT (h0 : a1) (h1 : a2) (h2 : a3) (h3 : a4) (h4 : a5) (h5 : a6) (h6 : a7) (h7 : a8) : a1 ∧ a2 ∧ a3 ∧ a4 ∧ a5 ∧ a6 ∧ a7 ∧ a8 := ⟨h0, h1, h2, h3, h4, h5, h6, h7⟩
theorem Zm (h0 : a1) (h1 : a2) (h2 : a3) (h3 : a4) (h4 : a5) (h5 : a6) (h6 : a7) : a1 ∧ a2 ∧ a3 ∧ a4 ∧ a5 ∧ a6 ∧ a7 := ⟨h0, h1, h2, h3, h4, h5, h6⟩
theorem qr (h0 : a1) (h1 : a2) (h2 : a3) (h3 : a4) (h4 : a5) (h5 : a6) : a1 ∧ a2 ∧ a3 ∧ a4 ∧ a5 ∧ a6 := ⟨h0, h1, h2, h3, h4, h5⟩
theorem Xm (h0 : a1) (h1 : a2) (h2 : a3) (h3 : a4) (h4 : a5) : a1 ∧ a2 ∧ a3 ∧ a4 ∧ a5 := ⟨h0, h1, h2, h3, h4⟩
theorem qs (h0 : a1) (h1 : a2) (h2 : a3) (h3 : a4) : a1 ∧ a2 ∧ a3 ∧ a4 := ⟨h0, h1, h2, h3⟩
theorem zl (h0 : a1) (h1 : a2) (h2 : a3) : a1 ∧ a2 ∧ a3 := ⟨h0, h1, h2⟩
theorem xx (h0 : a1) (x1) (h2 : b1 x1) (h3 : b2 x1) (h4 : b3 x1) : a1 ∧ ∃ x1, b1 x1 ∧ b2 x1 ∧ b3 x1 := ⟨h0, x1, h2, h3, h4⟩
theorem ke (h0 : a1) (x1) (x2) (h3 : c1 x1 x2) (h4 : c2 x1 x2) : a1 ∧ ∃ x1 x2, c1 x1 x2 ∧ c2 x1 x2 := ⟨h0, x1, x2, h3, h4⟩
theorem yg (h0 : a1) (h1 : a2) : a1 ∧ a2 := ⟨h0, h1⟩
theorem jZ (x1) (h1 : b1 x1) (h2 : b2 x1) (h3 : b3 x1) (h4 : b4 x1) (h5 : b5 x1) (h6 : b6 x1) : ∃ x1, b1 x1 ∧ b2 x1 ∧ b3 x1 ∧ b4 x1 ∧ b5 x1 ∧ b6 x1 := ⟨x1, h1, h2, h3, h4, h5, h6⟩
theorem yU (x1) (h1 : b1 x1) (h2 : b2 x1) (h3 : b3 x1) (h4 : b4 x1) : ∃ x1, b1 x1 ∧ b2 x1 ∧ b3 x1 ∧ b4 x1 := ⟨x1, h1, h2, h3, h4⟩
theorem zP (x1) (h1 : b1 x1) (h2 : b2 x1) (h3 : b3 x1) : ∃ x1, b1 x1 ∧ b2 x1 ∧ b3 x1 := ⟨x1, h1, h2, h3⟩
theorem zd (x1) (h1 : b1 x1) (h2 : b2 x1) : ∃ x1, b1 x1 ∧ b2 x1 := ⟨x1, h1, h2⟩
theorem zy (x1) (x2) (h2 : c1 x1 x2) (h3 : c2 x1 x2) (h4 : c3 x1 x2) (h5 : c4 x1 x2) (h6 : c5 x1 x2) : ∃ x1 x2, c1 x1 x2 ∧ c2 x1 x2 ∧ c3 x1 x2 ∧ c4 x1 x2 ∧ c5 x1 x2 := ⟨x1, x2, h2, h3, h4, h5, h6⟩
theorem qN (x1) (x2) (h2 : c1 x1 x2) (h3 : c2 x1 x2) (h4 : c3 x1 x2) (h5 : c4 x1 x2) : ∃ x1 x2, c1 x1 x2 ∧ c2 x1 x2 ∧ c3 x1 x2 ∧ c4 x1 x2 := ⟨x1, x2, h2, h3, h4, h5⟩
theorem yT (x1) (x2) (h2 : c1 x1 x2) (h3 : c2 x1 x2) (h4 : c3 x1 x2) : ∃ x1 x2, c1 x1 x2 ∧ c2 x1 x2 ∧ c3 x1 x2 := ⟨x1, x2, h2, h3, h4⟩
theorem zO (x1) (x2) (h2 : c1 x1 x2) (h3 : c2 x1 x2) : ∃ x1 x2, c1 x1 x2 ∧ c2 x1 x2 := ⟨x1, x2, h2, h3⟩
theorem jY (x1) (x2) (x3) (h3 : d1 x1 x2 x3) (h4 : d2 x1 x2 x3) (h5 : d3 x1 x2 x3) : ∃ x1 x2 x3, d1 x1 x2 x3 ∧ d2 x1 x2 x3 ∧ d3 x1 x2 x3 := ⟨x1, x2, x3, h3, h4, h5⟩
theorem zE (x1) (x2) (x3) (x4) (h4 : e1 x1 x2 x3 x4) (h5 : e2 x1 x2 x3 x4) (h6 : e3 x1 x2 x3 x4) (h7 : e4 x1 x2 x3 x4) (h8 : e5 x1 x2 x3 x4) : ∃ x1 x2 x3 x4, e1 x1 x2 x3 x4 ∧ e2 x1 x2 x3 x4 ∧ e3 x1 x2 x3 x4 ∧ e4 x1 x2 x3 x4 ∧ e5 x1 x2 x3 x4 := ⟨x1, x2, x3, x4, h4, h5, h6, h7, h8⟩
theorem yn (x1) (x2) (x3) (x4) (x5) (x6) (h6 : g1 x1 x2 x3 x4 x5 x6) (h7 : g2 x1 x2 x3 x4 x5 x6) (h8 : g3 x1 x2 x3 x4 x5 x6) (h9 : g4 x1 x2 x3 x4 x5 x6) (h10 : g5 x1 x2 x3 x4 x5 x6) (h11 : g6 x1 x2 x3 x4 x5 x6) (h12 : g7 x1 x2 x3 x4 x5 x6) (h13 : g8 x1 x2 x3 x4 x5 x6) : ∃ x1 x2 x3 x4 x5 x6, g1 x1 x2 x3 x4 x5 x6 ∧ g2 x1 x2 x3 x4 x5 x6 ∧ g3 x1 x2 x3 x4 x5 x6 ∧ g4 x1 x2 x3 x4 x5 x6 ∧ g5 x1 x2 x3 x4 x5 x6 ∧ g6 x1 x2 x3 x4 x5 x6 ∧ g7 x1 x2 x3 x4 x5 x6 ∧ g8 x1 x2 x3 x4 x5 x6 := ⟨x1, x2, x3, x4, x5, x6, h6, h7, h8, h9, h10, h11, h12, h13⟩
theorem aS (x1) (x2) (x3) (x4) (x5) (x6) (x7) (x8) (x9) (x10) (h10 : m1 x1 x2 x3 x4 x5 x6 x7 x8 x9 x10) : ∃ x1 x2 x3 x4 x5 x6 x7 x8 x9 x10, m1 x1 x2 x3 x4 x5 x6 x7 x8 x9 x10 := ⟨x1, x2, x3, x4, x5, x6, x7, x8, x9, x10, h10⟩
theorem eQ (x1) (x2) (x3) (x4) (x5) (x6) (x7) (x8) (x9) (h9 : l1 x1 x2 x3 x4 x5 x6 x7 x8 x9) : ∃ x1 x2 x3 x4 x5 x6 x7 x8 x9, l1 x1 x2 x3 x4 x5 x6 x7 x8 x9 := ⟨x1, x2, x3, x4, x5, x6, x7, x8, x9, h9⟩
theorem eT (x1) (x2) (x3) (x4) (x5) (x6) (h6 : g1 x1 x2 x3 x4 x5 x6) : ∃ x1 x2 x3 x4 x5 x6, g1 x1 x2 x3 x4 x5 x6 := ⟨x1, x2, x3, x4, x5, x6, h6⟩
theorem qM (x1) (x2) (x3) (x4) (x5) (h5 : f1 x1 x2 x3 x4 x5) : ∃ x1 x2 x3 x4 x5, f1 x1 x2 x3 x4 x5 := ⟨x1, x2, x3, x4, x5, h5⟩
theorem Ky (x1) (x2) (x3) (x4) (h4 : e1 x1 x2 x3 x4) : ∃ x1 x2 x3 x4, e1 x1 x2 x3 x4 := ⟨x1, x2, x3, x4, h4⟩
theorem qp (x1) (x2) (x3) (h3 : d1 x1 x2 x3) : ∃ x1 x2 x3, d1 x1 x2 x3 := ⟨x1, x2, x3, h3⟩
theorem yL (x1) (x2) (h2 : c1 x1 x2) : ∃ x1 x2, c1 x1 x2 := ⟨x1, x2, h2⟩
theorem xa (x1) (h1 : b1 x1) : ∃ x1, b1 x1 := ⟨x1, h1⟩
end
end
section
noncomputable def fn {α : Type} (as : Array α) (p : α → Bool) (start : Nat := 0) (stop : Nat := as.size) : Bool :=
 match Nat.beq start 0, Nat.beq stop as.size with
 | true, true => PySem.W.R.anyR as.toList p
 | _, _ => as.any p start stop
theorem VQ : @Array.any.{0} = @fn := by
 funext α as p start stop
 unfold fn
 cases h1 : Nat.beq start 0 with
 | false => rfl
 | true =>
  cases h2 : Nat.beq stop as.size with
  | false => rfl
  | true =>
   have e1 := Nat.eq_of_beq_eq_true h1
   have e2 := Nat.eq_of_beq_eq_true h2
   subst e1 e2
   show _ = PySem.W.R.anyR as.toList p
   rw [← PySem.W.R.anyR_eq]
   simp
abbrev WB (_ : Builtin) := Builtin
def fG {T : Type 1} (a : T) {P : T → Builtin} : ∀ f : T, WB (P f) := fun _ => P a
set_option maxRecDepth 100000 in
set_option maxHeartbeats 0 in
noncomputable def tnB : WB PySem.W.Fast.tw4202317264376624991 := by
 delta PySem.W.Fast.tw4202317264376624991
 generalize @Array.any.{0} = f
 revert f
 exact fG @fn
set_option maxRecDepth 100000 in
set_option maxHeartbeats 0 in
theorem tnE : PySem.Builtin.«type.__new__» = tnB := PySem.W.Fast.te4202317264376624991.trans (by
 delta tnB fG PySem.W.Fast.tw4202317264376624991
 rw [VQ]
 exact Eq.refl _)
noncomputable def tb2 (id : String) : Option Builtin := match Nat.beq (PySem.W.Fast.tw13482112738370960269 id) 29827186395103491166823348853 with
 | true => some tnB
 | false => PySem.W.Fast.tw14364793385576792824 id
theorem jH : treeTable = tb2 := by
 funext id
 unfold tb2
 rw [← PySem.W.Fast.te13482112738370960269, ← PySem.W.Fast.te14364793385576792824]
 cases h : Nat.beq (PySem.code id) 29827186395103491166823348853 with
 | false => rfl
 | true =>
  have e : PySem.code id = PySem.code "type.__new__" := (Nat.eq_of_beq_eq_true h).trans (by kernel_rfl)
  rw [PySem.code_inj _ _ e]
  have e2 : treeTable "type.__new__" = some PySem.Builtin.«type.__new__» := by kernel_rfl
  rw [e2, tnE]
noncomputable def Jy : Stmt → List Stmt
 | .ClassDef _ _ _ b .. => b
 | _ => []
noncomputable def eA : Stmt := .Pass ⟨0, 0, 0, 0⟩
noncomputable def fdA : Stmt → Arguments
 | .FunctionDef _ a .. => a
 | _ => ⟨[], [], none, [], [], none, []⟩
noncomputable def fdB : Stmt → List Stmt
 | .FunctionDef _ _ b .. => b
 | _ => []
noncomputable def fdS : Stmt → Scope
 | .FunctionDef _ _ _ _ _ _ s .. => s
 | _ => default
noncomputable def VG : List Stmt → Str
 | .Expr (.Constant (.str s) _ _) _ :: _ => s
 | _ => ⟨#[]⟩
noncomputable def iH : Str := VG (Jy (PySem.Challenge.pw_in0177_02.main.body.getD 6 eA))
set_option maxRecDepth 100000 in
noncomputable def gY : {s : Str // iH = s} := ⟨_, by show Str.ofString _ = _; exact PySem.W.Fast.ofString_ofList _⟩
set_option maxRecDepth 100000 in
set_option maxHeartbeats 0 in
noncomputable def pwT : {p : Program // PySem.Challenge.pw_in0177_02 = p} := ⟨_, by
 have h : Str.ofString _ = gY.1 := gY.2
 delta PySem.Challenge.pw_in0177_02
 rw [h]⟩
noncomputable def p : Program := pwT.1
theorem fP : PySem.Challenge.pw_in0177_02 = p := pwT.2
noncomputable def yq (i : Nat) : Stmt := p.main.body.getD i eA
noncomputable def mAt (i j : Nat) : Stmt := (Jy (yq i)).getD j eA
noncomputable def kL : Stmt → Str
 | .ClassDef _ _ _ b .. => VG b
 | .FunctionDef _ _ b .. => VG b
 | _ => ⟨#[]⟩
set_option linter.unusedVariables false
section
set_option maxRecDepth 100000
abbrev lf (x : Obj) : BT := .node x .nil .nil
abbrev qS (s : String) (t : Nat) : Value := .str (Str.ofString s) t
abbrev qE (P : Params) (s : String) (t : Nat) (v : Value) : DictEntry := ⟨PyData.keyHash P (Str.ofString s), .str (Str.ofString s) t, v⟩
abbrev qR (P : Params) (s : String) (t n : Nat) : DictEntry := qE P s t (.ref n)
noncomputable abbrev qF (a b : String) (x : Stmt) := FuncData.mk (Str.ofString a) (Str.ofString b) (fdA x) (.stmts (fdB x)) (fdS x)
abbrev qC (a b : String) (t u v : Nat) (i j k l m : Int) (r : Nat) (z : Bool) (n : Int) (r1 : Nat) (x : Value) (r2 r3 r4 : Nat) (o p : Int) (w : Nat) : Obj := ⟨.type "code", none, (.fields #[qS a t, qS b u, qS "/claim/cut.py" v, .int i 0, .int j 0, .int k 0, .int l 0, .int m 0, .ref r, .bool z, .int n 0, .ref r1, x, .ref r2, .ref r3, .ref r4, .int o 0, .int p 0, qS "/claim/cut.py" w]), #[]⟩
noncomputable abbrev qU (a b : String) (x : Stmt) (t k : Nat) : Obj := ⟨.none, none, (.func (qF a b x t [] .none .none .none .none none .none .none k)), #[]⟩
noncomputable abbrev qV (a b : String) (x : Stmt) (t : Nat) (s : String) (u r k : Nat) : Obj := ⟨.type "function", none, (.func (qF a b x t [] .none .none .none (qS s u) none (.ref r) .none k)), #[]⟩
noncomputable abbrev qW (a b : String) (x : Stmt) (t v : Nat) (s : String) (u r k : Nat) : Obj := ⟨.type "function", none, (.func (qF a b x t [] .none .none (.str (kL x) v) (qS s u) none (.ref r) .none k)), #[]⟩
abbrev qT (l : Array Value) (k : Nat) : Obj := ⟨.type "tuple", none, (.seq l k), #[]⟩
section
variable (P : Params)
noncomputable def o0 : Obj := ⟨.type "dict", none, (.dict #[qE P "__name__" 1 (qS "builtins" 160), qE P "__doc__" 2 (.builtin "builtins.__doc__:str#opaque"), qE P "__package__" 3 (.builtin "builtins.__package__:str#opaque"), qE P "__loader__" 4 (.builtin "builtins.__loader__:shared#opaque"), qE P "__spec__" 5 (.builtin "builtins.__spec__#opaque"), qE P "__build_class__" 6 (.builtin "__build_class__"), qE P "__import__" 7 (.builtin "__import__"), qE P "abs" 8 (.builtin "abs"), qE P "all" 9 (.builtin "all"), qE P "any" 10 (.builtin "any"), qE P "ascii" 11 (.builtin "ascii"), qE P "bin" 12 (.builtin "bin"), qE P "breakpoint" 13 (.builtin "breakpoint"), qE P "callable" 14 (.builtin "callable"), qE P "chr" 15 (.builtin "chr"), qE P "compile" 16 (.builtin "compile"), qE P "delattr" 17 (.builtin "delattr"), qE P "dir" 18 (.builtin "dir"), qE P "divmod" 19 (.builtin "divmod"), qE P "eval" 20 (.builtin "eval"), qE P "exec" 21 (.builtin "exec"), qE P "format" 22 (.builtin "format"), qE P "getattr" 23 (.builtin "getattr"), qE P "globals" 24 (.builtin "globals"), qE P "hasattr" 25 (.builtin "hasattr"), qE P "hash" 26 (.builtin "hash"), qE P "hex" 27 (.builtin "hex"), qE P "id" 28 (.builtin "id"), qE P "input" 29 (.builtin "input"), qE P "isinstance" 30 (.builtin "isinstance"), qE P "issubclass" 31 (.builtin "issubclass"), qE P "iter" 32 (.builtin "iter"), qE P "aiter" 33 (.builtin "aiter"), qE P "len" 34 (.builtin "len"), qE P "locals" 35 (.builtin "locals"), qE P "max" 36 (.builtin "max"), qE P "min" 37 (.builtin "min"), qE P "next" 38 (.builtin "next"), qE P "anext" 39 (.builtin "anext"), qE P "oct" 40 (.builtin "oct"), qE P "ord" 41 (.builtin "ord"), qE P "pow" 42 (.builtin "pow"), qE P "print" 43 (.builtin "print"), qE P "repr" 44 (.builtin "repr"), qE P "round" 45 (.builtin "round"), qE P "setattr" 46 (.builtin "setattr"), qE P "sorted" 47 (.builtin "sorted"), qE P "sum" 48 (.builtin "sum"), qE P "vars" 49 (.builtin "vars"), qE P "None" 50 .none, qE P "Ellipsis" 51 .ellipsis, qE P "NotImplemented" 52 .notImplemented, qE P "False" 53 (.bool false), qE P "True" 54 (.bool true), qE P "bool" 55 (.type "bool"), qE P "memoryview" 56 (.type "memoryview"), qE P "bytearray" 57 (.type "bytearray"), qE P "bytes" 58 (.type "bytes"), qE P "classmethod" 59 (.type "classmethod"), qE P "complex" 60 (.type "complex"), qE P "dict" 61 (.type "dict"), qE P "enumerate" 62 (.type "enumerate"), qE P "filter" 63 (.type "filter"), qE P "float" 64 (.type "float"), qE P "frozenset" 65 (.type "frozenset"), qE P "property" 66 (.type "property"), qE P "int" 67 (.type "int"), qE P "list" 68 (.type "list"), qE P "map" 69 (.type "map"), qE P "object" 70 (.type "object"), qE P "range" 71 (.type "range"), qE P "reversed" 72 (.type "reversed"), qE P "set" 73 (.type "set"), qE P "slice" 74 (.type "slice"), qE P "staticmethod" 75 (.type "staticmethod"), qE P "str" 76 (.type "str"), qE P "super" 77 (.type "super"), qE P "tuple" 78 (.type "tuple"), qE P "type" 79 (.type "type"), qE P "zip" 80 (.type "zip"), qE P "__debug__" 81 (.bool true), qE P "BaseException" 82 (.type "BaseException"), qE P "BaseExceptionGroup" 83 (.type "BaseExceptionGroup"), qE P "Exception" 84 (.type "Exception"), qE P "GeneratorExit" 85 (.type "GeneratorExit"), qE P "KeyboardInterrupt" 86 (.type "KeyboardInterrupt"), qE P "SystemExit" 87 (.type "SystemExit"), qE P "ArithmeticError" 88 (.type "ArithmeticError"), qE P "AssertionError" 89 (.type "AssertionError"), qE P "AttributeError" 90 (.type "AttributeError"), qE P "BufferError" 91 (.type "BufferError"), qE P "EOFError" 92 (.type "EOFError"), qE P "ImportError" 93 (.type "ImportError"), qE P "LookupError" 94 (.type "LookupError"), qE P "MemoryError" 95 (.type "MemoryError"), qE P "NameError" 96 (.type "NameError"), qE P "OSError" 97 (.type "OSError"), qE P "ReferenceError" 98 (.type "ReferenceError"), qE P "RuntimeError" 99 (.type "RuntimeError"), qE P "StopAsyncIteration" 100 (.type "StopAsyncIteration"), qE P "StopIteration" 101 (.type "StopIteration"), qE P "SyntaxError" 102 (.type "SyntaxError"), qE P "SystemError" 103 (.type "SystemError"), qE P "TypeError" 104 (.type "TypeError"), qE P "ValueError" 105 (.type "ValueError"), qE P "Warning" 106 (.type "Warning"), qE P "FloatingPointError" 107 (.type "FloatingPointError"), qE P "OverflowError" 108 (.type "OverflowError"), qE P "ZeroDivisionError" 109 (.type "ZeroDivisionError"), qE P "BytesWarning" 110 (.type "BytesWarning"), qE P "DeprecationWarning" 111 (.type "DeprecationWarning"), qE P "EncodingWarning" 112 (.type "EncodingWarning"), qE P "FutureWarning" 113 (.type "FutureWarning"), qE P "ImportWarning" 114 (.type "ImportWarning"), qE P "PendingDeprecationWarning" 115 (.type "PendingDeprecationWarning"), qE P "ResourceWarning" 116 (.type "ResourceWarning"), qE P "RuntimeWarning" 117 (.type "RuntimeWarning"), qE P "SyntaxWarning" 118 (.type "SyntaxWarning"), qE P "UnicodeWarning" 119 (.type "UnicodeWarning"), qE P "UserWarning" 120 (.type "UserWarning"), qE P "BlockingIOError" 121 (.type "BlockingIOError"), qE P "ChildProcessError" 122 (.type "ChildProcessError"), qE P "ConnectionError" 123 (.type "ConnectionError"), qE P "FileExistsError" 124 (.type "FileExistsError"), qE P "FileNotFoundError" 125 (.type "FileNotFoundError"), qE P "InterruptedError" 126 (.type "InterruptedError"), qE P "IsADirectoryError" 127 (.type "IsADirectoryError"), qE P "NotADirectoryError" 128 (.type "NotADirectoryError"), qE P "PermissionError" 129 (.type "PermissionError"), qE P "ProcessLookupError" 130 (.type "ProcessLookupError"), qE P "TimeoutError" 131 (.type "TimeoutError"), qE P "IndentationError" 132 (.type "IndentationError"), qE P "_IncompleteInputError" 133 (.type "_IncompleteInputError"), qE P "IndexError" 134 (.type "IndexError"), qE P "KeyError" 135 (.type "KeyError"), qE P "ModuleNotFoundError" 136 (.type "ModuleNotFoundError"), qE P "NotImplementedError" 137 (.type "NotImplementedError"), qE P "PythonFinalizationError" 138 (.type "PythonFinalizationError"), qE P "RecursionError" 139 (.type "RecursionError"), qE P "UnboundLocalError" 140 (.type "UnboundLocalError"), qE P "UnicodeError" 141 (.type "UnicodeError"), qE P "BrokenPipeError" 142 (.type "BrokenPipeError"), qE P "ConnectionAbortedError" 143 (.type "ConnectionAbortedError"), qE P "ConnectionRefusedError" 144 (.type "ConnectionRefusedError"), qE P "ConnectionResetError" 145 (.type "ConnectionResetError"), qE P "TabError" 146 (.type "TabError"), qE P "UnicodeDecodeError" 147 (.type "UnicodeDecodeError"), qE P "UnicodeEncodeError" 148 (.type "UnicodeEncodeError"), qE P "UnicodeTranslateError" 149 (.type "UnicodeTranslateError"), qE P "ExceptionGroup" 150 (.type "ExceptionGroup"), qE P "EnvironmentError" 151 (.type "OSError"), qE P "IOError" 152 (.type "OSError"), qE P "open" 153 (.builtin "open"), qE P "quit" 154 (.builtin "builtins.quit#opaque"), qE P "exit" 155 (.builtin "builtins.exit#opaque"), qE P "copyright" 156 (.builtin "builtins.copyright#opaque"), qE P "credits" 157 (.builtin "builtins.credits#opaque"), qE P "license" 158 (.builtin "builtins.license#opaque"), qE P "help" 159 (.builtin "builtins.help#opaque")] 159), #[]⟩
noncomputable def o1 : Obj := ⟨.type "dict", none, (.dict #[qR P "builtins" 162 4, qR P "__main__" 163 5, qR P "_sre" 244 12] 3), #[]⟩
noncomputable def o2 : Obj := ⟨.none, none, (.dict #[qE P "\x69mport.loaded._sre" 183 (.bool true), qR P "class._frozen_importlib.BuiltinImporter" 185 14, qR P "watched.\x69mport" 206 18, qR P "class._frozen_importlib.ModuleSpec" 216 22, qE P "sys.modules.booked-epoch" 245 (.int 3 0), qE P "\x69mport.later-laid._sre" 270 (.bool true), qR P "watched.library" 272 27, qE P "watched.library-objects" 0 (qS "\x0c" 0), qE P "watched.library-deep._sre" 273 (qS "\x04\x00\x00\x0b\x04\x00\x00\x0b\x04\x00\x00\x03\x04\x00\x00\x0b\x08\x04dict\x02" 0)] 9), #[]⟩
noncomputable def o3 : Obj := ⟨.type "dict", none, (.dict #[qE P "__name__" 165 (qS "__main__" 164), qE P "__doc__" 166 .none, qE P "__package__" 167 .none, qE P "__loader__" 168 (.builtin "__main__.__loader__#opaque"), qE P "__spec__" 169 .none, qR P "__annotations__" 170 6, qR P "__builtins__" 171 4, qE P "__file__" 173 (qS "/claim/cut.py" 172), qE P "__cached__" 174 .none, qR P "_sre" 275 12] 10), #[]⟩
noncomputable def o4 : Obj := ⟨.type "module", some 0, .plain, #[]⟩
noncomputable def o5 : Obj := ⟨.type "module", some 3, .plain, #[]⟩
noncomputable def o6 : Obj := ⟨.type "dict", none, (.dict #[] 0), #[]⟩
noncomputable def o7 : Obj := qT #[] 0
noncomputable def o8 : Obj := ⟨.none, none, (.fields #[]), #[]⟩
noncomputable def o9 : Obj := ⟨.type "code", none, (.fields #[qS "<module>" 176, qS "<module>" 177, qS "/claim/cut.py" 178, .int 1 0, .int 0 0, .int 0 0, .int 0 0, .int 0 0, .ref 7, .bool false, .int 175 0, .ref 8, .none, .none, .none, .none, .int 179 0, .int 1 0, qS "/claim/cut.py" 180]), #[]⟩
noncomputable def o10 : Obj := ⟨.type "frame", none, .plain, #[(some (.ref 9)), (some (.ref 3)), (some (.ref 3)), none, (some (qS "__main__" 164)), none, (some (.ref 0))]⟩
noncomputable def o11 : Obj := ⟨.type "dict", none, (.dict #[qE P "__name__" 247 (qS "_sre" 246), qE P "__doc__" 248 .none, qE P "__package__" 250 (qS "" 249), qE P "__loader__" 251 (.builtin "off-the-table:_sre.__loader__:shared#opaque"), qE P "__spec__" 252 (.builtin "off-the-table:_sre.__spec__:shared#opaque"), qE P "compile" 253 (.builtin "_sre.compile"), qE P "template" 254 (.builtin "off-the-table:_sre.template:shared#opaque"), qE P "getcodesize" 255 (.builtin "off-the-table:_sre.getcodesize:shared#opaque"), qE P "ascii_iscased" 256 (.builtin "off-the-table:_sre.ascii_iscased:shared#opaque"), qE P "unicode_iscased" 257 (.builtin "off-the-table:_sre.unicode_iscased:shared#opaque"), qE P "ascii_tolower" 258 (.builtin "off-the-table:_sre.ascii_tolower:shared#opaque"), qE P "unicode_tolower" 259 (.builtin "off-the-table:_sre.unicode_tolower:shared#opaque"), qE P "MAGIC" 261 (.int 20230612 260), qE P "CODESIZE" 263 (.int 4 262), qE P "MAXREPEAT" 265 (.int 4294967295 264), qE P "MAXGROUPS" 267 (.int 1073741823 266), qE P "copyright" 269 (qS " SRE 2.2.2 Copyright (c) 1997-2002 by Secret Labs AB " 268)] 17), #[]⟩
noncomputable def o12 : Obj := ⟨.type "module", some 11, .plain, #[]⟩
noncomputable def o13 : Obj := ⟨.type "dict", none, (.dict #[qE P "__module__" 189 (qS "_frozen_importlib" 186), qE P "__firstlineno__" 190 (.int 971 187), qE P "__doc__" 191 (.builtin "_frozen_importlib.BuiltinImporter.__doc__:str#opaque"), qE P "_ORIGIN" 192 (qS "built-in" 188), qE P "find_spec" 193 (.builtin "_frozen_importlib.BuiltinImporter.find_spec#opaque"), qE P "create_module" 194 (.builtin "_frozen_importlib.BuiltinImporter.create_module#opaque"), qE P "exec_module" 195 (.builtin "_frozen_importlib.BuiltinImporter.exec_module#opaque"), qE P "get_code" 196 (.builtin "_frozen_importlib.BuiltinImporter.get_code#opaque"), qE P "get_source" 197 (.builtin "_frozen_importlib.BuiltinImporter.get_source#opaque"), qE P "is_package" 198 (.builtin "_frozen_importlib.BuiltinImporter.is_package#opaque"), qE P "load_module" 199 (.builtin "_frozen_importlib.BuiltinImporter.load_module#opaque"), qR P "__static_attributes__" 200 15, qR P "__dict__" 202 16, qR P "__weakref__" 204 17] 14), #[]⟩
noncomputable def o14 : Obj := ⟨.type "type", none, (.cls (ClassData.mk (Str.ofString "BuiltinImporter") [.type "object"] [.ref 14, .type "object"] 13 (Str.ofString "BuiltinImporter") true [] [] false none false)), #[]⟩
noncomputable def o15 : Obj := ⟨.type "getset_descriptor", none, (.fields #[qS "__dict__" 201, .ref 14, .builtin "function.__dict__", .builtin "function.__dict__#set"]), #[]⟩
noncomputable def o16 : Obj := ⟨.type "getset_descriptor", none, (.fields #[qS "__weakref__" 203, .ref 14, .builtin "ExceptionGroup.__weakref__", .none]), #[]⟩
noncomputable def o17 : Obj := ⟨.none, none, (.seq #[.int 13 0, (qS "\x06½\n__module__\x06º\x11_frozen_importlib\x06¾\x0f__firstlineno__\x04»\x00ϋ\x06¿\x07__doc__\t4_frozen_importlib.BuiltinImporter.__doc__:str#opaque\x06À\x07_ORIGIN\x06¼\x08built-in\x06Á\tfind_spec\t2_frozen_importlib.BuiltinImporter.find_spec#opaque\x06Â\x0dcreate_module\t6_frozen_importlib.BuiltinImporter.create_module#opaque\x06Ã\x0bexec_module\t4_frozen_importlib.BuiltinImporter.exec_module#opaque\x06Ä\x08get_code\t1_frozen_importlib.BuiltinImporter.get_code#opaque\x06Å\nget_source\t3_frozen_importlib.BuiltinImporter.get_source#opaque\x06Æ\nis_package\t3_frozen_importlib.BuiltinImporter.is_package#opaque\x06Ç\x0bload_module\t4_frozen_importlib.BuiltinImporter.load_module#opaque\x06È\x15__static_attributes__\x04\x00\x00\x0f\x06Ê\x08__dict__\x04\x00\x00\x10\x06Ì\x0b__weakref__\x04\x00\x00\x11" 0), .bool true, .bool true, qS "" 205, .int 21 0, (qS "\x06ã\n__module__\x06Ù\x11_frozen_importlib\x06ä\x0f__firstlineno__\x04Ú\x00Ȳ\x06å\x07__doc__\t/_frozen_importlib.ModuleSpec.__doc__:str#opaque\x06æ\x08__init__\t,_frozen_importlib.ModuleSpec.__init__#opaque\x06ç\x08__repr__\t,_frozen_importlib.ModuleSpec.__repr__#opaque\x06è\x06__eq__\t*_frozen_importlib.ModuleSpec.__eq__#opaque\x06é\x06cached\t*_frozen_importlib.ModuleSpec.cached#opaque\x06ê\x06parent\t*_frozen_importlib.ModuleSpec.parent#opaque\x06ë\x0chas_location\t0_frozen_importlib.ModuleSpec.has_location#opaque\x06ì\x15__static_attributes__\x04\x00\x00\x17\x06î\x08__dict__\x04\x00\x00\x18\x06ð\x0b__weakref__\x04\x00\x00\x19\x06ñ\x08__hash__\x00" 0), .bool true, .bool true, qS "" 242] 1), #[]⟩
noncomputable def o18 : Obj := ⟨.type "list", none, (.seq #[] 0), #[]⟩
noncomputable def o19 : Obj := ⟨.type "dict", none, (.dict #[qE P "name" 208 (qS "_sre" 207), qR P "loader" 209 14, qE P "origin" 210 (qS "built-in" 184), qE P "loader_state" 211 .none, qE P "submodule_search_locations" 212 .none, qR P "_uninitialized_submodules" 213 19, qE P "_set_fileattr" 214 (.bool false), qE P "_cached" 215 .none, qE P "_initializing" 243 (.bool false)] 9), #[]⟩
noncomputable def o20 : Obj := ⟨.type "dict", none, (.dict #[qE P "__module__" 227 (qS "_frozen_importlib" 217), qE P "__firstlineno__" 228 (.int 562 218), qE P "__doc__" 229 (.builtin "_frozen_importlib.ModuleSpec.__doc__:str#opaque"), qE P "__init__" 230 (.builtin "_frozen_importlib.ModuleSpec.__init__#opaque"), qE P "__repr__" 231 (.builtin "_frozen_importlib.ModuleSpec.__repr__#opaque"), qE P "__eq__" 232 (.builtin "_frozen_importlib.ModuleSpec.__eq__#opaque"), qE P "cached" 233 (.builtin "_frozen_importlib.ModuleSpec.cached#opaque"), qE P "parent" 234 (.builtin "_frozen_importlib.ModuleSpec.parent#opaque"), qE P "has_location" 235 (.builtin "_frozen_importlib.ModuleSpec.has_location#opaque"), qR P "__static_attributes__" 236 23, qR P "__dict__" 238 24, qR P "__weakref__" 240 25, qE P "__hash__" 241 .none] 13), #[]⟩
noncomputable def o21 : Obj := ⟨.type "type", none, (.cls (ClassData.mk (Str.ofString "ModuleSpec") [.type "object"] [.ref 22, .type "object"] 21 (Str.ofString "ModuleSpec") true [] [] false none false)), #[]⟩
noncomputable def o22 : Obj := qT #[qS "_cached" 219, qS "_set_fileattr" 220, qS "_uninitialized_submodules" 221, qS "loader" 222, qS "loader_state" 223, qS "name" 224, qS "origin" 225, qS "submodule_search_locations" 226] 0
noncomputable def o23 : Obj := ⟨.type "getset_descriptor", none, (.fields #[qS "__dict__" 237, .ref 22, .builtin "function.__dict__", .builtin "function.__dict__#set"]), #[]⟩
noncomputable def o24 : Obj := ⟨.type "getset_descriptor", none, (.fields #[qS "__weakref__" 239, .ref 22, .builtin "ExceptionGroup.__weakref__", .none]), #[]⟩
noncomputable def o25 : Obj := ⟨.ref 22, some 20, .plain, #[]⟩
noncomputable def o26 : Obj := ⟨.none, none, (.seq #[.int 11 0, (.str (Str.mk #[6, 247, 8, 95, 95, 110, 97, 109, 101, 95, 95, 6, 246, 4, 95, 115, 114, 101, 6, 248, 7, 95, 95, 100, 111, 99, 95, 95, 0, 6, 250, 11, 95, 95, 112, 97, 99, 107, 97, 103, 101, 95, 95, 6, 249, 0, 6, 251, 10, 95, 95, 108, 111, 97, 100, 101, 114, 95, 95, 4, 0, 0, 14, 6, 252, 8, 95, 95, 115, 112, 101, 99, 95, 95, 4, 0, 0, 26, 6, 253, 7, 99, 111, 109, 112, 105, 108, 101, 9, 12, 95, 115, 114, 101, 46, 99, 111, 109, 112, 105, 108, 101, 6, 254, 8, 116, 101, 109, 112, 108, 97, 116, 101, 9, 13, 95, 115, 114, 101, 46, 116, 101, 109, 112, 108, 97, 116, 101, 6, 255, 11, 103, 101, 116, 99, 111, 100, 101, 115, 105, 122, 101, 9, 16, 95, 115, 114, 101, 46, 103, 101, 116, 99, 111, 100, 101, 115, 105, 122, 101, 6, 256, 13, 97, 115, 99, 105, 105, 95, 105, 115, 99, 97, 115, 101, 100, 9, 18, 95, 115, 114, 101, 46, 97, 115, 99, 105, 105, 95, 105, 115, 99, 97, 115, 101, 100, 6, 257, 15, 117, 110, 105, 99, 111, 100, 101, 95, 105, 115, 99, 97, 115, 101, 100, 9, 20, 95, 115, 114, 101, 46, 117, 110, 105, 99, 111, 100, 101, 95, 105, 115, 99, 97, 115, 101, 100, 6, 258, 13, 97, 115, 99, 105, 105, 95, 116, 111, 108, 111, 119, 101, 114, 9, 18, 95, 115, 114, 101, 46, 97, 115, 99, 105, 105, 95, 116, 111, 108, 111, 119, 101, 114, 6, 259, 15, 117, 110, 105, 99, 111, 100, 101, 95, 116, 111, 108, 111, 119, 101, 114, 9, 20, 95, 115, 114, 101, 46, 117, 110, 105, 99, 111, 100, 101, 95, 116, 111, 108, 111, 119, 101, 114, 6, 261, 5, 77, 65, 71, 73, 67, 4, 260, 0, 20230612, 6, 263, 8, 67, 79, 68, 69, 83, 73, 90, 69, 4, 262, 0, 4, 6, 265, 9, 77, 65, 88, 82, 69, 80, 69, 65, 84, 4, 264, 0, 4294967295, 6, 267, 9, 77, 65, 88, 71, 82, 79, 85, 80, 83, 4, 266, 0, 1073741823, 6, 269, 9, 99, 111, 112, 121, 114, 105, 103, 104, 116, 6, 268, 53, 32, 83, 82, 69, 32, 50, 46, 50, 46, 50, 32, 67, 111, 112, 121, 114, 105, 103, 104, 116, 32, 40, 99, 41, 32, 49, 57, 57, 55, 45, 50, 48, 48, 50, 32, 98, 121, 32, 83, 101, 99, 114, 101, 116, 32, 76, 97, 98, 115, 32, 65, 66, 32]) 0), .bool true, .bool false, qS "_sre" 271] 0), #[]⟩
noncomputable def o27 : Obj := ⟨.type "code", none, (.fields #[qS "<module>" 277, qS "<module>" 278, qS "/claim/cut.py" 279, .int 1 0, .int 0 0, .int 0 0, .int 0 0, .int 0 0, .ref 28, .bool false, .int 276 0, .ref 29, .none, .none, .none, .none, .int 280 0, .int 1 0, qS "/claim/cut.py" 281]), #[]⟩
noncomputable def o28 : Obj := ⟨.type "frame", none, .plain, #[(some (.ref 30)), (some (.ref 3)), (some (.ref 3)), none, (some (qS "__main__" 164)), none, (some (.ref 0))]⟩
noncomputable def o29 : Obj := ⟨.type "dict", none, (.dict #[qE P "__name__" 165 (qS "re" 720), qE P "__doc__" 166 .none, qE P "__package__" 167 .none, qE P "__loader__" 168 (.builtin "__main__.__loader__#opaque"), qE P "__spec__" 169 .none, qR P "__annotations__" 170 6, qR P "__builtins__" 171 4, qE P "__file__" 173 (qS "/claim/cut.py" 172), qE P "__cached__" 174 .none, qR P "_sre" 275 12, qR P "_wall" 288 38, qR P "_tuplegetter" 347 77, qR P "Match" 475 152, qR P "_calculate_ratio" 483 162, qR P "SequenceMatcher" 669 259, qR P "_twin_re_1" 709 268, qR P "translate" 719 275] 17), #[]⟩
noncomputable def o30 : Obj := ⟨.none, none, (.fields #[.int 2 0, .int 0 0, .ref 37, .int 6 0, .int 0 0, .ref 44, .int 24 0, .int 0 0, .ref 88, .int 67 0, .int 0 0, .ref 161, .int 71 0, .int 0 0, .ref 168, .int 421 0, .int 0 0, .ref 274]), #[]⟩
noncomputable def o31 : Obj := qT #[qS "k" 285] 0
noncomputable def o32 : Obj := qU "_wall" "_wall" (yq 1) 0 0
noncomputable def o33 : Obj := qC "_wall" "_wall" 282 283 284 2 1 0 0 3 32 true 276 33 .none 34 35 36 286 2 287
noncomputable def o34 : Obj := qV "_wall" "_wall" (yq 1) 3 "__main__" 164 37 0
noncomputable def o35 : Obj := ⟨.type "builtin_function_or_method", none, (.fields #[.builtin "type.__prepare__", .type "type"]), #[]⟩
noncomputable def o36 : Obj := ⟨.type "dict", none, (.dict #[qE P "__module__" 298 (qS "cpy313.difflib" 289), qE P "__qualname__" 300 (qS "_tuplegetter" 299), qE P "__firstlineno__" 302 (.int 6 301), qR P "__init__" 311 52, qR P "__get__" 320 60, qR P "__set__" 329 67, qR P "__delete__" 337 74, qR P "__static_attributes__" 340 75] 8), #[]⟩
noncomputable def o37 : Obj := ⟨.none, none, (.fields #[.int 8 0, .int 4 0, .ref 51, .int 12 0, .int 4 0, .ref 59, .int 19 0, .int 4 0, .ref 66, .int 22 0, .int 4 0, .ref 73]), #[]⟩
noncomputable def o38 : Obj := ⟨.type "code", none, (.fields #[qS "_tuplegetter" 293, qS "_tuplegetter" 294, qS "/claim/cut.py" 295, .int 6 0, .int 0 0, .int 0 0, .int 0 0, .int 0 0, .ref 42, .bool false, .int 276 0, .ref 43, .none, .none, .none, .none, .int 296 0, .int 6 0, qS "/claim/cut.py" 297]), #[]⟩
noncomputable def o39 : Obj := ⟨.type "frame", none, .plain, #[(some (.ref 44)), (some (.ref 3)), (some (.ref 41)), none, (some (qS "cpy313.difflib" 289)), none, (some (.ref 0))]⟩
noncomputable def o40 : Obj := qT #[qS "self" 306, qS "index" 307, qS "doc" 308] 0
noncomputable def o41 : Obj := qU "__init__" "_tuplegetter.__init__" (mAt 3 0) 0 0
noncomputable def o42 : Obj := qC "__init__" "_tuplegetter.__init__" 303 304 305 8 3 0 0 3 46 true 276 47 .none 48 49 50 309 8 310
noncomputable def o43 : Obj := qV "__init__" "_tuplegetter.__init__" (mAt 3 0) 3 "cpy313.difflib" 289 51 0
noncomputable def o44 : Obj := qT #[.none] 0
noncomputable def o45 : Obj := qT #[qS "self" 315, qS "obj" 316, qS "objtype" 317] 0
noncomputable def o46 : Obj := qU "__get__" "_tuplegetter.__get__" (mAt 3 1) 0 0
noncomputable def o47 : Obj := qC "__get__" "_tuplegetter.__get__" 312 313 314 12 3 0 0 3 54 true 276 55 .none 56 57 58 318 12 319
noncomputable def o48 : Obj := ⟨.type "function", none, (.func (qF "__get__" "_tuplegetter.__get__" (mAt 3 1) 3 [] (.ref 53) .none .none (qS "cpy313.difflib" 289) none (.ref 59) .none 0)), #[]⟩
noncomputable def o49 : Obj := qT #[qS "self" 324, qS "obj" 325, qS "value" 326] 0
noncomputable def o50 : Obj := qU "__set__" "_tuplegetter.__set__" (mAt 3 2) 0 0
noncomputable def o51 : Obj := qC "__set__" "_tuplegetter.__set__" 321 322 323 19 3 0 0 3 61 true 276 62 .none 63 64 65 327 19 328
noncomputable def o52 : Obj := qV "__set__" "_tuplegetter.__set__" (mAt 3 2) 3 "cpy313.difflib" 289 66 0
noncomputable def o53 : Obj := qT #[qS "self" 333, qS "obj" 334] 0
noncomputable def o54 : Obj := qU "__delete__" "_tuplegetter.__delete__" (mAt 3 3) 0 0
noncomputable def o55 : Obj := qC "__delete__" "_tuplegetter.__delete__" 330 331 332 22 2 0 0 3 68 true 276 69 .none 70 71 72 335 22 336
noncomputable def o56 : Obj := qV "__delete__" "_tuplegetter.__delete__" (mAt 3 3) 3 "cpy313.difflib" 289 73 0
noncomputable def o57 : Obj := qT #[qS "__doc__" 338, qS "index" 339] 0
noncomputable def o58 : Obj := ⟨.type "dict", none, (.dict #[qE P "__module__" 298 (qS "cpy313.difflib" 289), qE P "__firstlineno__" 302 (.int 6 301), qR P "__init__" 311 52, qR P "__get__" 320 60, qR P "__set__" 329 67, qR P "__delete__" 337 74, qR P "__static_attributes__" 340 75, qR P "__dict__" 342 78, qR P "__weakref__" 344 79, qE P "__doc__" 345 .none] 4), #[]⟩
noncomputable def o59 : Obj := ⟨.type "type", none, (.cls (ClassData.mk (Str.ofString "_tuplegetter") [.type "object"] [.ref 77, .type "object"] 76 (Str.ofString "_tuplegetter") true [] [] false none false)), #[none, none, (some (qS "_tuplegetter" 291)), (some (qS "_tuplegetter" 299)), (some (.builtin "object.__new__")), (some (.bool true))]⟩
noncomputable def o60 : Obj := ⟨.type "getset_descriptor", none, (.fields #[qS "__dict__" 341, .ref 77, .builtin "function.__dict__", .builtin "function.__dict__#set"]), #[]⟩
noncomputable def o61 : Obj := ⟨.type "getset_descriptor", none, (.fields #[qS "__weakref__" 343, .ref 77, .builtin "ExceptionGroup.__weakref__", .none]), #[]⟩
noncomputable def o62 : Obj := ⟨.type "super", none, (.fields #[.ref 77, .ref 77, .ref 77]), #[]⟩
noncomputable def o63 : Obj := ⟨.type "builtin_function_or_method", none, (.fields #[.builtin "object.__init_subclass__", .ref 77]), #[]⟩
noncomputable def o64 : Obj := qT #[.type "tuple"] 0
noncomputable def o65 : Obj := ⟨.type "dict", none, (.dict #[qE P "__module__" 355 (qS "cpy313.difflib" 289), qE P "__qualname__" 357 (qS "Match" 356), qE P "__firstlineno__" 359 (.int 24 358), qE P "__doc__" 361 (.str (kL (yq 4)) 360), qR P "__slots__" 363 90, qR P "_fields" 367 91, qR P "_field_defaults" 368 92, qR P "__new__" 379 99, qR P "_make" 401 108, qR P "_replace" 412 117, qR P "__replace__" 413 117, qR P "__repr__" 421 124, qR P "_asdict" 428 131, qR P "__getnewargs__" 436 138, qR P "__match_args__" 440 139, qR P "a" 450 141, qR P "b" 460 144, qR P "size" 470 147, qR P "__static_attributes__" 471 149, qR P "__classcell__" 472 85] 20), #[]⟩
noncomputable def o66 : Obj := ⟨.type "cell", none, (.cell (some (.ref 152))), #[]⟩
noncomputable def o67 : Obj := ⟨.none, none, (.fields #[.int 30 0, .int 4 0, .ref 98, .int 35 0, .int 4 0, .ref 105, .int 42 0, .int 4 0, .ref 116, .int 53 0, .int 4 0, .ref 123, .int 57 0, .int 4 0, .ref 130, .int 60 0, .int 4 0, .ref 137]), #[]⟩
noncomputable def o68 : Obj := ⟨.type "code", none, (.fields #[qS "Match" 350, qS "Match" 351, qS "/claim/cut.py" 352, .int 24 0, .int 0 0, .int 0 0, .int 0 0, .int 0 0, .ref 86, .bool false, .int 276 0, .ref 87, .none, .none, .none, .none, .int 353 0, .int 24 0, qS "/claim/cut.py" 354]), #[]⟩
noncomputable def o69 : Obj := ⟨.type "frame", none, .plain, #[(some (.ref 88)), (some (.ref 3)), (some (.ref 84)), none, (some (qS "cpy313.difflib" 289)), none, (some (.ref 0))]⟩
noncomputable def o70 : Obj := qT #[qS "a" 364, qS "b" 365, qS "size" 366] 0
noncomputable def o71 : Obj := qT #[qS "_cls" 372, qS "a" 373, qS "b" 374, qS "size" 375] 0
noncomputable def o72 : Obj := qU "__new__" "Match.__new__" (mAt 4 4) 0 0
noncomputable def o73 : Obj := qC "__new__" "Match.__new__" 369 370 371 30 4 0 0 3 93 true 276 94 .none 95 96 97 376 30 377
noncomputable def o74 : Obj := qW "__new__" "Match.__new__" (mAt 4 4) 3 378 "cpy313.difflib" 289 98 0
noncomputable def o75 : Obj := qT #[qS "cls" 383, qS "iterable" 384, qS "result" 385] 0
noncomputable def o76 : Obj := qU "_make" "Match._make" (mAt 4 5) 0 0
noncomputable def o77 : Obj := qC "_make" "Match._make" 380 381 382 34 2 0 0 3 100 true 276 101 .none 102 103 104 386 34 387
noncomputable def o78 : Obj := ⟨.type "function", none, (.func (qF "_make" "Match._make" (mAt 4 5) 3 [] .none .none (.str (kL (mAt 4 5)) 388) (qS "cpy313.difflib" 289) (some 109) (.ref 105) .none 0)), #[]⟩
noncomputable def o79 : Obj := ⟨.type "dict", none, (.dict #[qE P "__module__" 390 (qS "cpy313.difflib" 289), qE P "__name__" 393 (qS "_make" 392), qE P "__qualname__" 396 (qS "Match._make" 395), qE P "__doc__" 398 (.str (kL (mAt 4 5)) 388), qR P "__annotations__" 400 109] 5), #[]⟩
noncomputable def o80 : Obj := ⟨.type "classmethod", some 107, (.fields #[.ref 106, .bool false]), #[]⟩
noncomputable def o81 : Obj := qT #[.ref 85] 0
noncomputable def o82 : Obj := qT #[qS "__class__" 405] 0
noncomputable def o83 : Obj := qT #[qS "self" 406, qS "kwds" 407, qS "result" 408] 0
noncomputable def o84 : Obj := qU "_replace" "Match._replace" (mAt 4 6) 0 0
noncomputable def o85 : Obj := qC "_replace" "Match._replace" 402 403 404 42 1 1 0 11 111 true 276 112 .none 113 114 115 409 42 410
noncomputable def o86 : Obj := ⟨.type "function", none, (.func (qF "_replace" "Match._replace" (mAt 4 6) 3 [((Str.ofString "__class__"), 85)] .none .none (.str (kL (mAt 4 6)) 411) (qS "cpy313.difflib" 289) none (.ref 116) (.ref 110) 0)), #[]⟩
noncomputable def o87 : Obj := qT #[qS "self" 417] 0
noncomputable def o88 : Obj := qU "__repr__" "Match.__repr__" (mAt 4 8) 0 0
noncomputable def o89 : Obj := qC "__repr__" "Match.__repr__" 414 415 416 53 1 0 0 3 118 true 276 119 .none 120 121 122 418 53 419
noncomputable def o90 : Obj := qW "__repr__" "Match.__repr__" (mAt 4 8) 3 420 "cpy313.difflib" 289 123 0
noncomputable def o91 : Obj := qT #[qS "self" 425] 0
noncomputable def o92 : Obj := qU "_asdict" "Match._asdict" (mAt 4 9) 0 0
noncomputable def o93 : Obj := qC "_asdict" "Match._asdict" 422 423 424 57 1 0 0 3 125 true 276 126 .none 127 128 129 426 57 427
noncomputable def o94 : Obj := qV "_asdict" "Match._asdict" (mAt 4 9) 3 "cpy313.difflib" 289 130 0
noncomputable def o95 : Obj := qT #[qS "self" 432] 0
noncomputable def o96 : Obj := qU "__getnewargs__" "Match.__getnewargs__" (mAt 4 10) 0 0
noncomputable def o97 : Obj := qC "__getnewargs__" "Match.__getnewargs__" 429 430 431 60 1 0 0 3 132 true 276 133 .none 134 135 136 433 60 434
noncomputable def o98 : Obj := qW "__getnewargs__" "Match.__getnewargs__" (mAt 4 10) 3 435 "cpy313.difflib" 289 137 0
noncomputable def o99 : Obj := qT #[qS "a" 437, qS "b" 438, qS "size" 439] 0
noncomputable def aq : Obj := ⟨.type "dict", none, (.dict #[qE P "index" 447 (.int 0 441), qE P "__doc__" 449 (qS "Alias for field number 0" 442)] 2), #[]⟩
noncomputable def ao : Obj := ⟨.ref 77, some 140, .plain, #[]⟩
noncomputable def cC : Obj := ⟨.type "frame", none, (.dict #[qR P "self" 443 141, qE P "index" 444 (.int 0 441), qE P "doc" 445 (qS "Alias for field number 0" 442)] 3), #[]⟩
noncomputable def am : Obj := ⟨.type "dict", none, (.dict #[qE P "index" 457 (.int 1 451), qE P "__doc__" 459 (qS "Alias for field number 1" 452)] 2), #[]⟩
noncomputable def al : Obj := ⟨.ref 77, some 143, .plain, #[]⟩
noncomputable def cB : Obj := ⟨.type "frame", none, (.dict #[qR P "self" 453 144, qE P "index" 454 (.int 1 451), qE P "doc" 455 (qS "Alias for field number 1" 452)] 3), #[]⟩
noncomputable def ak : Obj := ⟨.type "dict", none, (.dict #[qE P "index" 467 (.int 2 461), qE P "__doc__" 469 (qS "Alias for field number 2" 462)] 2), #[]⟩
noncomputable def aj : Obj := ⟨.ref 77, some 146, .plain, #[]⟩
noncomputable def cA : Obj := ⟨.type "frame", none, (.dict #[qR P "self" 463 147, qE P "index" 464 (.int 2 461), qE P "doc" 465 (qS "Alias for field number 2" 462)] 3), #[]⟩
noncomputable def ai : Obj := ⟨.type "dict", none, (.dict #[qE P "__module__" 355 (qS "cpy313.difflib" 289), qE P "__firstlineno__" 359 (.int 24 358), qE P "__doc__" 361 (.str (kL (yq 4)) 360), qR P "__slots__" 363 90, qR P "_fields" 367 91, qR P "_field_defaults" 368 92, qR P "__new__" 379 153, qR P "_make" 401 108, qR P "_replace" 412 117, qR P "__replace__" 413 117, qR P "__repr__" 421 124, qR P "_asdict" 428 131, qR P "__getnewargs__" 436 138, qR P "__match_args__" 440 139, qR P "a" 450 141, qR P "b" 460 144, qR P "size" 470 147, qR P "__static_attributes__" 471 149] 2), #[]⟩
noncomputable def V9 : Obj := ⟨.type "type", none, (.cls (ClassData.mk (Str.ofString "Match") [.type "tuple"] [.ref 152, .type "tuple", .type "object"] 151 (Str.ofString "Match") false [] [] false none false)), #[(some (.ref 82)), none, (some (qS "Match" 348)), (some (qS "Match" 356)), (some .none), (some (.bool false))]⟩
noncomputable def ah : Obj := ⟨.type "staticmethod", none, (.fields #[.ref 99]), #[]⟩
noncomputable def cz : Obj := ⟨.type "super", none, (.fields #[.ref 152, .ref 152, .ref 152]), #[]⟩
noncomputable def cy : Obj := ⟨.type "builtin_function_or_method", none, (.fields #[.builtin "object.__init_subclass__", .ref 152]), #[]⟩
noncomputable def ag : Obj := qT #[qS "matches" 479, qS "length" 480] 0
noncomputable def cx : Obj := qU "_calculate_ratio" "_calculate_ratio" (yq 5) 0 0
noncomputable def af : Obj := qC "_calculate_ratio" "_calculate_ratio" 476 477 478 67 2 0 0 3 156 true 276 157 .none 158 159 160 481 67 482
noncomputable def ae : Obj := qV "_calculate_ratio" "_calculate_ratio" (yq 5) 3 "cpy313.difflib" 289 161 0
noncomputable def cw : Obj := ⟨.type "dict", none, (.dict #[qE P "__module__" 491 (qS "cpy313.difflib" 289), qE P "__qualname__" 493 (qS "SequenceMatcher" 492), qE P "__firstlineno__" 495 (.int 71 494), qE P "__doc__" 497 (.str (kL (yq 6)) 496), qR P "__init__" 512 177, qR P "set_seqs" 522 184, qR P "set_seq1" 531 191, qR P "set_seq2" 540 198, qR P "_SequenceMatcher__chain_b" 558 205, qR P "find_longest_match" 586 213, qR P "get_matching_blocks" 613 220, qR P "get_opcodes" 620 227, qR P "get_grouped_opcodes" 629 235, qR P "ratio" 638 242, qR P "quick_ratio" 645 249, qR P "real_quick_ratio" 652 256, qR P "__static_attributes__" 663 257] 17), #[]⟩
noncomputable def cv : Obj := ⟨.none, none, (.fields #[.int 146 0, .int 4 0, .ref 176, .int 174 0, .int 4 0, .ref 183, .int 185 0, .int 4 0, .ref 190, .int 210 0, .int 4 0, .ref 197, .int 237 0, .int 4 0, .ref 204, .int 261 0, .int 4 0, .ref 212, .int 336 0, .int 4 0, .ref 219, .int 384 0, .int 4 0, .ref 226, .int 387 0, .int 4 0, .ref 234, .int 390 0, .int 4 0, .ref 241, .int 414 0, .int 4 0, .ref 248, .int 417 0, .int 4 0, .ref 255]), #[]⟩
noncomputable def cu : Obj := ⟨.type "code", none, (.fields #[qS "SequenceMatcher" 486, qS "SequenceMatcher" 487, qS "/claim/cut.py" 488, .int 71 0, .int 0 0, .int 0 0, .int 0 0, .int 0 0, .ref 166, .bool false, .int 276 0, .ref 167, .none, .none, .none, .none, .int 489 0, .int 71 0, qS "/claim/cut.py" 490]), #[]⟩
noncomputable def cr : Obj := ⟨.type "frame", none, .plain, #[(some (.ref 168)), (some (.ref 3)), (some (.ref 165)), none, (some (qS "cpy313.difflib" 289)), none, (some (.ref 0))]⟩
noncomputable def ad : Obj := qT #[.none, qS "" 499, qS "" 500, .bool true] 0
noncomputable def ac : Obj := qT #[qS "self" 504, qS "isjunk" 505, qS "a" 506, qS "b" 507, qS "autojunk" 508] 0
noncomputable def cq : Obj := qU "__init__" "SequenceMatcher.__init__" (mAt 6 1) 0 0
noncomputable def aa : Obj := qC "__init__" "SequenceMatcher.__init__" 501 502 503 146 5 0 0 3 171 true 276 172 .none 173 174 175 509 146 510
noncomputable def V8 : Obj := ⟨.type "function", none, (.func (qF "__init__" "SequenceMatcher.__init__" (mAt 6 1) 3 [] (.ref 170) .none (.str (kL (mAt 6 1)) 511) (qS "cpy313.difflib" 289) none (.ref 176) .none 0)), #[]⟩
noncomputable def W9 : Obj := qT #[qS "self" 516, qS "a" 517, qS "b" 518] 0
noncomputable def cp : Obj := qU "set_seqs" "SequenceMatcher.set_seqs" (mAt 6 2) 0 0
noncomputable def W8 : Obj := qC "set_seqs" "SequenceMatcher.set_seqs" 513 514 515 174 3 0 0 3 178 true 276 179 .none 180 181 182 519 174 520
noncomputable def V7 : Obj := qW "set_seqs" "SequenceMatcher.set_seqs" (mAt 6 2) 3 521 "cpy313.difflib" 289 183 0
noncomputable def W7 : Obj := qT #[qS "self" 526, qS "a" 527] 0
noncomputable def co : Obj := qU "set_seq1" "SequenceMatcher.set_seq1" (mAt 6 3) 0 0
noncomputable def W6 : Obj := qC "set_seq1" "SequenceMatcher.set_seq1" 523 524 525 185 2 0 0 3 185 true 276 186 .none 187 188 189 528 185 529
noncomputable def V6 : Obj := qW "set_seq1" "SequenceMatcher.set_seq1" (mAt 6 3) 3 530 "cpy313.difflib" 289 190 0
noncomputable def W5 : Obj := qT #[qS "self" 535, qS "b" 536] 0
noncomputable def cn : Obj := qU "set_seq2" "SequenceMatcher.set_seq2" (mAt 6 4) 0 0
noncomputable def W4 : Obj := qC "set_seq2" "SequenceMatcher.set_seq2" 532 533 534 210 2 0 0 3 192 true 276 193 .none 194 195 196 537 210 538
noncomputable def V5 : Obj := qW "set_seq2" "SequenceMatcher.set_seq2" (mAt 6 4) 3 539 "cpy313.difflib" 289 197 0
noncomputable def W3 : Obj := qT #[qS "self" 544, qS "b" 545, qS "b2j" 546, qS "i" 547, qS "elt" 548, qS "indices" 549, qS "junk" 550, qS "isjunk" 551, qS "popular" 552, qS "n" 553, qS "ntest" 554, qS "idxs" 555] 0
noncomputable def cm : Obj := qU "__chain_b" "SequenceMatcher.__chain_b" (mAt 6 5) 0 0
noncomputable def W2 : Obj := qC "__chain_b" "SequenceMatcher.__chain_b" 541 542 543 237 1 0 0 3 199 true 276 200 .none 201 202 203 556 237 557
noncomputable def Vc : Obj := qV "__chain_b" "SequenceMatcher.__chain_b" (mAt 6 5) 3 "cpy313.difflib" 289 204 0
noncomputable def W1 : Obj := qT #[.int 0 559, .none, .int 0 560, .none] 0
noncomputable def W0 : Obj := qT #[qS "self" 564, qS "alo" 565, qS "ahi" 566, qS "blo" 567, qS "bhi" 568, qS "a" 569, qS "b" 570, qS "b2j" 571, qS "isbjunk" 572, qS "besti" 573, qS "bestj" 574, qS "bestsize" 575, qS "j2len" 576, qS "nothing" 577, qS "i" 578, qS "j2lenget" 579, qS "newj2len" 580, qS "j" 581, qS "k" 582] 0
noncomputable def ck : Obj := qU "find_longest_match" "SequenceMatcher.find_longest_match" (mAt 6 6) 0 0
noncomputable def WZ : Obj := qC "find_longest_match" "SequenceMatcher.find_longest_match" 561 562 563 261 5 0 0 3 207 true 276 208 .none 209 210 211 583 261 584
noncomputable def Jt : Obj := ⟨.type "function", none, (.func (qF "find_longest_match" "SequenceMatcher.find_longest_match" (mAt 6 6) 3 [] (.ref 206) .none (.str (kL (mAt 6 6)) 585) (qS "cpy313.difflib" 289) none (.ref 212) .none 0)), #[]⟩
noncomputable def WY : Obj := qT #[qS "self" 590, qS "la" 591, qS "lb" 592, qS "queue" 593, qS "matching_blocks" 594, qS "alo" 595, qS "ahi" 596, qS "blo" 597, qS "bhi" 598, qS "i" 599, qS "j" 600, qS "k" 601, qS "x" 602, qS "i1" 603, qS "j1" 604, qS "k1" 605, qS "non_adjacent" 606, qS "i2" 607, qS "j2" 608, qS "k2" 609] 0
noncomputable def cj : Obj := qU "get_matching_blocks" "SequenceMatcher.get_matching_blocks" (mAt 6 7) 0 0
noncomputable def WX : Obj := qC "get_matching_blocks" "SequenceMatcher.get_matching_blocks" 587 588 589 336 1 0 0 3 214 true 276 215 .none 216 217 218 610 336 611
noncomputable def WW : Obj := qW "get_matching_blocks" "SequenceMatcher.get_matching_blocks" (mAt 6 7) 3 612 "cpy313.difflib" 289 219 0
noncomputable def WV : Obj := qT #[qS "self" 617] 0
noncomputable def ci : Obj := qU "get_opcodes" "SequenceMatcher.get_opcodes" (mAt 6 8) 0 0
noncomputable def WU : Obj := qC "get_opcodes" "SequenceMatcher.get_opcodes" 614 615 616 384 1 0 0 3 221 true 276 222 .none 223 224 225 618 384 619
noncomputable def WT : Obj := qV "get_opcodes" "SequenceMatcher.get_opcodes" (mAt 6 8) 3 "cpy313.difflib" 289 226 0
noncomputable def WS : Obj := qT #[.int 3 621] 0
noncomputable def WR : Obj := qT #[qS "self" 625, qS "n" 626] 0
noncomputable def cg : Obj := qU "get_grouped_opcodes" "SequenceMatcher.get_grouped_opcodes" (mAt 6 9) 0 0
noncomputable def WQ : Obj := qC "get_grouped_opcodes" "SequenceMatcher.get_grouped_opcodes" 622 623 624 387 2 0 0 3 229 true 276 230 .none 231 232 233 627 387 628
noncomputable def WP : Obj := ⟨.type "function", none, (.func (qF "get_grouped_opcodes" "SequenceMatcher.get_grouped_opcodes" (mAt 6 9) 3 [] (.ref 228) .none .none (qS "cpy313.difflib" 289) none (.ref 234) .none 0)), #[]⟩
noncomputable def WO : Obj := qT #[qS "self" 633, qS "matches" 634] 0
noncomputable def cf : Obj := qU "ratio" "SequenceMatcher.ratio" (mAt 6 10) 0 0
noncomputable def WN : Obj := qC "ratio" "SequenceMatcher.ratio" 630 631 632 390 1 0 0 3 236 true 276 237 .none 238 239 240 635 390 636
noncomputable def WM : Obj := qW "ratio" "SequenceMatcher.ratio" (mAt 6 10) 3 637 "cpy313.difflib" 289 241 0
noncomputable def WL : Obj := qT #[qS "self" 642] 0
noncomputable def ce : Obj := qU "quick_ratio" "SequenceMatcher.quick_ratio" (mAt 6 11) 0 0
noncomputable def WK : Obj := qC "quick_ratio" "SequenceMatcher.quick_ratio" 639 640 641 414 1 0 0 3 243 true 276 244 .none 245 246 247 643 414 644
noncomputable def WJ : Obj := qV "quick_ratio" "SequenceMatcher.quick_ratio" (mAt 6 11) 3 "cpy313.difflib" 289 248 0
noncomputable def WI : Obj := qT #[qS "self" 649] 0
noncomputable def cc : Obj := qU "real_quick_ratio" "SequenceMatcher.real_quick_ratio" (mAt 6 12) 0 0
noncomputable def WH : Obj := qC "real_quick_ratio" "SequenceMatcher.real_quick_ratio" 646 647 648 417 1 0 0 3 250 true 276 251 .none 252 253 254 650 417 651
noncomputable def WG : Obj := qV "real_quick_ratio" "SequenceMatcher.real_quick_ratio" (mAt 6 12) 3 "cpy313.difflib" 289 255 0
noncomputable def WF : Obj := qT #[qS "a" 653, qS "autojunk" 654, qS "b" 655, qS "b2j" 656, qS "bjunk" 657, qS "bpopular" 658, qS "fullbcount" 659, qS "isjunk" 660, qS "matching_blocks" 661, qS "opcodes" 662] 0
noncomputable def WE : Obj := ⟨.type "dict", none, (.dict #[qE P "__module__" 491 (qS "cpy313.difflib" 289), qE P "__firstlineno__" 495 (.int 71 494), qE P "__doc__" 497 (.str (kL (yq 6)) 496), qR P "__init__" 512 177, qR P "set_seqs" 522 184, qR P "set_seq1" 531 191, qR P "set_seq2" 540 198, qR P "_SequenceMatcher__chain_b" 558 205, qR P "find_longest_match" 586 213, qR P "get_matching_blocks" 613 220, qR P "get_opcodes" 620 227, qR P "get_grouped_opcodes" 629 235, qR P "ratio" 638 242, qR P "quick_ratio" 645 249, qR P "real_quick_ratio" 652 256, qR P "__static_attributes__" 663 257, qR P "__dict__" 665 260, qR P "__weakref__" 667 261] 3), #[]⟩
noncomputable def WD : Obj := ⟨.type "type", none, (.cls (ClassData.mk (Str.ofString "SequenceMatcher") [.type "object"] [.ref 259, .type "object"] 258 (Str.ofString "SequenceMatcher") true [] [] false none false)), #[none, none, (some (qS "SequenceMatcher" 484)), (some (qS "SequenceMatcher" 492)), (some (.builtin "object.__new__")), (some (.bool true))]⟩
noncomputable def WA : Obj := ⟨.type "getset_descriptor", none, (.fields #[qS "__dict__" 664, .ref 259, .builtin "function.__dict__", .builtin "function.__dict__#set"]), #[]⟩
noncomputable def Wz : Obj := ⟨.type "getset_descriptor", none, (.fields #[qS "__weakref__" 666, .ref 259, .builtin "ExceptionGroup.__weakref__", .none]), #[]⟩
noncomputable def cb : Obj := ⟨.type "super", none, (.fields #[.ref 259, .ref 259, .ref 259]), #[]⟩
noncomputable def ca : Obj := ⟨.type "builtin_function_or_method", none, (.fields #[.builtin "object.__init_subclass__", .ref 259]), #[]⟩
noncomputable def b9 : Obj := ⟨.type "list", none, (.seq #[.int 14 675, .int 14 676, .int 4 677, .int 1 678, .int 1 679, .int 9 680, .int 0 681, .int 64 682, .int 0 683, .int 1342177280 684, .int 0 685, .int 0 686, .int 0 687, .int 0 688, .int 0 689, .int 17 690, .int 0 691, .int 13 692, .int 11 693, .int 9 694, .int 0 695, .int 64 696, .int 0 697, .int 1342177280 698, .int 0 699, .int 0 700, .int 0 701, .int 0 702, .int 0 703, .int 17 704, .int 1 705, .int 1 706] 0), #[]⟩
noncomputable def b8 : Obj := qT #[.none, .none] 0
noncomputable def Wy : Obj := qT #[.int 14 0, .int 14 0, .int 4 0, .int 1 0, .int 1 0, .int 9 0, .int 0 0, .int 64 0, .int 0 0, .int 1342177280 0, .int 0 0, .int 0 0, .int 0 0, .int 0 0, .int 0 0, .int 17 0, .int 0 0, .int 13 0, .int 11 0, .int 9 0, .int 0 0, .int 64 0, .int 0 0, .int 1342177280 0, .int 0 0, .int 0 0, .int 0 0, .int 0 0, .int 0 0, .int 17 0, .int 1 0, .int 1 0] 0
noncomputable def Wx : Obj := ⟨.type "re.Pattern", none, (.fields #[qS "([&~|])" 673, .int 32 708, .int 1 0, .none, .none, .ref 267, .int 0 0]), #[]⟩
noncomputable def Ww : Obj := qT #[qS "pat" 713, qS "STAR" 714, qS "parts" 715] 0
noncomputable def b7 : Obj := qU "translate" "translate" (yq 9) 0 0
noncomputable def Wv : Obj := qC "translate" "translate" 710 711 712 421 1 0 0 3 269 true 276 270 .none 271 272 273 716 421 717
noncomputable def V4 : Obj := qW "translate" "translate" (yq 9) 3 718 "cpy313.fnmatch" 670 274 0
noncomputable def ig : Obj := ⟨.type "dict", none, (.dict #[qE P "__name__" 165 (qS "re" 720), qE P "__doc__" 166 .none, qE P "__package__" 167 .none, qE P "__loader__" 168 (.builtin "__main__.__loader__#opaque"), qE P "__spec__" 169 .none, qR P "__annotations__" 170 6, qR P "__builtins__" 171 4, qE P "__file__" 173 (qS "/claim/cut.py" 172), qE P "__cached__" 174 .none, qR P "_sre" 275 12, qR P "_wall" 288 38, qR P "_tuplegetter" 347 77, qR P "Match" 475 152, qR P "_calculate_ratio" 483 162, qR P "SequenceMatcher" 669 259, qR P "_twin_re_1" 709 268, qR P "translate" 719 275, qR P "_special_chars_map" 867 277] 18), #[]⟩
noncomputable def ez : Obj := ⟨.type "bytes_iterator", none, (.fields #[.none, .int 24 0]), #[]⟩
noncomputable def Js : Obj := ⟨.type "dict", none, (.dict #[⟨40, .int 40 723, qS "\\(" 727⟩, ⟨41, .int 41 729, qS "\\)" 733⟩, ⟨91, .int 91 735, qS "\\[" 739⟩, ⟨93, .int 93 741, qS "\\]" 745⟩, ⟨123, .int 123 747, qS "\\{" 751⟩, ⟨125, .int 125 753, qS "\\}" 757⟩, ⟨63, .int 63 759, qS "\\?" 763⟩, ⟨42, .int 42 765, qS "\\*" 769⟩, ⟨43, .int 43 771, qS "\\+" 775⟩, ⟨45, .int 45 777, qS "\\-" 781⟩, ⟨124, .int 124 783, qS "\\|" 787⟩, ⟨94, .int 94 789, qS "\\^" 793⟩, ⟨36, .int 36 795, qS "\\$" 799⟩, ⟨92, .int 92 801, (qS "\\\\" 805)⟩, ⟨46, .int 46 807, qS "\\." 811⟩, ⟨38, .int 38 813, qS "\\&" 817⟩, ⟨126, .int 126 819, qS "\\~" 823⟩, ⟨35, .int 35 825, qS "\\#" 829⟩, ⟨32, .int 32 831, qS "\\ " 835⟩, ⟨9, .int 9 837, (qS "\\\t" 841)⟩, ⟨10, .int 10 843, (qS "\\\n" 847)⟩, ⟨13, .int 13 849, (qS "\\\x0d" 853)⟩, ⟨11, .int 11 855, (qS "\\\x0b" 859)⟩, ⟨12, .int 12 861, (qS "\\\x0c" 865)⟩] 24), #[]⟩
noncomputable def ew : Obj := ⟨.type "dict", none, (.dict #[] 2), #[]⟩
noncomputable def ev : Obj := ⟨.type "StopIteration", none, (.fields #[.ref 279, .none, .none, .none, .bool false, .none]), #[]⟩
noncomputable def eu : Obj := ⟨.type "dict", none, (.dict #[qE P "__name__" 165 (qS "law_in0177_02" 1100), qE P "__doc__" 166 .none, qE P "__package__" 167 .none, qE P "__loader__" 168 (.builtin "__main__.__loader__#opaque"), qE P "__spec__" 169 .none, qR P "__annotations__" 170 6, qR P "__builtins__" 171 4, qE P "__file__" 173 (qS "/claim/cut.py" 172), qE P "__cached__" 174 .none, qR P "_sre" 275 12, qR P "_wall" 288 38, qR P "_tuplegetter" 347 77, qR P "Match" 475 152, qR P "_calculate_ratio" 483 162, qR P "SequenceMatcher" 669 259, qR P "_twin_re_1" 709 268, qR P "translate" 719 275, qR P "_special_chars_map" 867 277, qR P "escape" 874 287, qR P "_translate" 895 294, qR P "_join_translated_parts" 908 301, qE P "_NODE_OUT" 913 (.int (-1) 912), qE P "_NODE_DONE" 916 (.int (-2) 915), qR P "_NodeInfo" 953 320, qR P "CycleError" 973 335, qR P "TopologicalSorter" 1099 417, qR P "_law_takes" 1107 426, qR P "_law_told" 1118 433, qR P "_law_rounds" 1131 440, qR P "_law_due" 1144 447, qR P "_law_shared" 1150 452, qR P "_law_windows_are" 1165 459, qR P "law" 1171 464] 33), #[]⟩
noncomputable def gK : Obj := ⟨.none, none, (.fields #[.int 2 0, .int 0 0, .ref 37, .int 6 0, .int 0 0, .ref 44, .int 24 0, .int 0 0, .ref 88, .int 67 0, .int 0 0, .ref 161, .int 71 0, .int 0 0, .ref 168, .int 421 0, .int 0 0, .ref 274, .int 431 0, .int 0 0, .ref 286, .int 438 0, .int 0 0, .ref 293, .int 500 0, .int 0 0, .ref 300, .int 530 0, .int 0 0, .ref 307, .int 537 0, .int 0 0, .ref 331, .int 549 0, .int 0 0, .ref 344, .int 706 0, .int 0 0, .ref 425, .int 710 0, .int 0 0, .ref 432, .int 720 0, .int 0 0, .ref 439, .int 735 0, .int 0 0, .ref 446, .int 746 0, .int 0 0, .ref 451, .int 753 0, .int 0 0, .ref 458, .int 761 0, .int 0 0, .ref 463]), #[]⟩
noncomputable def et : Obj := qT #[qS "pattern" 871] 0
noncomputable def gI : Obj := qU "escape" "escape" (yq 12) 0 0
noncomputable def el : Obj := qC "escape" "escape" 868 869 870 431 1 0 0 3 281 true 276 282 .none 283 284 285 872 431 873
noncomputable def b0 : Obj := qV "escape" "escape" (yq 12) 3 "re" 720 286 0
noncomputable def eh : Obj := qT #[qS "pat" 880, qS "STAR" 881, qS "QUESTION_MARK" 882, qS "res" 883, qS "add" 884, qS "i" 885, qS "n" 886, qS "c" 887, qS "j" 888, qS "stuff" 889, qS "chunks" 890, qS "k" 891, qS "chunk" 892] 0
noncomputable def gH : Obj := qU "_translate" "_translate" (yq 14) 0 0
noncomputable def eg : Obj := qC "_translate" "_translate" 877 878 879 438 3 0 0 3 288 true 276 289 .none 290 291 292 893 438 894
noncomputable def bZ : Obj := qV "_translate" "_translate" (yq 14) 3 "cpy313.fnmatch" 875 293 0
noncomputable def ee : Obj := qT #[qS "inp" 899, qS "STAR" 900, qS "res" 901, qS "add" 902, qS "i" 903, qS "n" 904, qS "fixed" 905] 0
noncomputable def gG : Obj := qU "_join_translated_parts" "_join_translated_parts" (yq 15) 0 0
noncomputable def ed : Obj := qC "_join_translated_parts" "_join_translated_parts" 896 897 898 500 2 0 0 3 295 true 276 296 .none 297 298 299 906 500 907
noncomputable def bY : Obj := qV "_join_translated_parts" "_join_translated_parts" (yq 15) 3 "cpy313.fnmatch" 875 300 0
noncomputable def gF : Obj := ⟨.type "dict", none, (.dict #[qE P "__module__" 924 (qS "cpy313.graphlib" 909), qE P "__qualname__" 926 (qS "_NodeInfo" 925), qE P "__firstlineno__" 928 (.int 530 927), qR P "__slots__" 932 309, qR P "__init__" 940 316, qR P "__static_attributes__" 944 317] 6), #[]⟩
noncomputable def gE : Obj := ⟨.none, none, (.fields #[.int 533 0, .int 4 0, .ref 315]), #[]⟩
noncomputable def gD : Obj := ⟨.type "code", none, (.fields #[qS "_NodeInfo" 919, qS "_NodeInfo" 920, qS "/claim/cut.py" 921, .int 530 0, .int 0 0, .int 0 0, .int 0 0, .int 0 0, .ref 305, .bool false, .int 276 0, .ref 306, .none, .none, .none, .none, .int 922 0, .int 530 0, qS "/claim/cut.py" 923]), #[]⟩
noncomputable def gC : Obj := ⟨.type "frame", none, .plain, #[(some (.ref 307)), (some (.ref 3)), (some (.ref 304)), none, (some (qS "cpy313.graphlib" 909)), none, (some (.ref 0))]⟩
noncomputable def ec : Obj := qT #[qS "node" 929, qS "npredecessors" 930, qS "successors" 931] 0
noncomputable def d9 : Obj := qT #[qS "self" 936, qS "node" 937] 0
noncomputable def gz : Obj := qU "__init__" "_NodeInfo.__init__" (mAt 19 1) 0 0
noncomputable def d8 : Obj := qC "__init__" "_NodeInfo.__init__" 933 934 935 533 2 0 0 3 310 true 276 311 .none 312 313 314 938 533 939
noncomputable def bX : Obj := qV "__init__" "_NodeInfo.__init__" (mAt 19 1) 3 "cpy313.graphlib" 909 315 0
noncomputable def d7 : Obj := qT #[qS "node" 941, qS "npredecessors" 942, qS "successors" 943] 0
noncomputable def gy : Obj := ⟨.type "list", none, (.seq #[qS "node" 929, qS "npredecessors" 930, qS "successors" 931] 1), #[]⟩
noncomputable def d6 : Obj := ⟨.type "dict", none, (.dict #[qE P "__module__" 924 (qS "cpy313.graphlib" 909), qE P "__firstlineno__" 928 (.int 530 927), qR P "__slots__" 932 309, qR P "__init__" 940 316, qR P "__static_attributes__" 944 317, qR P "node" 946 321, qR P "npredecessors" 948 322, qR P "successors" 950 323, qE P "__doc__" 951 .none] 5), #[]⟩
noncomputable def d5 : Obj := ⟨.type "type", none, (.cls (ClassData.mk (Str.ofString "_NodeInfo") [.type "object"] [.ref 320, .type "object"] 319 (Str.ofString "_NodeInfo") false [(Str.ofString "node"), (Str.ofString "npredecessors"), (Str.ofString "successors")] [] false none false)), #[none, none, (some (qS "_NodeInfo" 917)), (some (qS "_NodeInfo" 925)), (some (.builtin "object.__new__")), (some (.bool false))]⟩
noncomputable def dZ : Obj := ⟨.type "member_descriptor", none, (.fields #[qS "node" 945, .ref 320, .builtin "proto.slot", .builtin "proto.slot#set", .int 2 0]), #[]⟩
noncomputable def dY : Obj := ⟨.type "member_descriptor", none, (.fields #[qS "npredecessors" 947, .ref 320, .builtin "proto.slot", .builtin "proto.slot#set", .int 1 0]), #[]⟩
noncomputable def dX : Obj := ⟨.type "member_descriptor", none, (.fields #[qS "successors" 949, .ref 320, .builtin "proto.slot", .builtin "proto.slot#set", .int 0 0]), #[]⟩
noncomputable def gx : Obj := ⟨.type "super", none, (.fields #[.ref 320, .ref 320, .ref 320]), #[]⟩
noncomputable def gw : Obj := ⟨.type "builtin_function_or_method", none, (.fields #[.builtin "object.__init_subclass__", .ref 320]), #[]⟩
noncomputable def dW : Obj := qT #[.type "ValueError"] 0
noncomputable def gv : Obj := ⟨.type "dict", none, (.dict #[qE P "__module__" 961 (qS "cpy313.graphlib" 909), qE P "__qualname__" 963 (qS "CycleError" 962), qE P "__firstlineno__" 965 (.int 537 964), qE P "__doc__" 967 (.str (kL (yq 20)) 966), qR P "__static_attributes__" 969 333] 5), #[]⟩
noncomputable def gu : Obj := ⟨.type "code", none, (.fields #[qS "CycleError" 956, qS "CycleError" 957, qS "/claim/cut.py" 958, .int 537 0, .int 0 0, .int 0 0, .int 0 0, .int 0 0, .ref 329, .bool false, .int 276 0, .ref 330, .none, .none, .none, .none, .int 959 0, .int 537 0, qS "/claim/cut.py" 960]), #[]⟩
noncomputable def gt : Obj := ⟨.type "frame", none, .plain, #[(some (.ref 331)), (some (.ref 3)), (some (.ref 328)), none, (some (qS "cpy313.graphlib" 909)), none, (some (.ref 0))]⟩
noncomputable def dU : Obj := ⟨.type "dict", none, (.dict #[qE P "__module__" 961 (qS "cpy313.graphlib" 909), qE P "__firstlineno__" 965 (.int 537 964), qE P "__doc__" 967 (.str (kL (yq 20)) 966), qR P "__static_attributes__" 969 333, qR P "__weakref__" 971 336] 2), #[]⟩
noncomputable def dT : Obj := ⟨.type "type", none, (.cls (ClassData.mk (Str.ofString "CycleError") [.type "ValueError"] [.ref 335, .type "ValueError", .type "Exception", .type "BaseException", .type "object"] 334 (Str.ofString "CycleError") true [] [] false none false)), #[(some (.ref 326)), none, (some (qS "CycleError" 954)), (some (qS "CycleError" 962)), (some (.builtin "ValueError.__new__")), (some (.bool true))]⟩
noncomputable def dR : Obj := ⟨.type "getset_descriptor", none, (.fields #[qS "__weakref__" 970, .ref 335, .builtin "ExceptionGroup.__weakref__", .none]), #[]⟩
noncomputable def gs : Obj := ⟨.type "super", none, (.fields #[.ref 335, .ref 335, .ref 335]), #[]⟩
noncomputable def gr : Obj := ⟨.type "builtin_function_or_method", none, (.fields #[.builtin "object.__init_subclass__", .ref 335]), #[]⟩
noncomputable def gp : Obj := ⟨.type "dict", none, (.dict #[qE P "__module__" 981 (qS "cpy313.graphlib" 909), qE P "__qualname__" 983 (qS "TopologicalSorter" 982), qE P "__firstlineno__" 985 (.int 549 984), qE P "__doc__" 987 (.str (kL (yq 21)) 986), qR P "__init__" 998 353, qR P "_get_nodeinfo" 1007 360, qR P "add" 1020 367, qR P "prepare" 1027 372, qR P "get_ready" 1038 379, qR P "is_active" 1046 386, qR P "__bool__" 1053 393, qR P "done" 1068 400, qR P "_find_cycle" 1081 407, qR P "static_order" 1088 414, qR P "__static_attributes__" 1093 415] 15), #[]⟩
noncomputable def gn : Obj := ⟨.none, none, (.fields #[.int 552 0, .int 4 0, .ref 352, .int 561 0, .int 4 0, .ref 359, .int 566 0, .int 4 0, .ref 366, .int 589 0, .int 4 0, .ref 371, .int 604 0, .int 4 0, .ref 378, .int 624 0, .int 4 0, .ref 385, .int 638 0, .int 4 0, .ref 392, .int 641 0, .int 4 0, .ref 399, .int 674 0, .int 4 0, .ref 406, .int 703 0, .int 4 0, .ref 413]), #[]⟩
noncomputable def gm : Obj := ⟨.type "code", none, (.fields #[qS "TopologicalSorter" 976, qS "TopologicalSorter" 977, qS "/claim/cut.py" 978, .int 549 0, .int 0 0, .int 0 0, .int 0 0, .int 0 0, .ref 342, .bool false, .int 276 0, .ref 343, .none, .none, .none, .none, .int 979 0, .int 549 0, qS "/claim/cut.py" 980]), #[]⟩
noncomputable def gl : Obj := ⟨.type "frame", none, .plain, #[(some (.ref 344)), (some (.ref 3)), (some (.ref 341)), none, (some (qS "cpy313.graphlib" 909)), none, (some (.ref 0))]⟩
noncomputable def dQ : Obj := qT #[qS "self" 992, qS "graph" 993, qS "node" 994, qS "predecessors" 995] 0
noncomputable def gi : Obj := qU "__init__" "TopologicalSorter.__init__" (mAt 21 1) 0 0
noncomputable def dP : Obj := qC "__init__" "TopologicalSorter.__init__" 989 990 991 552 2 0 0 3 347 true 276 348 .none 349 350 351 996 552 997
noncomputable def Wu : Obj := ⟨.type "function", none, (.func (qF "__init__" "TopologicalSorter.__init__" (mAt 21 1) 3 [] (.ref 346) .none .none (qS "cpy313.graphlib" 909) none (.ref 352) .none 0)), #[]⟩
noncomputable def dO : Obj := qT #[qS "self" 1002, qS "node" 1003, qS "result" 1004] 0
noncomputable def gh : Obj := qU "_get_nodeinfo" "TopologicalSorter._get_nodeinfo" (mAt 21 2) 0 0
noncomputable def dN : Obj := qC "_get_nodeinfo" "TopologicalSorter._get_nodeinfo" 999 1000 1001 561 2 0 0 3 354 true 276 355 .none 356 357 358 1005 561 1006
noncomputable def bW : Obj := qV "_get_nodeinfo" "TopologicalSorter._get_nodeinfo" (mAt 21 2) 3 "cpy313.graphlib" 909 359 0
noncomputable def dM : Obj := qT #[qS "self" 1011, qS "node" 1012, qS "predecessors" 1013, qS "nodeinfo" 1014, qS "pred" 1015, qS "pred_info" 1016] 0
noncomputable def gf : Obj := qU "add" "TopologicalSorter.add" (mAt 21 3) 0 0
noncomputable def dL : Obj := qC "add" "TopologicalSorter.add" 1008 1009 1010 566 2 0 0 7 361 true 276 362 .none 363 364 365 1017 566 1018
noncomputable def bV : Obj := qW "add" "TopologicalSorter.add" (mAt 21 3) 3 1019 "cpy313.graphlib" 909 366 0
noncomputable def ge : Obj := qU "prepare" "TopologicalSorter.prepare" (mAt 21 4) 0 0
noncomputable def dK : Obj := ⟨.type "code", none, (.fields #[qS "prepare" 1021, qS "TopologicalSorter.prepare" 1022, qS "/claim/cut.py" 1023, .int 589 0, .int 1 0, .int 0 0, .int 0 0, .int 3 0, .ref 368, .bool true, .int 276 0, .ref 369, .none, .none, .none, .ref 370, .int 1024 0, .int 589 0, qS "/claim/cut.py" 1025]), #[]⟩
noncomputable def bU : Obj := qW "prepare" "TopologicalSorter.prepare" (mAt 21 4) 3 1026 "cpy313.graphlib" 909 371 0
noncomputable def dJ : Obj := qT #[qS "self" 1031, qS "result" 1032, qS "n2i" 1033, qS "node" 1034] 0
noncomputable def gd : Obj := qU "get_ready" "TopologicalSorter.get_ready" (mAt 21 5) 0 0
noncomputable def dI : Obj := qC "get_ready" "TopologicalSorter.get_ready" 1028 1029 1030 604 1 0 0 3 373 true 276 374 .none 375 376 377 1035 604 1036
noncomputable def bT : Obj := qW "get_ready" "TopologicalSorter.get_ready" (mAt 21 5) 3 1037 "cpy313.graphlib" 909 378 0
noncomputable def dH : Obj := qT #[qS "self" 1042] 0
noncomputable def gc : Obj := qU "is_active" "TopologicalSorter.is_active" (mAt 21 6) 0 0
noncomputable def dG : Obj := qC "is_active" "TopologicalSorter.is_active" 1039 1040 1041 624 1 0 0 3 380 true 276 381 .none 382 383 384 1043 624 1044
noncomputable def bS : Obj := qW "is_active" "TopologicalSorter.is_active" (mAt 21 6) 3 1045 "cpy313.graphlib" 909 385 0
noncomputable def dF : Obj := qT #[qS "self" 1050] 0
noncomputable def gb : Obj := qU "__bool__" "TopologicalSorter.__bool__" (mAt 21 7) 0 0
noncomputable def dE : Obj := qC "__bool__" "TopologicalSorter.__bool__" 1047 1048 1049 638 1 0 0 3 387 true 276 388 .none 389 390 391 1051 638 1052
noncomputable def dD : Obj := qV "__bool__" "TopologicalSorter.__bool__" (mAt 21 7) 3 "cpy313.graphlib" 909 392 0
noncomputable def dC : Obj := qT #[qS "self" 1057, qS "nodes" 1058, qS "n2i" 1059, qS "node" 1060, qS "nodeinfo" 1061, qS "stat" 1062, qS "successor" 1063, qS "successor_info" 1064] 0
noncomputable def ga : Obj := qU "done" "TopologicalSorter.done" (mAt 21 8) 0 0
noncomputable def dB : Obj := qC "done" "TopologicalSorter.done" 1054 1055 1056 641 1 0 0 7 394 true 276 395 .none 396 397 398 1065 641 1066
noncomputable def bR : Obj := qW "done" "TopologicalSorter.done" (mAt 21 8) 3 1067 "cpy313.graphlib" 909 399 0
noncomputable def dA : Obj := qT #[qS "self" 1072, qS "n2i" 1073, qS "stack" 1074, qS "itstack" 1075, qS "seen" 1076, qS "node2stacki" 1077, qS "node" 1078] 0
noncomputable def f9 : Obj := qU "_find_cycle" "TopologicalSorter._find_cycle" (mAt 21 9) 0 0
noncomputable def dz : Obj := qC "_find_cycle" "TopologicalSorter._find_cycle" 1069 1070 1071 674 1 0 0 3 401 true 276 402 .none 403 404 405 1079 674 1080
noncomputable def Wt : Obj := qV "_find_cycle" "TopologicalSorter._find_cycle" (mAt 21 9) 3 "cpy313.graphlib" 909 406 0
noncomputable def dy : Obj := qT #[qS "self" 1085] 0
noncomputable def fZ : Obj := qU "static_order" "TopologicalSorter.static_order" (mAt 21 10) 0 0
noncomputable def dw : Obj := qC "static_order" "TopologicalSorter.static_order" 1082 1083 1084 703 1 0 0 3 408 true 276 409 .none 410 411 412 1086 703 1087
noncomputable def dv : Obj := qV "static_order" "TopologicalSorter.static_order" (mAt 21 10) 3 "cpy313.graphlib" 909 413 0
noncomputable def du : Obj := qT #[qS "_nfinished" 1089, qS "_node2info" 1090, qS "_npassedout" 1091, qS "_ready_nodes" 1092] 0
noncomputable def dq : Obj := ⟨.type "dict", none, (.dict #[qE P "__module__" 981 (qS "cpy313.graphlib" 909), qE P "__firstlineno__" 985 (.int 549 984), qE P "__doc__" 987 (.str (kL (yq 21)) 986), qR P "__init__" 998 353, qR P "_get_nodeinfo" 1007 360, qR P "add" 1020 367, qR P "prepare" 1027 372, qR P "get_ready" 1038 379, qR P "is_active" 1046 386, qR P "__bool__" 1053 393, qR P "done" 1068 400, qR P "_find_cycle" 1081 407, qR P "static_order" 1088 414, qR P "__static_attributes__" 1093 415, qR P "__dict__" 1095 418, qR P "__weakref__" 1097 419] 3), #[]⟩
noncomputable def dp : Obj := ⟨.type "type", none, (.cls (ClassData.mk (Str.ofString "TopologicalSorter") [.type "object"] [.ref 417, .type "object"] 416 (Str.ofString "TopologicalSorter") true [] [] false none false)), #[none, none, (some (qS "TopologicalSorter" 974)), (some (qS "TopologicalSorter" 982)), (some (.builtin "object.__new__")), (some (.bool true))]⟩
noncomputable def dn : Obj := ⟨.type "getset_descriptor", none, (.fields #[qS "__dict__" 1094, .ref 417, .builtin "function.__dict__", .builtin "function.__dict__#set"]), #[]⟩
noncomputable def dm : Obj := ⟨.type "getset_descriptor", none, (.fields #[qS "__weakref__" 1096, .ref 417, .builtin "ExceptionGroup.__weakref__", .none]), #[]⟩
noncomputable def fY : Obj := ⟨.type "super", none, (.fields #[.ref 417, .ref 417, .ref 417]), #[]⟩
noncomputable def fX : Obj := ⟨.type "builtin_function_or_method", none, (.fields #[.builtin "object.__init_subclass__", .ref 417]), #[]⟩
noncomputable def fW : Obj := qU "_law_takes" "_law_takes" (yq 23) 0 0
noncomputable def dl : Obj := ⟨.type "code", none, (.fields #[qS "_law_takes" 1102, qS "_law_takes" 1103, qS "/claim/cut.py" 1104, .int 706 0, .int 2 0, .int 0 0, .int 0 0, .int 3 0, .ref 422, .bool true, .int 276 0, .ref 423, .none, .none, .none, .ref 424, .int 1105 0, .int 706 0, qS "/claim/cut.py" 1106]), #[]⟩
noncomputable def bQ : Obj := qV "_law_takes" "_law_takes" (yq 23) 3 "law_in0177_02" 1100 425 0
noncomputable def dk : Obj := qT #[qS "left" 1111, qS "sorter" 1112, qS "size" 1113, qS "at" 1114, qS "part" 1115] 0
noncomputable def fV : Obj := qU "_law_told" "_law_told" (yq 24) 0 0
noncomputable def di : Obj := qC "_law_told" "_law_told" 1108 1109 1110 710 1 0 0 3 427 true 276 428 .none 429 430 431 1116 710 1117
noncomputable def bP : Obj := qV "_law_told" "_law_told" (yq 24) 3 "law_in0177_02" 1100 432 0
noncomputable def dh : Obj := qT #[qS "sorter" 1122, qS "right" 1123, qS "rounds" 1124, qS "held" 1125, qS "handed" 1126, qS "part" 1127, qS "text" 1128] 0
noncomputable def fU : Obj := qU "_law_rounds" "_law_rounds" (yq 25) 0 0
noncomputable def dg : Obj := qC "_law_rounds" "_law_rounds" 1119 1120 1121 720 2 0 0 3 434 true 276 435 .none 436 437 438 1129 720 1130
noncomputable def bO : Obj := qV "_law_rounds" "_law_rounds" (yq 25) 3 "law_in0177_02" 1100 439 0
noncomputable def df : Obj := qT #[qS "left" 1135, qS "right" 1136, qS "due" 1137, qS "size" 1138, qS "parts" 1139, qS "at" 1140, qS "part" 1141] 0
noncomputable def fT : Obj := qU "_law_due" "_law_due" (yq 26) 0 0
noncomputable def de : Obj := qC "_law_due" "_law_due" 1132 1133 1134 735 2 0 0 3 441 true 276 442 .none 443 444 445 1142 735 1143
noncomputable def bN : Obj := qV "_law_due" "_law_due" (yq 26) 3 "law_in0177_02" 1100 446 0
noncomputable def fS : Obj := qU "_law_shared" "_law_shared" (yq 27) 0 0
noncomputable def dc : Obj := ⟨.type "code", none, (.fields #[qS "_law_shared" 1145, qS "_law_shared" 1146, qS "/claim/cut.py" 1147, .int 746 0, .int 5 0, .int 0 0, .int 0 0, .int 3 0, .ref 448, .bool true, .int 276 0, .ref 449, .none, .none, .none, .ref 450, .int 1148 0, .int 746 0, qS "/claim/cut.py" 1149]), #[]⟩
noncomputable def bM : Obj := qV "_law_shared" "_law_shared" (yq 27) 3 "law_in0177_02" 1100 451 0
noncomputable def c9 : Obj := qT #[qS "left" 1154, qS "right" 1155, qS "held" 1156, qS "matcher" 1157, qS "low" 1158, qS "high" 1159, qS "i" 1160, qS "j" 1161, qS "k" 1162] 0
noncomputable def fR : Obj := qU "_law_windows_are" "_law_windows_are" (yq 28) 0 0
noncomputable def c8 : Obj := qC "_law_windows_are" "_law_windows_are" 1151 1152 1153 753 3 0 0 3 453 true 276 454 .none 455 456 457 1163 753 1164
noncomputable def bL : Obj := qV "_law_windows_are" "_law_windows_are" (yq 28) 3 "law_in0177_02" 1100 458 0
noncomputable def fQ : Obj := qU "law" "law" (yq 29) 0 0
noncomputable def c7 : Obj := ⟨.type "code", none, (.fields #[qS "law" 1166, qS "law" 1167, qS "/claim/cut.py" 1168, .int 761 0, .int 1 0, .int 0 0, .int 0 0, .int 3 0, .ref 460, .bool true, .int 276 0, .ref 461, .none, .none, .none, .ref 462, .int 1169 0, .int 761 0, qS "/claim/cut.py" 1170]), #[]⟩
noncomputable def bK : Obj := qV "law" "law" (yq 29) 3 "law_in0177_02" 1100 463 0
end
noncomputable def h0 (P : Params) : Heap := ⟨#[o0 P, o1 P, o2 P, o3 P, o4, o5, o6, o7, o8, o9, o10, o11 P, o12, o13 P, o14, o7, o15, o16, o17, o18, o19 P, o20 P, o21, o22, o23, o24, o25, o26], {}⟩
noncomputable def ta (P : Params) : BT := (.node (o0 P) (.node (o1 P) (.node (o3 P) (.node o7 (.node o7 (lf o28) .nil) (lf o22)) (.node (o11 P) (lf o18) (lf o26))) (.node o5 (.node o9 (lf o16) (lf o24)) (.node (o13 P) (lf (o20 P)) (lf o8)))) (.node (o2 P) (.node o4 (.node o8 (lf o15) (lf o23)) (.node o12 (lf (o19 P)) (lf o7))) (.node o6 (.node o10 (lf o17) (lf o25)) (.node o14 (lf o21) (lf o27)))))
noncomputable def tA (P : Params) : BT := (.node (o0 P) (.node (o1 P) (.node (o29 P) (.node o7 (.node o7 (.node o28 (.node o49 (.node o91 (lf WH) .nil) (lf V6)) (.node o71 (lf o7) (lf WV))) (.node o8 (.node o61 (.node (am P) (lf Ww) .nil) (lf o7)) (.node o82 (lf cq) (lf o7)))) (.node o22 (.node o7 (.node o7 (.node o7 (lf ca) .nil) (lf o7)) (.node o7 (lf cv) (lf WR))) (.node o8 (.node o67 (lf (ai P)) (lf o8)) (.node o8 (lf W8) (lf ce))))) (.node (o11 P) (.node o18 (.node o7 (.node o52 (.node o94 (lf WD) .nil) (lf o7)) (.node o74 (lf o7) (lf WT))) (.node o42 (.node o35 (.node aj (lf V4) .nil) (lf ck)) (.node o84 (lf o8) (lf o7)))) (.node o26 (.node o37 (.node o57 (.node o99 (lf Wy) .nil) (lf cm)) (.node (o79 P) (lf o7) (lf WP))) (.node o47 (.node o70 (lf cy) (lf WX)) (.node o89 (lf W7) (lf o8)))))) (.node o5 (.node o9 (.node o16 (.node o8 (.node o50 (.node o92 (lf WF) .nil) (lf o8)) (.node o72 (lf af) (lf ci))) (.node o7 (.node o63 (.node (cB P) (lf b7) .nil) (lf W0)) (.node o83 (lf V8) (lf WN)))) (.node o24 (.node (o36 P) (.node o55 (.node o97 (lf o6) .nil) (lf W3)) (.node o77 (lf cr) (lf cg))) (.node o7 (.node o69 (lf ah) (lf o7)) (.node o7 (lf o7) (lf WJ))))) (.node (o13 P) (.node (o20 P) (.node o33 (.node o8 (.node o8 (lf Wz) .nil) (lf W4)) (.node o8 (lf (cw P)) (lf o7))) (.node o44 (.node o66 (lf o7) (lf Jt)) (.node o86 (lf o7) (lf WL)))) (.node o30 (.node o39 (.node o59 (.node ao (lf o7) .nil) (lf Vc)) (.node o6 (lf ac) (lf o8))) (.node o7 (.node o7 (lf o8) (lf o7)) (.node o7 (lf co) (lf o7))))))) (.node (o2 P) (.node o4 (.node o8 (.node o15 (.node o7 (.node o7 (.node o7 (lf WG) .nil) (lf o7)) (.node o7 (lf cx) (lf o7))) (.node o40 (.node o62 (.node al (lf o7) .nil) (lf o8)) (.node o8 (lf aa) (lf cf)))) (.node o23 (.node o35 (.node o54 (.node o96 (lf b9) .nil) (lf o8)) (.node o76 (lf cu) (lf o7))) (.node o45 (.node o68 (lf V9) (lf WY)) (.node o87 (lf V7) (lf WK))))) (.node o12 (.node (o19 P) (.node o32 (.node o7 (.node o7 (lf WA) .nil) (lf cn)) (.node o7 (lf o35) (lf WS))) (.node o43 (.node (o65 P) (lf (cA P)) (lf WZ)) (.node o85 (lf W9) (lf o8)))) (.node o7 (.node o38 (.node (o58 P) (.node (aq P) (lf Wx) .nil) (lf W2)) (.node o80 (lf o8) (lf o7))) (.node o48 (.node o6 (lf o7) (lf WW)) (.node o90 (lf o7) (lf WI)))))) (.node o6 (.node o10 (.node o17 (.node o31 (.node o51 (.node o93 (lf (WE P)) .nil) (lf W5)) (.node o73 (lf ae) (lf WU))) (.node o41 (.node o64 (.node (ak P) (lf Wv) .nil) (lf o7)) (.node o7 (lf o7) (lf WM)))) (.node o25 (.node o7 (.node o56 (.node o98 (lf b8) .nil) (lf o7)) (.node o78 (lf ad) (lf WQ))) (.node o46 (.node o7 (lf cz) (lf cj)) (.node o88 (lf o8) (lf o7))))) (.node o14 (.node o21 (.node o34 (.node o53 (.node o95 (lf cb) .nil) (lf V5)) (.node o75 (lf o7) (lf o8))) (.node o7 (.node o7 (lf o18) (lf o7)) (.node o7 (lf cp) (lf o7)))) (.node o27 (.node o7 (.node o60 (.node (cC P) (lf o8) .nil) (lf W1)) (.node o81 (lf o7) (lf WO))) (.node o8 (.node o8 (lf ag) (lf o8)) (.node o8 (lf W6) (lf cc))))))))
noncomputable def tB (P : Params) : BT := (.node (o0 P) (.node (o1 P) (.node (ig P) (.node o7 (.node o7 (.node o28 (.node o49 (.node o91 (lf WH) .nil) (lf V6)) (.node o71 (lf o7) (lf WV))) (.node o8 (.node o61 (.node (am P) (lf Ww) .nil) (lf o7)) (.node o82 (lf cq) (lf o7)))) (.node o22 (.node o7 (.node o7 (.node o7 (lf ca) .nil) (lf o7)) (.node o7 (lf cv) (lf WR))) (.node o8 (.node o67 (.node (ai P) (lf o7) .nil) (lf o8)) (.node o8 (lf W8) (lf ce))))) (.node (o11 P) (.node o18 (.node o7 (.node o52 (.node o94 (lf WD) .nil) (lf o7)) (.node o74 (lf o7) (lf WT))) (.node o42 (.node o35 (.node aj (lf V4) .nil) (lf ck)) (.node o84 (lf o8) (lf o7)))) (.node o26 (.node o37 (.node o57 (.node o99 (lf Wy) .nil) (lf cm)) (.node (o79 P) (lf o7) (lf WP))) (.node o47 (.node o70 (lf cy) (lf WX)) (.node o89 (lf W7) (lf o8)))))) (.node o5 (.node o9 (.node o16 (.node o8 (.node o50 (.node o92 (lf WF) .nil) (lf o8)) (.node o72 (lf af) (lf ci))) (.node o7 (.node o63 (.node (cB P) (lf b7) .nil) (lf W0)) (.node o83 (lf V8) (lf WN)))) (.node o24 (.node (o36 P) (.node o55 (.node o97 (lf o6) .nil) (lf W3)) (.node o77 (lf cr) (lf cg))) (.node o7 (.node o69 (lf ah) (lf o7)) (.node o7 (lf o7) (lf WJ))))) (.node (o13 P) (.node (o20 P) (.node o33 (.node o8 (.node o8 (lf Wz) .nil) (lf W4)) (.node o8 (lf (cw P)) (lf o7))) (.node o44 (.node o66 (.node o7 (lf Js) .nil) (lf Jt)) (.node o86 (lf o7) (lf WL)))) (.node o30 (.node o39 (.node o59 (.node ao (lf o7) .nil) (lf Vc)) (.node o6 (lf ac) (lf o8))) (.node o7 (.node o7 (lf o8) (lf o7)) (.node o7 (lf co) (lf o7))))))) (.node (o2 P) (.node o4 (.node o8 (.node o15 (.node o7 (.node o7 (.node o7 (lf WG) .nil) (lf o7)) (.node o7 (lf cx) (lf o7))) (.node o40 (.node o62 (.node al (lf o7) .nil) (lf o8)) (.node o8 (lf aa) (lf cf)))) (.node o23 (.node o35 (.node o54 (.node o96 (lf b9) .nil) (lf o8)) (.node o76 (lf cu) (lf o7))) (.node o45 (.node o68 (.node V9 (lf ev) .nil) (lf WY)) (.node o87 (lf V7) (lf WK))))) (.node o12 (.node (o19 P) (.node o32 (.node o7 (.node o7 (lf WA) .nil) (lf cn)) (.node o7 (lf o35) (lf WS))) (.node o43 (.node (o65 P) (.node (cA P) (lf ez) .nil) (lf WZ)) (.node o85 (lf W9) (lf o8)))) (.node o7 (.node o38 (.node (o58 P) (.node (aq P) (lf Wx) .nil) (lf W2)) (.node o80 (lf o8) (lf o7))) (.node o48 (.node o6 (lf o7) (lf WW)) (.node o90 (lf o7) (lf WI)))))) (.node o6 (.node o10 (.node o17 (.node o31 (.node o51 (.node o93 (lf (WE P)) .nil) (lf W5)) (.node o73 (lf ae) (lf WU))) (.node o41 (.node o64 (.node (ak P) (lf Wv) .nil) (lf o7)) (.node o7 (lf o7) (lf WM)))) (.node o25 (.node o7 (.node o56 (.node o98 (lf b8) .nil) (lf o7)) (.node o78 (lf ad) (lf WQ))) (.node o46 (.node o7 (lf cz) (lf cj)) (.node o88 (lf o8) (lf o7))))) (.node o14 (.node o21 (.node o34 (.node o53 (.node o95 (lf cb) .nil) (lf V5)) (.node o75 (lf o7) (lf o8))) (.node o7 (.node o7 (.node o18 (lf ew) .nil) (lf o7)) (.node o7 (lf cp) (lf o7)))) (.node o27 (.node o7 (.node o60 (.node (cC P) (lf o8) .nil) (lf W1)) (.node o81 (lf o7) (lf WO))) (.node o8 (.node o8 (lf ag) (lf o8)) (.node o8 (lf W6) (lf cc))))))))
noncomputable def tF (P : Params) : BT := (.node (o0 P) (.node (o1 P) (.node (eu P) (.node o7 (.node o7 (.node o28 (.node o49 (.node o91 (lf WH) (lf o7)) (.node V6 (lf (d6 P)) (lf bN))) (.node o71 (.node o7 (lf b0) (lf du)) (.node WV (lf gi) .nil))) (.node o8 (.node o61 (.node (am P) (lf Ww) (lf dB)) (.node o7 (lf dT) (lf c7))) (.node o82 (.node cq (lf o35) (lf fV)) (.node o7 (lf bV) .nil)))) (.node o22 (.node o7 (.node o7 (.node o7 (lf ca) (lf gb)) (.node o7 (lf o35) (lf c9))) (.node o7 (.node cv (lf o7) (lf o8)) (.node WR (lf dN) .nil))) (.node o8 (.node o67 (.node (ai P) (lf o7) (lf Wt)) (.node o8 (lf gn) .nil)) (.node o8 (.node W8 (lf o8) (lf dg)) (.node ce (lf dJ) .nil))))) (.node (o11 P) (.node o18 (.node o7 (.node o52 (.node o94 (lf WD) (lf o7)) (.node o7 (lf dX) (lf dc))) (.node o74 (.node o7 (lf o7) (lf dm)) (.node WT (lf o8) .nil))) (.node o42 (.node o35 (.node aj (lf V4) (lf dA)) (.node ck (lf o7) .nil)) (.node o84 (.node o8 (lf gD) (lf o8)) (.node o7 (lf dK) .nil)))) (.node o26 (.node o37 (.node o57 (.node o99 (lf Wy) (lf o8)) (.node cm (lf gu) (lf bL))) (.node (o79 P) (.node o7 (lf gG) (lf o7)) (.node WP (lf dM) .nil))) (.node o47 (.node o70 (.node cy (lf et) (lf o7)) (.node WX (lf o7) .nil)) (.node o89 (.node W7 (lf d8) (lf df)) (.node o8 (lf bT) .nil)))))) (.node o5 (.node o9 (.node o16 (.node o8 (.node o50 (.node o92 (lf WF) (lf dG)) (.node o8 (lf dZ) (lf o8))) (.node o72 (.node af (lf o8) (lf dp)) (.node ci (lf Wu) .nil))) (.node o7 (.node o63 (.node (cB P) (lf b7) (lf o7)) (.node W0 (lf gs) .nil)) (.node o83 (.node V8 (lf o7) (lf bP)) (.node WN (lf o8) .nil)))) (.node o24 (.node (o36 P) (.node o55 (.node o97 (lf o6) (lf dD)) (.node W3 (lf o7) (lf fR))) (.node o77 (.node cr (lf ee) (lf dl)) (.node cg (lf o7) .nil))) (.node o7 (.node o69 (.node ah (lf o7) (lf o8)) (.node o7 (lf gl) .nil)) (.node o7 (.node o7 (lf o7) (lf o7)) (.node WJ (lf gd) .nil))))) (.node (o13 P) (.node (o20 P) (.node o33 (.node o8 (.node o8 (lf Wz) (lf dF)) (.node W4 (lf gw) (lf o7))) (.node o8 (.node (cw P) (lf eg) (lf fX)) (.node o7 (lf o7) .nil))) (.node o44 (.node o66 (.node o7 (lf Js) (lf f9)) (.node Jt (lf (gp P)) .nil)) (.node o86 (.node o7 (lf ec) (lf o7)) (.node WL (lf o7) .nil)))) (.node gK (.node o39 (.node o59 (.node ao (lf o7) (lf o7)) (.node Vc (lf o7) (lf o8))) (.node o6 (.node ac (lf bY) (lf dk)) (.node o8 (lf gf) .nil))) (.node o7 (.node o7 (.node o8 (lf gI) (lf dw)) (.node o7 (lf dQ) .nil)) (.node o7 (.node co (lf d7) (lf fT)) (.node o7 (lf o8) .nil))))))) (.node (o2 P) (.node o4 (.node o8 (.node o15 (.node o7 (.node o7 (.node o7 (lf WG) (lf gc)) (.node o7 (lf d5) (lf o7))) (.node o7 (.node cx (lf o7) (lf (dq P))) (.node o7 (lf dP) .nil))) (.node o40 (.node o62 (.node al (lf o7) (lf bR)) (.node o8 (lf dR) (lf bK))) (.node o8 (.node aa (lf (gF P)) (lf di)) (.node cf (lf o7) .nil)))) (.node o23 (.node o35 (.node o54 (.node o96 (lf b9) (lf dE)) (.node o8 (lf (gv P)) (lf o7))) (.node o76 (.node cu (lf o8) (lf fW)) (.node o7 (lf bW) .nil))) (.node o45 (.node o68 (.node V9 (lf ev) (lf o7)) (.node WY (lf gm) .nil)) (.node o87 (.node V7 (lf d9) (lf bO)) (.node WK (lf o7) .nil))))) (.node o12 (.node (o19 P) (.node o32 (.node o7 (.node o7 (lf WA) (lf o8)) (.node cn (lf gx) (lf bM))) (.node o7 (.node o35 (lf gH) (lf fY)) (.node WS (lf dO) .nil))) (.node o43 (.node (o65 P) (.node (cA P) (lf ez) (lf o7)) (.node WZ (lf o35) .nil)) (.node o85 (.node W9 (lf gC) (lf dh)) (.node o8 (lf bU) .nil)))) (.node o7 (.node o38 (.node (o58 P) (.node (aq P) (lf Wx) (lf dC)) (.node W2 (lf gt) (lf o7))) (.node o80 (.node o8 (lf ed) (lf o8)) (.node o7 (lf o7) .nil))) (.node o48 (.node o6 (.node o7 (lf o7) (lf fZ)) (.node WW (lf o8) .nil)) (.node o90 (.node o7 (lf bX) (lf o7)) (.node WI (lf o7) .nil)))))) (.node o6 (.node o10 (.node o17 (.node o31 (.node o51 (.node o93 (lf (WE P)) (lf bS)) (.node W5 (lf dY) (lf fS))) (.node o73 (.node ae (lf eh) (lf dn)) (.node WU (lf o7) .nil))) (.node o41 (.node o64 (.node (ak P) (lf Wv) (lf o8)) (.node o7 (lf gr) .nil)) (.node o7 (.node o7 (lf gE) (lf o7)) (.node WM (lf ge) .nil)))) (.node o25 (.node o7 (.node o56 (.node o98 (lf b8) (lf o7)) (.node o7 (lf o8) (lf c8))) (.node o78 (.node ad (lf o7) (lf bQ)) (.node WQ (lf o8) .nil))) (.node o46 (.node o7 (.node cz (lf o8) (lf dy)) (.node cj (lf o44) .nil)) (.node o88 (.node o8 (lf gz) (lf o8)) (.node o7 (lf dI) .nil))))) (.node o14 (.node o21 (.node o34 (.node o53 (.node o95 (lf cb) (lf o7)) (.node V5 (lf dW) (lf o8))) (.node o75 (.node o7 (lf bZ) (lf o7)) (.node o8 (lf gh) .nil))) (.node o7 (.node o7 (.node o18 (lf ew) (lf dz)) (.node o7 (lf o7) .nil)) (.node o7 (.node cp (lf o7) (lf fU)) (.node o7 (lf o8) .nil)))) (.node o27 (.node o7 (.node o60 (.node (cC P) (lf o8) (lf ga)) (.node W1 (lf (dU P)) (lf fQ))) (.node o81 (.node o7 (lf o7) (lf o7)) (.node WO (lf dL) .nil))) (.node o8 (.node o8 (.node ag (lf el) (lf dv)) (.node o8 (lf o7) .nil)) (.node o8 (.node W6 (lf gy) (lf de)) (.node cc (lf dH) .nil))))))))
noncomputable def hF (P : Params) : Heap := ⟨#[o0 P, o1 P, o2 P, eu P, o4, o5, o6, o7, o8, o9, o10, o11 P, o12, o13 P, o14, o7, o15, o16, o17, o18, o19 P, o20 P, o21, o22, o23, o24, o25, o26, o7, gK, o27, o28, o7, o8, o31, o7, o32, o33, o34, o7, o35, o36 P, o7, o37, o38, o39, o7, o8, o40, o7, o41, o42, o43, o44, o7, o8, o45, o7, o46, o47, o48, o7, o8, o49, o7, o50, o51, o52, o7, o8, o53, o7, o54, o55, o56, o57, o58 P, o59, o60, o61, o62, o63, o64, o35, o65 P, o66, o7, o67, o68, o69, o7, o70, o6, o7, o8, o71, o7, o72, o73, o74, o7, o8, o75, o7, o76, o77, o78, o79 P, o80, o6, o81, o82, o8, o83, o7, o84, o85, o86, o7, o8, o87, o7, o88, o89, o90, o7, o8, o91, o7, o92, o93, o94, o7, o8, o95, o7, o96, o97, o98, o99, aq P, ao, cC P, am P, al, cB P, ak P, aj, cA P, o7, o18, ai P, V9, ah, cz, cy, o7, o8, ag, o7, cx, af, ae, o7, o35, cw P, o7, cv, cu, cr, ad, o7, o8, ac, o7, cq, aa, V8, o7, o8, W9, o7, cp, W8, V7, o7, o8, W7, o7, co, W6, V6, o7, o8, W5, o7, cn, W4, V5, o7, o8, W3, o7, cm, W2, Vc, W1, o7, o8, W0, o7, ck, WZ, Jt, o7, o8, WY, o7, cj, WX, WW, o7, o8, WV, o7, ci, WU, WT, WS, o7, o8, WR, o7, cg, WQ, WP, o7, o8, WO, o7, cf, WN, WM, o7, o8, WL, o7, ce, WK, WJ, o7, o8, WI, o7, cc, WH, WG, WF, WE P, WD, WA, Wz, cb, ca, b9, o6, b8, Wy, Wx, o7, o8, Ww, o7, b7, Wv, V4, ez, Js, ew, o7, ev, o7, o8, et, o7, gI, el, b0, o7, o8, eh, o7, gH, eg, bZ, o7, o8, ee, o7, gG, ed, bY, o7, o35, gF P, o7, gE, gD, gC, ec, o7, o8, d9, o7, gz, d8, bX, d7, gy, d6 P, d5, dZ, dY, dX, gx, gw, dW, o35, gv P, o7, o8, gu, gt, o7, dU P, dT, dR, gs, gr, o7, o35, gp P, o7, gn, gm, gl, o44, o7, o8, dQ, o7, gi, dP, Wu, o7, o8, dO, o7, gh, dN, bW, o7, o8, dM, o7, gf, dL, bV, o7, o8, ge, dK, bU, o7, o8, dJ, o7, gd, dI, bT, o7, o8, dH, o7, gc, dG, bS, o7, o8, dF, o7, gb, dE, dD, o7, o8, dC, o7, ga, dB, bR, o7, o8, dA, o7, f9, dz, Wt, o7, o8, dy, o7, fZ, dw, dv, du, dq P, dp, dn, dm, fY, fX, o7, o8, fW, dl, bQ, o7, o8, dk, o7, fV, di, bP, o7, o8, dh, o7, fU, dg, bO, o7, o8, df, o7, fT, de, bN, o7, o8, fS, dc, bM, o7, o8, c9, o7, fR, c8, bL, o7, o8, fQ, c7, bK], {}⟩
noncomputable def K (P : Params) : Frag := [(2, o2 P), (3, eu P), (32, o7), (34, o31), (35, o7), (37, o33), (38, o34), (46, o7), (48, o40), (49, o7), (51, o42), (52, o43), (53, o44), (54, o7), (56, o45), (57, o7), (59, o47), (60, o48), (61, o7), (63, o49), (64, o7), (66, o51), (67, o52), (68, o7), (70, o53), (71, o7), (73, o55), (74, o56), (75, o57), (76, o58 P), (77, o59), (78, o60), (79, o61), (82, o64), (85, o66), (90, o7), (91, o70), (92, o6), (93, o7), (95, o71), (96, o7), (98, o73), (99, o74), (100, o7), (102, o75), (103, o7), (105, o77), (106, o78), (107, o79 P), (108, o80), (109, o6), (110, o81), (111, o82), (113, o83), (114, o7), (116, o85), (117, o86), (118, o7), (120, o87), (121, o7), (123, o89), (124, o90), (125, o7), (127, o91), (128, o7), (130, o93), (131, o94), (132, o7), (134, o95), (135, o7), (137, o97), (138, o98), (139, o99), (140, aq P), (141, ao), (143, am P), (144, al), (146, ak P), (147, aj), (149, o7), (151, ai P), (152, V9), (153, ah), (156, o7), (158, ag), (159, o7), (161, af), (162, ae), (170, ad), (171, o7), (173, ac), (174, o7), (176, aa), (177, V8), (178, o7), (180, W9), (181, o7), (183, W8), (184, V7), (185, o7), (187, W7), (188, o7), (190, W6), (191, V6), (192, o7), (194, W5), (195, o7), (197, W4), (198, V5), (199, o7), (201, W3), (202, o7), (204, W2), (205, Vc), (206, W1), (207, o7), (209, W0), (210, o7), (212, WZ), (213, Jt), (214, o7), (216, WY), (217, o7), (219, WX), (220, WW), (221, o7), (223, WV), (224, o7), (226, WU), (227, WT), (228, WS), (229, o7), (231, WR), (232, o7), (234, WQ), (235, WP), (236, o7), (238, WO), (239, o7), (241, WN), (242, WM), (243, o7), (245, WL), (246, o7), (248, WK), (249, WJ), (250, o7), (252, WI), (253, o7), (255, WH), (256, WG), (257, WF), (258, WE P), (259, WD), (260, WA), (261, Wz), (267, Wy), (268, Wx), (269, o7), (271, Ww), (272, o7), (274, Wv), (275, V4), (277, Js), (281, o7), (283, et), (284, o7), (286, el), (287, b0), (288, o7), (290, eh), (291, o7), (293, eg), (294, bZ), (295, o7), (297, ee), (298, o7), (300, ed), (301, bY), (309, ec), (310, o7), (312, d9), (313, o7), (315, d8), (316, bX), (317, d7), (319, d6 P), (320, d5), (321, dZ), (322, dY), (323, dX), (326, dW), (333, o7), (334, dU P), (335, dT), (336, dR), (346, o44), (347, o7), (349, dQ), (350, o7), (352, dP), (353, Wu), (354, o7), (356, dO), (357, o7), (359, dN), (360, bW), (361, o7), (363, dM), (364, o7), (366, dL), (367, bV), (368, o7), (371, dK), (372, bU), (373, o7), (375, dJ), (376, o7), (378, dI), (379, bT), (380, o7), (382, dH), (383, o7), (385, dG), (386, bS), (387, o7), (389, dF), (390, o7), (392, dE), (393, dD), (394, o7), (396, dC), (397, o7), (399, dB), (400, bR), (401, o7), (403, dA), (404, o7), (406, dz), (407, Wt), (408, o7), (410, dy), (411, o7), (413, dw), (414, dv), (415, du), (416, dq P), (417, dp), (418, dn), (419, dm), (422, o7), (425, dl), (426, bQ), (427, o7), (429, dk), (430, o7), (432, di), (433, bP), (434, o7), (436, dh), (437, o7), (439, dg), (440, bO), (441, o7), (443, df), (444, o7), (446, de), (447, bN), (448, o7), (451, dc), (452, bM), (453, o7), (455, c9), (456, o7), (458, c8), (459, bL), (460, o7), (463, c7), (464, bK)]
noncomputable def kAt : List Addr := [2, 3, 32, 34, 35, 37, 38, 46, 48, 49, 51, 52, 53, 54, 56, 57, 59, 60, 61, 63, 64, 66, 67, 68, 70, 71, 73, 74, 75, 76, 77, 78, 79, 82, 85, 90, 91, 92, 93, 95, 96, 98, 99, 100, 102, 103, 105, 106, 107, 108, 109, 110, 111, 113, 114, 116, 117, 118, 120, 121, 123, 124, 125, 127, 128, 130, 131, 132, 134, 135, 137, 138, 139, 140, 141, 143, 144, 146, 147, 149, 151, 152, 153, 156, 158, 159, 161, 162, 170, 171, 173, 174, 176, 177, 178, 180, 181, 183, 184, 185, 187, 188, 190, 191, 192, 194, 195, 197, 198, 199, 201, 202, 204, 205, 206, 207, 209, 210, 212, 213, 214, 216, 217, 219, 220, 221, 223, 224, 226, 227, 228, 229, 231, 232, 234, 235, 236, 238, 239, 241, 242, 243, 245, 246, 248, 249, 250, 252, 253, 255, 256, 257, 258, 259, 260, 261, 267, 268, 269, 271, 272, 274, 275, 277, 281, 283, 284, 286, 287, 288, 290, 291, 293, 294, 295, 297, 298, 300, 301, 309, 310, 312, 313, 315, 316, 317, 319, 320, 321, 322, 323, 326, 333, 334, 335, 336, 346, 347, 349, 350, 352, 353, 354, 356, 357, 359, 360, 361, 363, 364, 366, 367, 368, 371, 372, 373, 375, 376, 378, 379, 380, 382, 383, 385, 386, 387, 389, 390, 392, 393, 394, 396, 397, 399, 400, 401, 403, 404, 406, 407, 408, 410, 411, 413, 414, 415, 416, 417, 418, 419, 422, 425, 426, 427, 429, 430, 432, 433, 434, 436, 437, 439, 440, 441, 443, 444, 446, 447, 448, 451, 452, 453, 455, 456, 458, 459, 460, 463, 464]
end
noncomputable def Qp : Env := { scope := p.main.scope, locals := mainNs, globals := mainNs, cells := [], code := .ref 30, frame := some 31 }
noncomputable def bB : List Stmt := behindTheImports p
noncomputable def cE : Code := .body bB Qp
noncomputable def l1 : List Stmt := bB.take 10
noncomputable def l2 : List Stmt := (bB.drop 10).take 1
noncomputable def l3 : List Stmt := bB.drop 11
theorem fi : bB = l1 ++ (l2 ++ (l3 ++ [])) := by kernel_rfl
noncomputable def q0 : Pos := ⟨0, 0, 0, 0⟩
noncomputable def S0 (w : World) (os : OsState) : Shared := ⟨h0 w.params, #[], ⟨0, 0, 0, 0⟩, 276, os⟩
noncomputable def Sa (w : World) (os : OsState) : SharedT := ⟨ta w.params, 32, {}, #[], ⟨0, 0, 0, 0⟩, 282, os⟩
noncomputable def SA (w : World) (os : OsState) : SharedT := ⟨tA w.params, 276, {}, #[], ⟨0, 0, 0, 0⟩, 722, os⟩
noncomputable def SB (w : World) (os : OsState) : SharedT := ⟨tB w.params, 281, {}, #[], ⟨0, 0, 0, 0⟩, 868, os⟩
noncomputable def SF (w : World) (os : OsState) : SharedT := ⟨tF w.params, 465, {}, #[], ⟨0, 0, 0, 0⟩, 1172, os⟩
noncomputable def SZ (w : World) (os : OsState) : Shared := ⟨hF w.params, #[], ⟨0, 0, 0, 0⟩, 1172, os⟩
set_option maxRecDepth 100000
set_option maxHeartbeats 0
theorem QD (w : World) : (fencedOpening treeTable p w 9796).map (fun s => (s.heap, s.gens, s.drawn, s.toks)) = some (h0 w.params, #[], ⟨0, 0, 0, 0⟩, 276) := by
 unfold fencedOpening
 rw [jH, PySem.W.Fast.te10274390034422433532, PySem.W.Fast.te14289696077712309145, PySem.W.Fast.te1435165496053646825]
 kernel_rfl
theorem J1 (w : World) (os : OsState) : topGo treeTable p w 28 (some (.ref 6)) 12 (S0 w os) (topStub p) = some ((Sa w os).abs, ⟨denote treeTable cE, cE, ⟨0, 0, 0, 0⟩, [topFrame q0]⟩) := by
 rw [jH, PySem.W.Fast.te15667345088766844465, PySem.W.Fast.te11892475500146522536]
 kernel_rfl
theorem X7 (w : World) (os : OsState) : segRun treeTable p w 28 (some (.ref 6)) 1 1 (Sa w os).abs (blockOf bB Qp cE ⟨0, 0, 0, 0⟩ [topFrame q0]) = some (.next, (Sa w os).abs, cE, ⟨0, 0, 0, 0⟩) := by
 refine segRun_of ?_
 rw [jH, PySem.W.Fast.te10110043849684766642]
 kernel_rfl
theorem cQ (w : World) (os : OsState) : segRun treeTable p w 28 (some (.ref 6)) 1 2217 (Sa w os).abs (piecesOf l1 Qp cE ⟨0, 0, 0, 0⟩ [topFrame q0]) = some (.next, (SA w os).abs, cE, ⟨429, 0, 429, 8⟩) := by
 refine segRun_of ?_
 rw [jH, PySem.W.Fast.te10110043849684766642]
 kernel_rfl
theorem cP (w : World) : ∀ os : OsState, segRun treeTable p w 28 (some (.ref 6)) 1 1253 (SA w os).abs (piecesOf l2 Qp cE ⟨429, 0, 429, 8⟩ [topFrame q0]) = some (.next, (SB w os).abs, cE, ⟨430, 0, 430, 18⟩) := by
 have key : ∀ w : World, ∀ b b' : Bool, ∀ os : OsState, segRun treeTable p ((w.withFollow "comprehension-iter-twice" b).withFollow "special-get-raises" b') 28 (some (.ref 6)) 1 1253 (SA ((w.withFollow "comprehension-iter-twice" b).withFollow "special-get-raises" b') os).abs (piecesOf l2 Qp cE ⟨429, 0, 429, 8⟩ [topFrame q0]) = some (.next, (SB ((w.withFollow "comprehension-iter-twice" b).withFollow "special-get-raises" b') os).abs, cE, ⟨430, 0, 430, 18⟩) := by
  intro w b b' os
  refine segRun_of ?_
  rw [jH, PySem.W.Fast.te10110043849684766642]
  cases b <;> cases b' <;> kernel_rfl
 refine byRow2 "special-get-raises" (P := fun w => ∀ os : OsState, segRun treeTable p w 28 (some (.ref 6)) 1 1253 (SA w os).abs (piecesOf l2 Qp cE ⟨429, 0, 429, 8⟩ [topFrame q0]) = some (.next, (SB w os).abs, cE, ⟨430, 0, 430, 18⟩)) (fun w => ?_) (fun w => ?_) w
 · refine byRow2 "comprehension-iter-twice" (P := fun w => ∀ os : OsState, segRun treeTable p (w.withFollow "special-get-raises" false) 28 (some (.ref 6)) 1 1253 (SA (w.withFollow "special-get-raises" false) os).abs (piecesOf l2 Qp cE ⟨429, 0, 429, 8⟩ [topFrame q0]) = some (.next, (SB (w.withFollow "special-get-raises" false) os).abs, cE, ⟨430, 0, 430, 18⟩)) (fun w => key w false false) (fun w => key w true false) w
 · refine byRow2 "comprehension-iter-twice" (P := fun w => ∀ os : OsState, segRun treeTable p (w.withFollow "special-get-raises" true) 28 (some (.ref 6)) 1 1253 (SA (w.withFollow "special-get-raises" true) os).abs (piecesOf l2 Qp cE ⟨429, 0, 429, 8⟩ [topFrame q0]) = some (.next, (SB (w.withFollow "special-get-raises" true) os).abs, cE, ⟨430, 0, 430, 18⟩)) (fun w => key w false true) (fun w => key w true true) w
theorem cO (w : World) (os : OsState) : segRun treeTable p w 28 (some (.ref 6)) 1 1368 (SB w os).abs (piecesOf l3 Qp cE ⟨430, 0, 430, 18⟩ [topFrame q0]) = some (.next, (SF w os).abs, cE, ⟨761, 0, 767, 109⟩) := by
 refine segRun_of ?_
 rw [jH, PySem.W.Fast.te10110043849684766642]
 kernel_rfl
theorem J3 (w : World) (os : OsState) : topRun treeTable p w 28 (some (.ref 6)) 2 (SF w os).abs (restOf [] Qp cE ⟨761, 0, 767, 109⟩ [topFrame q0]) = some (SZ w os) := by
 rw [jH, PySem.W.Fast.te14082659384304107361]
 kernel_rfl
theorem J4 (w : World) (os : OsState) : topRun treeTable p w 28 (some (.ref 6)) (12 + (1 + (2217 + (1253 + (1368 + 2))))) (S0 w os) (topStub p) = some (SZ w os) := by
 refine go_top (J1 w os) (piece_block (X7 w os) ?_)
 rw [fi]
 exact piece_app (cQ w os) (piece_app (cP w os) (piece_app (cO w os) (J3 w os)))
end
section
noncomputable def lw : OpenLaw := { prog := p, name := (PySem.Str.ofString "law"), about := [(PySem.Str.ofString "SequenceMatcher"), (PySem.Str.ofString "find_longest_match")], foot := 7, most := some 63, bound := none, writes := false }
theorem eK : PySem.Challenge.rw_in0177_02 = lw := by
 delta PySem.Challenge.rw_in0177_02 lw
 rw [fP]
theorem c0 : sreFenced p.main = true := by kernel_rfl
theorem cZ : ((moduleNames p.main.body).isEmpty || lookedIntoSs (moduleNames p.main.body) p.main.body) = true := by kernel_rfl
theorem cY : namesResolve p = true := by kernel_rfl
theorem cX : p.boundNames.all (fun n => !worldNames.contains n) = true := by kernel_rfl
theorem cW : noRoadLSs { strict := !(importedModules p.main.body).all cThrough.contains, foot := none, bare := (["vars", "dir", "locals"] : List Str).filter (readsOut p p.main.body) } p.main.body = true := by kernel_rfl
theorem cV : (namesMeet p p.main.body fun _ n => attrL n) = true := by kernel_rfl
theorem cU : looksOpen p = true := look_both (look_both (look_both (look_both (look_both c0 cZ) cY) cX) cW) cV
theorem cT : lw.row.wellSaid = true := by
 unfold OpenRow.wellSaid OpenRow.partSaid
 rw [show looksOpen lw.row.prog = true from cU]
 kernel_rfl
theorem Vm : lw.wellSaid = true := by
 unfold OpenLaw.wellSaid
 rw [cT]
 kernel_rfl
theorem rw_said : PySem.Challenge.rw_in0177_02.wellSaid = true := by rw [eK]; exact Vm
end
section
set_option maxRecDepth 100000
set_option maxHeartbeats 0
noncomputable def qv : Program := view p [0, 29]
noncomputable def looseL : List Str := [Str.ofString "_wall", Str.ofString "_tuplegetter", Str.ofString "Match", Str.ofString "_calculate_ratio", Str.ofString "SequenceMatcher", Str.ofString "_twin_re_1", Str.ofString "translate", Str.ofString "_special_chars_map", Str.ofString "escape", Str.ofString "_translate", Str.ofString "_join_translated_parts", Str.ofString "_NODE_OUT", Str.ofString "_NODE_DONE", Str.ofString "_NodeInfo", Str.ofString "CycleError", Str.ofString "TopologicalSorter", Str.ofString "_law_takes", Str.ofString "_law_told", Str.ofString "_law_rounds", Str.ofString "_law_due", Str.ofString "_law_shared", Str.ofString "_law_windows_are"]
noncomputable def KH : Hook := kHook K kAt (fun _ => by kernel_rfl)
noncomputable def Xt0 (s : Shared) : Bool := xlAt qv [] s && recOk [] s
theorem eN (w : World) (os : OsState) : (staticsOk (importedModules p.main.body) (h0 w.params) (hF w.params) && namesBound p (hF w.params) && gensDone (SZ w os) && laidKept (h0 w.params) (hF w.params)) = true := by
 kernel_rfl
theorem eM (w : World) (os : OsState) : openSeen qv looseL (importedModules p.main.body) Xt0 true (SZ w os) = openGood qv looseL := by
 rw [PySem.W.Fast.te4187177175401517315]
 kernel_rfl
theorem eL (w : World) (os : OsState) : Hook.obs KH (SZ w os) = Hook.val KH w := by
 kernel_rfl
theorem left : LeftO PySem.Challenge.pw_in0177_02 qv looseL Xt0 (Hook.obs KH) (Hook.val KH) 9796 := by
 rw [fP]
 exact LeftO.of_pieces (H₀ := h0) (H₁ := hF) (gs₀ := #[]) (gs₁ := #[]) (d₀ := ⟨0, 0, 0, 0⟩) (d₁ := ⟨0, 0, 0, 0⟩) QD (fun w => by kernel_rfl) (fun w os => J4 w os) (by kernel_rfl)
  (fun w => funext fun os => looks_pair (eN w os) (looks_pair (eM w os) (eL w os)))
end
section
abbrev Mp := Str → Option Value
theorem hdG {p : Prop} (h : ∀ q : Prop, (p → q) → q) : p := h p id
abbrev bl (l : List (Str × Value)) : Mp := fun z => l.reverse.lookup z
theorem vD {l : List (Str × Value)} {s : Scope} (e : l.all (fun y => s.names.lookup y.1 == some .local) = true) : ∀ y ∈ l, s.names.lookup y.1 = some .local := fun y hy => beq_iff_eq.mp (List.all_eq_true.mp e y hy)
abbrev HF := Addr → Option Obj
abbrev PV := Value → Mp → HF → Prop
abbrev PF := Flow → Mp → HF → Prop
abbrev BF := Addr → Option (Bool × Obj)
noncomputable def Up (f : Bool) (o : Obj) (x : Option Obj) : Prop := match f with
 | false => x = some o
 | true => ∃ sl, x = some { o with slots := sl }
theorem Up.eq {f : Bool} {o : Obj} {x x' : Option Obj} (h : Up f o x) (e : x' = x) : Up f o x' := e ▸ h
theorem Up.keep {f : Bool} {o : Obj} {x x' : Option Obj} (h : Up f o x) (k : ∀ o', x = some o' → x' = some o') : Up f o x' := by
 cases f with
 | false => exact k _ h
 | true => obtain ⟨sl, h⟩ := h; exact ⟨sl, k _ h⟩
theorem Up.is {f : Bool} {o : Obj} {x : Option Obj} (h : x = some o) : Up f o x := by
 cases f with
 | false => exact h
 | true => exact ⟨o.slots, h⟩
theorem Up.there {f : Bool} {o : Obj} {x : Option Obj} (h : Up f o x) : ∃ o', x = some o' := by
 cases f with
 | false => exact ⟨_, h⟩
 | true => obtain ⟨sl, h⟩ := h; exact ⟨_, h⟩
structure Cx where
 prog : Program
 w : World
 B : BF
abbrev Cx.M (C : Cx) : Model := model C.prog C.w
abbrev Cx.at_ (C : Cx) (B' : BF) : Cx := ⟨C.prog, C.w, B'⟩
structure St (C : Cx) (L : Addr) (m : Mp) (H : HF) (h : Heap) : Prop where
 ns : h.Ns L m
 at_ : ∀ a o, H a = some o → h.get? a = some o
 no : H L = none
 kb : ∀ b p, C.B b = some p → Up p.1 p.2 (h.get? b)
 new : ∀ a o, H a = some o → C.B a = none
 nL : C.B L = none
noncomputable def Ext {β : Type} (H H' : Addr → Option β) : Prop := ∀ a o, H a = some o → H' a = some o
variable {C : Cx} {A : Around} {L : Addr} {E : PV} {m : Mp} {H : HF} {mg mb : Mp} {q : Program} {loose : List Str}
theorem Ext.rfl' {β : Type} {H : Addr → Option β} : Ext H H := fun _ _ e => e
theorem Ext.trans {β : Type} {H H' H'' : Addr → Option β} (x : Ext H H') (y : Ext H' H'') : Ext H H'' := fun a o e => y a o (x a o e)
noncomputable def put (H : HF) (a : Addr) (o : Obj) : HF := fun b => if b = a then some o else H b
theorem zb {H : HF} {a : Addr} {o : Obj} : put H a o a = some o := by simp [put]
theorem za {H : HF} {a b : Addr} {o : Obj} (h : b ≠ a) : put H a o b = H b := by simp [put, h]
theorem Ext.put_new {H : HF} {a : Addr} {o : Obj} (h : H a = none) : Ext H (put H a o) := fun b o' e => by
 by_cases q : b = a
 · subst q; rw [h] at e; cases e
 · rw [za q]; exact e
noncomputable def set (m : Mp) (x : Str) (v : Value) : Mp := fun y => if y = x then some v else m y
theorem xF {m : Mp} {x : Str} {v : Value} : set m x v x = some v := by simp [set]
theorem zk {m : Mp} {x y : Str} {v : Value} (h : y ≠ x) : set m x v y = m y := by simp [set, h]
section
variable {α β : Type} {C : Cx} {A : Around} {L : Addr} {E : PV} {m : Mp} {H : HF}
noncomputable def QS (C : Cx) (L : Addr) (s : Shared) (Q : α → Mp → HF → Prop) (v : α) (s' : Shared) : Prop := ∃ m' H', St C L m' H' s'.heap ∧ s'.gens = #[] ∧ s'.os = s.os ∧ Q v m' H'
noncomputable def W (C : Cx) (A : Around) (L : Addr) (t : Sem α) (Q : α → Mp → HF → Prop) (E : PV) (m : Mp) (H : HF) : Prop :=
 ∀ s : Shared, St C L m H s.heap → s.gens = #[] → wpAny C.M A t (QS C L s Q) (QS C L s E) s
theorem QS.os {s s₁ : Shared} {Q : α → Mp → HF → Prop} {v : α} {s' : Shared} (e : s₁.os = s.os) (h : QS C L s₁ Q v s') : QS C L s Q v s' :=
 let ⟨m', H', a, b, c, d⟩ := h; ⟨m', H', a, b, c.trans e, d⟩
theorem W.go {t : Sem α} {Q : α → Mp → HF → Prop} {s₁ s : Shared} (h : W C A L t Q E m H) (S : St C L m H s₁.heap) (g : s₁.gens = #[]) (e : s₁.os = s.os) : wpAny C.M A t (QS C L s Q) (QS C L s E) s₁ :=
 wpAny_mono (h s₁ S g) (fun _ _ q => q.os e) fun _ _ q => q.os e
theorem W.use {t : Sem α} {k : α → Sem β} {Q : β → Mp → HF → Prop} (h : W C A L t (fun v m H => W C A L (k v) Q E m H) E m H) (s : Shared) (S : St C L m H s.heap) (g : s.gens = #[]) :
 wpAny C.M A t (fun v s₁ => wpAny C.M A (k v) (QS C L s Q) (QS C L s E) s₁) (QS C L s E) s :=
 wpAny_mono (h s S g) (fun v s₁ ⟨m', H', S', g', e, q⟩ => q.go S' g' e) fun _ _ q => q
theorem W.useQ {t : Sem α} {Q : α → Mp → HF → Prop} {R : α → Shared → Prop} {s₀ s : Shared} (h : W C A L t Q E m H) (S : St C L m H s.heap) (g : s.gens = #[]) (eo : s.os = s₀.os)
 (k : ∀ v m' H' s', St C L m' H' s'.heap → s'.gens = #[] → s'.os = s₀.os → Q v m' H' → R v s') : wpAny C.M A t R (QS C L s₀ E) s :=
 wpAny_mono (h s S g) (fun v s₁ ⟨m', H', S', g', e, q⟩ => k v m' H' s₁ S' g' (e.trans eo) q) fun _ _ q => q.os eo
theorem W.mono {t : Sem α} {Q Q' : α → Mp → HF → Prop} {E' : PV} (h : W C A L t Q E m H) (q : ∀ v m' H', Q v m' H' → Q' v m' H') (e : ∀ v m' H', E v m' H' → E' v m' H') : W C A L t Q' E' m H :=
 fun s S g => wpAny_mono (h s S g) (fun _ _ ⟨m', H', a, b, c, d⟩ => ⟨m', H', a, b, c, q _ _ _ d⟩) fun _ _ ⟨m', H', a, b, c, d⟩ => ⟨m', H', a, b, c, e _ _ _ d⟩
theorem zW {β : Type} {H H' : Addr → Option β} {a : Addr} (x : Ext H' H) (h : H a = none) : H' a = none := by
 cases q : H' a with
 | none => rfl
 | some o => have := x _ _ q; rw [h] at this; cases this
theorem W.weak {t : Sem α} {Q : α → Mp → HF → Prop} {H' : HF} (x : Ext H' H) (h : W C A L t Q E m H') : W C A L t Q E m H :=
 fun s S g => h s ⟨S.ns, fun a o e => S.at_ a o (x a o e), zW x S.no, S.kb, fun a o e => S.new a o (x a o e), S.nL⟩ g
theorem YQ {v : α} {Q : α → Mp → HF → Prop} (h : Q v m H) : W C A L (pure v) Q E m H := fun s S g => wpAny_pure ⟨m, H, S, g, rfl, h⟩
theorem yA {t : Sem α} {k : α → Sem β} {Q : β → Mp → HF → Prop} (h : W C A L t (fun v m H => W C A L (k v) Q E m H) E m H) : W C A L (t >>= k) Q E m H :=
 fun s S g => wpAny_bind (h.use s S g)
theorem yy {vs : List Value} {t : Sem α} {Q : α → Mp → HF → Prop} (h : W C A L t Q E m H) : W C A L (holding vs t) Q E m H := fun s S g => wpAny_holding (h s S g)
theorem xB {pos : Pos} {Q : Unit → Mp → HF → Prop} (h : Q () m H) : W C A L (standAt pos) Q E m H := fun s S g => wpAny_standAt ⟨m, H, S, g, rfl, h⟩
theorem Jf {t t' : Sem α} {Q : α → Mp → HF → Prop} (e : t = t') (h : W C A L t' Q E m H) : W C A L t Q E m H := e ▸ h
theorem St.ne {h : Heap} (S : St C L m H h) {a : Addr} {o : Obj} (e : H a = some o) : a ≠ L := fun q => by subst q; rw [S.no] at e; cases e
theorem St.setName {h h' : Heap} {x : Str} {v : Value} (S : St C L m H h) (hn : h'.Ns L (fun y => if y = x then some v else m y)) (hs : Heap.SameBut L h h') : St C L (set m x v) H h' :=
 ⟨hn, fun a o e => (hs.2 a (S.ne e)).trans (S.at_ a o e), S.no, fun b o e => (S.kb b o e).eq (hs.2 b fun q => by subst q; rw [S.nL] at e; cases e), S.new, S.nL⟩
theorem St.fresh {h : Heap} (S : St C L m H h) {a : Addr} (e : h.get? a = none) : H a = none ∧ a ≠ L ∧ C.B a = none := by
 refine hdG fun gQ gZ => ?_
 obtain ⟨oL, a1, a2, hL, a3⟩ := S.ns
 refine gZ ?_
 refine (zl ?_ (fun q => by subst q; rw [hL] at e; cases e) ?_)
 · cases q : H a with
   | none => rfl
   | some o' => have := S.at_ _ _ q; rw [e] at this; cases this
 · cases q : C.B a with
   | none => rfl
   | some o' => obtain ⟨_, this⟩ := (S.kb _ _ q).there; rw [e] at this; cases this
theorem St.keeps {h h' : Heap} (S : St C L m H h) (k : ∀ b o, h.get? b = some o → h'.get? b = some o) : St C L m H h' := by
 refine hdG fun gQ gZ => ?_
 obtain ⟨oL, a1, a2, hL, a3⟩ := S.ns
 refine gZ ?_
 exact ⟨⟨oL, a1, a2, k _ _ hL, a3⟩, fun a o e => k _ _ (S.at_ a o e), S.no, fun b o e => (S.kb b o e).keep (k _), S.new, S.nL⟩
theorem St.grow {h h' : Heap} (S : St C L m H h) (k : ∀ b o, h.get? b = some o → h'.get? b = some o) {a : Addr} {o : Obj} (hn : h.get? a = none) (e : h'.get? a = some o) : St C L m (put H a o) h' ∧ H a = none ∧ a ≠ L := by
 have S' := S.keeps k
 refine zw (S.fresh hn) fun f1 f2 f3 => ?_
 refine (zl ⟨S'.ns, fun b ob eb => ?_, ?_, S'.kb, fun b ob eb => ?_, S.nL⟩ f1 f2)
 · by_cases q : b = a
   · subst q; rw [zb] at eb; cases eb; exact e
   · rw [za q] at eb; exact S'.at_ _ _ eb
 · rw [za (Ne.symm f2)]; exact S.no
 · by_cases q : b = a
   · subst q; exact f3
   · rw [za q] at eb; exact S.new _ _ eb
theorem zt (h : Heap) : h.get? h.objs.size = none := by
 cases q : h.get? h.objs.size with
 | none => rfl
 | some o => exact absurd (Heap.lt_size q) (Nat.lt_irrefl _)
theorem St.push {h : Heap} (S : St C L m H h) {o : Obj} (hf : o.isFreed = false) : St C L m (put H h.objs.size o) (h.push o) ∧ H h.objs.size = none ∧ h.objs.size ≠ L :=
 S.grow (fun _ _ e => Heap.get?_push_of_some _ e) (zt h) (Heap.get?_push_size _ hf)
theorem St.same {h h' : Heap} (S : St C L m H h) {a : Addr} {o o' : Obj} (e : H a = some o) (hs : Heap.SameBut a h h') (e' : h'.get? a = some o') : St C L m (put H a o') h' := by
 have hne : a ≠ L := S.ne e
 have hB := S.new _ _ e
 refine hdG fun gQ gZ => ?_
 obtain ⟨oL, a1, a2, hL, a3⟩ := S.ns
 refine gZ ?_
 refine ⟨⟨oL, a1, a2, (hs.2 L (Ne.symm hne)).trans hL, a3⟩, fun b ob eb => ?_, ?_, fun b ob eb => (S.kb b ob eb).eq (hs.2 b fun q => by subst q; rw [hB] at eb; cases eb), fun b ob eb => ?_, S.nL⟩
 · by_cases q : b = a
   · subst q; rw [zb] at eb; cases eb; exact e'
   · rw [za q] at eb; exact (hs.2 b q).trans (S.at_ _ _ eb)
 · rw [za (Ne.symm hne)]; exact S.no
 · by_cases q : b = a
   · subst q; exact hB
   · rw [za q] at eb; exact S.new _ _ eb
theorem St.update {h : Heap} (S : St C L m H h) {a : Addr} {o : Obj} {f : Obj → Obj} (e : H a = some o) (hf : (f o).isFreed = false) : St C L m (put H a (f o)) (h.update a f) :=
 S.same e (Heap.SameBut.update ..) (Heap.get?_update_self f (S.at_ _ _ e) hf)
theorem YR {T : String} {d : Data} {Q : PV} (hz : sizeOk d) (hf : Obj.isFreed { cls := .type T, data := d } = false) (h : ∀ a, H a = none → a ≠ L → Q (.ref a) m (put H a { cls := .type T, data := d })) : W C A L (newObj (.type T) d) Q E m H :=
 fun s S g => wpAny_newObj_type (by
  have p := S.push hf
  exact ⟨m, _, p.1, g, rfl, h _ p.2.1 p.2.2⟩) hz
end
end
section
section
variable {α β : Type} {C : Cx} {A : Around} {env : Env} {E : PV} {m : Mp} {H : HF}
theorem fs {Q : PF} (h : Q .next m H) : W C A env.locals (execs [] env) Q E m H := fun s S g => wpAny_execs_nil ⟨m, H, S, g, rfl, h⟩
@[reducible] def Kl (C : Cx) (A : Around) (env : Env) (rest : List Stmt) (Q : PF) (E : PV) : PF
 | .next, m, H => W C A env.locals (execs rest env) Q E m H
 | f, m, H => Q f m H
theorem yc {st : Stmt} {rest : List Stmt} {Q : PF} (h : W C A env.locals (exec st env) (Kl C A env rest Q E) E m H) : W C A env.locals (execs (st :: rest) env) Q E m H :=
 fun s S g => wpAny_execs_cons (h.useQ S g rfl fun f m' H' s' S' g' e q => by
  cases f <;> first | exact W.go q S' g' e | exact ⟨m', H', S', g', e, q⟩)
theorem VU {i : Int} {k : Nat} {pos : Pos} {Q : PV} (h : ∀ t, Q (.int i t) m H) : W C A env.locals (eval (.Constant (.int i) k pos) env) Q E m H :=
 fun s S g => wpAny_Constant_int ⟨m, H, S, g, rfl, h _⟩
theorem fo {x : Str} {k : Nat} {pos : Pos} {Q : PV} (h : ∀ t, Q (.str x t) m H) : W C A env.locals (eval (.Constant (.str x) k pos) env) Q E m H :=
 fun s S g => wpAny_Constant_str ⟨m, H, S, g, rfl, h _⟩
theorem bz {k : Nat} {pos : Pos} {Q : PV} (h : Q .none m H) : W C A env.locals (eval (.Constant .none k pos) env) Q E m H :=
 fun s S g => wpAny_Constant_none ⟨m, H, S, g, rfl, h⟩
theorem JE {b : Bool} {k : Nat} {pos : Pos} {Q : PV} (h : Q (.bool b) m H) : W C A env.locals (eval (.Constant (.bool b) k pos) env) Q E m H :=
 fun s S g => wpAny_Constant_bool ⟨m, H, S, g, rfl, h⟩
theorem K7 {x : Str} {pos : Pos} {v : Value} {Q : PV} (hv : m x = some v) (h : Q v m H) (hk : env.scope.kind = .function := by kernel_rfl) (hl : env.kindOf x = some .local := by kernel_rfl)
 (hd : (x == ("__debug__" : Str)) = false := by decide +kernel) : W C A env.locals (eval (.Name x pos) env) Q E m H :=
 fun s S g => wpAny_Name (wpAny_loadName_local hk hl S.ns hv ⟨m, H, S, g, rfl, h⟩) hd
noncomputable def okL (env : Env) (x : Str) : Bool := match env.scope.kind, env.kindOf x with | .function, some .local => !(x == ("__debug__" : Str)) | _, _ => false
theorem fx {x : Str} {pos : Pos} {v : Value} {Q : PV} (hv : m x = some v) (h : Q v m H) (hc : okL env x = true) : W C A env.locals (eval (.Name x pos) env) Q E m H := by
  unfold okL at hc
  split at hc
  · rename_i h1 h2; exact K7 hv h h1 h2 (by simpa using hc)
  · cases hc
theorem Z6 {x : Str} {v : Value} {Q : Unit → Mp → HF → Prop} (h : Q () (set m x v) H) (hk : env.scope.kind = .function := by kernel_rfl) (hl : env.kindOf x = some .local := by kernel_rfl) :
 W C A env.locals (storeName env x v) Q E m H :=
 fun s S g => wpAny_storeName_local hl S.ns (fun h' hn hs => ⟨_, H, S.setName hn hs, g, rfl, h⟩) (by rw [hk]; rfl)
theorem wh {x : Str} {v : Value} {Q : Unit → Mp → HF → Prop} (h : Q () (set m x v) H) (hk : env.scope.kind = .function := by kernel_rfl) (hl : env.kindOf x = some .local := by kernel_rfl) :
 W C A env.locals (bindName env x v) Q E m H :=
 fun s S g => wpAny_bindName (Z6 (C := C) (A := A) (E := E) h hk hl s S g)
theorem VZ {l r : Expr} {op : Operator} {pos : Pos} {Q : PV} (h : W C A env.locals (eval l env) (fun a m H => W C A env.locals (eval r env) (fun b m H => W C A env.locals (binaryOp op a b) Q E m H) E m H) E m H) :
 W C A env.locals (eval (.BinOp l op r pos) env) Q E m H :=
 fun s S g => wpAny_BinOp (h.useQ S g rfl fun a m' H' s' S' g' e q => q.useQ S' g' e fun b m' H' s' S' g' e q => q.go S' g' e)
theorem Qk {l r : Expr} {op : CmpOp} {pos : Pos} {Q : PV} (h : W C A env.locals (eval l env) (fun a m H => W C A env.locals (eval r env) (fun b m H => W C A env.locals (compareOp op a b) Q E m H) E m H) E m H)
 (hm : behindInMarks op r = false := by with_unfolding_all rfl) : W C A env.locals (eval (.Compare l [op] [r] pos) env) Q E m H :=
 fun s S g => wpAny_Compare1 (h.useQ S g rfl fun a m' H' s' S' g' e q => q.useQ S' g' e fun b m' H' s' S' g' e q => q.go S' g' e) hm
theorem vp {l r : Expr} {op : CmpOp} {pos : Pos} {whole : Sem Value} {Q : Bool → Mp → HF → Prop}
 (h : W C A env.locals (eval l env) (fun a m H => W C A env.locals (eval r env) (fun b m H => W C A env.locals (compareOp op a b) (fun c m H => W C A env.locals (truthy c) Q E m H) E m H) E m H) E m H)
 (hm : behindInMarks op r = false := by with_unfolding_all rfl) : W C A env.locals (isTrue (.Compare l [op] [r] pos) env whole) Q E m H :=
 fun s S g => wpAny_isTrue_Compare1 (h.useQ S g rfl fun a m' H' s' S' g' e q => q.useQ S' g' e fun b m' H' s' S' g' e q => q.useQ S' g' e fun c m' H' s' S' g' e q => q.go S' g' e) hm
theorem Yd {x : Expr} {pos : Pos} {whole : Sem Value} {Q : Bool → Mp → HF → Prop} (h : W C A env.locals (isTrue x env (eval x env)) (fun b m H => Q (!b) m H) E m H) : W C A env.locals (isTrue (.UnaryOp .Not x pos) env whole) Q E m H :=
 fun s S g => wpAny_isTrue_Not (h s S g)
theorem qA {e : Expr} {Q : Bool → Mp → HF → Prop} (h : W C A env.locals (eval e env) (fun v m H => W C A env.locals (truthy v) Q E m H) E m H)
 (hs : isTrue e env (eval e env) = (do let v ← eval e env; standAt e.pos; holding [v] (truthy v)) := by kernel_rfl) : W C A env.locals (isTrue e env (eval e env)) Q E m H :=
 Jf hs (yA (h.mono (fun v m' H' q => yA (xB (yy q))) fun _ _ _ e => e))
theorem xM {b : Bool} {Q : Bool → Mp → HF → Prop} (h : Q b m H) : W C A env.locals (truthy (.bool b)) Q E m H := fun s S g => wpAny_truthy_bool ⟨m, H, S, g, rfl, h⟩
theorem Ye {vs : List Expr} {pos : Pos} {whole : Sem Value} {Q : Bool → Mp → HF → Prop} {op : BoolOp} (h : W C A env.locals (allTrue op vs env) Q E m H) : W C A env.locals (isTrue (.BoolOp op vs pos) env whole) Q E m H :=
 fun s S g => wpAny_isTrue_BoolOp (h s S g)
theorem vt {Q : Bool → Mp → HF → Prop} (h : Q true m H) : W C A env.locals (allTrue .And [] env) Q E m H := fun s S g => wpAny_allTrue_And_nil ⟨m, H, S, g, rfl, h⟩
theorem Jb {Q : Bool → Mp → HF → Prop} (h : Q false m H) : W C A env.locals (allTrue .Or [] env) Q E m H := fun s S g => wpAny_allTrue_Or_nil ⟨m, H, S, g, rfl, h⟩
@[reducible] def hH (C : Cx) (A : Around) (env : Env) (rest : List Expr) (Q : Bool → Mp → HF → Prop) (E : PV) (b : Bool) (m : Mp) (H : HF) : Prop :=
 match b with
 | true => W C A env.locals (allTrue .And rest env) Q E m H
 | false => Q false m H
@[reducible] def orW (C : Cx) (A : Around) (env : Env) (rest : List Expr) (Q : Bool → Mp → HF → Prop) (E : PV) (b : Bool) (m : Mp) (H : HF) : Prop :=
 match b with
 | false => W C A env.locals (allTrue .Or rest env) Q E m H
 | true => Q true m H
theorem XA {x : Expr} {rest : List Expr} {Q : Bool → Mp → HF → Prop} (h : W C A env.locals (isTrue x env (eval x env)) (hH C A env rest Q E) E m H) : W C A env.locals (allTrue .And (x :: rest) env) Q E m H :=
 fun s S g => wpAny_allTrue_And_cons (h.useQ S g rfl fun b m' H' s' S' g' eo q => by cases b with | true => exact W.go q S' g' eo | false => exact ⟨m', H', S', g', eo, q⟩)
theorem ZA {x : Expr} {rest : List Expr} {Q : Bool → Mp → HF → Prop} (h : W C A env.locals (isTrue x env (eval x env)) (orW C A env rest Q E) E m H) : W C A env.locals (allTrue .Or (x :: rest) env) Q E m H :=
 fun s S g => wpAny_allTrue_Or_cons (h.useQ S g rfl fun b m' H' s' S' g' eo q => by cases b with | false => exact W.go q S' g' eo | true => exact ⟨m', H', S', g', eo, q⟩)
@[reducible] def ifW (C : Cx) (A : Around) (env : Env) (b o : List Stmt) (Q : PF) (E : PV) (t : Bool) (m : Mp) (H : HF) : Prop :=
 match t with
 | true => W C A env.locals (execs b env) Q E m H
 | false => W C A env.locals (execs o env) Q E m H
theorem iL {test : Expr} {b o : List Stmt} {pos : Pos} {Q : PF} (h : W C A env.locals (isTrue test env (eval test env)) (ifW C A env b o Q E) E m H) : W C A env.locals (exec (.If test b o pos) env) Q E m H :=
 fun s S g => wpAny_If (h.useQ S g rfl fun t m' H' s' S' g' e q => by cases t with | true => exact W.go q S' g' e | false => exact W.go q S' g' e)
@[reducible] def ifE (C : Cx) (A : Around) (env : Env) (b o : Expr) (Q : PV) (E : PV) (t : Bool) (m : Mp) (H : HF) : Prop :=
 match t with
 | true => W C A env.locals (eval b env) Q E m H
 | false => W C A env.locals (eval o env) Q E m H
theorem Jj {e : Expr} {pos : Pos} {Q : PF} (h : W C A env.locals (eval e env) (fun v m H => Q (.ret v) m H) E m H) : W C A env.locals (exec (.Return (some e) pos) env) Q E m H :=
 fun s S g => wpAny_Return_some (h s S g)
theorem Yj {pos : Pos} {Q : PF} (h : Q .brk m H) : W C A env.locals (exec (.Break pos) env) Q E m H := fun s S g => wpAny_Break ⟨m, H, S, g, rfl, h⟩
theorem XC {pos : Pos} {Q : PF} (h : Q .cont m H) : W C A env.locals (exec (.Continue pos) env) Q E m H := fun s S g => wpAny_Continue ⟨m, H, S, g, rfl, h⟩
theorem zQ {e : Expr} {pos : Pos} {Q : PF} (h : W C A env.locals (eval e env) (fun v m H => (∀ a, v ≠ .ref a) ∧ Q .next m H) E m H)
 (hi : interactive env = false := by kernel_rfl) (hs : swapsWith e none pos.line env = pure false := by kernel_rfl) : W C A env.locals (exec (.Expr e pos) env) Q E m H :=
 fun s S g => wpAny_Expr (h.useQ S g rfl fun v m' H' s' S' g' eo q => by
  cases v with
  | ref a => exact (q.1 a rfl).elim
  | _ => exact ⟨m', H', S', g', eo, q.2⟩) hi hs
theorem ZE {x : Str} {p' pos : Pos} {value : Expr} {Q : PF} (h : W C A env.locals (eval value env) (fun v m H => Q .next (set m x v) H) E m H)
 (hk : env.scope.kind = .function := by kernel_rfl) (hl : env.kindOf x = some .local := by kernel_rfl) (hs : swapsWith value (some (.Name x p')) pos.line env = pure false := by kernel_rfl) :
 W C A env.locals (exec (.Assign [.Name x p'] value pos) env) Q E m H :=
 fun s S g => wpAny_Assign_Name (h.useQ S g rfl fun v m' H' s' S' g' eo q => wpAny_mono (Z6 (C := C) (A := A) (E := E) (Q := fun _ => Q .next) q hk hl s' S' g') (fun _ _ z => z.os eo) fun _ _ z => z.os eo) hs
theorem vy {x : Str} {p' pos : Pos} {op : Operator} {value : Expr} {v₀ : Value} {Q : PF} (hv : m x = some v₀)
 (h : W C A env.locals (eval value env) (fun v m H => W C A env.locals (inplaceOp op v₀ v) (fun r m H => Q .next (set m x r) H) E m H) E m H)
 (hk : env.scope.kind = .function := by kernel_rfl) (hl : env.kindOf x = some .local := by kernel_rfl) : W C A env.locals (exec (.AugAssign (.Name x p') op value pos) env) Q E m H :=
 fun s S g => wpAny_AugAssign_Name (wpAny_loadName_local hk hl S.ns hv (h.useQ S g rfl fun v m' H' s' S' g' eo q => q.useQ S' g' eo fun r m' H' s' S' g' eo q =>
  wpAny_mono (Z6 (C := C) (A := A) (E := E) (Q := fun _ => Q .next) q hk hl s' S' g') (fun _ _ z => z.os eo) fun _ _ z => z.os eo))
theorem zm {targets : List Expr} {value : Expr} {pos : Pos} {Q : PF}
 (h : W C A env.locals (eval value env) (fun v m H => W C A env.locals (assignAll v ((assignEach targets env).map (·.2))) (fun _ => Q .next) E m H) E m H)
 (hs : swapsWithSole targets value pos.line env = pure false := by kernel_rfl) (hw : swappedStores targets value env = pure none := by kernel_rfl) : W C A env.locals (exec (.Assign targets value pos) env) Q E m H :=
 fun s S g => wpAny_Assign_stores (h.useQ S g rfl fun v m' H' s' S' g' eo q => q.go S' g' eo) hs hw
theorem xh {v : Value} {t : Value → Sem Unit} {Q : Unit → Mp → HF → Prop} (h : W C A env.locals (t v) Q E m H) : W C A env.locals (assignAll v [t]) Q E m H := h
theorem qB {v : Value} {t u : Value → Sem Unit} {r : List (Value → Sem Unit)} {Q : Unit → Mp → HF → Prop} (h : W C A env.locals (t v) (fun _ m H => W C A env.locals (assignAll v (u :: r)) Q E m H) E m H) :
 W C A env.locals (assignAll v (t :: u :: r)) Q E m H :=
 Jf (t' := do holding [v] (t v); assignAll v (u :: r)) rfl (yA (yy h))
theorem VY {x : Str} {pos : Pos} {v : Value} {Q : Unit → Mp → HF → Prop} (h : Q () (set m x v) H) (hk : env.scope.kind = .function := by kernel_rfl) (hl : env.kindOf x = some .local := by kernel_rfl) :
 W C A env.locals (assign (.Name x pos) env v) Q E m H :=
 Jf (t' := do standAt pos; bindName env x v) rfl (yA (xB (wh h hk hl)))
theorem Zz {vs ks : List Value} {Q : Unit → Mp → HF → Prop} (h : Q () m H) : W C A env.locals (release vs ks) Q E m H :=
 fun s S g => fun Γ p hΓ => by rw [Sem.wp_release]; exact ⟨m, H, S, g, rfl, h⟩
theorem Qd {o : Expr} {attr : Str} {pos : Pos} {v : Value} {Q : Unit → Mp → HF → Prop} (h : W C A env.locals (eval o env) (fun ov m H => W C A env.locals (setAttr ov attr v) Q E m H) E m H) :
 W C A env.locals (assign (.Attribute o attr pos) env v) Q E m H := by
 refine Jf (t' := do
  let ov ← holding [v] (eval o env)
  standAt pos.atName
  holding [v, ov] (setAttr ov attr v)
  release [v, ov] []) rfl (yA (yy (h.mono (fun ov m' H' q => ?_) fun _ _ _ e => e)))
 exact yA (xB (yA (yy (q.mono (fun _ _ _ z => Zz z) fun _ _ _ e => e))))
theorem Qc {o i : Expr} {pos : Pos} {v : Value} {Q : Unit → Mp → HF → Prop} (h : W C A env.locals (eval o env) (fun ov m H => W C A env.locals (eval i env) (fun iv m H => W C A env.locals (setItem ov iv v) Q E m H) E m H) E m H) :
 W C A env.locals (assign (.Subscript o i pos) env v) Q E m H := by
 refine Jf (assign_Subscript o i pos v) (yA (yy (h.mono (fun ov m' H' q => ?_) fun _ _ _ e => e)))
 exact yA (yy (q.mono (fun iv m' H' q => yA (xB (yA (yy (q.mono (fun _ _ _ z => Zz z) fun _ _ _ e => e))))) fun _ _ _ e => e))
theorem Qg {elts : List Expr} {k : Nat} {pos : Pos} {Q : PV} (h : W C A env.locals (spliced (backTo pos (starEach elts env))) (fun vs m H => W C A env.locals (newTuple vs) Q E m H) E m H) :
 W C A env.locals (eval (.Tuple elts k pos) env) Q E m H :=
 Jf (t' := do standAt pos; newTuple (← spliced (backTo pos (starEach elts env)))) rfl (yA (xB (yA h)))
theorem bG {elts : List Expr} {pos : Pos} {Q : PV} (h : W C A env.locals (spliced (backTo pos (starEach elts env))) (fun vs m H => W C A env.locals (newList vs) Q E m H) E m H) :
 W C A env.locals (eval (.List elts pos) env) Q E m H :=
 Jf (t' := do standAt pos; newList (← spliced (backTo pos (starEach elts env)))) rfl (yA (xB (yA h)))
theorem Yc {pos : Pos} {Q : List Value → Mp → HF → Prop} (h : Q [] m H) : W C A env.locals (spliced (backTo pos (starEach [] env))) Q E m H := fun s S g => wpAny_items_nil ⟨m, H, S, g, rfl, h⟩
theorem ZD {pos : Pos} {e : Expr} {rest : List Expr} {Q : List Value → Mp → HF → Prop} (h : W C A env.locals (eval e env) (fun v m H => W C A env.locals (spliced (backTo pos (starEach rest env))) (fun vs m H => Q (v :: vs) m H) E m H) E m H)
 (he : starEach (e :: rest) env = (false, eval e env) :: starEach rest env := by kernel_rfl) : W C A env.locals (spliced (backTo pos (starEach (e :: rest) env))) Q E m H := by
 rw [he]
 refine Jf (t' := do
  let v ← eval e env
  let here ← pure [v]
  return here ++ (← holding here (spliced (backTo pos (starEach rest env))))) ?_ (yA (h.mono (fun v m' H' q => ?_) fun _ _ _ e => e))
 · rfl
 · exact yA (YQ (yA (yy (q.mono (fun vs _ _ z => YQ z) fun _ _ _ e => e))))
end
end
section
structure Upd (Hf H Hf' H' : HF) : Prop where
 in_ : ∀ a o, Hf' a = some o → H' a = some o
 out : ∀ a o, H a = some o → Hf a = none → H' a = some o
 fresh : ∀ a, Hf a = none → Hf' a ≠ none → H a = none
noncomputable def Jr (Hf H Hf' : HF) : HF := fun b => match Hf' b with
 | some o => some o
 | none => match Hf b with
  | some _ => none
  | none => H b
noncomputable def kc (B : BF) (L : Addr) (Hf : HF) (h : Heap) : BF := fun b => match Hf b with
 | some _ => none
 | none => match B b with
  | some p => some p
  | none => (h.get? b).map fun o => (b == L, o)
theorem jW {C : Cx} {L : Addr} {m : Mp} {H Hf : HF} {h : Heap} (S : St C L m H h) {b : Addr} {p : Bool × Obj} (e : kc C.B L Hf h b = some p) : Up p.1 p.2 (h.get? b) := by
 unfold kc at e
 split at e
 · cases e
 · split at e
   · rename_i q; cases e; exact S.kb _ _ q
   · refine zc (Option.map_eq_some_iff.mp e) fun o ho hq2 => ?_
     obtain rfl := hq2
     exact .is ho
theorem kE {B : BF} {L : Addr} {Hf : HF} {h : Heap} (n : ∀ b p, B b = some p → Hf b = none) : Ext B (kc B L Hf h) := fun b p e => by unfold kc; rw [n b p e, e]
theorem ZS {B : BF} {L : Addr} {Hf : HF} {h : Heap} {b : Addr} {o : Obj} (n : Hf b = none) (nB : B b = none) (e : h.get? b = some o) : kc B L Hf h b = some (b == L, o) := by unfold kc; rw [n, nB, e]; rfl
theorem xZ {B : BF} {L : Addr} {Hf : HF} {h : Heap} {b : Addr} {o : Obj} (n : Hf b = some o) : kc B L Hf h b = none := by unfold kc; rw [n]
theorem Zh {B : BF} {L : Addr} {Hf : HF} {h : Heap} {b : Addr} (e : kc B L Hf h b = none) (n : Hf b = none) : B b = none ∧ h.get? b = none := by
 unfold kc at e; rw [n] at e
 cases q : B b with
 | some p => rw [q] at e; cases e
 | none => rw [q] at e; exact ⟨rfl, Option.map_eq_none_iff.mp e⟩
structure Bd (K : Frag) (mg mb : Mp) (q : Program) (loose : List Str) (C : Cx) : Prop where
 K : ∀ h : Heap, (∀ b p, C.B b = some p → Up p.1 p.2 (h.get? b)) → K.In h
 T : ∀ h : Heap, (∀ b p, C.B b = some p → Up p.1 p.2 (h.get? b)) → TopRead q loose mg mb h
theorem Bd.mono {K : Frag} {mg mb : Mp} {q : Program} {loose : List Str} {C : Cx} {B' : BF} (X : Bd K mg mb q loose C) (e : Ext C.B B') : Bd K mg mb q loose (C.at_ B') :=
 ⟨fun h k => X.K h fun b o q => k b o (e b o q), fun h k => X.T h fun b o q => k b o (e b o q)⟩
section
variable {α β : Type} {C : Cx} {A : Around} {L : Addr} {E : PV} {m : Mp} {H : HF}
theorem St.back {Hf Hf' : HF} {h h' : Heap} {L' : Addr} {m' : Mp} (S : St C L m H h) (hs : Ext Hf H) (S' : St ⟨C.prog, C.w, kc C.B L Hf h⟩ L' m' Hf' h') : St C L m (Jr Hf H Hf') h' ∧ Upd Hf H Hf' (Jr Hf H Hf') := by
 refine hdG fun gQ gZ => ?_
 obtain ⟨oL, a1, a2, hL, a3⟩ := S.ns
 have nL : Hf L = none := zW hs S.no
 have nB : ∀ b o, C.B b = some o → Hf b = none := fun b o e => by
  cases q : Hf b with
  | none => rfl
  | some o' => have := S.new b o' (hs b o' q); rw [this] at e; cases e
 have fr : ∀ b, Hf b = none → Hf' b ≠ none → h.get? b = none := fun b n n' => by
  cases q' : Hf' b with
  | none => exact (n' q').elim
  | some o' => exact (Zh (S'.new b o' q') n).2
 have frB : ∀ b, Hf b = none → Hf' b ≠ none → C.B b = none := fun b n n' => by
  cases q' : Hf' b with
  | none => exact (n' q').elim
  | some o' => exact (Zh (S'.new b o' q') n).1
 obtain ⟨sl, hL'⟩ : ∃ sl, h'.get? L = some { oL with slots := sl } := by
  have := S'.kb L _ (ZS nL S.nL hL)
  rw [beq_self_eq_true] at this
  exact this
 refine gZ ?_
 refine ⟨⟨⟨_, a1, a2, hL', a3⟩, fun a o e => ?_, ?_, fun b o e => S'.kb b o (kE nB b o e), fun a o e => ?_, S.nL⟩, ?_, ?_, ?_⟩
 · unfold Jr at e
   split at e
   · rename_i o' q; cases e; exact S'.at_ _ _ q
   · split at e
     · cases e
     · rename_i q
       have := S'.kb a _ (ZS q (S.new a o e) (S.at_ a o e))
       rw [beq_eq_false_iff_ne.mpr (S.ne e)] at this
       exact this
 · unfold Jr
   have : Hf' L = none := by
    cases q : Hf' L with
    | none => rfl
    | some o' => have := fr L nL (by rw [q]; simp); rw [hL] at this; cases this
   rw [this, nL]; exact S.no
 · unfold Jr at e
   cases q : C.B a with
   | none => rfl
   | some ob =>
    have n := nB a ob q
    rw [n] at e
    split at e
    · rename_i o' q'; have := frB a n (by rw [q']; simp); rw [q] at this; cases this
    · have := S.new a o e; rw [q] at this; cases this
 · intro a o e; unfold Jr; rw [e]
 · intro a o e n
   unfold Jr
   split
   · rename_i o' q; have := fr a n (by rw [q]; simp); rw [S.at_ a o e] at this; cases this
   · rw [n]; exact e
 · intro a n n'
   have := fr a n n'
   cases q : H a with
   | none => rfl
   | some o => rw [S.at_ a o q] at this; cases this
theorem jd {K : Frag} {mg mb : Mp} {q : Program} {loose : List Str} {env : Env} {x : Str} {pos : Pos} {v : Value} {Q : PV} (X : Bd K mg mb q loose C) (e : nsIn K mainGlobals x = some (some v)) (h : Q v m H)
 (hk : env.scope.kind = .function := by kernel_rfl) (hx : env.kindOf x = some .globalImplicit := by kernel_rfl) (hg : env.globals = mainGlobals := by kernel_rfl) (hd : (x == ("__debug__" : Str)) = false := by decide +kernel) :
 W C A L (eval (.Name x pos) env) Q E m H := fun s S g =>
 Name_function_global hk hx (loadGlobal_global (by rw [hg]; exact (X.T _ S.kb).g) (mg_of (X.K _ S.kb) (X.T _ S.kb).g e) ⟨m, H, S, g, rfl, h⟩) hd
theorem vq {K : Frag} {mg mb : Mp} {q : Program} {loose : List Str} {env : Env} {x : Str} {pos : Pos} {v : Value} {Q : PV} (X : Bd K mg mb q loose C) (e : nsIn K mainGlobals x = some none) (hv : bootBuiltins x = some v) (h : Q v m H)
 (hn : x ≠ "__name__" := by decide +kernel) (hk : env.scope.kind = .function := by kernel_rfl) (hx : env.kindOf x = some .globalImplicit := by kernel_rfl) (hg : env.globals = mainGlobals := by kernel_rfl) (hb : env.builtins = builtinsNs := by kernel_rfl) (hd : (x == ("__debug__" : Str)) = false := by decide +kernel) :
 W C A L (eval (.Name x pos) env) Q E m H := fun s S g =>
 Name_function_global hk hx (loadGlobal_builtin (by rw [hg]; exact (X.T _ S.kb).g) (mg_none_of (X.K _ S.kb) (X.T _ S.kb).g e) (by rw [hb]; exact (X.T _ S.kb).b) (((X.T _ S.kb).builtins x hn).trans hv) ⟨m, H, S, g, rfl, h⟩) hd
theorem zF {K : Frag} {mg mb : Mp} {q : Program} {loose : List Str} {oc : Value} {od : Option Addr} {osl : Array (Option Value)} {name qual : Str} {params : Arguments} {body : List Stmt} {scope : Scope} {dV kV doc pm cdv ct : Value} {an : Option Addr}
 {f : Addr} {vs : List Value} {kw : List (Str × Value)} {binds : List (Str × Value)} {Q : PV} {Qf : Value → HF → Prop} (Hf : HF)
 (X : Bd K mg mb q loose C) (ho : K.lookup f = some ⟨oc, od, .func (fnOf name qual params body scope dV kV doc pm an cdv ct), osl⟩) (hcd : codeIn K cdv qual = true) (hroom : A.depth < recursionLimit)
 (hbind : ∀ s : Shared, K.In s.heap → BindsTo s (fnOf name qual params body scope dV kV doc pm an cdv ct) ⟨vs, kw⟩ binds) (hloc : ∀ y ∈ binds, scope.names.lookup y.1 = some .local) (hsub : Ext Hf H)
 (h : ∀ B' L', Ext C.B B' → W (C.at_ B') (A.deeper (envOf qual scope L' f cdv)) (envOf qual scope L' f cdv).locals (execs body (envOf qual scope L' f cdv)) (fun fl _ H' => Qf (match fl with | .ret v => v | _ => .none) H') (fun _ _ _ => False) (bl binds) Hf)
 (k : ∀ v Hf' H', Qf v Hf' → Upd Hf H Hf' H' → Q v m H')
 (hco : scope.isCoroutine = false := by kernel_rfl) (hgen : scope.isGenerator = false := by kernel_rfl) (hk : scope.kind = .function := by kernel_rfl) (hcell : ∀ x ∈ scope.names, x.2 ≠ .cell := by decide +kernel) :
 W C A L (call (.ref f) vs kw) Q E m H := fun s S g => by
 refine wpAny_call (codeAny_call_def (fd := fnOf name qual params body scope dV kV doc pm an cdv ct) (body := body) (binds := binds) hroom (X.K _ S.kb _ _ ho) rfl (X.T _ S.kb).nolimit (codeRec_of (X.K _ S.kb) hcd) rfl (hbind s (X.K _ S.kb)) hcell hloc (fun h₀ hns hkeep => ?_) hco hgen hk)
 have nB : ∀ b o, C.B b = some o → Hf b = none := fun b o e => by
  cases q : Hf b with
  | none => rfl
  | some o' => have := S.new b o' (hsub b o' q); rw [this] at e; cases e
 have S₀ : St (C.at_ (kc C.B L Hf s.heap)) s.heap.objs.size (bl binds) Hf h₀ := by
  refine ⟨hns, fun a o e => hkeep _ _ (S.at_ a o (hsub a o e)), ?_, fun b o e => (jW S e).keep (hkeep _), fun a o e => xZ e, ?_⟩
  · cases q : Hf s.heap.objs.size with
    | none => rfl
    | some o => have := S.at_ _ _ (hsub _ _ q); rw [zt] at this; cases this
  · show kc C.B L Hf s.heap _ = none
    unfold kc; split
    · rfl
    · rw [(S.fresh (zt s.heap)).2.2, zt]; rfl
 refine wpAny_mono (h (kc C.B L Hf s.heap) s.heap.objs.size (kE nB) { s with heap := h₀, toks := s.toks + binds.length } S₀ g) (fun fl s' q => ?_) fun e s' q => ?_
 · refine hdG fun gQ gZ => ?_
   obtain ⟨m', Hf', S', g', eo, q⟩ := q
   obtain ⟨b1, b2⟩ := S.back hsub S'
   refine gZ ?_
   exact ⟨m, _, b1, g', eo, k _ _ _ q b2⟩
 · refine hdG fun gQ gZ => ?_
   obtain ⟨m', Hf', S', g', eo, q⟩ := q
   refine gZ ?_
   exact q.elim
theorem zJ {id : Str} {p pos : Pos} {env : Env} {e : Expr} {rest : List Expr} {Q : PV} {K : Frag} {mg mb : Mp} {q : Program} {loose : List Str} {fv : Value} (X : Bd K mg mb q loose C) (hf : nsIn K mainGlobals id = some (some fv)) (hkp : keepIn K fv = true)
 (h : W C A L (spliced (backTo pos (starEach (e :: rest) env))) (fun vs m H => W C A L (call fv vs) Q E m H) E m H)
 (he : starEach (e :: rest) env = (false, eval e env) :: starEach rest env := by kernel_rfl) (hplain : (backTo pos (starEach rest env)).any (·.1) = false := by kernel_rfl)
 (hk : env.scope.kind = .function := by kernel_rfl) (hx : env.kindOf id = some .globalImplicit := by kernel_rfl) (hg : env.globals = mainGlobals := by kernel_rfl) (hd : (id == ("__debug__" : Str)) = false := by decide +kernel) :
 W C A L (eval (.Call (.Name id p) (e :: rest) [] pos) env) Q E m H := fun s S g => by
 refine wpAny_Call_Name_kw ((jd (C := C) (A := A) (L := L) (m := m) (H := H) (E := E) (Q := fun v m' H' => v = fv ∧ m' = m ∧ H' = H) X hf (zl rfl rfl rfl) hk hx hg hd).useQ S g rfl fun v m' H' s' S' g' eo z => ?_)
 refine zw z fun hq0 hq1 hq2 => ?_
 try clear z
 obtain rfl := hq0
 obtain rfl := hq1
 obtain rfl := hq2
 show wpAny _ _ (callWith pos v [] (backTo pos (starEach (e :: rest) env)) []) _ _ _
 exact callWith_K (first := []) (X.K _ S'.kb) hkp (h.useQ S' g' eo fun vs m' H' s' S' g' eo z => ⟨X.K _ S'.kb, z.go S' g' eo⟩) he hplain
theorem Yg {id : Str} {p pos : Pos} {env : Env} {Q : PV} {K : Frag} {mg mb : Mp} {q : Program} {loose : List Str} {fv : Value} (X : Bd K mg mb q loose C) (hf : nsIn K mainGlobals id = some (some fv)) (hkp : keepIn K fv = true)
 (h : W C A L (call fv []) Q E m H)
 (hk : env.scope.kind = .function := by kernel_rfl) (hx : env.kindOf id = some .globalImplicit := by kernel_rfl) (hg : env.globals = mainGlobals := by kernel_rfl) (hd : (id == ("__debug__" : Str)) = false := by decide +kernel) :
 W C A L (eval (.Call (.Name id p) [] [] pos) env) Q E m H := fun s S g => by
 refine wpAny_Call_Name_kw ((jd (C := C) (A := A) (L := L) (m := m) (H := H) (E := E) (Q := fun v m' H' => v = fv ∧ m' = m ∧ H' = H) X hf (zl rfl rfl rfl) hk hx hg hd).useQ S g rfl fun v m' H' s' S' g' eo z => ?_)
 refine zw z fun hq0 hq1 hq2 => ?_
 try clear z
 obtain rfl := hq0
 obtain rfl := hq1
 obtain rfl := hq2
 show wpAny _ _ (callWith pos v [] (backTo pos (starEach [] env)) []) _ _ _
 exact callWith_K0 (first := []) (X.K _ S'.kb) hkp (h.go S' g' eo)
end
end
section
abbrev no : PV := fun _ _ _ => False
noncomputable def qG (B : BF) (I : Addr) (o : Obj) : BF := fun b => if b = I then some (false, o) else B b
theorem yP {B : BF} {I : Addr} {o : Obj} (n : B I = none) : Ext B (qG B I o) := fun b o' e => by
 unfold qG; by_cases q : b = I
 · subst q; rw [n] at e; cases e
 · rw [if_neg q]; exact e
section
variable {α β : Type} {C : Cx} {A : Around} {L : Addr} {E : PV} {m : Mp} {H : HF}
theorem St.hide {h : Heap} (S : St C L m H h) {I : Addr} {o : Obj} (e : h.get? I = some o) (nH : H I = none) (nL : I ≠ L) : St (C.at_ (qG C.B I o)) L m H h := by
 refine ⟨S.ns, S.at_, S.no, fun b ob eb => ?_, fun a oa ea => ?_, ?_⟩
 · unfold qG at eb; dsimp only at eb
   by_cases q : b = I
   · rw [if_pos q] at eb; cases eb; rw [q]; exact e
   · rw [if_neg q] at eb; exact S.kb b ob eb
 · show qG C.B I o a = none
   unfold qG; rw [if_neg (fun q => by subst q; rw [nH] at ea; cases ea)]; exact S.new a oa ea
 · show qG C.B I o L = none
   unfold qG; rw [if_neg (Ne.symm nL)]; exact S.nL
theorem w8 {B : BF} {I : Addr} {o : Obj} : qG B I o I = some (false, o) := by simp [qG]
theorem St.show {h : Heap} {I : Addr} {o : Obj} (nB : C.B I = none) (S : St (C.at_ (qG C.B I o)) L m H h) : St C L m H h ∧ h.get? I = some o ∧ H I = none := by
 refine (zl ⟨S.ns, S.at_, S.no, fun b ob eb => S.kb b ob (yP nB b ob eb), fun a oa ea => ?_, ?_⟩ (S.kb I (false, o) w8) ?_)
 · cases q : C.B a with
   | none => rfl
   | some ob => exact absurd ((yP nB a ob q).symm.trans (S.new a oa ea)) (by simp)
 · cases q : C.B L with
   | none => rfl
   | some ob => exact absurd ((yP nB L ob q).symm.trans S.nL) (by simp)
 · cases q : H I with
   | none => rfl
   | some ob => exact absurd ((w8 (B := C.B) (I := I) (o := o)).symm.trans (S.new I ob q)) (by simp)
noncomputable def vB (C : Cx) (A : Around) (L : Addr) (m : Mp) (H : HF) (xv : Value) (n : Nat) (P : Nat → Value → Prop) (D : List Addr) : Prop :=
 ∀ s : Shared, St C L m H s.heap → s.gens = #[] → ∀ (Q : Value → Shared → Prop) (E : Value → Shared → Prop),
  (∀ (o : Obj) (tk : Nat) (fp : List Addr) (T : Nat → Heap → Prop), o.isFreed = false → (∀ A' : Around, A'.handled = none → Walks C.prog C.w A' s.heap.objs.size fp [s.heap.objs.size] n P T) → (∀ b ∈ fp, b = s.heap.objs.size ∨ b ∈ D) → (∀ k h, T k h → ∃ o, h.get? s.heap.objs.size = some o) →
   (∀ target v k (s' : Shared) (Q' : Unit → Shared → Prop) (E' : Value → Shared → Prop), T k s'.heap → Q' () s' → wpAny C.M A (letOwnedTupleGo target (.ref s.heap.objs.size) v) Q' E' s') →
   T 0 (s.heap.push o) → Q (.ref s.heap.objs.size) { s with heap := s.heap.push o, toks := tk }) → wpAny C.M A (pyIter xv) Q E s
theorem Vx {target : Expr} {body : List Stmt} {env : Env} {I : Addr} {fp D : List Addr} {n : Nat} {P : Nat → Value → Prop} {T : Nat → Heap → Prop} {Q : PF} (Inv : Nat → Mp → HF → Prop) {R : Result → Shared → Prop}
 (Wk : Walks C.prog C.w A I fp [I] n P T) (hfp : ∀ b ∈ fp, b = I ∨ b ∈ D) (alive : ∀ k h, T k h → ∃ o, h.get? I = some o)
 (hlet : ∀ v k (s' : Shared) (Q' : Unit → Shared → Prop) (E' : Value → Shared → Prop), T k s'.heap → Q' () s' → wpAny C.M A (letOwnedTupleGo target (.ref I) v) Q' E' s')
 (hD : ∀ b ∈ D, (∃ o, C.B b = some (false, o)) ∨ ∃ o, ∀ k m H, Inv k m H → H b = some o)
 (nB : C.B I = none) (nL : I ≠ env.locals)
 (step : ∀ B' k v m H, Ext C.B B' → k < n → P k v → Inv k m H → W (C.at_ B') A env.locals (assign target env v) (fun _ m H => W (C.at_ B') A env.locals (execs body env) (fun f m' H' => match f with
  | .next | .cont => Inv (k + 1) m' H'
  | .brk => Q .next m' H'
  | .ret r => Q (.ret r) m' H') no m H) no m H)
 (last : ∀ m H, Inv n m H → Q .next m H) {s₀ s : Shared} (eo : s.os = s₀.os) (g : s.gens = #[]) (S : St C env.locals m H s.heap) (i0 : Inv 0 m H) (hI : H I = none) (t0 : T 0 s.heap)
 (hR : ∀ f s', QS C env.locals s₀ Q f s' → R (.ok f) s') :
 codeAny C.M A (.forLoop target (.ref I) body [] env) R s := by
 refine codeAny_forLoop_any (fun j s' => ∃ i m' H', i ≤ n ∧ j = n + 1 - i ∧ s'.os = s₀.os ∧ s'.gens = #[] ∧ St C env.locals m' H' s'.heap ∧ Inv i m' H' ∧ H' I = none ∧ T i s'.heap) ?_ (n + 1) (qp 0 m H (ZT (Nat.zero_le _) rfl eo g S i0 hI t0))
 intro j s' hri
 refine hdG fun gQ gZ => ?_
 obtain ⟨i, m₁, H₁, hi, rfl, eo₁, g₁, S₁, I₁, hI₁, t₁⟩ := hri
 refine gZ ?_
 have moved : ∀ h' : Heap, (∀ b o, b ∉ [I] → s'.heap.get? b = some o → h'.get? b = some o) → St C env.locals m₁ H₁ h' := fun h' hk => by
  have own : ∀ b o, b ≠ I → s'.heap.get? b = some o → h'.get? b = some o := fun b o nb e => hk b o (by simp [nb]) e
  refine hdG fun gQ gZ => ?_
  obtain ⟨oL, a1, a2, hL, a3⟩ := S₁.ns
  refine gZ ?_
  exact ⟨⟨oL, a1, a2, own _ _ (Ne.symm nL) hL, a3⟩, fun a o e => own _ _ (fun q => by subst q; rw [hI₁] at e; cases e) (S₁.at_ a o e), S₁.no, fun b o e => (S₁.kb b o e).keep fun o' => own _ o' (fun q => by subst q; rw [nB] at e; cases e), S₁.new, S₁.nL⟩
 by_cases hlt : i < n
 · refine Wk.item i s' _ _ hlt t₁ fun v h' tk hP t₂ hk => ?_
   have S₂ := moved h' hk
   obtain ⟨o', ho'⟩ := alive _ _ t₂
   refine hlet v (i + 1) _ _ _ t₂ ?_
   have S₃ := S₂.hide ho' hI₁ nL
   have w₁ := step (qG C.B I o') i v m₁ H₁ (yP nB) hlt hP I₁ { s' with heap := h', toks := tk } S₃ g₁
   refine wpAny_mono w₁ (fun _ s₄ z => ?_) fun _ _ z => by obtain ⟨_, _, _, _, _, z⟩ := z; exact z.elim
   refine hdG fun gQ gZ => ?_
   obtain ⟨m₄, H₄, S₄, g₄, e₄, z⟩ := z
   refine gZ ?_
   refine wpAny_mono (z s₄ S₄ g₄) (fun f s₅ y => ?_) fun _ _ z => by obtain ⟨_, _, _, _, _, z⟩ := z; exact z.elim
   refine hdG fun gQ gZ => ?_
   obtain ⟨m₅, H₅, S₅, g₅, e₅, y⟩ := y
   have e₆ : s₅.os = s₀.os := (e₅.trans e₄).trans eo₁
   obtain ⟨S₆, k₆, n₆⟩ := St.show nB S₅
   refine gZ ?_
   have t₆ : Inv (i + 1) m₅ H₅ → T (i + 1) s₅.heap := fun iv => Wk.frame _ _ _ t₂ fun b hb o e => by
    rcases hfp b hb with rfl | hb
    · rw [ho'] at e; cases e; exact k₆
    · rcases hD b hb with ⟨ob, kob⟩ | ⟨ob, kob⟩
      · obtain rfl := Option.some.inj ((show h'.get? b = some ob from S₂.kb b (false, ob) kob).symm.trans e); exact S₆.kb b (false, _) kob
      · obtain rfl := Option.some.inj ((S₂.at_ b ob (kob _ _ _ I₁)).symm.trans e); exact S₆.at_ b _ (kob _ _ _ iv)
   cases f with
   | next => exact ⟨n + 1 - (i + 1), by exact (an 0x2d0211609081822500203044a103044a0 [_,_]) hlt, i + 1, m₅, H₅, hlt, rfl, e₆, g₅, S₆, y, n₆, t₆ y⟩
   | cont => exact ⟨n + 1 - (i + 1), by exact (an 0x2d0211609081822500203044a103044a0 [_,_]) hlt, i + 1, m₅, H₅, hlt, rfl, e₆, g₅, S₆, y, n₆, t₆ y⟩
   | brk => exact hR _ _ ⟨m₅, H₅, S₆, g₅, e₆, y⟩
   | ret r => exact hR _ _ ⟨m₅, H₅, S₆, g₅, e₆, y⟩
 · have hin : i = n := by exact (an 0x52140585a140310a0 [_,_]) hi hlt
   subst hin
   exact Wk.done s' _ _ t₁ fun h' tk hk => wpAny_execs_nil (hR _ _ ⟨m₁, H₁, moved h' hk, g₁, eo₁, last _ _ I₁⟩)
theorem kM {target : Expr} {iter : Expr} {body : List Stmt} {env : Env} {pos : Pos} {Q : PF} (hh : A.handled = none)
 (h : W C A env.locals (eval iter env) (fun xv m H => ∃ n P D, ∃ Inv : Nat → Mp → HF → Prop, vB C A env.locals m H xv n P D ∧ Inv 0 m H ∧
  (∀ b ∈ D, (∃ o, C.B b = some (false, o)) ∨ ∃ o, ∀ k m H, Inv k m H → H b = some o) ∧
  (∀ B' k v m H, Ext C.B B' → k < n → P k v → Inv k m H → W (C.at_ B') A env.locals (assign target env v) (fun _ m H => W (C.at_ B') A env.locals (execs body env) (fun f m' H' => match f with
   | .next | .cont => Inv (k + 1) m' H'
   | .brk => Q .next m' H'
   | .ret r => Q (.ret r) m' H') no m H) no m H) ∧ (∀ m H, Inv n m H → Q .next m H)) E m H)
 (hs : ∀ x, foldedSetIterable iter env x = pure x := by intro _; rfl) :
 W C A env.locals (exec (.For target iter body [] pos) env) Q E m H := fun s S g => by
 refine wpAny_For (h.useQ S g rfl fun xv m₁ H₁ s₁ S₁ g₁ e₁ z => ?_) hs
 refine KM z fun n P D Inv zq => vb zq fun st i0 hD step last => ?_
 try clear z
 refine st s₁ S₁ g₁ _ _ fun o tk fp T hf Wk hfp alive hlet t0 => ?_
 have p := S₁.keeps (h' := s₁.heap.push o) (fun _ _ e => Heap.get?_push_of_some _ e)
 refine zw (S₁.fresh (zt s₁.heap)) fun f1 f2 f3 => ?_
 exact Vx (Q := Q) Inv (Wk A hh) hfp alive (hlet target) hD f3 f2 step last e₁ g₁ p i0 f1 t0 fun f s' z => z
theorem y7 {a : Addr} {its : List Value} {k : Nat} (e : H a = some { cls := .type "list", data := .seq its.toArray k }) : vB C A L m H (.ref a) its.length (fun i v => its[i]? = some v) [a] := fun s S g Q E h => by
 have hl : s.heap.IsList a its.toArray := ⟨_, S.at_ _ _ e, rfl, _, rfl⟩
 have lt := Heap.lt_size (S.at_ _ _ e)
 refine wpAny_pyIter_list hl (h _ s.toks [s.heap.objs.size, a] (fun i h => h.IsListIter s.heap.objs.size a i ∧ h.IsList a its.toArray) rfl (fun A' hA => ?_) (by simp) (fun k h' t => ?_) (fun target v k s' Q' E' t q => ?_) ⟨⟨_, Heap.get?_push_size _ rfl, rfl, rfl⟩, hl.push _⟩)
 · have := Walks.list (prog := C.prog) (w := C.w) hA s.heap.objs.size a (Nat.ne_of_lt lt) its.toArray
   simpa using this
 · obtain ⟨⟨o, ho, _⟩, _⟩ := t; exact ⟨o, ho⟩
 · refine hdG fun gQ gZ => ?_
   obtain ⟨⟨o, ho, hc, hd⟩, _⟩ := t
   refine gZ ?_
   unfold letOwnedTupleGo
   split <;> first | exact wpAny_pure q | skip
   all_goals
    split
    · rename_i r a' heq
      cases heq
      refine wpAny_bind (wpAny_load ho ?_)
      rw [hc, hd]
      exact wpAny_pure q
    · exact wpAny_pure q
end
end
section
section
variable {α β : Type} {C : Cx} {A : Around} {L : Addr} {E : PV} {m : Mp} {H : HF}
@[reducible] def Kq (Q : PF) (I : Mp → HF → Prop) : PF
 | .next, m, H => I m H
 | .cont, m, H => I m H
 | .brk, m, H => Q .next m H
 | .ret r, m, H => Q (.ret r) m H
@[reducible] def Jm (C : Cx) (A : Around) (env : Env) (body orelse : List Stmt) (Q : PF) (I : Mp → HF → Prop) (b : Bool) (m : Mp) (H : HF) : Prop := match b with
 | true => W C A env.locals (execs body env) (Kq Q I) no m H
 | false => W C A env.locals (execs orelse env) Q no m H
theorem qh {env : Env} {body orelse : List Stmt} {Q : PF} {I : Mp → HF → Prop} {b : Bool} (h1 : b = true → W C A env.locals (execs body env) (Kq Q I) no m H) (h2 : b = false → W C A env.locals (execs orelse env) Q no m H) : Jm C A env body orelse Q I b m H := by
 cases b with
 | true => exact h1 rfl
 | false => exact h2 rfl
theorem y0 {test : Expr} {body orelse : List Stmt} {env : Env} {pos : Pos} {Q : PF} (Inv : Nat → Mp → HF → Prop) (n : Nat) (i0 : Inv n m H)
 (step : ∀ n m H, Inv n m H → W C A env.locals (isTrue test env (eval test env)) (Jm C A env body orelse Q (fun m H => ∃ k, k < n ∧ Inv k m H)) no m H) :
 W C A env.locals (exec (.While test body orelse pos) env) Q E m H := fun s S g => by
 refine wpAny_While (codeAny_whileLoop (fun j s' => ∃ m' H', s'.os = s.os ∧ s'.gens = #[] ∧ St C env.locals m' H' s'.heap ∧ Inv j m' H') ?_ n (qN m H rfl g S i0))
 intro j s' hri
 refine hdG fun gQ gZ => ?_
 obtain ⟨m₁, H₁, e₁, g₁, S₁, i₁⟩ := hri
 refine gZ ?_
 refine wpAny_mono (step j m₁ H₁ i₁ s' S₁ g₁) (fun b s₂ z => ?_) fun _ _ z => by obtain ⟨_, _, _, _, _, z⟩ := z; exact z.elim
 refine hdG fun gQ gZ => ?_
 obtain ⟨m₂, H₂, S₂, g₂, e₂, z⟩ := z
 refine gZ ?_
 cases b with
 | true =>
  refine wpAny_mono (z s₂ S₂ g₂) (fun f s₃ y => ?_) fun _ _ z => by obtain ⟨_, _, _, _, _, z⟩ := z; exact z.elim
  refine hdG fun gQ gZ => ?_
  obtain ⟨m₃, H₃, S₃, g₃, e₃, y⟩ := y
  refine gZ ?_
  have e₄ : s₃.os = s.os := (e₃.trans e₂).trans e₁
  cases f with
  | next => obtain ⟨k, hk, y⟩ := y; exact ⟨k, hk, m₃, H₃, e₄, g₃, S₃, y⟩
  | cont => obtain ⟨k, hk, y⟩ := y; exact ⟨k, hk, m₃, H₃, e₄, g₃, S₃, y⟩
  | brk => exact ⟨m₃, H₃, S₃, g₃, e₄, y⟩
  | ret r => exact ⟨m₃, H₃, S₃, g₃, e₄, y⟩
 | false =>
  refine wpAny_mono (z s₂ S₂ g₂) (fun f s₃ y => ?_) fun _ _ z => by obtain ⟨_, _, _, _, _, z⟩ := z; exact z.elim
  refine hdG fun gQ gZ => ?_
  obtain ⟨m₃, H₃, S₃, g₃, e₃, y⟩ := y
  refine gZ ?_
  exact ⟨m₃, H₃, S₃, g₃, (e₃.trans e₂).trans e₁, y⟩
theorem xj {a : Addr} {its : List Value} {k : Nat} (e : H a = some { cls := .type "tuple", data := .seq its.toArray k }) : vB C A L m H (.ref a) its.length (fun i v => its[i]? = some v) [a] := fun s S g Q E h => by
 have hl : s.heap.IsTuple a its.toArray := ⟨_, S.at_ _ _ e, rfl, _, rfl⟩
 have lt := Heap.lt_size (S.at_ _ _ e)
 refine wpAny_pyIter_tuple hl (h _ s.toks [s.heap.objs.size, a] (fun i h => h.IsTupleIter s.heap.objs.size a i ∧ h.IsTuple a its.toArray) rfl (fun A' hA => ?_) (by simp) (fun k h' t => ?_) (fun target v k s' Q' E' t q => ?_) ⟨⟨_, Heap.get?_push_size _ rfl, rfl, rfl⟩, hl.push _⟩)
 · have := Walks.tuple (prog := C.prog) (w := C.w) hA s.heap.objs.size a (Nat.ne_of_lt lt) its.toArray
   simpa using this
 · obtain ⟨⟨o, ho, _⟩, _⟩ := t; exact ⟨o, ho⟩
 · refine hdG fun gQ gZ => ?_
   obtain ⟨⟨o, ho, hc, hd⟩, _⟩ := t
   refine gZ ?_
   unfold letOwnedTupleGo
   split <;> first | exact wpAny_pure q | skip
   all_goals
    split
    · rename_i r a' heq
      cases heq
      refine wpAny_bind (wpAny_load ho ?_)
      rw [hc, hd]
      exact wpAny_pure q
    · exact wpAny_pure q
theorem zM {r : Addr} {a b c : Int} {t u v : Tok} (e : H r = some { cls := .type "range", dict := none, data := .fields #[.int a t, .int b u, .int c v], slots := #[] }) (hs : Builtin.Range.small a b c = true) {n : Nat} (hn : Builtin.Range.rangeSize a b c = n) :
 vB C A L m H (.ref r) n (fun i v => ∃ t, v = .int (a + i * c) t) [] := fun s S g Q E h => by
 refine wpAny_pyIter_range (S.at_ _ _ e) hs (h _ s.toks [s.heap.objs.size] (fun i h => IsRangeIter h s.heap.objs.size (a + (i : Nat) * c) ((n : Int) - (i : Nat)) c) rfl (fun A' hA => Walks.range hA _ a c n) (by simp) (fun k h' t => ⟨_, t⟩) (fun target v k s' Q' E' t q => ?_) ?_)
 · unfold letOwnedTupleGo
   split <;> first | exact wpAny_pure q | skip
   all_goals
    split
    · rename_i r a' heq
      cases heq
      refine wpAny_bind (wpAny_load t ?_)
      exact wpAny_pure q
    · exact wpAny_pure q
 · show IsRangeIter _ _ _ _ _
   rw [hn]; simpa using Heap.get?_push_size _ rfl
end
end
section
abbrev ze (its : List Value) (k : Nat) : Obj := { cls := .type "list", data := .seq its.toArray k }
section
variable {α β : Type} {C : Cx} {A : Around} {L : Addr} {E : PV} {m : Mp} {H : HF}
theorem St.moved {h h' : Heap} {I : Addr} (S : St C L m H h) (hI : H I = none) (nB : C.B I = none) (nL : I ≠ L) (k : ∀ b o, b ≠ I → h.get? b = some o → h'.get? b = some o) : St C L m H h' := by
 refine hdG fun gQ gZ => ?_
 obtain ⟨oL, a1, a2, hL, a3⟩ := S.ns
 refine gZ ?_
 exact ⟨⟨oL, a1, a2, k _ _ (Ne.symm nL) hL, a3⟩, fun a o e => k _ _ (fun q => by subst q; rw [hI] at e; cases e) (S.at_ a o e), S.no, fun b o e => (S.kb b o e).keep fun o' => k _ o' (fun q => by subst q; rw [nB] at e; cases e), S.new, S.nL⟩
theorem St.frame {h : Heap} {L' : Addr} {m' : Mp} (S : St C L m H h) (n : h.Ns L' m') (a : H L' = none) (b : C.B L' = none) : St C L' m' H h := ⟨n, S.at_, a, S.kb, S.new, b⟩
theorem wv {B : BF} {I b : Addr} {o : Obj} (h : b ≠ I) : qG B I o b = B b := by unfold qG; rw [if_neg h]
theorem St.put {h : Heap} (S : St C L m H h) {a : Addr} {o : Obj} (e : h.get? a = some o) (nB : C.B a = none) (nL : a ≠ L) : St C L m (put H a o) h := by
 refine ⟨S.ns, fun b ob eb => ?_, ?_, S.kb, fun b ob eb => ?_, S.nL⟩
 · by_cases q : b = a
   · subst q; rw [zb] at eb; cases eb; exact e
   · rw [za q] at eb; exact S.at_ _ _ eb
 · rw [za (Ne.symm nL)]; exact S.no
 · by_cases q : b = a
   · subst q; exact nB
   · rw [za q] at eb; exact S.new _ _ eb
noncomputable def JT (ifs : List Expr) (env : Env) : Sem Bool := forIn ifs true fun c r => if r = true then do let ok ← isTrue c env (eval c env); pure (ForInStep.yield ok) else pure (ForInStep.yield r)
theorem vm {env : Env} {Q : Bool → Mp → HF → Prop} (h : Q true m H) : W C A L (JT [] env) Q E m H := fun s S g => wpAny_tests_nil ⟨m, H, S, g, rfl, h⟩
theorem qe {env : Env} {c : Expr} {Q : Bool → Mp → HF → Prop} (h : W C A L (isTrue c env (eval c env)) Q E m H) : W C A L (JT [c] env) Q E m H := fun s S g => wpAny_tests_one (h s S g)
noncomputable def Y2 (C : Cx) (A : Around) (env : Env) (scope : Scope) (cl : List (Str × Addr)) (x : Str) (ifs : List Expr) (elt : Expr) (n : Nat) (P : Nat → Value → Prop) (Inv : Nat → List Value → HF → Prop) : Prop :=
 ∀ B' Lc k ys v mc H, Ext C.B B' → k < n → ys.length ≤ k → P k v → mc x = some v → Inv k ys H → W (C.at_ B') A (compEnvC scope cl Lc env).locals (JT ifs (compEnvC scope cl Lc env)) (fun ok m H => match ok with
  | true => W (C.at_ B') A (compEnvC scope cl Lc env).locals (eval elt (compEnvC scope cl Lc env)) (fun y _ H => Inv (k + 1) (ys ++ [y]) H) no m H
  | false => Inv (k + 1) ys H) no mc H
theorem YI {elt iter : Expr} {x : Str} {px : Pos} {ifs : List Expr} {scope : Scope} {cl : List (Str × Addr)} {pos : Pos} {env : Env} {I : Addr} {fp D : List Addr} {n : Nat} {P : Nat → Value → Prop} {T : Nat → Heap → Prop} (Inv : Nat → List Value → HF → Prop)
 {R : Value → Addr → Result → Shared → Prop} {Es : Value → Shared → Prop}
 (Wk : Walks C.prog C.w A I fp [I] n P T) (hsz : n ≤ sizeLine) (hfp : ∀ b ∈ fp, b = I ∨ b ∈ D) (alive : ∀ k h, T k h → ∃ o, h.get? I = some o)
 (hcell : ∀ y ∈ scope.names, y.2 ≠ .cell) (hkind : scope.kind = .function) (hx : scope.names.lookup x = some .local)
 (hD : ∀ b ∈ D, (∃ o, C.B b = some (false, o)) ∨ ∃ o, ∀ k ys H, Inv k ys H → H b = some o)
 (nB : C.B I = none) (nL : I ≠ L) (step : Y2 C A env scope cl x ifs elt n P Inv)
 {s₀ s : Shared} (eo : s.os = s₀.os) (g : s.gens = #[]) (S : St C L m H s.heap) (i0 : Inv 0 [] H) (hI : H I = none) (t0 : T 0 s.heap)
 (hR : ∀ s' (ys : List Value) H' Dd k Lc mc, s'.os = s₀.os → s'.gens = #[] → St C L m (put H' Dd (ze ys k)) s'.heap → H' Dd = none → Dd ≠ L → Inv n ys H' → s'.heap.Ns Lc mc → Lc ≠ L → Lc ≠ Dd → H' Lc = none → C.B Lc = none → R (.ref Dd) Lc (.ok .next) s') :
 wpAny C.M A (newList []) (fun acc s₃ => wpAny C.M A (newFunctionEnv scope env.globals cl [] env.qual none .none (some env)) (fun cenv s₄ =>
  codeAny C.M A (.compStart (.ListComp elt [⟨.Name x px, iter, ifs, 0⟩] scope pos) 0 (.ref I) acc { cenv with scope := relabel scope env }) (R acc cenv.locals) s₄) Es s₃) Es s := by
 refine wpAny_newObj_type (wpAny_newFunctionEnv hcell (by intro y hy; simp at hy) (fun h₁ hns₁ hsb₁ => ?_) hkind)
 dsimp only at hns₁ hsb₁ ⊢
 have fD := S.fresh (zt s.heap)
 have hDp : (s.heap.push { cls := .type "list", dict := none, data := .seq ([] : List Value).toArray }).get? s.heap.objs.size = some (ze [] 0) := Heap.get?_push_size _ rfl
 generalize hH2 : s.heap.push { cls := .type "list", dict := none, data := .seq ([] : List Value).toArray } = H2 at hns₁ hsb₁ hDp ⊢
 have k2 : ∀ b o, s.heap.get? b = some o → H2.get? b = some o := fun b o e => hH2 ▸ Heap.get?_push_of_some _ e
 have S2 : St C L m H H2 := S.keeps k2
 have fC := S2.fresh (zt H2)
 have hDC : s.heap.objs.size ≠ H2.objs.size := fun q => by have := Heap.lt_size hDp; rw [q] at this; exact Nat.lt_irrefl _ this
 have k3 : ∀ b o, H2.get? b = some o → h₁.get? b = some o := fun b o e => hsb₁.extBut b o (Nat.ne_of_lt (Heap.lt_size e)) (Heap.get?_push_of_some _ e)
 obtain ⟨oI, hoI⟩ := alive _ _ t0
 have hID : I ≠ s.heap.objs.size := Nat.ne_of_lt (Heap.lt_size hoI)
 have hIC : I ≠ H2.objs.size := Nat.ne_of_lt (Heap.lt_size (k2 _ _ hoI))
 have loop : ∀ s₃ : Shared, s₃ = { s with heap := h₁, toks := s.toks + ([] : List (Str × Value)).length } →
  codeAny C.M A (.compLoop (.ListComp elt [⟨.Name x px, iter, ifs, 0⟩] scope pos) 0 (.ref I) (.ref s.heap.objs.size) (compEnvC scope cl H2.objs.size env)) (R (.ref s.heap.objs.size) H2.objs.size) s₃ := by
  rintro s₃ rfl
  refine codeAny_compLoop_tests (fun j s' => ∃ i ys H' mc kk, i ≤ n ∧ j = n + 1 - i ∧ ys.length ≤ i ∧ s'.os = s₀.os ∧ s'.gens = #[] ∧ St C L m H' s'.heap ∧ Inv i ys H' ∧ H' I = none ∧ H' s.heap.objs.size = none ∧ H' H2.objs.size = none ∧
   s'.heap.Ns H2.objs.size mc ∧ s'.heap.get? s.heap.objs.size = some (ze ys kk) ∧ T i s'.heap) ?_ (n + 1)
   (qM 0 [] H _ 0 (KA (Nat.zero_le _) rfl (Nat.le_refl _) eo g (S2.keeps k3) i0 hI fD.1 fC.1 (hns₁) (k3 _ _ hDp) (Wk.frame _ _ _ t0 fun b _ o e => k3 _ _ (k2 _ _ e))))
  intro j s' hri
  obtain ⟨i, ys, H₁, mc, kk, hi, rfl, hys, eo₁, g₁, S₁, I₁, hI₁, hD₁, hC₁, n₁, l₁, t₁⟩ := hri
  by_cases hlt : i < n
  · refine Wk.item i s' _ _ hlt t₁ fun v h' tk hP t₂ hk => ?_
    have hk' : ∀ b o, b ≠ I → s'.heap.get? b = some o → h'.get? b = some o := fun b o nb e => hk b o (by simp [nb]) e
    have S₂ := S₁.moved hI₁ nB nL hk'
    have n₂ : h'.Ns H2.objs.size mc := n₁.at' fun o e => hk' _ o (Ne.symm hIC) e
    refine wpAny_assign_Name (wpAny_storeName_local (env := compEnvC scope cl H2.objs.size env) (lookup_relabel_local hx) n₂ (fun h₂ hn₂ hs₂ => ?_) (by simp [compEnvC, relabel, hkind]))
    have up : ∀ b o, b ≠ H2.objs.size → h'.get? b = some o → h₂.get? b = some o := fun b o nb e => hs₂.extBut b o nb e
    have S₃ : St C L m H₁ h₂ := S₂.moved hC₁ fC.2.2 fC.2.1 up
    have t₃ : T (i + 1) h₂ := Wk.frame _ _ _ t₂ fun b hb o e => by
     rcases hfp b hb with rfl | hb
     · exact up _ _ hIC e
     · rcases hD b hb with ⟨ob, kob⟩ | ⟨ob, kob⟩
       · exact up _ _ (fun q => by rw [q, fC.2.2] at kob; cases kob) e
       · have := kob _ _ _ I₁
         exact up _ _ (fun q => by rw [q, hC₁] at this; cases this) e
    obtain ⟨oL, b1, b2, hL, b3⟩ := S₃.ns
    obtain ⟨oI', hoI'⟩ := alive _ _ t₃
    have l₃ : h₂.get? s.heap.objs.size = some (ze ys kk) := up _ _ hDC (hk' _ _ (Ne.symm hID) l₁)
    have nLC : L ≠ H2.objs.size := Ne.symm fC.2.1
    -- the frame of the comprehension, Jr all that stands still
    have S₄ : St C H2.objs.size (fun y => if y = x then some v else mc y) H₁ h₂ := S₃.frame hn₂ hC₁ fC.2.2
    have S₅ := S₄.hide hL S₃.no nLC
    have S₆ := St.hide S₅ l₃ hD₁ hDC
    have S₇ := St.hide S₆ hoI' hI₁ hIC
    have nB1 : qG C.B L oL s.heap.objs.size = none := by rw [wv fD.2.1]; exact fD.2.2
    have nB2 : qG (qG C.B L oL) s.heap.objs.size (ze ys kk) I = none := by rw [wv hID, wv nL]; exact nB
    have ex : Ext C.B (qG (qG (qG C.B L oL) s.heap.objs.size (ze ys kk)) I oI') := ((yP S₁.nL).trans (yP nB1)).trans (yP nB2)
    -- what stands after a run in it
    have after : ∀ (s₄ : Shared) m₄ H₄, St ⟨C.prog, C.w, qG (qG (qG C.B L oL) s.heap.objs.size (ze ys kk)) I oI'⟩ H2.objs.size m₄ H₄ s₄.heap →
     St C L m H₄ s₄.heap ∧ H₄ I = none ∧ H₄ s.heap.objs.size = none ∧ H₄ H2.objs.size = none ∧ s₄.heap.Ns H2.objs.size m₄ ∧ s₄.heap.get? s.heap.objs.size = some (ze ys kk) ∧ (∀ ys', Inv (i + 1) ys' H₄ → T (i + 1) s₄.heap) := fun s₄ m₄ H₄ X => by
     refine zw (St.show (C := ⟨C.prog, C.w, qG (qG C.B L oL) s.heap.objs.size (ze ys kk)⟩) nB2 X) fun X1 x1 y1 => ?_
     refine zw (St.show (C := ⟨C.prog, C.w, qG C.B L oL⟩) nB1 X1) fun X2 x2 y2 => ?_
     refine zw (St.show S₁.nL X2) fun X3 x3 y3 => ?_
     have X4 : St C L m H₄ s₄.heap := X3.frame ⟨oL, b1, b2, x3, b3⟩ y3 S₁.nL
     refine (Zm X4 y1 y2 X3.no X3.ns x2 (fun ys' iv => Wk.frame _ _ _ t₃ fun b hb o e => ?_))
     rcases hfp b hb with rfl | hb
     · rw [hoI'] at e; cases e; exact x1
     · rcases hD b hb with ⟨ob, kob⟩ | ⟨ob, kob⟩
       · obtain rfl := Option.some.inj ((show h₂.get? b = some ob from S₃.kb b (false, ob) kob).symm.trans e); exact X4.kb b (false, _) kob
       · obtain rfl := Option.some.inj ((S₃.at_ b ob (kob _ _ _ I₁)).symm.trans e); exact X4.at_ b _ (kob _ _ _ iv)
    have w₁ := step _ H2.objs.size i ys v _ H₁ ex hlt hys hP (by simp) I₁ ⟨h₂, s'.gens, s'.drawn, tk + 1, s'.os⟩ S₇ g₁
    refine wpAny_mono w₁ (fun ok s₄ z => ?_) fun _ _ z => by obtain ⟨_, _, _, _, _, z⟩ := z; exact z.elim
    obtain ⟨m₄, H₄, S₈, g₄, e₄, z⟩ := z
    cases ok with
    | false =>
     rw [if_neg (by decide)]
     refine vL (after s₄ m₄ H₄ S₈) fun X4 y1 y2 y3 y4 y5 y6 => ?_
     exact (xa (n + 1 - (i + 1)) (yg (by omega) (qM (i + 1) ys (H₄) _ kk (KA hlt rfl (by omega) (e₄.trans eo₁) (g₄) X4 z y1 y2 y3 y4 y5 (y6 _ z)))))
    | true =>
     rw [if_pos rfl]
     refine wpAny_mono (z s₄ S₈ g₄) (fun y s₅ z => ?_) fun _ _ z => by obtain ⟨_, _, _, _, _, z⟩ := z; exact z.elim
     obtain ⟨m₅, H₅, S₉, g₅, e₅, z⟩ := z
     refine vL (after s₅ m₅ H₅ S₉) fun X4 y1 y2 y3 y4 y5 y6 => ?_
     refine wpAny_list_append_plain (hsz := by rw [List.size_toArray]; omega) ⟨kk, y5⟩ fun h₆ hl₆ hs₆ => ?_
     obtain ⟨kk', hl₆⟩ := hl₆
     have up₆ : ∀ b o, b ≠ s.heap.objs.size → s₅.heap.get? b = some o → h₆.get? b = some o := fun b o nb e => hs₆.extBut b o nb e
     refine (xa (n + 1 - (i + 1)) (yg (by omega) (qM (i + 1) (ys ++ [y]) (H₅) (m₅) kk' (KA hlt rfl (by rw [List.length_append, List.length_singleton]; omega) ((e₅.trans e₄).trans eo₁) (g₅) (X4.moved y2 fD.2.2 fD.2.1 up₆) z y1 y2 y3
      (y4.at' fun o e => up₆ _ o (Ne.symm hDC) e) (by simpa using hl₆) (Wk.frame _ _ _ (y6 _ z) fun b hb o e => up₆ b o (fun q => ?_) e)))))
     rcases hfp b hb with rfl | hb
     · exact hID q
     · rcases hD b hb with ⟨ob, kob⟩ | ⟨ob, kob⟩
       · rw [q, fD.2.2] at kob; cases kob
       · have := kob _ _ _ z; rw [q, y2] at this; cases this
  · have hin : i = n := by omega
    subst hin
    refine Wk.done s' _ _ t₁ fun h' tk hk => ?_
    have hk' : ∀ b o, b ≠ I → s'.heap.get? b = some o → h'.get? b = some o := fun b o nb e => hk b o (by simp [nb]) e
    have S₂ := S₁.moved hI₁ nB nL hk'
    exact hR ⟨h', s'.gens, s'.drawn, tk, s'.os⟩ ys H₁ s.heap.objs.size kk H2.objs.size mc eo₁ g₁ (S₂.put (hk' _ _ (Ne.symm hID) l₁) fD.2.2 fD.2.1) hD₁ fD.2.1 I₁ (n₁.at' fun o e => hk' _ o (Ne.symm hIC) e) fC.2.1 (Ne.symm hDC) hC₁ fC.2.2
 exact codeAny_compStart_list (loop _ rfl) (Wk.self 0 _ _ _ (Wk.frame _ _ _ t0 fun b _ o e => k3 _ _ (k2 _ _ e)) (loop _ rfl))
end
end
section
section
variable {α β : Type} {C : Cx} {A : Around} {L : Addr} {E : PV} {m : Mp} {H : HF}
noncomputable def Qn (C : Cx) (A : Around) (env : Env) (scope : Scope) (cl : List (Str × Addr)) (x : Str) (ifs : List Expr) (elt : Expr) (L : Addr) (m : Mp) (H : HF) (xv : Value) (last : List Value → HF → Prop) : Prop :=
 ∃ n P D, ∃ Inv : Nat → List Value → HF → Prop, n ≤ sizeLine ∧ vB C A L m H xv n P D ∧ Inv 0 [] H ∧ (∀ b ∈ D, (∃ o, C.B b = some (false, o)) ∨ ∃ o, ∀ k ys H, Inv k ys H → H b = some o) ∧
  Y2 C A env scope cl x ifs elt n P Inv ∧ ∀ ys H, Inv n ys H → last ys H
theorem kJ {elt iter : Expr} {x : Str} {px : Pos} {ifs : List Expr} {scope : Scope} {cl : List (Str × Addr)} {pos : Pos} {env : Env} {Q : PV} (hh : A.handled = none)
 (h : W C A env.locals (eval iter env) (fun xv m H => Qn C A env scope cl x ifs elt env.locals m H xv (fun ys H' => ∀ a k, H' a = none → a ≠ env.locals → Q (.ref a) m (put H' a (ze ys k)))) E m H)
 (hclos : closureFor scope env = pure cl) (hcell : ∀ y ∈ scope.names, y.2 ≠ .cell := by decide) (hkind : scope.kind = .function := by rfl)
 (hnames : ∀ y ∈ scope.names, y.2 = .local → scope.names.lookup y.1 = some .local := by decide) (hx : scope.names.lookup x = some .local := by rfl)
 (hs : ∀ x, foldedSetIterable iter env x = pure x := by intro _; rfl) :
 W C A env.locals (eval (.ListComp elt [⟨.Name x px, iter, ifs, 0⟩] scope pos) env) Q E m H := fun s S g => by
 rw [eval_ListComp]
 refine wpAny_comprehension_free (use := none) rfl hs hclos hkind hnames (h.useQ S g rfl fun xv m₁ H₁ s₁ S₁ g₁ e₁ z => ?_)
 refine hdG fun gQ gZ => ?_
 obtain ⟨n, P, D, Inv, hsz, st, i0, hD, step, last⟩ := z
 refine gZ ?_
 refine st s₁ S₁ g₁ _ _ fun o tk fp T hf Wk hfp alive hlet t0 => ?_
 have p := S₁.keeps (h' := s₁.heap.push o) (fun _ _ e => Heap.get?_push_of_some _ e)
 refine zw (S₁.fresh (zt s₁.heap)) fun f1 f2 f3 => ?_
 refine YI Inv (Wk A hh) hsz hfp alive hcell hkind hx hD f3 f2 step e₁ g₁ p i0 f1 t0 fun s' ys H' Dd k Lc mc eo g' S' d1 d2 iv nC c1 c2 c3 c4 => ?_
 exact ⟨mc, nC, fun h'' hs'' => ⟨m₁, _, S'.moved (by rw [za c2]; exact c3) c4 c1 (fun b o nb e => hs''.extBut b o nb e), g', eo, last _ _ iv Dd k d1 d2⟩⟩
theorem je {elt iter : Expr} {x y : Str} {px py : Pos} {ifs : List Expr} {scope : Scope} {cl : List (Str × Addr)} {pos spos : Pos} {env : Env} {Q : PF} (hh : A.handled = none)
 (h : W C A env.locals (eval iter env) (fun xv m H => Qn C A env scope cl x ifs elt env.locals m H xv (fun ys H' => ∀ a k, H' a = none → a ≠ env.locals → Q .next (set m y (.ref a)) (put H' a (ze ys k)))) E m H)
 (hclos : closureFor scope env = pure cl) (hk : env.scope.kind = .function := by kernel_rfl) (hy : env.kindOf y = some .local := by kernel_rfl) (hcell : ∀ y ∈ scope.names, y.2 ≠ .cell := by decide +kernel) (hkind : scope.kind = .function := by kernel_rfl)
 (hnames : ∀ y ∈ scope.names, y.2 = .local → scope.names.lookup y.1 = some .local := by decide +kernel) (hx : scope.names.lookup x = some .local := by kernel_rfl)
 (hs : ∀ x, foldedSetIterable iter env x = pure x := by intro _; rfl) (hsw : swapsWith (.ListComp elt [⟨.Name x px, iter, ifs, 0⟩] scope pos) (some (.Name y py)) spos.line env = pure true := by kernel_rfl) :
 W C A env.locals (exec (.Assign [.Name y py] (.ListComp elt [⟨.Name x px, iter, ifs, 0⟩] scope pos) spos) env) Q E m H := fun s S g => by
 rw [exec_Assign_Name_used _ _ _ _ hsw]
 refine wpAny_bind (wpAny_standAt (wpAny_bind ?_))
 show wpAny _ A (do let _ ← comprehension (.ListComp elt [⟨.Name x px, iter, ifs, 0⟩] scope pos) scope env _ (newList []) false (eval iter env) (some (assign (.Name y py) env))) _ _ s
 refine wpAny_bind (wpAny_mono (wpAny_comprehension_free (use := some (assign (.Name y py) env)) (Q := fun _ s' => QS C env.locals s Q .next s') rfl hs hclos hkind hnames
  (h.useQ S g rfl fun xv m₁ H₁ s₁ S₁ g₁ e₁ z => ?_)) (fun _ s' hq => wpAny_pure (wpAny_pure hq)) fun _ _ e => e)
 refine hdG fun gQ gZ => ?_
 obtain ⟨n, P, D, Inv, hsz, st, i0, hD, step, last⟩ := z
 refine gZ ?_
 refine st s₁ S₁ g₁ _ _ fun o tk fp T hf Wk hfp alive hlet t0 => ?_
 have p := S₁.keeps (h' := s₁.heap.push o) (fun _ _ e => Heap.get?_push_of_some _ e)
 refine zw (S₁.fresh (zt s₁.heap)) fun f1 f2 f3 => ?_
 refine YI Inv (Wk A hh) hsz hfp alive hcell hkind hx hD f3 f2 step e₁ g₁ p i0 f1 t0 fun s' ys H' Dd k Lc mc eo g' S' d1 d2 iv nC c1 c2 c3 c4 => ?_
 show wpAny _ A (assign (.Name y py) env (.ref Dd)) _ _ _
 refine wpAny_assign_Name (wpAny_storeName_local hy S'.ns (fun h₂ hn₂ hs₂ => ?_) (by rw [hk]; rfl))
 have S₂ := S'.setName hn₂ hs₂
 exact (zd mc (nC.sameBut hs₂ c1) (fun h'' hs'' => ⟨_, _, S₂.moved (by rw [za c2]; exact c3) c4 c1 (fun b o nb e => hs''.extBut b o nb e), g', eo, last _ _ iv Dd k d1 d2⟩))
end
end
section
abbrev S' (l : List Nat) : Str := ⟨l.toArray⟩
section
variable {α β : Type} {C : Cx} {A : Around} {L : Addr} {E : PV} {m : Mp} {H : HF}
section
variable {K : Frag} {mg mb : Mp} {q : Program} {loose : List Str}
theorem zh {id : Str} {p pos : Pos} {env : Env} {e : Expr} {rest : List Expr} {Q : PV} {b : String} (X : Bd K mg mb q loose C) (hf : nsIn K mainGlobals id = some none) (hv : bootBuiltins id = some (.builtin b))
 (h : W C A L (spliced (backTo pos (starEach (e :: rest) env))) (fun vs m H => W C A L (call (.builtin b) vs) Q E m H) E m H) (hn : id ≠ "__name__" := by decide +kernel)
 (he : starEach (e :: rest) env = (false, eval e env) :: starEach rest env := by kernel_rfl) (hplain : (backTo pos (starEach (e :: rest) env)).any (·.1) = false := by kernel_rfl)
 (hk : env.scope.kind = .function := by kernel_rfl) (hx : env.kindOf id = some .globalImplicit := by kernel_rfl) (hg : env.globals = mainGlobals := by kernel_rfl) (hb : env.builtins = builtinsNs := by kernel_rfl) (hd : (id == ("__debug__" : Str)) = false := by decide +kernel) :
 W C A L (eval (.Call (.Name id p) (e :: rest) [] pos) env) Q E m H := fun s S g => by
 refine wpAny_Call_Name_kw ((vq (C := C) (A := A) (L := L) (m := m) (H := H) (E := E) (Q := fun v m' H' => v = .builtin b ∧ m' = m ∧ H' = H) X hf hv (zl rfl rfl rfl) hn hk hx hg hb hd).useQ S g rfl fun v m' H' s' S' g' eo z => ?_)
 refine zw z fun hq0 hq1 hq2 => ?_
 try clear z
 obtain rfl := hq0
 obtain rfl := hq1
 obtain rfl := hq2
 show wpAny _ _ (callWith pos _ [] (backTo pos (starEach (e :: rest) env)) []) _ _ _
 refine Calls.callWith_builtin hplain ?_
 rw [he] at h ⊢
 exact Calls.evalArgs_plain (h.useQ S' g' eo fun vs m' H' s' S' g' eo z => z.go S' g' eo)
theorem zN {id : Str} {p pos : Pos} {env : Env} {e : Expr} {rest : List Expr} {Q : PV} {b : String} (X : Bd K mg mb q loose C) (hf : nsIn K mainGlobals id = some none) (hv : bootBuiltins id = some (.type b))
 (h : W C A L (spliced (backTo pos (starEach (e :: rest) env))) (fun vs m H => W C A L (call (.type b) vs) Q E m H) E m H) (hn : id ≠ "__name__" := by decide +kernel)
 (he : starEach (e :: rest) env = (false, eval e env) :: starEach rest env := by kernel_rfl) (hplain : (backTo pos (starEach (e :: rest) env)).any (·.1) = false := by kernel_rfl)
 (hk : env.scope.kind = .function := by kernel_rfl) (hx : env.kindOf id = some .globalImplicit := by kernel_rfl) (hg : env.globals = mainGlobals := by kernel_rfl) (hb : env.builtins = builtinsNs := by kernel_rfl) (hd : (id == ("__debug__" : Str)) = false := by decide +kernel) :
 W C A L (eval (.Call (.Name id p) (e :: rest) [] pos) env) Q E m H := fun s S g => by
 refine wpAny_Call_Name_kw ((vq (C := C) (A := A) (L := L) (m := m) (H := H) (E := E) (Q := fun v m' H' => v = .type b ∧ m' = m ∧ H' = H) X hf hv (zl rfl rfl rfl) hn hk hx hg hb hd).useQ S g rfl fun v m' H' s' S' g' eo z => ?_)
 refine zw z fun hq0 hq1 hq2 => ?_
 try clear z
 obtain rfl := hq0
 obtain rfl := hq1
 obtain rfl := hq2
 show wpAny _ _ (callWith pos _ [] (backTo pos (starEach (e :: rest) env)) []) _ _ _
 refine PySem.callWith_type hplain ?_
 rw [he] at h ⊢
 exact Calls.evalArgs_plain (h.useQ S' g' eo fun vs m' H' s' S' g' eo z => z.go S' g' eo)
theorem xO {id : Str} {p pos : Pos} {env : Env} {Q : PV} {b : String} (X : Bd K mg mb q loose C) (hf : nsIn K mainGlobals id = some none) (hv : bootBuiltins id = some (.type b))
 (h : W C A L (call (.type b) []) Q E m H) (hn : id ≠ "__name__" := by decide +kernel)
 (hk : env.scope.kind = .function := by kernel_rfl) (hx : env.kindOf id = some .globalImplicit := by kernel_rfl) (hg : env.globals = mainGlobals := by kernel_rfl) (hb : env.builtins = builtinsNs := by kernel_rfl) (hd : (id == ("__debug__" : Str)) = false := by decide +kernel) :
 W C A L (eval (.Call (.Name id p) [] [] pos) env) Q E m H := fun s S g => by
 refine wpAny_Call_Name_kw ((vq (C := C) (A := A) (L := L) (m := m) (H := H) (E := E) (Q := fun v m' H' => v = .type b ∧ m' = m ∧ H' = H) X hf hv (zl rfl rfl rfl) hn hk hx hg hb hd).useQ S g rfl fun v m' H' s' S' g' eo z => ?_)
 refine zw z fun hq0 hq1 hq2 => ?_
 try clear z
 obtain rfl := hq0
 obtain rfl := hq1
 obtain rfl := hq2
 show wpAny _ _ (callWith pos _ [] [] []) _ _ _
 exact PySem.callWith_type rfl (evalArgs_nil3 (h.go S' g' eo))
end
noncomputable def Qm (H : HF) (v : Value) (T : String) : Prop := (∃ x t, v = .str x t ∧ T = "str") ∨ ∃ a o, v = .ref a ∧ H a = some o ∧ o.cls = .type T ∧ o.dict = none
theorem Qm.str {x : Str} {t : Tok} : Qm H (.str x t) "str" := .inl (zO x t rfl rfl)
theorem Qm.ref {a : Addr} {T : String} {d : Data} {sl : Array (Option Value)} (e : H a = some ⟨.type T, none, d, sl⟩) : Qm H (.ref a) T := .inr (qN a _ rfl e rfl rfl)
theorem Qm.typeIs {s : Shared} {v : Value} {T : String} (S : St C L m H s.heap) (h : Qm H v T) : s.TypeIs v T ∧ ∀ a, v = .ref a → ∃ ob, s.heap.get? a = some ob ∧ ob.dict = none := by
 rcases h with ⟨x, t, rfl, rfl⟩ | ⟨a, o, rfl, e, hc, hd⟩
 · exact ⟨typeIs_str _ _ _, fun _ => nofun⟩
 · exact ⟨⟨_, S.at_ _ _ e, hc⟩, fun b hb => by cases hb; exact (zd _ (S.at_ _ _ e) hd)⟩
theorem zC {o : Expr} {name : Str} {apos pos : Pos} {e : Expr} {rest : List Expr} {env : Env} {Q : PV}
 (h : W C A L (eval o env) (fun ov m H => ∃ T id, PlainAttrs T ∧ Slot T name id ∧ typeOf (.builtin id) = pure (.type "method_descriptor") ∧ Qm H ov T ∧
  W C A L (spliced (backTo pos (starEach (e :: rest) env))) (fun vs m H => W C A L (call (.builtin id) (ov :: vs)) Q E m H) E m H) E m H)
 (hbase : attributeBase o name env (eval o env) = eval o env := by kernel_rfl)
 (hfew : ((backTo pos (starEach (e :: rest) env)).all (fun x => !x.1) && (backToKw pos (keywordEach [] env)).all (fun x => x.1.isSome)
  && decide ((e :: rest).length + ([] : List Keyword).length + (if ([] : List Keyword).isEmpty then 0 else 1) < 30)) = true := by kernel_rfl)
 (hline : (apos.endLine == pos.line) = true := by kernel_rfl)
 (he : starEach (e :: rest) env = (false, eval e env) :: starEach rest env := by kernel_rfl) (hplain : (backTo pos (starEach (e :: rest) env)).any (·.1) = false := by kernel_rfl) :
 W C A L (eval (.Call (.Attribute o name apos) (e :: rest) [] pos) env) Q E m H := fun s S g =>
 wpAny_Call_method_lateS hbase hfew hline (h.useQ S g rfl fun ov m' H' s' S' g' eo z => by
  refine qc z fun T id pa sl ty ht z => ?_
  obtain ⟨h1, h2⟩ := ht.typeIs S'
  refine ⟨T, id, pa, sl, ty, h1, h2, Calls.callWith_builtin hplain ?_⟩
  rw [he] at z ⊢
  exact Calls.evalArgs_plain (z.useQ S' g' eo fun vs m' H' s' S' g' eo z => z.go S' g' eo))
theorem qz {o : Expr} {name : Str} {apos pos : Pos} {env : Env} {Q : PV}
 (h : W C A L (eval o env) (fun ov m H => ∃ T id, PlainAttrs T ∧ Slot T name id ∧ typeOf (.builtin id) = pure (.type "method_descriptor") ∧ Qm H ov T ∧ W C A L (call (.builtin id) [ov]) Q E m H) E m H)
 (hbase : attributeBase o name env (eval o env) = eval o env := by kernel_rfl) (hline : (apos.endLine == pos.line) = true := by kernel_rfl) :
 W C A L (eval (.Call (.Attribute o name apos) [] [] pos) env) Q E m H := fun s S g =>
 wpAny_Call_method_lateS hbase rfl hline (h.useQ S g rfl fun ov m' H' s' S' g' eo z => by
  refine qc z fun T id pa sl ty ht z => ?_
  obtain ⟨h1, h2⟩ := ht.typeIs S'
  exact ⟨T, id, pa, sl, ty, h1, h2, Calls.callWith_builtin rfl (evalArgs_nil3 (z.go S' g' eo))⟩)
noncomputable def zS : Value → Option Int → Prop
 | .none, none => True
 | .int k _, some i => k = i
 | _, _ => False
theorem zS.i {k : Int} {t : Tok} : zS (.int k t) (some k) := rfl
theorem zS.n : zS .none none := trivial
theorem zS.value {v : Value} {i : Option Int} (h : zS v i) : ∃ p : Option (Int × Tok), v = partValue p ∧ p.map (·.1) = i := by
 cases v <;> cases i <;> first | exact h.elim | skip
 · exact (zd none rfl rfl)
 · rename_i k t i; exact (zd (some (k, t)) rfl (congrArg some h))
theorem Z8 {env : Env} {Q : PV} (h : Q .none m H) : W C A L (evalPart none env) Q E m H := YQ h
theorem Z7 {env : Env} {e : Expr} {Q : PV} (h : W C A L (eval e env) Q E m H) : W C A L (evalPart (some e) env) Q E m H := h
theorem Xu {value : Expr} {lower upper : Option Expr} {p pos : Pos} {env : Env} {Q : PV}
 (h : W C A L (eval value env) (fun o m H => W C A L (evalPart lower env) (fun vl m H => W C A L (evalPart upper env) (fun vu m H =>
  ∃ x t l u, o = .str x t ∧ zS vl l ∧ zS vu u ∧ x.length ≤ sizeLine ∧ ∀ t, Q (.str (Txt.slice x l u) t) m H) E m H) E m H) E m H)
 (ht : ∀ o r, letTemporaryGo value o r = pure () := by intro _ _; rfl) :
 W C A L (eval (.Subscript value (.Slice lower upper none p) pos) env) Q E m H := fun s S g =>
 wpAny_Subscript_str_slice (h.useQ S g rfl fun o m₁ H₁ s₁ S₁ g₁ e₁ z => z.useQ S₁ g₁ e₁ fun vl m₂ H₂ s₂ S₂ g₂ e₂ z => z.useQ S₂ g₂ e₂ fun vu m₃ H₃ s₃ S₃ g₃ e₃ z => by
  refine hdG fun gQ gZ => ?_
  refine KM z fun x t l u zq => vb zq fun hq4 hl hu hz hq => ?_
  try clear z
  obtain rfl := hq4
  refine zc hl.value fun pl hq1 hq2 => ?_
  obtain rfl := hq1
  obtain rfl := hq2
  refine zc hu.value fun pu hq1 hq2 => ?_
  refine gZ ?_
  obtain rfl := hq1
  obtain rfl := hq2
  refine (Ky x t pl pu (qs rfl rfl rfl (post_val_or_str ⟨Nat.le_trans (Txt.slice_le x _ _) hz, fun t' k => ⟨m₃, H₃, S₃.keeps fun _ _ e => Heap.get?_push_of_some _ e, g₃, e₃, hq t'⟩⟩)))) ht
theorem yx {x : Str} {t : Tok} {Q : PV} (hz : x.length ≤ sizeLine) (h : ∀ t, Q (.int x.length t) m H) : W C A L (call (.builtin "len") [.str x t]) Q E m H := fun s S g =>
 P.len_str (by rw [sizeLine_eq] at hz; omega) ⟨m, H, S, g, rfl, h _⟩
theorem VV {x y : Str} {t u : Tok} {Q : PV} (h : Q (.bool (x.cps.toList == y.cps.toList)) m H) : W C A L (compareOp .Eq (.str x t) (.str y u)) Q E m H := fun s S g => P.eq_str ⟨m, H, S, g, rfl, h⟩
theorem K8 {x y : Str} {t u : Tok} {Q : PV} (h : Q (.bool (Txt.contains x y)) m H) : W C A L (compareOp .In (.str y u) (.str x t)) Q E m H := fun s S g => SB.contains ⟨m, H, S, g, rfl, h⟩
theorem jC {x y : Str} {t u : Tok} {Q : PV} (hz : x.length + y.length ≤ sizeLine) (h : ∀ t, Q (.str (x ++ y) t) m H) : W C A L (binaryOp .Add (.str x t) (.str y u)) Q E m H := fun s S g => SB.add (fun t' k => ⟨m, H, S, g, rfl, h t'⟩) hz
theorem jB {n : Int} {t : Tok} {Q : PV} (h : ∀ a t u v, H a = none → a ≠ L → Q (.ref a) m (put H a { cls := .type "range", dict := none, data := .fields #[.int 0 t, .int n u, .int 1 v], slots := #[] })) :
 W C A L (call (.type "range") [.int n t]) Q E m H := fun s S g => call_range_1 (by
 have p := S.push (o := { cls := .type "range", data := .fields #[.int 0 s.toks, .int n t, .int 1 (s.toks + 1)] }) rfl
 exact ⟨m, _, p.1, g, rfl, h _ _ _ _ p.2.1 p.2.2⟩)
theorem jA {n k : Int} {t u : Tok} {Q : PV} (h : ∀ a t u v, H a = none → a ≠ L → Q (.ref a) m (put H a { cls := .type "range", dict := none, data := .fields #[.int n t, .int k u, .int 1 v], slots := #[] })) :
 W C A L (call (.type "range") [.int n t, .int k u]) Q E m H := fun s S g => call_range_2 (by
 have p := S.push (o := { cls := .type "range", data := .fields #[.int n t, .int k u, .int 1 s.toks] }) rfl
 exact ⟨m, _, p.1, g, rfl, h _ _ _ _ p.2.1 p.2.2⟩)
end
end
section
section
variable {α β : Type} {C : Cx} {A : Around} {L : Addr} {E : PV} {m : Mp} {H : HF} {env : Env}
theorem wg {x : Str} {pos : Pos} {v : Value} {c : Addr} {o : Obj} {Q : PV} (hc : env.cells.lookup x = some c) (ho : H c = some o) (hd : o.data = .cell (some v)) (h : Q v m H) (hk : env.scope.kind = .function := by kernel_rfl) (hl : env.kindOf x = some .cell := by kernel_rfl)
 (hd' : (x == ("__debug__" : Str)) = false := by decide +kernel) : W C A L (eval (.Name x pos) env) Q E m H :=
 fun s S g => wpAny_Name (wpAny_loadName_cell hk hl hc ⟨o, S.at_ _ _ ho, hd⟩ ⟨m, H, S, g, rfl, h⟩) hd'
theorem Z5 {x : Str} {v : Value} {v₀ : Option Value} {c : Addr} {o : Obj} {Q : Unit → Mp → HF → Prop} (hc : env.cells.lookup x = some c) (ho : H c = some o) (hd : o.data = .cell v₀) (h : ∀ o', o'.data = .cell (some v) → Q () m (put H c o'))
 (hk : env.scope.kind = .function := by kernel_rfl) (hl : env.kindOf x = some .cell := by kernel_rfl) : W C A L (storeName env x v) Q E m H :=
 fun s S g => wpAny_storeName_cell hk hl hc ⟨o, S.at_ _ _ ho, hd⟩ fun h' hv hs => by
  obtain ⟨o', e1, e2⟩ := hv
  exact ⟨m, _, S.same ho hs e1, g, rfl, h o' e2⟩
theorem jr {x : Str} {p' pos : Pos} {value : Expr} {c : Addr} {Q : PF} (hc : env.cells.lookup x = some c)
 (h : W C A env.locals (eval value env) (fun v m H => ∃ o v₀, H c = some o ∧ o.data = .cell v₀ ∧ ∀ o', o'.data = .cell (some v) → Q .next m (put H c o')) E m H)
 (hk : env.scope.kind = .function := by kernel_rfl) (hl : env.kindOf x = some .cell := by kernel_rfl) (hs : swapsWith value (some (.Name x p')) pos.line env = pure false := by kernel_rfl) :
 W C A env.locals (exec (.Assign [.Name x p'] value pos) env) Q E m H :=
 fun s S g => wpAny_Assign_Name (h.useQ S g rfl fun v m' H' s' S' g' eo q => by
  refine hdG fun gQ gZ => ?_
  obtain ⟨o, v₀, ho, hd, q⟩ := q
  refine gZ ?_
  exact wpAny_mono (Z5 (C := C) (A := A) (E := E) (Q := fun _ => Q .next) hc ho hd q hk hl s' S' g') (fun _ _ z => z.os eo) fun _ _ z => z.os eo) hs
theorem jp {K : Frag} {mg mb : Mp} {q : Program} {loose : List Str} {oc : Value} {od : Option Addr} {osl : Array (Option Value)} {name qual : Str} {params : Arguments} {body : List Stmt} {scope : Scope} {dV kV doc pm cdv ct : Value} {an : Option Addr}
 {f : Addr} {vs : List Value} {binds : List (Str × Value)} {Q : PV} {Qf : Value → HF → Prop} (Hf : HF)
 (X : Bd K mg mb q loose C) (ho : K.lookup f = some ⟨oc, od, .func (fnOf name qual params body scope dV kV doc pm an cdv ct), osl⟩) (hcd : codeIn K cdv qual = true) (hroom : A.depth < recursionLimit)
 (hbind : bindArgs (fnOf name qual params body scope dV kV doc pm an cdv ct) ⟨vs, []⟩ = pure binds)
 (hkind : ∀ L', ∀ x ∈ binds, scope.names.lookup x.1 = some .local ∨ (scope.names.lookup x.1 = some .cell ∧ ((cellsFrom (L' + 1) scope.names []).lookup x.1).isSome = true)) (hsub : Ext Hf H)
 (h : ∀ B' L' Hc, Ext C.B B' → Ext Hf Hc → (∀ n c, (cellsFrom (L' + 1) scope.names []).lookup n = some c → ∃ o, Hc c = some o ∧ o.data = .cell (bindC (envOfC qual scope L' f cdv).kindOf binds (fun _ => none) n)) →
  W (C.at_ B') (A.deeper (envOfC qual scope L' f cdv)) (envOfC qual scope L' f cdv).locals (execs body (envOfC qual scope L' f cdv)) (fun fl _ H' => Qf (match fl with | .ret v => v | _ => .none) H') (fun _ _ _ => False) (bindL (envOfC qual scope L' f cdv).kindOf binds (fun _ => none)) Hc)
 (k : ∀ v Hf' H', Qf v Hf' → Upd Hf H Hf' H' → Q v m H')
 (hco : scope.isCoroutine = false := by kernel_rfl) (hgen : scope.isGenerator = false := by kernel_rfl) (hk : scope.kind = .function := by kernel_rfl) :
 W C A L (call (.ref f) vs []) Q E m H := fun s S g => by
 refine wpAny_call (codeAny_call_cells (fd := fnOf name qual params body scope dV kV doc pm an cdv ct) (body := body) (binds := binds) hroom (X.K _ S.kb _ _ ho) rfl (X.T _ S.kb).nolimit (codeRec_of (X.K _ S.kb) hcd) rfl hbind rfl (hkind _) (fun s₁ ic => ?_) hco hgen hk)
 refine hdG fun gQ gZ => ?_
 obtain ⟨⟨⟨hh, tk, rfl⟩, hns, hkeep, hfresh⟩, hcell, hapart, habove⟩ := ic
 refine gZ ?_
 have nB : ∀ b o, C.B b = some o → Hf b = none := fun b o e => by
  cases q : Hf b with
  | none => rfl
  | some o' => have := S.new b o' (hsub b o' q); rw [this] at e; cases e
 -- the cells, and what is kc
 let Hc : HF := fun b => if ((cellsFrom (s.heap.objs.size + 1) scope.names []).any fun p => p.2 == b) = true then hh.get? b else Hf b
 have cellUp : ∀ b, ((cellsFrom (s.heap.objs.size + 1) scope.names []).any fun p => p.2 == b) = true → s.heap.objs.size < b := fun b e => by
  refine zc (List.any_eq_true.mp e) fun p hp e => ?_
  have := habove p.1 p.2 hp
  rw [beq_iff_eq.mp e] at this
  exact this
 have old : ∀ b o, s.heap.get? b = some o → ((cellsFrom (s.heap.objs.size + 1) scope.names []).any fun p => p.2 == b) = false := fun b o e => by
  cases q : (cellsFrom (s.heap.objs.size + 1) scope.names []).any fun p => p.2 == b with
  | false => rfl
  | true => exact absurd (Nat.lt_trans (cellUp b q) (Heap.lt_size e)) (Nat.lt_irrefl _)
 have oldN : ∀ b o, s.heap.get? b = some o → ¬ ((cellsFrom (s.heap.objs.size + 1) scope.names []).any fun p => p.2 == b) = true := fun b o e q => by rw [old b o e] at q; cases q
 have eHc : Ext Hf Hc := fun b o e => by
  show (if _ then _ else _) = _
  rw [if_neg (oldN b o (S.at_ _ _ (hsub _ _ e)))]; exact e
 have S₀ : St (C.at_ (kc C.B L Hf s.heap)) s.heap.objs.size (bindL (envOfC qual scope s.heap.objs.size f cdv).kindOf binds fun _ => none) Hc hh := by
  refine ⟨hns, fun a o e => ?_, ?_, fun b o e => (jW S e).keep (hkeep _), fun a o e => ?_, ?_⟩
  · have e : (if _ then _ else _) = _ := e
    split at e
    · exact e
    · exact hkeep _ _ (S.at_ a o (hsub a o e))
  · show (if _ then _ else _) = _
    rw [if_neg (fun q => Nat.lt_irrefl _ (cellUp _ q))]
    cases q : Hf s.heap.objs.size with
    | none => rfl
    | some o => have := S.at_ _ _ (hsub _ _ q); rw [zt] at this; cases this
  · have e : (if _ then _ else _) = _ := e
    split at e
    · rename_i q
      show kc C.B L Hf s.heap a = none
      unfold kc
      split
      · rfl
      · cases q' : s.heap.get? a with
        | none => rw [(S.fresh q').2.2]; rfl
        | some o' => exact absurd q (oldN a o' q')
    · exact xZ e
  · show kc C.B L Hf s.heap _ = none
    unfold kc; split
    · rfl
    · rw [(S.fresh (zt s.heap)).2.2, zt]; rfl
 refine wpAny_mono (h (kc C.B L Hf s.heap) s.heap.objs.size Hc (kE nB) eHc (fun n c e => ?_) ⟨hh, s.gens, s.drawn, tk, s.os⟩ S₀ g) (fun fl s' q => ?_) fun e s' q => ?_
 · obtain ⟨o, o1, o2⟩ := hcell n c e
   refine (zd o ?_ o2)
   show (if _ then _ else _) = _
   rw [if_pos (List.any_eq_true.mpr (zd _ (mem_of_lookup e) (by simp)))]; exact o1
 · refine hdG fun gQ gZ => ?_
   obtain ⟨m', Hf', S', g', eo, q⟩ := q
   obtain ⟨b1, b2⟩ := S.back hsub S'
   refine gZ ?_
   exact ⟨m, _, b1, g', eo, k _ _ _ q b2⟩
 · refine hdG fun gQ gZ => ?_
   obtain ⟨m', Hf', S', g', eo, q⟩ := q
   refine gZ ?_
   exact q.elim
end
end
section
section
variable {α β : Type} {C : Cx} {A : Around} {L : Addr} {E : PV} {m : Mp} {H : HF} {env : Env} {a b : Int} {t u : Tok}
theorem bE {Q : PV} (h : ∀ t, Q (.int (a + b) t) m H) : W C A L (binaryOp .Add (.int a t) (.int b u)) Q E m H := fun s S g => P.add_int ⟨m, H, S, g, rfl, h _⟩
theorem bx {Q : PV} (h : ∀ t, Q (.int (a - b) t) m H) : W C A L (binaryOp .Sub (.int a t) (.int b u)) Q E m H := fun s S g => P.sub_int ⟨m, H, S, g, rfl, h _⟩
theorem wM {Q : PV} (h : ∀ t, Q (.int (a + b) t) m H) : W C A L (inplaceOp .Add (.int a t) (.int b u)) Q E m H := fun s S g => P.iadd_int ⟨m, H, S, g, rfl, h _⟩
theorem VS {Q : PV} (h : ∀ t, Q (.int (a - b) t) m H) : W C A L (inplaceOp .Sub (.int a t) (.int b u)) Q E m H := fun s S g => P.isub_int ⟨m, H, S, g, rfl, h _⟩
theorem bA {Q : PV} (h : ∀ t, Q (.int (-a) t) m H) : W C A L (unaryOp .USub (.int a t)) Q E m H := fun s S g => P.neg_int ⟨m, H, S, g, rfl, h _⟩
theorem fA {Q : PV} (h : Q (.bool (a == b)) m H) : W C A L (compareOp .Eq (.int a t) (.int b u)) Q E m H := fun s S g => P.eq_int ⟨m, H, S, g, rfl, h⟩
theorem ft {Q : PV} (h : Q (.bool (a != b)) m H) : W C A L (compareOp .NotEq (.int a t) (.int b u)) Q E m H := fun s S g => P.ne_int ⟨m, H, S, g, rfl, h⟩
theorem fw {Q : PV} (h : Q (.bool (decide (a < b))) m H) : W C A L (compareOp .Lt (.int a t) (.int b u)) Q E m H := fun s S g => P.lt_int ⟨m, H, S, g, rfl, h⟩
theorem fz {Q : PV} (h : Q (.bool (decide (a > b))) m H) : W C A L (compareOp .Gt (.int a t) (.int b u)) Q E m H := fun s S g => P.gt_int ⟨m, H, S, g, rfl, h⟩
theorem bC {Q : PV} (h : Q (.bool (decide (a ≥ b))) m H) : W C A L (compareOp .GtE (.int a t) (.int b u)) Q E m H := fun s S g => P.ge_int ⟨m, H, S, g, rfl, h⟩
theorem Zv {Q : Bool → Mp → HF → Prop} (h : Q false m H) : W C A L (truthy .none) Q E m H := fun s S g => PyProof.Rows.truthy_none ⟨m, H, S, g, rfl, h⟩
theorem Qe {op : UnaryOp} {x : Expr} {pos : Pos} {Q : PV} (h : W C A L (eval x env) (fun v m H => W C A L (unaryOp op v) Q E m H) E m H) : W C A L (eval (.UnaryOp op x pos) env) Q E m H :=
 fun s S g => wpAny_UnaryOp (h.useQ S g rfl fun v m' H' s' S' g' e q => q.go S' g' e)
theorem JF {e : Expr} {pos : Pos} {Q : PV} (h : W C A L (eval e env) Q E m H) : W C A L (eval (.BoolOp .And [e] pos) env) Q E m H := h
@[reducible] def hJ (C : Cx) (A : Around) (L : Addr) (env : Env) (rest : List Expr) (pos : Pos) (Q : PV) (E : PV) (v : Value) (c : Bool) (m : Mp) (H : HF) : Prop :=
 match c with
 | true => W C A L (eval (.BoolOp .And rest pos) env) Q E m H
 | false => Q v m H
theorem Jk {e₁ e₂ : Expr} {rest : List Expr} {pos : Pos} {Q : PV} (h : W C A L (eval e₁ env) (fun v m H => W C A L (truthy v) (hJ C A L env (e₂ :: rest) pos Q E v) E m H) E m H) :
 W C A L (eval (.BoolOp .And (e₁ :: e₂ :: rest) pos) env) Q E m H := fun s S g =>
 BoolOp_and (h.useQ S g rfl fun v m₁ H₁ s₁ S₁ g₁ e₁ z => z.useQ S₁ g₁ e₁ fun c m₂ H₂ s₂ S₂ g₂ e₂ z => by
  cases c with
  | true => exact W.go z S₂ g₂ e₂
  | false => exact ⟨m₂, H₂, S₂, g₂, e₂, z⟩)
theorem zK {vs : List Value} {Q : PV} (hz : vs.length ≤ sizeLine) (h : ∀ a, H a = none → a ≠ L → Q (.ref a) m (put H a (ze vs 0))) : W C A L (newList vs) Q E m H :=
 YR (by unfold sizeOk; simpa using hz) rfl h
theorem K0 {rest : List Expr} {pos : Pos} {Q : PV} {v : Value} {c : Bool} (h1 : c = true → W C A L (eval (.BoolOp .And rest pos) env) Q E m H) (h2 : c = false → Q v m H) : hJ C A L env rest pos Q E v c m H := by
 cases c with
 | true => exact h1 rfl
 | false => exact h2 rfl
theorem z6 {rest : List Expr} {Q : Bool → Mp → HF → Prop} {c : Bool} (h1 : c = true → W C A env.locals (allTrue .And rest env) Q E m H) (h2 : c = false → Q false m H) : hH C A env rest Q E c m H := by
 cases c with
 | true => exact h1 rfl
 | false => exact h2 rfl
theorem Wq {rest : List Expr} {Q : Bool → Mp → HF → Prop} {c : Bool} (h1 : c = true → Q true m H) (h2 : c = false → W C A env.locals (allTrue .Or rest env) Q E m H) : orW C A env rest Q E c m H := by
 cases c with
 | true => exact h1 rfl
 | false => exact h2 rfl
theorem zT {x y : List Stmt} {Q : PF} {c : Bool} (h1 : c = true → W C A env.locals (execs x env) Q E m H) (h2 : c = false → W C A env.locals (execs y env) Q E m H) : ifW C A env x y Q E c m H := by
 cases c with
 | true => exact h1 rfl
 | false => exact h2 rfl
noncomputable def Rd (H : HF) (v : Value) (d : PyData) : Prop := ∀ h : Heap, (∀ a o, H a = some o → h.get? a = some o) → ∃ as, Reads h v d as
noncomputable def xT (H : HF) (vs : List Value) (ds : List PyData) : Prop := ∀ h : Heap, (∀ a o, H a = some o → h.get? a = some o) → ∃ as, ReadsAll h vs ds as
theorem xT.ext {H H' : HF} {v : List Value} {d : List PyData} (r : xT H v d) (x : Ext H H') : xT H' v d := fun h k => r h fun a o e => k a o (x a o e)
theorem Rd.int {i : Int} {t : Tok} : Rd H (.int i t) (.int i) := fun _ _ => ⟨_, .int i t⟩
theorem Rd.str {x : Str} {t : Tok} : Rd H (.str x t) (.str x) := fun _ _ => ⟨_, .str x t⟩
theorem Rd.bool {b : Bool} : Rd H (.bool b) (.bool b) := fun _ _ => ⟨_, .bool b⟩
theorem xT.nil : xT H [] [] := fun _ _ => ⟨_, .nil⟩
theorem xT.cons {v : Value} {d : PyData} {vs : List Value} {ds : List PyData} (r : Rd H v d) (rs : xT H vs ds) : xT H (v :: vs) (d :: ds) := fun h k => let ⟨_, e⟩ := r h k; let ⟨_, f⟩ := rs h k; ⟨_, .cons e f⟩
theorem Rd.list {p : Addr} {vs : List Value} {ds : List PyData} {k : Nat} (e : H p = some (ze vs k)) (r : xT H vs ds) : Rd H (.ref p) (.list ds) := fun h k => let ⟨_, f⟩ := r h k; ⟨_, .list (k _ _ e) rfl rfl f⟩
theorem Rd.tuple {p : Addr} {vs : List Value} {ds : List PyData} {k : Nat} {cd : Option Addr} {sl : Array (Option Value)} (e : H p = some ⟨.type "tuple", cd, .seq vs.toArray k, sl⟩) (r : xT H vs ds) : Rd H (.ref p) (.tuple ds) := fun h k => let ⟨_, f⟩ := r h k; ⟨_, .tuple (k _ _ e) rfl rfl f⟩
theorem xT.append {vs ws : List Value} {ds es : List PyData} (r : xT H vs ds) (r' : xT H ws es) : xT H (vs ++ ws) (ds ++ es) := fun h k => by
 obtain ⟨as, f⟩ := r h k
 obtain ⟨bs, g⟩ := r' h k
 clear r r'
 induction vs generalizing ds as with
 | nil => cases f; exact ⟨_, g⟩
 | cons v vs ih =>
  cases f with
  | cons f1 f2 => obtain ⟨cs, e⟩ := ih _ f2; exact ⟨_, .cons f1 e⟩
theorem VW {x y : Value} {da db : PyData} {Q : PV} (ra : Rd H x da) (rb : Rd H y db) (ha : shaped da = true) (hb : shaped db = true) (hmix : noMix da db = true) (hu : A.units + 64 < cLine) (h : Q (.bool (Spec.same da db)) m H) :
 W C A L (compareOp .Eq x y) Q E m H := fun s S g => by
 obtain ⟨as, ra⟩ := ra s.heap S.at_
 obtain ⟨bs, rb⟩ := rb s.heap S.at_
 exact eq_dataH_same ra rb ha hb hu hmix ⟨m, H, S, g, rfl, h⟩
theorem K4 {x y : Value} {da db : PyData} {Q : PV} (ra : Rd H x da) (rb : Rd H y db) (ha : shaped da = true) (hb : shaped db = true) (hmix : noMix da db = true) (hu : A.units + 64 < cLine) (h : Q (.bool (!Spec.same da db)) m H) :
 W C A L (compareOp .NotEq x y) Q E m H := fun s S g => by
 obtain ⟨as, ra⟩ := ra s.heap S.at_
 obtain ⟨bs, rb⟩ := rb s.heap S.at_
 exact ne_dataH_same ra rb ha hb hu hmix ⟨m, H, S, g, rfl, h⟩
theorem St.drop {h : Heap} {H' : HF} (S : St C L m H' h) (x : Ext H H') : St C L m H h := ⟨S.ns, fun a o e => S.at_ a o (x a o e), zW x S.no, S.kb, fun a o e => S.new a o (x a o e), S.nL⟩
theorem W.drop {t : Sem α} {Q : α → Mp → HF → Prop} {Qf : α → Prop} (h : W C A L t (fun v m' H' => m' = m ∧ Ext H H' ∧ Qf v) E m H) (k : ∀ v, Qf v → Q v m H) : W C A L t Q E m H := fun s S g =>
 wpAny_mono (h s S g) (fun v s' ⟨m', H', S', g', e, e1, e2, e3⟩ => ⟨m, H, by subst e1; exact S'.drop e2, g', e, k v e3⟩) fun _ _ z => z
theorem Upd.ext0 {H Hf' H' : HF} (u : Upd (fun _ => none) H Hf' H') : Ext H H' := fun a o e => u.out a o e rfl
end
theorem xG {a b n k l : Nat} (h : a + n < l) (e : b = a + 1) (hk : k + 1 ≤ n := by decide +kernel) : b + k < l := by exact (an 0x5a2029118c03044a34029201822508b44050a0 [_,_,_,_,_]) h e hk
theorem yu {a n l : Nat} (h : a + n < l) : a < l := by exact (an 0x16840a2402d0a0 [_,_,_]) h
theorem sm0 {b : Nat} (h : b ≤ 1000000) : Builtin.Range.small 0 (b : Int) 1 = true := small_one (by decide) (by decide) (by omega) (by omega)
theorem sz0 {b : Nat} : Builtin.Range.rangeSize 0 (b : Int) 1 = (b : Int) := by rw [rangeSize_one]; split <;> omega
theorem smL {a b : Nat} (ha : a ≤ 1000000) (h : b ≤ 1000000) : Builtin.Range.small (a : Int) (b : Int) 1 = true := small_one (by omega) (by omega) (by omega) (by omega)
theorem Jx {a k : Nat} (h : k ≤ a) : (a : Int) + (k : Int) * -1 = ((a - k : Nat) : Int) := by omega
theorem KB {x b : Int} (h : x ≤ 2 * b + 1) : x / 2 ≤ b := by omega
theorem szL {a b : Nat} : Builtin.Range.rangeSize (a : Int) (b : Int) 1 = ((b - a : Nat) : Int) := by rw [rangeSize_one]; split <;> omega
noncomputable def XD {β : Type} (Q QQ : β → Mp → HF → Prop) : Prop := ∀ f m H, Q f m H → QQ f m H
theorem XD.go {β : Type} {Q QQ : β → Mp → HF → Prop} (h : XD Q QQ) {f : β} {m : Mp} {H : HF} (q : Q f m H) : QQ f m H := h f m H q
section
variable {α β : Type} {C : Cx} {A : Around} {L : Addr} {E : PV} {m : Mp} {H : HF} {env : Env}
theorem W.hide {t : Sem α} {Q : α → Mp → HF → Prop} (h : ∀ QQ : α → Mp → HF → Prop, XD Q QQ → W C A L t QQ E m H) : W C A L t Q E m H := h Q fun _ _ _ x => x
theorem W.body {t : Sem α} {u : Sem β} {Q : β → Mp → HF → Prop} {E1 E2 : PV} (h : ∀ QQ : β → Mp → HF → Prop, XD Q QQ → W C A L t (fun _ m H => W C A L u QQ E1 m H) E2 m H) : W C A L t (fun _ m H => W C A L u Q E1 m H) E2 m H := h Q fun _ _ _ x => x
theorem xp {st : Stmt} {rest : List Stmt} {Q : PF} (h : ∀ QQ : PF, XD Q QQ → W C A env.locals (exec st env) (Kl C A env rest QQ E) E m H) : W C A env.locals (execs (st :: rest) env) Q E m H := yc (h Q fun _ _ _ x => x)
theorem Kj {rest : List Stmt} {Q : PF} {v : Value} (h : Q (.ret v) m H) : Kl C A env rest Q E (.ret v) m H := h
theorem Kk {rest : List Stmt} {Q : PF} (h : Q .brk m H) : Kl C A env rest Q E .brk m H := h
theorem vZ {rest : List Stmt} {Q : PF} (h : Q .cont m H) : Kl C A env rest Q E .cont m H := h
end
end
section
theorem xE : Slot "method_descriptor" "__get__" "method_descriptor.__get__" :=
 .of (owner := "method_descriptor") (n := "__get__") (by rw [typeLookup_type, builtinLookup_eq_fast]; kernel_rfl) (by decide +kernel) (by decide +kernel) (by decide +kernel)
  (by first | exact .inl (by decide +kernel) | exact .inr (by decide +kernel)) (by rw [isSubtype_type]; kernel_rfl)
theorem wH : entryFor table "method_descriptor.__get__" = some Builtin.«method_descriptor.__get__» := entryFor_of_tree (by kernel_rfl)
theorem Z2 (a b c : Value) : argsOk "method_descriptor.__get__" ⟨[a, b, c], []⟩ := by unfold argsOk; kernel_rfl
theorem wy : typeLookup (.type "method_descriptor") "__set__" = pure none := by rw [typeLookup_type, builtinLookup_eq_fast]; kernel_rfl
theorem wA : typeLookup (.type "method_descriptor") "__delete__" = pure none := by rw [typeLookup_type, builtinLookup_eq_fast]; kernel_rfl
theorem wV : typeOf (.builtin "list.append") = pure (.type "method_descriptor") := PySem.F.type_list_append
theorem Ks : typeLookup (.type "list") "append" = pure (some (.builtin "list.append")) := PySem.F.slot_list_append.lookup
theorem JM : Manifest.toldItsClass.contains "list.append" = false := by decide +kernel
theorem V3 : (".".intercalate ("list.append".cutAt '.').dropLast, ("list.append".cutAt '.').getLastD "") = ("list", "append") := by decide +kernel
theorem Qx : isSubtype (.type "list") (.type "list") = pure true := by rw [isSubtype_type]; kernel_rfl
theorem XW : isSubtype (.type "list") (.type (".".intercalate ("list.append".cutAt '.').dropLast)) = pure true := by
 rw [show ".".intercalate ("list.append".cutAt '.').dropLast = "list" by decide +kernel]; exact Qx
section
variable {prog : Program} {w : World} {A : Around} {E : Value → Shared → Prop} {h : Heap} {g : Array GenState} {d : Drawn} {t : Nat} {os : OsState} {a : Addr} {o : Obj}
theorem Xq {R : Result → Shared → Prop} (hx : h.get? a = some o) (hc : o.cls = .type "list") (hq : R (.ok (.ret (.ref h.objs.size))) ⟨h.push { cls := .type "builtin_function_or_method", data := .fields #[.builtin "list.append", .ref a] }, g, d, t, os⟩) :
 codeAny (model prog w) A (.call (.builtin "method_descriptor.__get__") ⟨[.builtin "list.append", .ref a, .type "list"], []⟩) R ⟨h, g, d, t, os⟩ := by
 refine hdG fun gQ gZ => ?_
 obtain ⟨oc, od, oda, osl⟩ := o
 refine gZ ?_
 dsimp only at hc
 subst hc
 have hT5 : (⟨h, g, d, t, os⟩ : Shared).TypeIs (.builtin "list.append") "method_descriptor" := wV
 have f8 : Looks (model prog w) h (isSubtype (.type "list") (.type (".".intercalate ("list.append".cutAt '.').dropLast))) true := Looks.of_pure XW
 refine codeAny_call_builtin xE.plain wH (xE.check _ _ _ _ _ _ _ _ hT5 (Z2 _ _ _) ?_)
 repeat lk
 exact hq
theorem Z3 {Q : Value → Shared → Prop} {expr : Bool} {its : Array Value} {n : Nat} (hx : h.get? a = some { cls := .type "list", data := .seq its n }) (hq : Q (.ref h.objs.size) ⟨h.push { cls := .type "builtin_function_or_method", data := .fields #[.builtin "list.append", .ref a] }, g, d, t + 1, os⟩) :
 wpAny (model prog w) A (getAttr (.ref a) "append" expr) Q E ⟨h, g, d, t, os⟩ := by
 have hT : (⟨h, g, d, t + 1, os⟩ : Shared).TypeIs (.ref a) "list" := ⟨_, hx, rfl⟩
 have L0 : Looks (model prog w) h (typeOf (.ref a)) (.type "list") := (Looks.ld (part := none) hx).andThen .now
 have L1 : Looks (model prog w) h (typeLookup (.type "list") "__getattribute__") (some (.builtin "list.__getattribute__")) := Looks.of_pure PySem.F.slot_list_getattribute.lookup
 have L2 : Looks (model prog w) h (bindSpecial (.builtin "list.__getattribute__") (.ref a)) (.builtin "list.__getattribute__", [.ref a]) := Looks.of_pure (PySem.F.slot_list_getattribute.bind (.ref a))
 unfold getAttr getAttrBy
 refine wpAny_bind (wpAny_mkText (wpAny_holding (wpAny_bind (L0.at (wpAny_bind (L1.at ?_))))))
 dsimp only
 show wpAny _ _ (getAttrByItsOwn _ _ _ _ _ _) _ _ _
 unfold getAttrByItsOwn
 refine wpAny_bind (wpAny_pure (a := none) (wpAny_bind (wpAny_attempt (wpAny_holding ?_))))
 show wpAny _ _ (if expr && false then _ else boundAndCalled _ _ _) _ _ _
 rw [Bool.and_false, if_neg (by decide)]
 unfold boundAndCalled
 refine wpAny_bind (L2.at (wpAny_call (codeAny_call_builtin PySem.F.slot_list_getattribute.plain PySem.F.entry_list_ga (PySem.F.slot_list_getattribute.check _ _ _ _ _ _ _ _ hT (PySem.F.args_list_getattribute_2 _ _) ?_))))
 have L3 : Looks (model prog w) h (typeLookup (.type "list") "append") (some (.builtin "list.append")) := Looks.of_pure Ks
 have L4 : Looks (model prog w) h (typeOf (.builtin "list.append")) (.type "method_descriptor") := Looks.of_pure wV
 have L5 : Looks (model prog w) h (typeLookup (.type "method_descriptor") "__get__") (some (.builtin "method_descriptor.__get__")) := Looks.of_pure xE.lookup
 have L6 : Looks (model prog w) h (typeLookup (.type "method_descriptor") "__set__") none := Looks.of_pure wy
 have L7 : Looks (model prog w) h (typeLookup (.type "method_descriptor") "__delete__") none := Looks.of_pure wA
 unfold Builtin.«object.__getattribute__»
 repeat (first | with_reducible refine wpAny_call ?_ | lk)
 refine Xq hx rfl ?_
 repeat lk
 exact hq
abbrev bmO (id : String) (v : Value) : Obj := { cls := .type "builtin_function_or_method", data := .fields #[.builtin id, v] }
theorem Zt {R : Result → Shared → Prop} {q l : Addr} {x : Value} {its : Array Value} {n : Nat} (ho : h.get? q = some (bmO "list.append" (.ref l))) (hl : h.get? l = some { cls := .type "list", data := .seq its n }) (hz : its.size ≤ sizeLine)
 (hq : R (.ok (.ret .none)) ⟨h.update l (Obj.mapSeq (·.push x)), g, d, t, os⟩) :
 codeAny (model prog w) A (.call (.ref q) ⟨[x], []⟩) R ⟨h, g, d, t, os⟩ := by
 refine codeAny_of_tree ?_
 show wpAny _ _ (callAny (.ref q) _) _ _ _
 refine nd_load ho ?_
 dsimp only
 have L0 : Looks (model prog w) h (typeOf (.ref l)) (.type "list") := (Looks.ld (part := none) hl).andThen .now
 have L1 : Looks (model prog w) h (isInstance (.ref l) (.type "module")) false := L0.andThen (Looks.of_pure (by rw [isSubtype_type]; kernel_rfl))
 have L2 : Looks (model prog w) h (isInstance (.ref l) (.type "type")) false := L0.andThen (Looks.of_pure (by rw [isSubtype_type]; kernel_rfl))
 unfold checkBoundCall
 repeat lk
 refine ⟨Code.quiet_builtin _ (by decide +kernel), codeAny_builtin entry_list_append ?_⟩
 show wpAny _ _ (updateSeq l (·.push x) >>= fun _ => ret .none) _ _ _
 exact wpAny_bind (wpAny_updateSeq hl rfl (wpAny_pure hq))
end
section
variable {α β : Type} {C : Cx} {A : Around} {L : Addr} {E : PV} {m : Mp} {H : HF} {env : Env}
theorem bH {n attr : Str} {np pos : Pos} {Q : PV} (h : W C A L (eval (.Name n np) env) (fun o m H => W C A L (getAttr o attr true) Q E m H) E m H) : W C A L (eval (.Attribute (.Name n np) attr pos) env) Q E m H :=
 fun s S g => Attribute_name (h.useQ S g rfl fun v m' H' s' S' g' e q => q.go S' g' e)
theorem jq {l : Addr} {its : List Value} {k : Nat} {expr : Bool} {Q : PV} (hl : H l = some (ze its k)) (h : ∀ q, H q = none → q ≠ L → Q (.ref q) m (put H q (bmO "list.append" (.ref l)))) : W C A L (getAttr (.ref l) "append" expr) Q E m H := fun s S g => by
 refine hdG fun gQ gZ => ?_
 obtain ⟨hh, gg, dd, tt, os⟩ := s
 refine gZ ?_
 have p := S.push (o := bmO "list.append" (.ref l)) rfl
 exact Z3 (S.at_ _ _ hl) ⟨m, _, p.1, g, rfl, h _ p.2.1 p.2.2⟩
theorem xe (its : List Value) (k : Nat) (x : Value) : Obj.mapSeq (·.push x) (ze its k) = ze (its ++ [x]) (k + 1) := by
 rw [Obj.mapSeq_push_plain]; simp
theorem zL {q l : Addr} {x : Value} {its : List Value} {k : Nat} {Q : PV} (ho : H q = some (bmO "list.append" (.ref l))) (hl : H l = some (ze its k)) (hz : its.length ≤ sizeLine) (h : Q .none m (put H l (ze (its ++ [x]) (k + 1)))) :
 W C A L (call (.ref q) [x]) Q E m H := fun s S g => by
 refine hdG fun gQ gZ => ?_
 obtain ⟨hh, gg, dd, tt, os⟩ := s
 refine gZ ?_
 refine wpAny_call (Zt (S.at_ _ _ ho) (S.at_ _ _ hl) (by simpa using hz) ?_)
 have u := S.update (f := Obj.mapSeq (·.push x)) hl (by rw [xe]; rfl)
 rw [xe] at u
 exact ⟨m, _, u, g, rfl, h⟩
theorem yB {l : Addr} {x : Value} {its : List Value} {k : Nat} {Q : PV} (hl : H l = some (ze its k)) (hz : its.length ≤ sizeLine) (h : Q .none m (put H l (ze (its ++ [x]) (k + 1)))) :
 W C A L (call (.builtin "list.append") [.ref l, x]) Q E m H := fun s S g => by
 refine wpAny_call_entry slot_list_append ⟨_, S.at_ _ _ hl, rfl⟩ entry_list_append ?_ (args_list_append _ _)
 show wpAny _ _ (updateSeq l (·.push x) >>= fun _ => ret .none) _ _ s
 have u := S.update (f := Obj.mapSeq (·.push x)) hl (by rw [xe]; rfl)
 rw [xe] at u
 exact wpAny_bind (wpAny_updateSeq (S.at_ _ _ hl) rfl (wpAny_pure (zd (.none) rfl ⟨ m, _, u, g, rfl, h⟩)))
theorem zp {id : Str} {p pos : Pos} {e : Expr} {rest : List Expr} {Q : PV} {q : Addr} {bid : String} {self : Value} (hv : m id = some (.ref q))
 (h : W C A env.locals (spliced (backTo pos (starEach (e :: rest) env))) (fun vs m H' => H' q = some (bmO bid self) ∧ W C A env.locals (call (.ref q) vs) Q E m H') E m H)
 (hk : env.scope.kind = .function := by kernel_rfl) (hl : env.kindOf id = some .local := by kernel_rfl) (hd : (id == ("__debug__" : Str)) = false := by decide +kernel)
 (he : starEach (e :: rest) env = (false, eval e env) :: starEach rest env := by kernel_rfl) (hplain : (backTo pos (starEach (e :: rest) env)).any (·.1) = false := by kernel_rfl) :
 W C A env.locals (eval (.Call (.Name id p) (e :: rest) [] pos) env) Q E m H := fun s S g => by
 refine wpAny_Call_Name_kw ((K7 (C := C) (A := A) (env := env) (m := m) (H := H) (E := E) (Q := fun v m' H' => v = .ref q ∧ m' = m ∧ H' = H) hv (zl rfl rfl rfl) hk hl hd).useQ S g rfl fun v m' H' s' S' g' eo z => ?_)
 refine zw z fun hq0 hq1 hq2 => ?_
 try clear z
 obtain rfl := hq0
 obtain rfl := hq1
 obtain rfl := hq2
 show wpAny _ _ (callWith pos _ [] (backTo pos (starEach (e :: rest) env)) []) _ _ _
 refine callWith_of (P := fun h => h.get? q = some (bmO bid self)) (by rw [hplain]; rfl) (fun h ho => (zd (.machine) (.inr (.inl rfl)) ((Looks.ld (part := none) ho).andThen .now))) ?_
 rw [he] at h ⊢
 exact Calls.evalArgs_plain (h.useQ S' g' eo fun vs m' H' s' S' g' eo z => ⟨S'.at_ _ _ z.1, z.2.go S' g' eo⟩)
end
end
section
section
variable {α β : Type} {C : Cx} {A : Around} {L : Addr} {E : PV} {m : Mp} {H : HF} {env : Env}
theorem yl {a b : Value} {Q : PV} (hp : plainIs a b = true) (h : Q (.bool (a == b)) m H) : W C A L (compareOp .Is a b) Q E m H := fun s S g => wpAny_is_plain hp ⟨m, H, S, g, rfl, h⟩
theorem kn {a b : Value} {Q : PV} (hp : plainIs a b = true) (h : Q (.bool (!(a == b))) m H) : W C A L (compareOp .IsNot a b) Q E m H := fun s S g => wpAny_isNot_plain hp ⟨m, H, S, g, rfl, h⟩
theorem Je {x : Addr} {Q : PV} (h : Q (.bool true) m H) : W C A L (compareOp .Is (.ref x) (.ref x)) Q E m H := fun s S g => wpAny_is_ref_self ⟨m, H, S, g, rfl, h⟩
theorem qf {x : Addr} {Q : PV} (h : Q (.bool false) m H) : W C A L (compareOp .IsNot (.ref x) (.ref x)) Q E m H := fun s S g => wpAny_isNot_ref_self ⟨m, H, S, g, rfl, h⟩
noncomputable def z8 (C : Cx) (A : Around) (L : Addr) (o i : Value) (Q : PV) (E : PV) (m : Mp) (H : HF) : Prop :=
 ∃ T id, typeLookup (.type T) "__getitem__" = pure (some (.builtin id)) ∧ Qm H o T ∧ W C A L (getItem o i) Q E m H
theorem z8.on {o i : Value} {Q : PV} {s s₀ : Shared} (h : z8 C A L o i Q E m H) (S : St C L m H s.heap) (g : s.gens = #[]) (e : s.os = s₀.os) : ItemOn C.M A (QS C L s₀ E) o i (QS C L s₀ Q) s := by
 refine hdG fun gQ gZ => ?_
 obtain ⟨T, id, hl, ht, h⟩ := h
 refine gZ ?_
 exact ⟨T, id, hl, (ht.typeIs S).1, h.go S g e⟩
theorem Qi {value : Expr} {n : Str} {p pos : Pos} {Q : PV} (h : W C A L (eval value env) (fun o m H => W C A L (eval (.Name n p) env) (fun i m H => z8 C A L o i Q E m H) E m H) E m H)
 (ht : ∀ o r, letTemporaryGo value o r = pure () := by intro _ _; rfl) : W C A L (eval (.Subscript value (.Name n p) pos) env) Q E m H := fun s S g =>
 Subscript_Name (h.useQ S g rfl fun o m' H' s' S' g' e z => z.useQ S' g' e fun i m' H' s' S' g' e z => z.on S' g' e) ht
theorem Wc {value : Expr} {c : Const} {k : Nat} {p pos : Pos} {Q : PV} (h : W C A L (eval value env) (fun o m H => W C A L (eval (.Constant c k p) env) (fun i m H => z8 C A L o i Q E m H) E m H) E m H)
 (ht : ∀ o r, letTemporaryGo value o r = pure () := by intro _ _; rfl) : W C A L (eval (.Subscript value (.Constant c k p) pos) env) Q E m H := fun s S g =>
 Subscript_Constant (h.useQ S g rfl fun o m' H' s' S' g' e z => z.useQ S' g' e fun i m' H' s' S' g' e z => z.on S' g' e) ht
theorem Qh {value e₁ : Expr} {op : UnaryOp} {p pos : Pos} {Q : PV} (h : W C A L (eval value env) (fun o m H => W C A L (eval (.UnaryOp op e₁ p) env) (fun i m H => z8 C A L o i Q E m H) E m H) E m H)
 (ht : ∀ o r, letTemporaryGo value o r = pure () := by intro _ _; rfl) : W C A L (eval (.Subscript value (.UnaryOp op e₁ p) pos) env) Q E m H := fun s S g =>
 Subscript_UnaryOp (h.useQ S g rfl fun o m' H' s' S' g' e z => z.useQ S' g' e fun i m' H' s' S' g' e z => z.on S' g' e) ht
theorem Ji {value e₁ e₂ : Expr} {op : Operator} {p pos : Pos} {Q : PV} (h : W C A L (eval value env) (fun o m H => W C A L (eval (.BinOp e₁ op e₂ p) env) (fun i m H => z8 C A L o i Q E m H) E m H) E m H)
 (ht : ∀ o r, letTemporaryGo value o r = pure () := by intro _ _; rfl) : W C A L (eval (.Subscript value (.BinOp e₁ op e₂ p) pos) env) Q E m H := fun s S g =>
 Subscript_BinOp (h.useQ S g rfl fun o m' H' s' S' g' e z => z.useQ S' g' e fun i m' H' s' S' g' e z => z.on S' g' e) ht
theorem z8.list {a : Addr} {its : List Value} {k : Nat} {i : Int} {t : Tok} {v : Value} {Q : PV} (e : H a = some (ze its k)) (h0 : 0 ≤ i) (hi : i < 2 ^ 63) (hv : its[i.toNat]? = some v) (h : Q v m H) : z8 C A L (.ref a) (.int i t) Q E m H :=
 ⟨"list", _, slot_list_getitem.lookup, .ref e, fun s S g => wpAny_getItem_list ⟨_, S.at_ _ _ e, rfl, _, rfl⟩ h0 hi (by simpa using hv) ⟨m, H, S, g, rfl, h⟩⟩
theorem z8.listNeg {a : Addr} {its : List Value} {k : Nat} {i : Int} {t : Tok} {v : Value} {Q : PV} (e : H a = some (ze its k)) (h0 : i < 0) (h1 : -(its.length : Int) ≤ i) (hi : -(2 ^ 63) ≤ i) (hv : its[(i + its.length).toNat]? = some v) (h : Q v m H) : z8 C A L (.ref a) (.int i t) Q E m H :=
 ⟨"list", _, slot_list_getitem.lookup, .ref e, fun s S g => wpAny_getItem_list_neg (items := its.toArray) ⟨_, S.at_ _ _ e, rfl, _, rfl⟩ h0 (by simpa using h1) hi (by simpa using hv) ⟨m, H, S, g, rfl, h⟩⟩
theorem z8.str {x : Str} {i : Int} {t u : Tok} {Q : PV} (hr : fitsSsize i = true) (hin : (Txt.charAt x i).isSome = true) (h : ∀ t, Q (.str (Txt.item x i) t) m H) : z8 C A L (.str x t) (.int i u) Q E m H :=
 ⟨"str", _, PySem.F.slot_str_getitem.lookup, .str, fun s S g => SB.getItem hr hin ⟨m, H, S, g, rfl, h _⟩⟩
end
section
variable {prog : Program} {w : World} {A : Around} {E : Value → Shared → Prop} {h : Heap} {g : Array GenState} {d : Drawn} {t : Nat} {os : OsState} {a : Addr} {o : Obj}
theorem ZR {R : Result → Shared → Prop} (hq : R (.ok (.ret (.ref h.objs.size))) ⟨h.push { cls := .type "object", data := .plain }, g, d, t, os⟩) : codeAny (model prog w) A (.call (.type "object") ⟨[], []⟩) R ⟨h, g, d, t, os⟩ := by
 have F := PySem.F.objNew
 have hm : mroOf (.type "object") = pure [.type "object"] := by rw [mroOf_type]; kernel_rfl
 have hl : typeLookup (.type "object") "__new__" = pure (some (.builtin "object.__new__")) := by rw [typeLookup_type, builtinLookup_eq_fast]; kernel_rfl
 have hi : typeLookup (.type "object") "__init__" = pure (some (.builtin "object.__init__")) := by rw [typeLookup_type, builtinLookup_eq_fast]; kernel_rfl
 have made : ∀ h', Looks (model prog w) h' (Bind.madeBy (.type "object")) (some "object.__new__") := fun _ => Looks.of_pure (madeBy_type hm hl (by decide +kernel))
 have made0 := made h
 have sub0 : Looks (model prog w) h (isSubtype (.type "object") (.type "object")) true := Looks.of_pure (by rw [isSubtype_type]; kernel_rfl)
 have ini0 : Looks (model prog w) h (typeLookup (.type "object") "__init__") (some (.builtin "object.__init__")) := Looks.of_pure hi
 have base0 : Looks (model prog w) h (Bind.staticBase (.type "object")) (.type "object") := by
  intro A Q E s k q
  unfold Bind.staticBase
  refine wpAny_bind (wpAny_of_eq hm ?_)
  rw [List.forIn_cons]
  exact wpAny_bind (wpAny_bind (wpAny_bind (made _ A _ E s (fun _ _ e => e) (wpAny_pure (wpAny_pure (wpAny_pure q))))))
 refine codeAny_of_tree ?_
 show wpAny _ _ (callAny (.type "object") _) _ _ _
 refine wpAny_pure (a := Fin.again (.builtin "type.__call__" ⟨[.type "object"], []⟩)) (And.intro (Code.quiet_builtin _ (by decide +kernel)) ?_)
 refine codeAny_builtin entry_typeCall ?_
 unfold Builtin.«type.__call__»
 repeat (first | with_reducible refine wpAny_call ?_ | lk)
 refine codeAny_call_builtin_code (Code.quiet_builtin _ F.quiet) ?_
 simp only [checkBuiltinCall, F.kind, F.split, F.row]
 repeat lk
 refine codeAny_builtin F.entry ?_
 unfold Builtin.«object.__new__»
 have made1 : Looks (model prog w) h (Bind.madeHere "object.__new__" (.type "object")) () := base0.andThen (made0.andThen (Looks.of_pure (by simp only [Option.map_some, bne_self_eq_false, Bool.false_eq_true, if_false])))
 repeat (first | with_reducible refine wpAny_call ?_ | lk)
 have hx : (h.push { cls := .type "object", data := .plain }).get? h.objs.size = some { cls := .type "object", data := .plain } := Heap.get?_push_size _ rfl
 have t1 : Looks (model prog w) (h.push { cls := .type "object", data := .plain }) (typeOf (.ref h.objs.size)) (.type "object") := (Looks.ld (part := none) hx).andThen .now
 have sub1 : Looks (model prog w) (h.push { cls := .type "object", data := .plain }) (isSubtype (.type "object") (.type "object")) true := Looks.of_pure (by rw [isSubtype_type]; kernel_rfl)
 have t2 : Looks (model prog w) (h.push { cls := .type "object", data := .plain }) (isInstance (.ref h.objs.size) (.type "object")) true := t1.andThen sub1
 have ini1 : Looks (model prog w) (h.push { cls := .type "object", data := .plain }) (typeLookup (.type "object") "__init__") (some (.builtin "object.__init__")) := Looks.of_pure hi
 have b1 : Looks (model prog w) (h.push { cls := .type "object", data := .plain }) (bindSpecial (.builtin "object.__init__") (.ref h.objs.size)) (.builtin "object.__init__", [.ref h.objs.size]) := Looks.of_pure (oi_bind _)
 unfold callSpecial? specialOf
 repeat (first | with_reducible refine wpAny_call ?_ | lk)
 refine codeAny_call_builtin oi_plain entry_oi (@check_slot (model prog w) _ _ _ "object.__init__" "object" "__init__" (.ref h.objs.size) [] [] _ oi_kind oi_split t2 (oi_args (.ref h.objs.size)) ?_)
 show wpAny _ _ (Builtin.«object.__init__» ⟨[.ref h.objs.size], []⟩) _ _ _
 rw [oi_run]
 refine wpAny_pure ?_
 repeat lk
 exact hq
end
section
variable {α β : Type} {C : Cx} {A : Around} {L : Addr} {E : PV} {m : Mp} {H : HF} {env : Env}
theorem Jc {Q : PV} (h : ∀ a, H a = none → a ≠ L → Q (.ref a) m (put H a { cls := .type "object", data := .plain })) : W C A L (call (.type "object") []) Q E m H := fun s S g => by
 refine hdG fun gQ gZ => ?_
 obtain ⟨hh, gg, dd, tt, os⟩ := s
 refine gZ ?_
 have p := S.push (o := { cls := .type "object", data := .plain }) rfl
 exact wpAny_call (ZR ⟨m, _, p.1, g, rfl, h _ p.2.1 p.2.2⟩)
end
end
section
section
variable {prog : Program} {w : World} {A : Around} {E : Value → Shared → Prop} {s : Shared}
theorem Xa {d : Addr} {c : Nat} {f : Int → Option Value} {Q : Builtin.Str.Mapped → Shared → Prop} (hh : A.handled = none) (hs : (d == sysModules) = false) (hm : s.heap.MapOf (intKind prog w) d f) (hf : f c = none)
 (h : ∀ h' tk, (∀ b o, s.heap.get? b = some o → h'.get? b = some o) → Q .keep { s with heap := h', toks := tk }) : wpAny (model prog w) A (Builtin.Str.tableLookup (.ref d) c) Q E s := by
 unfold Builtin.Str.tableLookup
 refine wpAny_bind (wpAny_attempt (wpAny_bind (wpAny_mkInt (wpAny_getItem_missing_of (f := f) (intKind_is prog w c _) hs hh hm hf fun h' e ne => ?_))))
 refine yE ne.there fun ob t zq => zw zq fun he hc hd => ?_
 refine wpAny_bind (wpAny_isInstance (T := "KeyError") (b := true) ⟨ob, he, hc⟩ (by rw [isSubtype_type]; kernel_rfl) ?_)
 rw [if_pos rfl]
 exact wpAny_bind (wpAny_rule (wpAny_pure (h h' _ ne.keeps)))
theorem Y5 {d : Addr} {c : Nat} {t : Tok} {f : Int → Option Value} {Q : Value → Shared → Prop} (hh : A.handled = none) (hc : (c < 128) = true) (hs : (d == sysModules) = false) (hm : s.heap.MapOf (intKind prog w) d f) (hf : f c = none)
 (h : ∀ h' tk t', (∀ b o, s.heap.get? b = some o → h'.get? b = some o) → Q (.str ⟨#[c]⟩ t') { s with heap := h', toks := tk }) :
 wpAny (model prog w) A (call (.builtin "str.translate") [.str ⟨#[c]⟩ t, .ref d]) Q E s := by
 refine wpAny_call_entry PySem.F.slot_str_translate (typeIs_str _ _ _) PySem.F.entry_str_translate ?_ (PySem.F.args_str_translate_2 _ _)
 refine hdG fun gQ gZ => ?_
 obtain ⟨hp, g, dr, tk, os⟩ := s
 refine gZ ?_
 unfold Builtin.«str.translate»
 repeat lk
 rw [if_pos (by simpa using hc)]
 dsimp only [List.lookup]
 refine wpAny_bind (Xa (A := A.in1) (c := c) hh hs hm hf fun h' tk' k => ?_)
 repeat lk
 exact (zd _ rfl (h h' _ _ k))
end
section
variable {α β : Type} {C : Cx} {A : Around} {L : Addr} {E : PV} {m : Mp} {H : HF} {env : Env}
theorem Zw {d : Addr} {c : Nat} {t : Tok} {f : Int → Option Value} {Q : PV} (hh : A.handled = none) (hc : (c < 128) = true) (hs : (d == sysModules) = false)
 (hm : ∀ h : Heap, (∀ b p, C.B b = some p → Up p.1 p.2 (h.get? b)) → h.MapOf (intKind C.prog C.w) d f) (hf : f c = none) (h : ∀ t, Q (.str ⟨#[c]⟩ t) m H) : W C A L (call (.builtin "str.translate") [.str ⟨#[c]⟩ t, .ref d]) Q E m H := fun s S g =>
 Y5 hh hc hs (hm s.heap S.kb) hf fun h' tk t' k => ⟨m, H, S.keeps k, g, rfl, h t'⟩
noncomputable def Kx (es : List DictEntry) : Bool := es.all fun e => match e.key with
 | .int k _ => e.hash == hashInt k
 | _ => false
theorem Xi {K : Frag} {h : Heap} {prog : Program} {w : World} {a : Addr} {es : Array DictEntry} {n : Nat} (X : K.In h) (hl : K.lookup a = some ⟨.type "dict", none, .dict es n, #[]⟩) (hk : Kx es.toList = true) :
 h.MapOf (intKind prog w) a (fun k => findBy Value.isInt es k) :=
 ⟨_, es, n, X _ _ hl, ⟨rfl, rfl, rfl⟩, rfl, (fun e he => by
  have := List.all_eq_true.mp hk e (Array.mem_toList_iff.mpr he)
  split at this
  · rename_i k t e1
    exact (zd k (by rw [e1]; exact intKind_is prog w k t) (beq_iff_eq.mp this))
  · cases this), fun _ => rfl⟩
end
end
section
abbrev yp (vs : List Value) (k : Nat) : Obj := { cls := .type "tuple", data := .seq vs.toArray k }
section
variable {α β : Type} {C : Cx} {A : Around} {L : Addr} {E : PV} {m : Mp} {H : HF} {env : Env}
theorem yt {vs : List Value} {Q : PV} (hz : vs.length ≤ sizeLine) (h : ∀ a, H a = none → a ≠ L → Q (.ref a) m (put H a (yp vs 0))) : W C A L (newTuple vs) Q E m H :=
 YR (by unfold sizeOk; simpa using hz) rfl h
theorem xi {es elts : List Expr} {k k' : Nat} {tpos vpos pos : Pos} {names : List Str} {Q : PF} (hh : A.handled = none)
 (h : W C A env.locals (spliced (backTo vpos (starEach es env))) (fun vs m H => vs.length = names.length ∧ W C A env.locals (assignInOrder (names.reverse.map fun n => bindName env n) vs.reverse) (fun _ => Q .next) E m H) E m H)
 (hz : names.length ≤ sizeLine) (hs : swapsWithSole [.Tuple elts k tpos] (.Tuple es k' vpos) pos.line env = pure false := by kernel_rfl) (hw : swappedStores [.Tuple elts k tpos] (.Tuple es k' vpos) env = pure (some names) := by kernel_rfl) :
 W C A env.locals (exec (.Assign [.Tuple elts k tpos] (.Tuple es k' vpos) pos) env) Q E m H := fun s S g => by
 refine Assign_Tuple_swapped ?_ hs hw
 refine (Qg (C := C) (A := A) (E := E) (Q := fun v m' H' => ∃ a vs H₀, v = .ref a ∧ H' a = some (yp vs 0) ∧ Ext H₀ H' ∧ vs.length = names.length ∧ W C A env.locals (assignInOrder (names.reverse.map fun n => bindName env n) vs.reverse) (fun _ => Q .next) E m' H₀) ?_).useQ S g rfl fun v m₁ H₁ s₁ S₁ g₁ e₁ z => ?_
 · refine h.mono (fun vs m' H' z => yt (by rw [z.1]; exact hz) fun a ha _ => (qp a vs H' (Xm rfl zb (Ext.put_new ha) z.1 z.2))) fun _ _ _ z => z
 · refine hdG fun gQ gZ => ?_
   obtain ⟨a, vs, H₀, rfl, ha, x, hl, z⟩ := z
   refine gZ ?_
   rw [← hl, show vs.length = vs.toArray.size by simp]
   refine wpAny_unpackItems_tuple hh ⟨_, S₁.at_ _ _ ha, rfl, _, rfl⟩ fun h' he => ?_
   have S₂ : St C env.locals m₁ H₀ h' := by
    have := S₁.drop x
    refine zw (this.fresh (zt s₁.heap)) fun f1 f2 f3 => ?_
    exact this.moved f1 f3 f2 fun b o nb e => he b o nb e
   exact z.go S₂ g₁ e₁
theorem z7 {vs : List Value} {Q : Unit → Mp → HF → Prop} (h : Q () m H) : W C A L (assignInOrder [] vs) Q E m H := YQ h
theorem zg {t : Value → Sem Unit} {ts : List (Value → Sem Unit)} {x : Value} {xs : List Value} {Q : Unit → Mp → HF → Prop} (h : W C A L (t x) (fun _ m H => W C A L (assignInOrder ts xs) Q E m H) E m H) :
 W C A L (assignInOrder (t :: ts) (x :: xs)) Q E m H := Jf (t' := do holding xs (t x); assignInOrder ts xs) rfl (yA (yy h))
theorem jD {test : Expr} {msg : Option Expr} {pos : Pos} {Q : PF} (h : W C A L (isTrue test env (eval test env)) (fun b m H => b = true ∧ Q .next m H) E m H) : W C A L (exec (.Assert test msg pos) env) Q E m H :=
 fun s S g => wpAny_Assert_holds (h.useQ S g rfl fun b m' H' s' S' g' e z => ⟨z.1, m', H', S', g', e, z.2⟩)
theorem jn {a : Addr} {its : List Value} {k : Nat} {Q : Bool → Mp → HF → Prop} (e : H a = some (ze its k)) (hz : its.length ≤ sizeLine) (h : Q (!its.isEmpty) m H) : W C A L (truthy (.ref a)) Q E m H := fun s S g => by
 refine wpAny_truthy_list (items := its.toArray) ⟨_, S.at_ _ _ e, rfl, _, rfl⟩ (by rw [sizeLine_eq] at hz; simp; omega) ?_
 have e2 : (!its.toArray.isEmpty) = (!its.isEmpty) := by simp
 exact e2 ▸ ⟨m, H, S, g, rfl, h⟩
end
end
section
section
variable {α β : Type} {C : Cx} {A : Around} {L : Addr} {E : PV} {m : Mp} {H : HF} {env : Env}
theorem YW {v₁ v₂ : Expr} {rest : List Expr} {pos : Pos} {Q : PV} (h : W C A L (joinParts Str.empty (eval v₁ env :: eval v₂ env :: evalEach rest env)) Q E m H) : W C A L (eval (.JoinedStr (v₁ :: v₂ :: rest) pos) env) Q E m H := h
theorem YS {out : Str} {Q : PV} (hz : out.length ≤ sizeLine) (h : ∀ t, Q (.str out t) m H) : W C A L (joinParts out []) Q E m H := fun s S g => joinParts_nil ⟨m, H, S, g, rfl, h _⟩ hz
theorem xC {out : Str} {x : Sem Value} {rest : List (Sem Value)} {Q : PV} (h : W C A L x (fun v m H => ∃ y t, v = .str y t ∧ (out ++ y).length ≤ sizeLine ∧ W C A L (joinParts (out ++ y) rest) Q E m H) E m H) : W C A L (joinParts out (x :: rest)) Q E m H :=
 fun s S g => joinParts_cons (h.useQ S g rfl fun v m' H' s' S' g' e z => by
  refine hdG fun gQ gZ => ?_
  obtain ⟨y, t, rfl, hz, z⟩ := z
  refine gZ ?_
  exact ⟨hz, z.go S' g' e⟩)
theorem vw {value : Expr} {pos : Pos} {Q : PV} (h : W C A L (eval value env) (fun v m H => W C A L (formatField v Str.empty) Q E m H) E m H) : W C A L (eval (.FormattedValue value (-1) none pos) env) Q E m H :=
 fun s S g => FormattedValue_plain (h.useQ S g rfl fun v m' H' s' S' g' e z => z.go S' g' e)
theorem wd {x : Str} {t : Tok} {Q : PV} (hz : x.length ≤ sizeLine) (h : ∀ t, Q (.str x t) m H) : W C A L (formatField (.str x t) Str.empty) Q E m H := fun s S g =>
 SB.field_str (fun t' k => ⟨m, H, S, g, rfl, h t'⟩) hz
theorem YT {x : Str} {t : Tok} {D : Addr} {l : List (Str × Tok)} {k : Nat} {Q : PV} (e : H D = some (ze (strValues l) k)) (hok : JoinOk x (l.map (·.1)) = true) (h : ∀ t, Q (.str (Txt.join x (l.map (·.1))) t) m H) :
 W C A L (call (.builtin "str.join") [.str x t, .ref D]) Q E m H := fun s S g => by
 have hok' := hok
 unfold JoinOk at hok'
 rw [Bool.not_eq_true'] at hok'
 exact call_meets PySem.F.slot_str_join (typeIs_str _ _ _) PySem.F.entry_str_join (PySem.F.args_str_join_2 _ _) (meets_str_join_list x t D l hok') ⟨⟨_, S.at_ _ _ e, rfl, _, rfl⟩, post_join l ⟨joinFit_length hok', fun t' k => ⟨m, H, S, g, rfl, h t'⟩⟩⟩
theorem ZC {a : Addr} {its : List Value} {k : Nat} {Q : PV} (e : H a = some (ze its k)) (hz : its.length ≤ sizeLine) (h : ∀ t, Q (.int its.length t) m H) : W C A L (call (.builtin "len") [.ref a]) Q E m H := fun s S g => by
 refine call_len_list (items := its.toArray) ⟨_, S.at_ _ _ e, rfl, _, rfl⟩ (by rw [sizeLine_eq] at hz; simp; omega) ⟨m, H, S, g, rfl, ?_⟩
 rw [List.size_toArray]; exact h _
end
end
section
structure XE (o : Obj) (f : Mp) (n : Nat) : Prop where
 of : ∃ es k, o = dictOf es k ∧ es.length ≤ n ∧ es.any (·.refKey) = false ∧ (∀ x, (es.find? (·.key.isStr x)).map (·.val) = f x)
theorem XE.nil : XE emptyDict (fun _ => none) 0 := ⟨[], 0, rfl, Nat.le_refl _, rfl, fun _ => rfl⟩
theorem ZU {es : List DictEntry} {f : Mp} (h1 : es.any (·.refKey) = false) (h2 : ∀ x, (es.find? (·.key.isStr x)).map (·.val) = f x) (x : Str) : getL x es = some (f x) := by
 have h := h2 x
 unfold getL
 cases q : es.find? (·.key.isStr x) with
 | some e => rw [q] at h; dsimp only; rw [← h]; rfl
 | none => rw [q] at h; dsimp only; rw [h1, if_neg (by decide), ← h]; rfl
theorem Xl (x : Str) (t : Tok) : (Value.str x t).isStr x = true := by unfold Value.isStr; simp
theorem QR {x y : Str} (t : Tok) (h : x ≠ y) : (Value.str x t).isStr y = false := by unfold Value.isStr; simp; exact h
theorem Kw {v : Value} {x y : Str} (h : v.isStr x = true) (h' : v.isStr y = true) : x = y := by
 unfold Value.isStr at h h'
 split at h
 · rename_i z t e
   simp only at h'
   exact (beq_iff_eq.mp h).symm.trans (beq_iff_eq.mp h')
 · cases h
theorem XE.put {es : List DictEntry} {f : Mp} {name : Str} {hsh : Int} {t : Tok} {v : Value} (h1 : es.any (·.refKey) = false) (h2 : ∀ x, (es.find? (·.key.isStr x)).map (·.val) = f x) :
 (putL name hsh (.str name t) v es).any (·.refKey) = false ∧ ∀ x, ((putL name hsh (.str name t) v es).find? (·.key.isStr x)).map (·.val) = set f name v x := by
 refine ⟨?_, fun x => ?_⟩
 · clear h2
   induction es with
   | nil => rfl
   | cons e r ih =>
    rw [List.any_cons, Bool.or_eq_false_iff] at h1
    unfold putL
    split
    · rw [List.any_cons, h1.2, Bool.or_false]; exact h1.1
    · rw [List.any_cons, ih h1.2, Bool.or_false]; exact h1.1
 · have find : ((putL name hsh (.str name t) v es).find? (·.key.isStr x)).map (·.val) = if x = name then some v else (es.find? (·.key.isStr x)).map (·.val) := by
    clear h1 h2
    induction es with
    | nil =>
     show ((List.find? _ [_]).map _) = _
     rw [List.find?_cons]
     by_cases q : x = name
     · subst q; rw [Xl, if_pos rfl]; rfl
     · rw [QR t (Ne.symm q), if_neg q]
    | cons e r ih =>
     unfold putL
     split
     · rename_i h
       by_cases q : x = name
       · subst q; rw [if_pos rfl, List.find?_cons, h]; rfl
       · rw [if_neg q, List.find?_cons, List.find?_cons]
         cases h2 : e.key.isStr x with
         | true => exact absurd (Kw h2 h) q
         | false => rfl
     · rename_i h
       rw [List.find?_cons, List.find?_cons]
       cases h2 : e.key.isStr x with
       | true =>
        rw [if_neg]
        rintro rfl; rw [h2] at h; exact h rfl
       | false => exact ih
   rw [find]
   unfold set
   rw [h2]
theorem Yv {name : Str} {hsh : Int} {k v : Value} : ∀ {es : List DictEntry}, (putL name hsh k v es).length ≤ es.length + 1
 | [] => by simp [putL]
 | e :: r => by
  unfold putL; split
  · simp
  · simp only [List.length_cons]; have := Yv (name := name) (hsh := hsh) (k := k) (v := v) (es := r); exact (an 0x50182250a0140608903044a103044a0 [_,_]) this
theorem w6 {name : Str} {hsh : Int} {k v : Value} : ∀ {es : List DictEntry}, (es.find? (·.key.isStr name)).isSome = true → (putL name hsh k v es).length ≤ es.length
 | [], h => by cases h
 | e :: r, h => by
  unfold putL; split
  · simp
  · rename_i q
    rw [List.find?_cons] at h
    cases q2 : e.key.isStr name with
    | true => exact absurd q2 q
    | false =>
     rw [q2] at h
     have := w6 (name := name) (hsh := hsh) (k := k) (v := v) (es := r) h
     simp only [List.length_cons]; exact (an 0x148500a03044a103044a0 [_,_]) this
structure kS (H : HF) (x dx Cl : Addr) (f : Mp) (n : Nat) : Prop where
 obj : H x = some (instObj Cl dx)
 dict : ∃ o, H dx = some o ∧ XE o f n
 no : ∀ a, f a ≠ none → True
theorem kS.ext {H H' : HF} {x dx Cl : Addr} {f : Mp} {n : Nat} (I : kS H x dx Cl f n) (e : Ext H H') : kS H' x dx Cl f n := ⟨e _ _ I.obj, let ⟨o, a, b⟩ := I.dict; (zd o (e _ _ a) b), fun _ _ => trivial⟩
theorem zi {H : HF} {a b : Addr} {o o' : Obj} (h : H a = some o) (h' : H b = some o') (n : o ≠ o') : a ≠ b := fun e => by subst e; rw [h] at h'; cases h'; exact n rfl
section
variable {α β : Type} {C : Cx} {A : Around} {L : Addr} {E : PV} {m : Mp} {H : HF} {env : Env}
variable {K : Frag} {mg mb : Mp} {q : Program} {loose : List Str}
theorem kS.at {x dx Cl : Addr} {f : Mp} {n : Nat} (I : kS H x dx Cl f n) {h : Heap} (S : St C L m H h) : ∃ es k, InstAt h x (instObj Cl dx) Cl (some (dictOf es k)) ∧ H dx = some (dictOf es k) ∧ es.length ≤ n ∧ es.any (·.refKey) = false ∧ (∀ x, (es.find? (·.key.isStr x)).map (·.val) = f x) := by
 refine hdG fun gQ gZ => ?_
 refine zc I.dict fun o ho hq2 => ?_
 obtain ⟨es, k, rfl, h1, h2, h3⟩ := hq2
 refine gZ ?_
 exact (zy es k ⟨S.at_ _ _ I.obj, rfl, rfl, S.at_ _ _ ho⟩ ho h1 h2 h3)
theorem zr {x dx Cl : Addr} {f : Mp} {n : Nat} {name : Str} {v : Value} {expr : Bool} {attr : Option Value} {Q : PV} (X : Bd K mg mb q loose C) (I : kS H x dx Cl f n) (hv : f name = some v) (h : Q v m H)
 (hg : plainGet K Cl name = true) (hh : hasDictIn K Cl = true) (ha : findIn K (.ref Cl) name = some attr) (hn : noGet K attr = true) (hd : handedIn v = true) : W C A L (getAttr (.ref x) name expr) Q E m H := fun s S g => by
 refine qc (I.at S) fun es k I' e1 e2 e3 e4 => ?_
 exact get_value (X.K _ S.kb) I' (plainGet_of hg).1 (findObj_own hh ha hn (show getL name es = some (some v) by rw [ZU e3 e4, hv])) hd ⟨m, H, S, g, rfl, h⟩
theorem zY {x dx Cl : Addr} {f : Mp} {n : Nat} {name : Str} {v : Value} {Q : Unit → Mp → HF → Prop} (X : Bd K mg mb q loose C) (I : kS H x dx Cl f n) (hz : n < 1000) (h : ∀ H', kS H' x dx Cl (set f name v) (n + 1) → (∀ a, a ≠ dx → H' a = H a) → Q () m H')
 (hs : findIn K (.ref Cl) "__setattr__" = some (some (.builtin "object.__setattr__"))) (hp : plainOver K Cl = true) (ht : takerIn K Cl name = some none) (hh : hasDictIn K Cl = true) : W C A L (setAttr (.ref x) name v) Q E m H := fun s S g => by
 refine qc (I.at S) fun es k I' e1 e2 e3 e4 => ?_
 refine set_plain (X.K _ S.kb) I' hs ?_
 refine osa_open (s := { s with toks := s.toks + 1 }) (X.K _ S.kb) I' hp ht fun b => ?_
 refine zc (any_some hh) fun cd hc hd' => ?_
 have hx := I'.at_
 have D := S.at_ _ _ e1
 have u := S.update (f := Obj.putName name (PyData.keyHash C.w.params name) (.str name (s.toks + 1)) v) e1 (by rw [putName_dict]; rfl)
 rw [putName_dict] at u
 have D' := u.at_ _ _ zb
 obtain ⟨p1, p2⟩ := XE.put (name := name) (hsh := PyData.keyHash C.w.params name) (t := s.toks + 1) (v := v) e3 e4
 have hlen := Yv (name := name) (hsh := PyData.keyHash C.w.params name) (k := .str name (s.toks + 1)) (v := v) (es := es)
 refine wpAny_bind (wpAny_pure (wpAny_bind (wpAny_bind (wpAny_loadPart hx (wpAny_bind (Looks.here (s := { s with toks := s.toks + 1 }) (looks_clsIn (X.K _ S.kb) hc) ?_))))))
 rw [hd']
 refine wpAny_pure (a := some dx) (wpAny_bind (wpAny_pure (wpAny_bind ?_)))
 unfold nsSet
 refine wpAny_bind (wpAny_bind (wpAny_askSetting (wpAny_pure (wpAny_bind (wpAny_mkText (wpAny_bind (wpAny_loadPart D ?_)))))))
 dsimp only
 have c : (!es.toArray.any (·.key.isStr name) && es.toArray.any (·.refKey)) = false := by
  rw [← Array.any_toList, ← Array.any_toList]
  show (!es.any (·.key.isStr name) && es.any (·.refKey)) = false
  rw [e3, Bool.and_false]
 rw [aRefKeyMayBeTheName_at, c]
 refine wpAny_updatePart D ?_
 refine wpAny_bind (wpAny_lookBehind (o := dictOf (putL name (PyData.keyHash C.w.params name) (.str name (s.toks + 1)) v es) (putN name es k)) D' (by exact pastItsLine_dict (by rw [List.size_toArray, sizeLine_eq]; omega)) ?_)
 refine wpAny_pure ?_
 exact ⟨m, _, u, g, rfl, h _ ⟨(za (zi I.obj e1 (by intro z; cases z))).trans I.obj, (zd _ zb ⟨_, _, rfl, by exact (an 0x290a21406089448050182250a0 [_,_,_]) e2 hlen, p1, p2⟩), fun _ _ => trivial⟩ fun a na => za na⟩
theorem vn {x dx Cl : Addr} {f : Mp} {n : Nat} {name : Str} {v : Value} {Q : Unit → Mp → HF → Prop} (X : Bd K mg mb q loose C) (I : kS H x dx Cl f n) (hz : n < 1000) (hv₀ : (f name).isSome = true) (h : ∀ H', kS H' x dx Cl (set f name v) n → (∀ a, a ≠ dx → H' a = H a) → Q () m H')
 (hs : findIn K (.ref Cl) "__setattr__" = some (some (.builtin "object.__setattr__"))) (hp : plainOver K Cl = true) (ht : takerIn K Cl name = some none) (hh : hasDictIn K Cl = true) : W C A L (setAttr (.ref x) name v) Q E m H := fun s S g => by
 refine qc (I.at S) fun es k I' e1 e2 e3 e4 => ?_
 refine set_plain (X.K _ S.kb) I' hs ?_
 refine osa_open (s := { s with toks := s.toks + 1 }) (X.K _ S.kb) I' hp ht fun b => ?_
 refine zc (any_some hh) fun cd hc hd' => ?_
 have hx := I'.at_
 have D := S.at_ _ _ e1
 have u := S.update (f := Obj.putName name (PyData.keyHash C.w.params name) (.str name (s.toks + 1)) v) e1 (by rw [putName_dict]; rfl)
 rw [putName_dict] at u
 have D' := u.at_ _ _ zb
 obtain ⟨p1, p2⟩ := XE.put (name := name) (hsh := PyData.keyHash C.w.params name) (t := s.toks + 1) (v := v) e3 e4
 have hlen := w6 (name := name) (hsh := PyData.keyHash C.w.params name) (k := .str name (s.toks + 1)) (v := v) (es := es) (by rw [← Option.isSome_map (f := (·.val)), e4]; exact hv₀)
 refine wpAny_bind (wpAny_pure (wpAny_bind (wpAny_bind (wpAny_loadPart hx (wpAny_bind (Looks.here (s := { s with toks := s.toks + 1 }) (looks_clsIn (X.K _ S.kb) hc) ?_))))))
 rw [hd']
 refine wpAny_pure (a := some dx) (wpAny_bind (wpAny_pure (wpAny_bind ?_)))
 unfold nsSet
 refine wpAny_bind (wpAny_bind (wpAny_askSetting (wpAny_pure (wpAny_bind (wpAny_mkText (wpAny_bind (wpAny_loadPart D ?_)))))))
 dsimp only
 have c : (!es.toArray.any (·.key.isStr name) && es.toArray.any (·.refKey)) = false := by
  rw [← Array.any_toList, ← Array.any_toList]
  show (!es.any (·.key.isStr name) && es.any (·.refKey)) = false
  rw [e3, Bool.and_false]
 rw [aRefKeyMayBeTheName_at, c]
 refine wpAny_updatePart D ?_
 refine wpAny_bind (wpAny_lookBehind (o := dictOf (putL name (PyData.keyHash C.w.params name) (.str name (s.toks + 1)) v es) (putN name es k)) D' (by exact pastItsLine_dict (by rw [List.size_toArray, sizeLine_eq]; omega)) ?_)
 refine wpAny_pure ?_
 exact ⟨m, _, u, g, rfl, h _ ⟨(za (zi I.obj e1 (by intro z; cases z))).trans I.obj, (zd _ zb ⟨_, _, rfl, by exact (an 0xa428852240290a0 [_,_,_]) e2 hlen, p1, p2⟩), fun _ _ => trivial⟩ fun a na => za na⟩
structure qg (H : HF) (x dx Cl : Addr) (sl : List (Option Value)) : Prop where
 obj : H x = some ⟨.ref Cl, some dx, .plain, sl.toArray⟩
 dict : H dx = some emptyDict
theorem qg.ext {H H' : HF} {x dx Cl : Addr} {sl : List (Option Value)} (I : qg H x dx Cl sl) (e : Ext H H') : qg H' x dx Cl sl := ⟨e _ _ I.obj, e _ _ I.dict⟩
theorem qg.at {x dx Cl : Addr} {sl : List (Option Value)} (I : qg H x dx Cl sl) {h : Heap} (S : St C L m H h) : InstAt h x ⟨.ref Cl, some dx, .plain, sl.toArray⟩ Cl (some emptyDict) := ⟨S.at_ _ _ I.obj, rfl, rfl, S.at_ _ _ I.dict⟩
theorem yz {x dx Cl p : Addr} {sl : List (Option Value)} {i : Nat} {name : Str} {v : Value} {expr : Bool} {Q : PV} (X : Bd K mg mb q loose C) (I : qg H x dx Cl sl) (hv : sl[i]? = some (some v)) (h : Q v m H)
 (hg : plainGet K Cl name = true) (hc : isClsIn K Cl = true) (ha : findIn K (.ref Cl) name = some (some (.ref p))) (hn : specialIn K (.ref p) "__get__" = some (some (.builtin "member_descriptor.__get__"))) (ht : takesIn K (.ref p) = some true) (hp : slotIn K p Cl = some i)
 (hd : handedIn v = true) : W C A L (getAttr (.ref x) name expr) Q E m H := fun s S g =>
 get_bind (X.K _ S.kb) (I.at S) (plainGet_of hg).1 (findObj_data hc ha hn ht) (plainGet_of hg).2 (wpAny_call (slot_get (s := { s with toks := s.toks + 1 }) (X.K _ S.kb) (I.at S) hp (by simp [hv]) (handed_on hd ⟨m, H, S, g, rfl, h⟩)))
theorem yZ {x dx Cl p : Addr} {sl : List (Option Value)} {i : Nat} {name : Str} {v : Value} {Q : Unit → Mp → HF → Prop} (X : Bd K mg mb q loose C) (I : qg H x dx Cl sl) (h : qg (put H x ⟨.ref Cl, some dx, .plain, ((sl ++ List.replicate (i + 1 - sl.length) none).set i (some v)).toArray⟩) x dx Cl ((sl ++ List.replicate (i + 1 - sl.length) none).set i (some v)) → Q () m (put H x ⟨.ref Cl, some dx, .plain, ((sl ++ List.replicate (i + 1 - sl.length) none).set i (some v)).toArray⟩))
 (hs : findIn K (.ref Cl) "__setattr__" = some (some (.builtin "object.__setattr__"))) (hp : plainOver K Cl = true) (ht : takerIn K Cl name = some (some (.ref p))) (hT : typeIn K (.ref p) = some (.type "member_descriptor")) (hi : slotIn K p Cl = some i) (hz : i < 1000) :
 W C A L (setAttr (.ref x) name v) Q E m H := fun s S g => by
 refine set_plain (X.K _ S.kb) (I.at S) hs (osa_descr (s := { s with toks := s.toks + 1 }) KF.slot_mset (X.K _ S.kb) (I.at S) hp ht hT ?_)
 refine hdG fun gQ gZ => ?_
 refine eW (slot_of (X.K _ S.kb) hi) fun n tn owner behind tb d sl' cd zq => vb zq fun ho hc hm hb hq12 => ?_
 obtain rfl := hq12
 have L0 := (I.at S).type (M := model C.prog C.w)
 have L1 := looks_mroIn (M := model C.prog C.w) (X.K _ S.kb) hm
 have L2 : Looks (model C.prog C.w) s.heap (Builtin.Slots.slotNamesOf (.ref Cl)) cd.slotNames := (looks_clsIn (X.K _ S.kb) hc).andThen .now
 have hx := (I.at S).at_
 have u := S.update (f := fun o => { o with slots := (o.slots ++ Array.replicate (cd.slotNames.length - 1 - behind.toNat + 1 - o.slots.size) none).setIfInBounds (cd.slotNames.length - 1 - behind.toNat) (some v) }) I.obj rfl
 obtain ⟨hh, gg, dr, t, os⟩ := s
 refine gZ ?_
 dsimp only at ho hx L0 L1 L2 u
 have f0 := looks_field (M := model C.prog C.w) ho 0 (v := .str n tn) rfl
 have f1 := looks_field (M := model C.prog C.w) ho 1 (v := owner) rfl
 have f3 := looks_field (M := model C.prog C.w) ho 3 (v := .builtin "proto.slot#set") rfl
 have f4 := looks_field (M := model C.prog C.w) ho 4 (v := .int behind tb) rfl
 refine codeAny_call_builtin KF.slot_mset.plain KF.entry_mset (KF.slot_mset.check _ _ _ _ _ _ _ _ ⟨_, ho, rfl⟩ (KF.args_mset _ _ _) ?_)
 unfold Builtin.«member_descriptor.__set__» Builtin.Getset_descriptor.descrSet Builtin.Getset_descriptor.descrStoreThrough Builtin.Getset_descriptor.descrCheckInstance Builtin.Getset_descriptor.descrNameAndClass isInstance
 have f5 : Looks (model C.prog C.w) hh (Builtin.Getset_descriptor.descrItself (.ref p)) [.ref p] := ((Looks.ld (part := none) ho).andThen .now).andThen (Looks.of_pure (by kernel_rfl))
 repeat lk
 refine ⟨Code.quiet_builtin _ (by decide +kernel), codeAny_builtin KF.entry_slotset ?_⟩
 unfold Builtin.«proto.slot#set» Builtin.Slots.target
 repeat lk
 rw [if_neg hb]
 refine wpAny_pure (wpAny_bind ?_)
 unfold setSlotAt
 dsimp only
 rw [if_neg (by rw [sizeLine_eq]; omega)]
 refine wpAny_updatePart hx (wpAny_pure ?_)
 have e : (sl.toArray ++ Array.replicate (cd.slotNames.length - 1 - behind.toNat + 1 - sl.toArray.size) none).setIfInBounds (cd.slotNames.length - 1 - behind.toNat) (some v) = ((sl ++ List.replicate (cd.slotNames.length - 1 - behind.toNat + 1 - sl.length) none).set (cd.slotNames.length - 1 - behind.toNat) (some v)).toArray := by simp [← List.toArray_replicate]
 rw [e] at u
 exact ⟨m, _, u, g, rfl, h ⟨zb, (za (zi I.dict I.obj (by intro z; cases z))).trans I.dict⟩⟩
theorem xN {o : Expr} {name : Str} {apos pos : Pos} {e : Expr} {rest : List Expr} {Q : PV} (X : Bd K mg mb q loose C)
 (h : W C A L (eval o env) (fun ov m H => ∃ x dx Cl f at_ n, ov = .ref x ∧ kS H x dx Cl at_ n ∧ at_ name = none ∧ plainGet K Cl name = true ∧ findIn K (.ref Cl) name = some (some (.ref f)) ∧ isFn K (.ref f) = true ∧ keepIn K (.ref f) = true ∧
  W C A L (spliced (backTo pos (starEach (e :: rest) env))) (fun vs m H => W C A L (call (.ref f) (.ref x :: vs)) Q E m H) E m H) E m H)
 (pl : Sem Bool) (hc : eval (.Call (.Attribute o name apos) (e :: rest) [] pos) env = (do
  let ov ← eval o env
  standAt apos.atName
  let (f, first) ← holding [ov] (getMethod ov name pl)
  callWith pos f first (backTo pos (starEach (e :: rest) env)) (backToKw pos (keywordEach [] env))))
 (he : starEach (e :: rest) env = (false, eval e env) :: starEach rest env) (hplain : (backTo pos (starEach rest env)).any (·.1) = false) :
 W C A L (eval (.Call (.Attribute o name apos) (e :: rest) [] pos) env) Q E m H := fun s S g =>
 methodCall_KW (pl := pl) (h.useQ S g rfl fun ov m' H' s' S' g' eo z => by
  refine hdG fun gQ gZ => ?_
  obtain ⟨x, dx, Cl, f, at_, n, rfl, I, hat, hg, hf, hfn, hkp, z⟩ := z
  obtain ⟨es, k, I', e1, e2, e3, e4⟩ := I.at S'
  refine gZ ?_
  refine method_fn (X.K _ S'.kb) I' (plainGet_of hg).1 (plainGet_of hg).2 hf (beq_iff_eq.mp hfn) (by show (lookIn name (dictOf es k)).map _ = _; rw [lookIn_dict, ZU e3 e4, hat]; rfl) ?_
  exact callWith_K (first := [.ref x]) (X.K _ S'.kb) hkp (z.useQ S' g' eo fun vs m' H' s' S' g' eo z => ⟨X.K _ S'.kb, z.go S' g' eo⟩) he hplain) hc
theorem kH {o : Expr} {name : Str} {apos pos : Pos} {Q : PV} (X : Bd K mg mb q loose C)
 (h : W C A L (eval o env) (fun ov m H => ∃ x dx Cl f at_ n, ov = .ref x ∧ kS H x dx Cl at_ n ∧ at_ name = none ∧ plainGet K Cl name = true ∧ findIn K (.ref Cl) name = some (some (.ref f)) ∧ isFn K (.ref f) = true ∧ keepIn K (.ref f) = true ∧
  W C A L (call (.ref f) [.ref x]) Q E m H) E m H)
 (pl : Sem Bool) (hc : eval (.Call (.Attribute o name apos) [] [] pos) env = (do
  let ov ← eval o env
  standAt apos.atName
  let (f, first) ← holding [ov] (getMethod ov name pl)
  callWith pos f first (backTo pos (starEach [] env)) (backToKw pos (keywordEach [] env)))) :
 W C A L (eval (.Call (.Attribute o name apos) [] [] pos) env) Q E m H := fun s S g =>
 methodCall_KW (pl := pl) (h.useQ S g rfl fun ov m' H' s' S' g' eo z => by
  refine hdG fun gQ gZ => ?_
  obtain ⟨x, dx, Cl, f, at_, n, rfl, I, hat, hg, hf, hfn, hkp, z⟩ := z
  obtain ⟨es, k, I', e1, e2, e3, e4⟩ := I.at S'
  refine gZ ?_
  refine method_fn (X.K _ S'.kb) I' (plainGet_of hg).1 (plainGet_of hg).2 hf (beq_iff_eq.mp hfn) (by show (lookIn name (dictOf es k)).map _ = _; rw [lookIn_dict, ZU e3 e4, hat]; rfl) ?_
  exact callWith_K0 (first := [.ref x]) (X.K _ S'.kb) hkp (z.go S' g' eo)) hc
noncomputable def WC (C : Cx) (A : Around) (L : Addr) (c : Code) (Q : PV) (E : PV) (m : Mp) (H : HF) : Prop :=
 ∀ s : Shared, St C L m H s.heap → s.gens = #[] → codeAny C.M A c (fun r s' => match r with | .ok (.ret v) => QS C L s Q v s' | .ok _ => False | .error e => QS C L s E e s') s
theorem xP {K : Frag} {mg mb : Mp} {q : Program} {loose : List Str} {oc : Value} {od : Option Addr} {osl : Array (Option Value)} {name qual : Str} {params : Arguments} {body : List Stmt} {scope : Scope} {dV kV doc pm cdv ct : Value} {an : Option Addr}
 {f : Addr} {vs : List Value} {kw : List (Str × Value)} {binds : List (Str × Value)} {Q : PV} {Qf : Value → HF → Prop} (Hf : HF)
 (X : Bd K mg mb q loose C) (ho : K.lookup f = some ⟨oc, od, .func (fnOf name qual params body scope dV kV doc pm an cdv ct), osl⟩) (hcd : codeIn K cdv qual = true) (hroom : A.depth < recursionLimit)
 (hbind : ∀ s : Shared, K.In s.heap → BindsTo s (fnOf name qual params body scope dV kV doc pm an cdv ct) ⟨vs, kw⟩ binds) (hloc : ∀ y ∈ binds, scope.names.lookup y.1 = some .local) (hsub : Ext Hf H)
 (h : ∀ B' L', Ext C.B B' → W (C.at_ B') (A.deeper (envOf qual scope L' f cdv)) (envOf qual scope L' f cdv).locals (execs body (envOf qual scope L' f cdv)) (fun fl _ H' => Qf (match fl with | .ret v => v | _ => .none) H') (fun _ _ _ => False) (bl binds) Hf)
 (k : ∀ v Hf' H', Qf v Hf' → Upd Hf H Hf' H' → Q v m H')
 (hco : scope.isCoroutine = false := by kernel_rfl) (hgen : scope.isGenerator = false := by kernel_rfl) (hk : scope.kind = .function := by kernel_rfl) (hcell : ∀ x ∈ scope.names, x.2 ≠ .cell := by decide +kernel) :
 WC C A L (.call (.ref f) ⟨vs, kw⟩) Q E m H := fun s S g => by
 refine (codeAny_call_def (fd := fnOf name qual params body scope dV kV doc pm an cdv ct) (body := body) (binds := binds) hroom (X.K _ S.kb _ _ ho) rfl (X.T _ S.kb).nolimit (codeRec_of (X.K _ S.kb) hcd) rfl (hbind s (X.K _ S.kb)) hcell hloc (fun h₀ hns hkeep => ?_) hco hgen hk)
 have nB : ∀ b o, C.B b = some o → Hf b = none := fun b o e => by
  cases q : Hf b with
  | none => rfl
  | some o' => have := S.new b o' (hsub b o' q); rw [this] at e; cases e
 have S₀ : St (C.at_ (kc C.B L Hf s.heap)) s.heap.objs.size (bl binds) Hf h₀ := by
  refine ⟨hns, fun a o e => hkeep _ _ (S.at_ a o (hsub a o e)), ?_, fun b o e => (jW S e).keep (hkeep _), fun a o e => xZ e, ?_⟩
  · cases q : Hf s.heap.objs.size with
    | none => rfl
    | some o => have := S.at_ _ _ (hsub _ _ q); rw [zt] at this; cases this
  · show kc C.B L Hf s.heap _ = none
    unfold kc; split
    · rfl
    · rw [(S.fresh (zt s.heap)).2.2, zt]; rfl
 refine wpAny_mono (h (kc C.B L Hf s.heap) s.heap.objs.size (kE nB) { s with heap := h₀, toks := s.toks + binds.length } S₀ g) (fun fl s' q => ?_) fun e s' q => ?_
 · refine hdG fun gQ gZ => ?_
   obtain ⟨m', Hf', S', g', eo, q⟩ := q
   obtain ⟨b1, b2⟩ := S.back hsub S'
   refine gZ ?_
   exact ⟨m, _, b1, g', eo, k _ _ _ q b2⟩
 · refine hdG fun gQ gZ => ?_
   obtain ⟨m', Hf', S', g', eo, q⟩ := q
   refine gZ ?_
   exact q.elim
theorem K6 {Cl fI : Addr} {vs : List Value} {Q : PV} (X : Bd K mg mb q loose C) (hm : makesIn K Cl = true) (hi : findIn K (.ref Cl) "__init__" = some (some (.ref fI))) (hf : typeIn K (.ref fI) = some (.type "function"))
 (h : ∀ x dx, H x = none → H dx = none → x ≠ dx → x ≠ L → dx ≠ L → WC C (A.under (.builtin "type.__call__" ⟨.ref Cl :: vs, []⟩)) L (.call (.ref fI) ⟨.ref x :: vs, []⟩) (fun v m H => v = .none ∧ Q (.ref x) m H) E m (put (put H dx emptyDict) x (instObj Cl dx))) :
 W C A L (call (.ref Cl) vs) Q E m H := fun s S g => by
 have p := S.push (o := emptyDict) rfl
 have p2 := p.1.push (o := instObj Cl s.heap.objs.size) rfl
 have e : (s.heap.push emptyDict).objs.size = s.heap.objs.size + 1 := Heap.size_push _ _
 have nd : s.heap.objs.size + 1 ≠ s.heap.objs.size := Nat.succ_ne_self _
 have z := h (s.heap.objs.size + 1) s.heap.objs.size (by have := p2.2.1; rw [e, za nd] at this; exact this) p.2.1 nd (e ▸ p2.2.2) p.2.2
 rw [e] at p2
 refine wpAny_call ?_
 refine hdG fun gQ gZ => ?_
 obtain ⟨hh, gg, d, t, os⟩ := s
 refine gZ ?_
 refine make_core (makes_of (X.K _ S.kb) hm) (looks_findIn (X.K _ S.kb) hi) (fun self => bind_fn (X.K _ S.kb) self hf) (.inl rfl) ?_
 have z' := z ⟨(hh.push emptyDict).push (instObj Cl hh.objs.size), gg, d, t, os⟩ p2.1 g
 refine codeAny_mono z' fun r s' y => ?_
 rcases r with e | (v | _ | _ | _)
 · exact y
 · exact y.elim
 · exact y.elim
 · exact y.elim
 · refine hdG fun gQ gZ => ?_
   obtain ⟨m', H', S', g', eo, rfl, y⟩ := y
   refine gZ ?_
   exact ⟨rfl, m', H', S', g', eo, y⟩
end
end
section
section
variable {α β : Type} {C : Cx} {A : Around} {L : Addr} {E : PV} {m : Mp} {H : HF} {env : Env}
theorem vz {value : Expr} {attr : Str} {pos : Pos} {Q : PV} (h : W C A L (eval value env) (fun o m H => W C A L (getAttr o attr true) Q E m H) E m H)
 (he : eval (.Attribute value attr pos) env = (do
  let o ← eval value env
  standAt pos.atName
  let r ← holding [o] (getAttr o attr true)
  letTemporaryGo value o r
  pure r)) : W C A L (eval (.Attribute value attr pos) env) Q E m H :=
 fun s S g => Attribute_any_ (h.useQ S g rfl fun v m' H' s' S' g' e q => q.useQ S' g' e fun v m' H' s' S' g' e q => ⟨m', H', S', g', e, q⟩) he
theorem qD {o value : Expr} {attr : Str} {tpos pos : Pos} {op : Operator} {Q : PF}
 (h : W C A L (eval o env) (fun ov m H => W C A L (getAttr ov attr true) (fun old m H => W C A L (eval value env) (fun v m H => W C A L (inplaceOp op old v) (fun new m H => W C A L (setAttr ov attr new) (fun _ => Q .next) E m H) E m H) E m H) E m H) E m H) :
 W C A L (exec (.AugAssign (.Attribute o attr tpos) op value pos) env) Q E m H :=
 fun s S g => wpAny_AugAssign_AttributeAny (h.useQ S g rfl fun v m' H' s' S' g' e q => q.useQ S' g' e fun v m' H' s' S' g' e q => q.useQ S' g' e fun v m' H' s' S' g' e q => q.useQ S' g' e fun v m' H' s' S' g' e q => q.useQ S' g' e fun v m' H' s' S' g' e q => ⟨m', H', S', g', e, q⟩)
theorem vv {target value : Expr} {pos : Pos} {Q : PV} (h : W C A L (eval value env) (fun v m H => W C A L (assign target env v) (fun _ m H => Q v m H) E m H) E m H) : W C A L (eval (.NamedExpr target value pos) env) Q E m H :=
 fun s S g => wpAny_NamedExpr (h.useQ S g rfl fun v m' H' s' S' g' e q => q.useQ S' g' e fun _ m' H' s' S' g' e q => ⟨m', H', S', g', e, q⟩)
section
variable {K : Type} [DecidableEq K]
structure zG {p : Program} {w : World} (knd : KeyKind p w K) (H : HF) (d : Addr) (kvs : List (K × Value)) : Prop where
 lo : (d == sysModules) = false
 of : ∃ o, H d = some o ∧ o.IsDictOf knd kvs
variable {p : Program} {w : World} {knd : KeyKind p w K} {kvs : List (K × Value)} {d : Addr} {k : K} {key : Value}
theorem zG.ext {H H' : HF} (D : zG knd H d kvs) (e : Ext H H') : zG knd H' d kvs := ⟨D.lo, let ⟨o, a, b⟩ := D.of; (zd o (e _ _ a) b)⟩
theorem zG.eq {H H' : HF} (D : zG knd H d kvs) (e : H' d = H d) : zG knd H' d kvs := ⟨D.lo, let ⟨o, a, b⟩ := D.of; (zd o (e.trans a) b)⟩
theorem zG.new {H : HF} (lo : (d == sysModules) = false) : zG knd (put H d emptyDict) d [] := ⟨lo, _, zb, #[], 0, ⟨rfl, rfl, rfl⟩, rfl, (fun _ he => by simp at he), .nil, List.nodup_nil⟩
theorem zG.cls {H : HF} (D : zG knd H d kvs) : ∃ o, H d = some o ∧ o.cls = .type "dict" ∧ o.dict = none := let ⟨o, a, _, _, b, _⟩ := D.of; (zP o a b.1 b.2.1)
theorem zG.ne {H : HF} {a : Addr} {o : Obj} (D : zG knd H d kvs) (h : H a = some o) (n : o.cls ≠ .type "dict") : a ≠ d := fun e => by
 refine zu D.cls fun o' h' c _ => ?_
 rw [← e, h] at h'; cases h'; exact n c
theorem zG.hasT {H : HF} (D : zG knd H d kvs) : Qm H (.ref d) "dict" := let ⟨o, a, b, c⟩ := D.cls; .inr (qN _ o rfl a b c)
theorem zG.nodup {H : HF} (D : zG knd H d kvs) : (kvs.map (·.1)).Nodup := let ⟨_, _, _, _, _, _, _, _, n⟩ := D.of; n
end
section
variable {K : Type} [DecidableEq K] {knd : KeyKind C.prog C.w K} {kvs : List (K × Value)} {d : Addr} {k : K} {key : Value}
theorem zG.dictOf {h : Heap} (D : zG knd H d kvs) (S : St C L m H h) : h.DictOf knd d kvs := let ⟨o, a, b⟩ := D.of; Heap.dictOf_iff.mpr (zd o (S.at_ _ _ a) b)
theorem zG.upd {h h' : Heap} {kvs' : List (K × Value)} (D : zG knd H d kvs) (S : St C L m H h) (hd : h'.DictOf knd d kvs') (hs : Heap.SameBut d h h') : ∃ o, St C L m (put H d o) h' ∧ zG knd (put H d o) d kvs' := by
 refine hdG fun gQ gZ => ?_
 obtain ⟨o, a, b⟩ := D.of
 obtain ⟨o', a', b'⟩ := Heap.dictOf_iff.mp hd
 refine gZ ?_
 exact ⟨o', S.same a hs a', D.lo, o', zb, b'⟩
theorem vx {Kf : Frag} {mg mb : Mp} {q : Program} {loose : List Str} {a₀ : Addr} {o₀ : Obj} {pos : Pos} {Q : PV} (X : Bd Kf mg mb q loose C) (h : ∀ d, H d = none → d ≠ L → (d == sysModules) = false → Q (.ref d) m (put H d emptyDict))
 (hk : Kf.lookup a₀ = some o₀) (hlt : 1 < a₀) : W C A L (eval (.Dict [] [] pos) env) Q E m H := fun s S g => wpAny_Dict_empty (by
 have p := S.push (o := emptyDict) rfl
 have lt := Heap.lt_size (X.K _ S.kb _ _ hk)
 refine ⟨m, _, p.1, g, rfl, h _ p.2.1 p.2.2 ?_⟩
 rw [beq_eq_false_iff_ne]; intro e; exact absurd (e ▸ Nat.lt_trans hlt lt : 1 < sysModules) (by decide))
theorem z8.dict {v : Value} {Q : PV} (D : zG knd H d kvs) (hk : knd.is k key = true) (hv : valueAt kvs k = some v) (h : Q v m H) : z8 C A L (.ref d) key Q E m H :=
 ⟨"dict", _, slot_dict_getitem.lookup, D.hasT, fun s S g => wpAny_getItem_of hk (D.dictOf S).mapOf hv ⟨m, H, S, g, rfl, h⟩⟩
theorem jc {v : Value} {Q : Unit → Mp → HF → Prop} (D : zG knd H d kvs) (hk : knd.is k key = true) (hz : kvs.length ≤ sizeLine) (h : ∀ o, zG knd (put H d o) d (stored kvs k v) → Q () m (put H d o)) : W C A L (setItem (.ref d) key v) Q E m H :=
 fun s S g => wpAny_setItem_pairs hk (D.dictOf S) (fun h' hd hs => by
  obtain ⟨o, S', D'⟩ := D.upd S hd hs
  exact ⟨m, _, S', g, rfl, h o D'⟩) hz
theorem fy {Q : PV} (D : zG knd H d kvs) (hk : knd.is k key = true) (h : Q (.bool (valueAt kvs k).isSome) m H) : W C A L (compareOp .In key (.ref d)) Q E m H :=
 fun s S g => wpAny_in_of hk D.lo (D.dictOf S).mapOf ⟨m, H, S, g, rfl, h⟩
theorem we {Q : PV} (D : zG knd H d kvs) (hk : knd.is k key = true) (h : Q ((valueAt kvs k).getD .none) m H) : W C A L (call (.builtin "dict.get") [.ref d, key]) Q E m H :=
 fun s S g => call_meetsIn PySem.F.slot_dict_get (D.dictOf S).typeIs PySem.F.entry_dict_get (PySem.F.args_dict_get_2 _ _) (meets_dict_get knd d hk D.lo) ⟨_, (D.dictOf S).mapOf, m, H, S, g, rfl, h⟩
theorem Xw {dflt : Value} {Q : PV} (D : zG knd H d kvs) (hk : knd.is k key = true) (h : Q ((valueAt kvs k).getD dflt) m H) : W C A L (call (.builtin "dict.get") [.ref d, key, dflt]) Q E m H :=
 fun s S g => call_meetsIn PySem.F.slot_dict_get (D.dictOf S).typeIs PySem.F.entry_dict_get (PySem.F.args_dict_get_3 _ _ _) (meets_dict_get_default knd d hk D.lo dflt) ⟨_, (D.dictOf S).mapOf, m, H, S, g, rfl, h⟩
theorem xR {p : Program} {w : World} {knd : KeyKind p w K} {dflt : Value} {A : Around} {E : Value → Shared → Prop} {s : Shared} {Q : Value → Shared → Prop} (hkey : knd.is k key = true) (hm : s.heap.DictOf knd d kvs) (hz : kvs.length ≤ sizeLine)
 (hthere : ∀ v, valueAt kvs k = some v → Q v { s with toks := s.toks + 1 })
 (hnew : valueAt kvs k = none → ∀ h', h'.DictOf knd d (kvs ++ [(k, dflt)]) → Heap.SameBut d s.heap h' → Q dflt { s with heap := h', toks := s.toks + 1 }) :
 wpAny (model p w) A (dictSetDefault d key dflt) Q E s := by
 refine hdG fun gQ gZ => ?_
 obtain ⟨o, es, ep, ho, hc, hd, hk, hp, hn⟩ := hm
 refine gZ ?_
 have hes : es.size ≤ sizeLine := by
  have e1 := hp.length; have e2 : es.toList.length = es.size := by simp
  omega
 unfold dictSetDefault
 try with_reducible refine wpAny_holding ?_
 refine wpAny_bind (knd.pyHash hkey ?_)
 refine wpAny_bind (wpAny_dictFind_of (s := { s with toks := s.toks + 1 }) hkey ho hd hk ?_)
 have hidx : (es.findIdx? fun e => knd.is k e.key) = kvs.findIdx? fun kv => decide (kv.1 = k) := by
  rw [← hp.findIdx k]; obtain ⟨l⟩ := es; simp
 cases hi : es.findIdx? fun e => knd.is k e.key with
 | some i =>
  have hl : (es.toList.findIdx? fun e => knd.is k e.key) = some i := by rw [← hi]; obtain ⟨l⟩ := es; simp
  refine zu (hp.at hl) fun e he hek hev => ?_
  refine wpAny_bind (wpAny_dictEntries (s := { s with toks := s.toks + 1 }) ho hd ?_)
  have he' : es[i]? = some e := by rw [← he]; obtain ⟨l⟩ := es; simp
  rw [he']
  exact wpAny_bind (wpAny_rule (wpAny_pure (hthere e.val hev)))
 | none =>
  have hnot : k ∉ kvs.map (·.1) := not_mem_of_findIdx_none (hidx ▸ hi)
  have hfk : valueAt kvs k = none := by
   rw [← hp.find k]
   have : (es.toList.find? fun e => knd.is k e.key) = none := by
    rw [List.find?_eq_none]
    intro e he
    have := Array.findIdx?_eq_none_iff.mp hi e (Array.mem_toList_iff.mp he)
    simpa using this
   rw [this]; rfl
  refine wpAny_bind (wpAny_rule (wpAny_bind (wpAny_updateDictKeys (hz := hes) (s := { s with toks := s.toks + 1 }) ho hd (wpAny_pure (hnew hfk _ ⟨_, _, ep + 1, Heap.get?_update_self _ ho (Obj.isFreed_of_dict (Obj.data_mapDictKeys hd _)),
   hc.mapDictKeys _, Obj.data_mapDictKeys hd _, hk.push hkey _, ?_, ?_⟩ (Heap.SameBut.update ..))))))
  · have := hp.append hkey (knd.hash k) dflt
    obtain ⟨l⟩ := es
    simpa using this
  · rw [List.map_append, List.nodup_append]
    refine (zl hn (by simp) ?_)
    intro a ha b hb
    simp only [List.map_cons, List.map_nil, List.mem_singleton] at hb
    subst hb
    exact fun e => hnot (e ▸ ha)
theorem Zy {dflt : Value} {Q : PV} (D : zG knd H d kvs) (hk : knd.is k key = true) (hz : kvs.length ≤ sizeLine) (h1 : ∀ v, valueAt kvs k = some v → Q v m H) (h2 : valueAt kvs k = none → ∀ o, zG knd (put H d o) d (kvs ++ [(k, dflt)]) → Q dflt m (put H d o)) :
 W C A L (call (.builtin "dict.setdefault") [.ref d, key, dflt]) Q E m H := fun s S g => by
 refine wpAny_call_entry PySem.F.slot_dict_setdefault (D.dictOf S).typeIs PySem.F.entry_dict_setdefault ?_ (PySem.F.args_dict_setdefault_3 _ _ _)
 unfold Builtin.«dict.setdefault»
 refine wpAny_bind ?_
 unfold Builtin.Dict.keyAndDefault
 refine wpAny_bind (wpAny_notOrdered_dict (D.dictOf S).typeIs ?_)
 show wpAny _ _ (pure (d, key, some dflt)) _ _ s
 refine wpAny_pure ?_
 show wpAny _ _ (if (d == sysModules) = true then _ else (dictSetDefault d key dflt >>= _)) _ _ s
 rw [if_neg (by rw [D.lo]; exact Bool.false_ne_true)]
 exact wpAny_bind (xR hk (D.dictOf S) hz (fun v hv => wpAny_pure (zd v rfl ⟨ m, H, S, g, rfl, h1 v hv⟩)) fun hn h' hm' hs' => wpAny_pure (zd dflt rfl (by
  refine zc (D.upd S hm' hs') fun o S' D' => ?_
  exact ⟨m, _, S', g, rfl, h2 hn o D'⟩)))
theorem Xx {Q : Unit → Mp → HF → Prop} (D : zG knd H d kvs) (hk : knd.is k key = true) (hz : kvs.length ≤ sizeLine) (hl : (valueAt kvs k).isSome = true) (h : ∀ o, zG knd (put H d o) d (without kvs k) → Q () m (put H d o)) : W C A L (delItem (.ref d) key) Q E m H := fun s S g => by
 have hD := D.dictOf S
 unfold delItem
 try with_reducible refine wpAny_holding ?_
 refine wpAny_bind (wpAny_sequenceKey hD.typeIs (by decide) ?_)
 refine wpAny_bind (wpAny_callSpecial?_slot (name := Str.ofString "__delitem__") hD.typeIs PySem.F.slot_dict_delitem
  (call_meetsIn PySem.F.slot_dict_delitem hD.typeIs PySem.F.entry_dict_delitem (PySem.F.args_dict_delitem_2 _ _) (meets_dict_delitem_pairs knd d hk) (yU kvs hD hz hl (fun h' hmm hs => ?_))))
 refine zc (D.upd S hmm hs) fun o S' D' => ?_
 exact wpAny_pure ⟨m, _, S', g, rfl, h o D'⟩
theorem Jh {o i : Expr} {p pos : Pos} {Q : PF} (h : W C A L (eval o env) (fun ov m H => W C A L (eval i env) (fun iv m H => W C A L (delItem ov iv) (fun _ m H => Q .next m H) E m H) E m H) E m H) : W C A L (exec (.Delete [.Subscript o i p] pos) env) Q E m H :=
 fun s S g => wpAny_Delete (wpAny_deleteEach_cons (by
  rw [arm_delete_Subscript]
  exact wpAny_bind (h.useQ S g rfl fun v m' H' s' S' g' e q => wpAny_bind (wpAny_holding (q.useQ S' g' e fun v m' H' s' S' g' e q => wpAny_bind (wpAny_standAt (wpAny_bind (wpAny_holding (q.useQ S' g' e fun v m' H' s' S' g' e q =>
   wpAny_release (wpAny_deleteEach_nil ⟨m', H', S', g', e, q⟩))))))))))
end
end
end
section
section
variable {α β : Type} {C : Cx} {A : Around} {L : Addr} {E : PV} {m : Mp} {H : HF} {env : Env}
theorem kQ {prog : Program} {w : World} {A : Around} {target : Expr} {I : Addr} {o : Obj} {v : Value} {T : String} {s : Shared} {Q : Unit → Shared → Prop} {E : Value → Shared → Prop} (ho : s.heap.get? I = some o)
 (hc : o.cls = .type T) (hT : (["enumerate", "zip", "dict_itemiterator", "dict_reverseitemiterator", "odict_iterator", "itertools.zip_longest", "itertools.pairwise"] : List String).contains T = false) (q : Q () s) :
 wpAny (model prog w) A (letOwnedTupleGo target (.ref I) v) Q E s := by
 unfold letOwnedTupleGo
 split <;> first | exact wpAny_pure q | skip
 all_goals
  split
  · rename_i r a' heq
    cases heq
    refine wpAny_bind (wpAny_load ho ?_)
    refine hdG fun gQ gZ => ?_
    obtain ⟨c, d, dt, sl⟩ := o
    refine gZ ?_
    dsimp only at hc
    subst hc
    dsimp only
    split
    · rename_i h1 h2
      injection h2 with h2
      subst h2
      rw [hT, Bool.false_and, if_neg (by decide)]
      exact wpAny_pure q
    · exact wpAny_pure q
  · exact wpAny_pure q
section
variable {K : Type} [DecidableEq K] {knd : KeyKind C.prog C.w K} {kvs : List (K × Value)} {d : Addr} {k : K} {key : Value}
theorem vA (D : zG knd H d kvs) : vB C A L m H (.ref d) kvs.length (fun i v => ∃ k x, kvs[i]? = some (k, x) ∧ knd.is k v = true) [d] := fun s S g Q E h => by
 obtain ⟨ep, hd⟩ := (D.dictOf S).dictAt
 have lt := hd.lt_size
 refine wpAny_pyIter_dict D.lo hd (h _ s.toks [s.heap.objs.size, d] (fun i h => h.IsKeyIter s.heap.objs.size d i kvs.length ep ∧ h.DictAt knd d kvs ep) rfl (fun A' hA => ?_) (by simp) (fun k h' t => ?_) (fun target v k s' Q' E' t q => ?_) ⟨⟨_, Heap.get?_push_size _ rfl, rfl, rfl⟩, hd.push _⟩)
 · exact Walks.dictKeys hA s.heap.objs.size d (Nat.ne_of_lt lt) kvs ep
 · obtain ⟨⟨o, ho, _⟩, _⟩ := t; exact ⟨o, ho⟩
 · refine hdG fun gQ gZ => ?_
   obtain ⟨⟨o, ho, hc, _⟩, _⟩ := t
   refine gZ ?_
   exact kQ ho hc (by decide) q
abbrev ZH (d : Addr) : Obj := { cls := .type "dict_values", data := .fields #[.ref d] }
theorem jf {v : Addr} (D : zG knd H d kvs) (hv : H v = some (ZH d)) : vB C A L m H (.ref v) kvs.length (fun i v => ∃ k, kvs[i]? = some (k, v)) [d] := fun s S g Q E h => by
 obtain ⟨ep, hd⟩ := (D.dictOf S).dictAt
 have lt := hd.lt_size
 refine wpAny_pyIter_values ⟨_, S.at_ _ _ hv, rfl, rfl⟩ hd (h _ s.toks [s.heap.objs.size, d] (fun i h => h.IsValIter s.heap.objs.size d i kvs.length ep ∧ h.DictAt knd d kvs ep) rfl (fun A' hA => ?_) (by simp) (fun k h' t => ?_) (fun target v k s' Q' E' t q => ?_) ⟨⟨_, Heap.get?_push_size _ rfl, rfl, rfl⟩, hd.push _⟩)
 · exact Walks.dictValues hA s.heap.objs.size d (Nat.ne_of_lt lt) kvs ep
 · obtain ⟨⟨o, ho, _⟩, _⟩ := t; exact ⟨o, ho⟩
 · refine hdG fun gQ gZ => ?_
   obtain ⟨⟨o, ho, hc, _⟩, _⟩ := t
   refine gZ ?_
   exact kQ ho hc (by decide) q
theorem Q8 {Q : PV} (D : zG knd H d kvs) (h : ∀ v, H v = none → v ≠ L → Q (.ref v) m (put H v (ZH d))) : W C A L (call (.builtin "dict.values") [.ref d]) Q E m H := fun s S g => by
 refine call_meetsIn PySem.F.slot_dict_values (D.dictOf S).typeIs PySem.F.entry_dict_values (PySem.F.args_dict_values_1 _) (meets_dict_values knd d D.lo) ⟨⟨kvs, D.dictOf S⟩, ?_⟩
 have p := S.push (o := ZH d) rfl
 exact ⟨m, _, p.1, g, rfl, h _ p.2.1 p.2.2⟩
end
section
variable {K : Type} [DecidableEq K]
noncomputable def iM {p : Program} {w : World} (knd : KeyKind p w K) (o : Obj) (S : K → Bool) (n : Nat) : Prop :=
 ∃ es ep t, o.ExactSet ∧ o.data = .set es ep t ∧ ElemsOf knd es.toList ∧ (∀ k, S k = true ↔ ∃ e ∈ es.toList, knd.is k e.2 = true) ∧ es.size < scanBound ∧ t.fits es.size = true ∧ es.size = n
structure jw {p : Program} {w : World} (knd : KeyKind p w K) (H : HF) (a : Addr) (S : K → Bool) (n : Nat) : Prop where
 of : ∃ o, H a = some o ∧ iM knd o S n
variable {p : Program} {w : World} {knd : KeyKind p w K} {T : K → Bool} {a : Addr} {k : K} {key : Value} {n : Nat}
theorem jw.ext {H H' : HF} (D : jw knd H a T n) (e : Ext H H') : jw knd H' a T n := ⟨let ⟨o, x, y⟩ := D.of; (zd o (e _ _ x) y)⟩
theorem jw.eq {H H' : HF} (D : jw knd H a T n) (e : H' a = H a) : jw knd H' a T n := ⟨let ⟨o, x, y⟩ := D.of; (zd o (e.trans x) y)⟩
theorem jw.cls {H : HF} (D : jw knd H a T n) : ∃ o, H a = some o ∧ o.cls = .type "set" ∧ o.dict = none := let ⟨o, x, _, _, _, b, _⟩ := D.of; (zP o x b.1 b.2.1)
theorem jw.hasT {H : HF} (D : jw knd H a T n) : Qm H (.ref a) "set" := let ⟨o, x, b, c⟩ := D.cls; .inr (qN _ o rfl x b c)
end
section
variable {K : Type} [DecidableEq K] {knd : KeyKind C.prog C.w K} {T : K → Bool} {a : Addr} {k : K} {key : Value} {n : Nat}
theorem jw.setOf {h : Heap} (D : jw knd H a T n) (S : St C L m H h) : h.SetOf knd a T n := let ⟨o, x, es, ep, t, r⟩ := D.of; ⟨o, es, ep, t, S.at_ _ _ x, r⟩
theorem K3 {Q : PV} (h : ∀ a o, H a = none → a ≠ L → jw knd (put H a o) a (fun _ => false) 0 → Q (.ref a) m (put H a o)) : W C A L (call (.type "set") []) Q E m H := fun s S g => call_set_0 (fun led => by
 have p := S.push (o := { cls := .type "set", dict := none, data := .set #[] 0 (.fresh 0 0 led) }) rfl
 refine ⟨m, _, p.1, g, rfl, h _ _ p.2.1 p.2.2 ⟨_, zb, #[], 0, _, ⟨rfl, rfl, rfl⟩, rfl, ?_, (fun k => by simp), (by decide), ?_, rfl⟩⟩
 · exact fun e he => by simp at he
 · rfl)
theorem K9 {Q : PV} (D : jw knd H a T n) (hk : knd.is k key = true) (hs : key.scannable = true) (h : Q (.bool (T k)) m H) : W C A L (compareOp .In key (.ref a)) Q E m H :=
 fun s S g => wpAny_inSet_of hk hs (D.setOf S) ⟨m, H, S, g, rfl, h⟩
theorem Q9 {Q : PV} (D : jw knd H a T n) (hk : knd.is k key = true) (hs : key.scannable = true) (hz : n + 1 < scanBound) (h : ∀ o, jw knd (put H a o) a (fun k' => T k' || decide (k' = k)) (if T k then n else n + 1) → Q .none m (put H a o)) :
 W C A L (call (.builtin "set.add") [.ref a, key]) Q E m H := fun s S g => call_set_add hk hs (D.setOf S) hz fun h' sb so => by
 refine hdG fun gQ gZ => ?_
 obtain ⟨o', es, ep, t, ho', r⟩ := so
 refine zc D.of fun o x _ => ?_
 refine gZ ?_
 exact ⟨m, _, S.same x sb ho', g, rfl, h o' ⟨o', zb, es, ep, t, r⟩⟩
end
end
end
section
theorem bh : typeOf (.builtin "dict.get") = pure (.type "method_descriptor") := PySem.F.type_dict_get
theorem fg : typeLookup (.type "dict") "get" = pure (some (.builtin "dict.get")) := PySem.F.slot_dict_get.lookup
theorem ff : Manifest.toldItsClass.contains "dict.get" = false := by decide +kernel
theorem g0 : (".".intercalate ("dict.get".cutAt '.').dropLast, ("dict.get".cutAt '.').getLastD "") = ("dict", "get") := by decide +kernel
theorem bm : isSubtype (.type "dict") (.type "dict") = pure true := by rw [isSubtype_type]; kernel_rfl
theorem VI : isSubtype (.type "dict") (.type (".".intercalate ("dict.get".cutAt '.').dropLast)) = pure true := by
 rw [show ".".intercalate ("dict.get".cutAt '.').dropLast = "dict" by decide +kernel]; exact bm
theorem Wj : typeOf (.builtin "set.__contains__") = pure (.type "method_descriptor") := PySem.F.type_set_contains
theorem cS : typeLookup (.type "set") "__contains__" = pure (some (.builtin "set.__contains__")) := PySem.F.slot_set_contains.lookup
theorem cR : Manifest.toldItsClass.contains "set.__contains__" = false := by decide +kernel
theorem fH : (".".intercalate ("set.__contains__".cutAt '.').dropLast, ("set.__contains__".cutAt '.').getLastD "") = ("set", "__contains__") := by decide +kernel
theorem Wl : isSubtype (.type "set") (.type "set") = pure true := by rw [isSubtype_type]; kernel_rfl
theorem J5 : isSubtype (.type "set") (.type (".".intercalate ("set.__contains__".cutAt '.').dropLast)) = pure true := by
 rw [show ".".intercalate ("set.__contains__".cutAt '.').dropLast = "set" by decide +kernel]; exact Wl
section
variable {prog : Program} {w : World} {A : Around} {E : Value → Shared → Prop} {h : Heap} {g : Array GenState} {d : Drawn} {t : Nat} {os : OsState} {a : Addr} {o : Obj}
theorem bn {R : Result → Shared → Prop} (hx : h.get? a = some o) (hc : o.cls = .type "dict") (hq : R (.ok (.ret (.ref h.objs.size))) ⟨h.push { cls := .type "builtin_function_or_method", data := .fields #[.builtin "dict.get", .ref a] }, g, d, t, os⟩) :
 codeAny (model prog w) A (.call (.builtin "method_descriptor.__get__") ⟨[.builtin "dict.get", .ref a, .type "dict"], []⟩) R ⟨h, g, d, t, os⟩ := by
 refine hdG fun gQ gZ => ?_
 obtain ⟨oc, od, oda, osl⟩ := o
 refine gZ ?_
 dsimp only at hc
 subst hc
 have hT5 : (⟨h, g, d, t, os⟩ : Shared).TypeIs (.builtin "dict.get") "method_descriptor" := bh
 have f8 : Looks (model prog w) h (isSubtype (.type "dict") (.type (".".intercalate ("dict.get".cutAt '.').dropLast))) true := Looks.of_pure VI
 refine codeAny_call_builtin xE.plain wH (xE.check _ _ _ _ _ _ _ _ hT5 (Z2 _ _ _) ?_)
 repeat lk
 exact hq
theorem VJ {Q : Value → Shared → Prop} {expr : Bool} {its : Array DictEntry} {n : Nat} (hx : h.get? a = some { cls := .type "dict", data := .dict its n }) (hq : Q (.ref h.objs.size) ⟨h.push { cls := .type "builtin_function_or_method", data := .fields #[.builtin "dict.get", .ref a] }, g, d, t + 1, os⟩) :
 wpAny (model prog w) A (getAttr (.ref a) "get" expr) Q E ⟨h, g, d, t, os⟩ := by
 have hT : (⟨h, g, d, t + 1, os⟩ : Shared).TypeIs (.ref a) "dict" := ⟨_, hx, rfl⟩
 have L0 : Looks (model prog w) h (typeOf (.ref a)) (.type "dict") := (Looks.ld (part := none) hx).andThen .now
 have L1 : Looks (model prog w) h (typeLookup (.type "dict") "__getattribute__") (some (.builtin "dict.__getattribute__")) := Looks.of_pure PySem.F.slot_dict_getattribute.lookup
 have L2 : Looks (model prog w) h (bindSpecial (.builtin "dict.__getattribute__") (.ref a)) (.builtin "dict.__getattribute__", [.ref a]) := Looks.of_pure (PySem.F.slot_dict_getattribute.bind (.ref a))
 unfold getAttr getAttrBy
 refine wpAny_bind (wpAny_mkText (wpAny_holding (wpAny_bind (L0.at (wpAny_bind (L1.at ?_))))))
 dsimp only
 show wpAny _ _ (getAttrByItsOwn _ _ _ _ _ _) _ _ _
 unfold getAttrByItsOwn
 refine wpAny_bind (wpAny_pure (a := none) (wpAny_bind (wpAny_attempt (wpAny_holding ?_))))
 show wpAny _ _ (if expr && false then _ else boundAndCalled _ _ _) _ _ _
 rw [Bool.and_false, if_neg (by decide)]
 unfold boundAndCalled
 refine wpAny_bind (L2.at (wpAny_call (codeAny_call_builtin PySem.F.slot_dict_getattribute.plain PySem.F.entry_dict_ga (PySem.F.slot_dict_getattribute.check _ _ _ _ _ _ _ _ hT (PySem.F.args_dict_getattribute_2 _ _) ?_))))
 have L3 : Looks (model prog w) h (typeLookup (.type "dict") "get") (some (.builtin "dict.get")) := Looks.of_pure fg
 have L4 : Looks (model prog w) h (typeOf (.builtin "dict.get")) (.type "method_descriptor") := Looks.of_pure bh
 have L5 : Looks (model prog w) h (typeLookup (.type "method_descriptor") "__get__") (some (.builtin "method_descriptor.__get__")) := Looks.of_pure xE.lookup
 have L6 : Looks (model prog w) h (typeLookup (.type "method_descriptor") "__set__") none := Looks.of_pure wy
 have L7 : Looks (model prog w) h (typeLookup (.type "method_descriptor") "__delete__") none := Looks.of_pure wA
 unfold Builtin.«object.__getattribute__»
 repeat (first | with_reducible refine wpAny_call ?_ | lk)
 refine bn hx rfl ?_
 repeat lk
 exact hq
theorem Wm {R : Result → Shared → Prop} (hx : h.get? a = some o) (hc : o.cls = .type "set") (hq : R (.ok (.ret (.ref h.objs.size))) ⟨h.push { cls := .type "builtin_function_or_method", data := .fields #[.builtin "set.__contains__", .ref a] }, g, d, t, os⟩) :
 codeAny (model prog w) A (.call (.builtin "method_descriptor.__get__") ⟨[.builtin "set.__contains__", .ref a, .type "set"], []⟩) R ⟨h, g, d, t, os⟩ := by
 refine hdG fun gQ gZ => ?_
 obtain ⟨oc, od, oda, osl⟩ := o
 refine gZ ?_
 dsimp only at hc
 subst hc
 have hT5 : (⟨h, g, d, t, os⟩ : Shared).TypeIs (.builtin "set.__contains__") "method_descriptor" := Wj
 have f8 : Looks (model prog w) h (isSubtype (.type "set") (.type (".".intercalate ("set.__contains__".cutAt '.').dropLast))) true := Looks.of_pure J5
 refine codeAny_call_builtin xE.plain wH (xE.check _ _ _ _ _ _ _ _ hT5 (Z2 _ _ _) ?_)
 repeat lk
 exact hq
theorem J6 {Q : Value → Shared → Prop} {expr : Bool} {its : Array (Int × Value)} {n : Nat} {tb : SetTable} (hx : h.get? a = some { cls := .type "set", data := .set its n tb }) (hq : Q (.ref h.objs.size) ⟨h.push { cls := .type "builtin_function_or_method", data := .fields #[.builtin "set.__contains__", .ref a] }, g, d, t + 1, os⟩) :
 wpAny (model prog w) A (getAttr (.ref a) "__contains__" expr) Q E ⟨h, g, d, t, os⟩ := by
 have hT : (⟨h, g, d, t + 1, os⟩ : Shared).TypeIs (.ref a) "set" := ⟨_, hx, rfl⟩
 have L0 : Looks (model prog w) h (typeOf (.ref a)) (.type "set") := (Looks.ld (part := none) hx).andThen .now
 have L1 : Looks (model prog w) h (typeLookup (.type "set") "__getattribute__") (some (.builtin "set.__getattribute__")) := Looks.of_pure PySem.F.slot_set_getattribute.lookup
 have L2 : Looks (model prog w) h (bindSpecial (.builtin "set.__getattribute__") (.ref a)) (.builtin "set.__getattribute__", [.ref a]) := Looks.of_pure (PySem.F.slot_set_getattribute.bind (.ref a))
 unfold getAttr getAttrBy
 refine wpAny_bind (wpAny_mkText (wpAny_holding (wpAny_bind (L0.at (wpAny_bind (L1.at ?_))))))
 dsimp only
 show wpAny _ _ (getAttrByItsOwn _ _ _ _ _ _) _ _ _
 unfold getAttrByItsOwn
 refine wpAny_bind (wpAny_pure (a := none) (wpAny_bind (wpAny_attempt (wpAny_holding ?_))))
 show wpAny _ _ (if expr && false then _ else boundAndCalled _ _ _) _ _ _
 rw [Bool.and_false, if_neg (by decide)]
 unfold boundAndCalled
 refine wpAny_bind (L2.at (wpAny_call (codeAny_call_builtin PySem.F.slot_set_getattribute.plain PySem.F.entry_set_ga (PySem.F.slot_set_getattribute.check _ _ _ _ _ _ _ _ hT (PySem.F.args_set_getattribute_2 _ _) ?_))))
 have L3 : Looks (model prog w) h (typeLookup (.type "set") "__contains__") (some (.builtin "set.__contains__")) := Looks.of_pure cS
 have L4 : Looks (model prog w) h (typeOf (.builtin "set.__contains__")) (.type "method_descriptor") := Looks.of_pure Wj
 have L5 : Looks (model prog w) h (typeLookup (.type "method_descriptor") "__get__") (some (.builtin "method_descriptor.__get__")) := Looks.of_pure xE.lookup
 have L6 : Looks (model prog w) h (typeLookup (.type "method_descriptor") "__set__") none := Looks.of_pure wy
 have L7 : Looks (model prog w) h (typeLookup (.type "method_descriptor") "__delete__") none := Looks.of_pure wA
 unfold Builtin.«object.__getattribute__»
 repeat (first | with_reducible refine wpAny_call ?_ | lk)
 refine Wm hx rfl ?_
 repeat lk
 exact hq
theorem Q6 {R : Result → Shared → Prop} {q dd : Addr} {key dflt : Value} {its : Array DictEntry} {n : Nat} (ho : h.get? q = some (bmO "dict.get" (.ref dd))) (hl : h.get? dd = some { cls := .type "dict", data := .dict its n })
 (hq : codeAny (model prog w) A (.builtin "dict.get" ⟨[.ref dd, key, dflt], []⟩) R ⟨h, g, d, t, os⟩) :
 codeAny (model prog w) A (.call (.ref q) ⟨[key, dflt], []⟩) R ⟨h, g, d, t, os⟩ := by
 refine codeAny_of_tree ?_
 show wpAny _ _ (callAny (.ref q) _) _ _ _
 refine nd_load ho ?_
 dsimp only
 have L0 : Looks (model prog w) h (typeOf (.ref dd)) (.type "dict") := (Looks.ld (part := none) hl).andThen .now
 have L1 : Looks (model prog w) h (isInstance (.ref dd) (.type "module")) false := L0.andThen (Looks.of_pure (by rw [isSubtype_type]; kernel_rfl))
 have L2 : Looks (model prog w) h (isInstance (.ref dd) (.type "type")) false := L0.andThen (Looks.of_pure (by rw [isSubtype_type]; kernel_rfl))
 unfold checkBoundCall
 repeat lk
 exact ⟨Code.quiet_builtin _ (by decide +kernel), hq⟩
theorem Q5 {R : Result → Shared → Prop} {q dd : Addr} {key : Value} {its : Array (Int × Value)} {n : Nat} {tb : SetTable} (ho : h.get? q = some (bmO "set.__contains__" (.ref dd))) (hl : h.get? dd = some { cls := .type "set", data := .set its n tb })
 (hq : codeAny (model prog w) A (.builtin "set.__contains__" ⟨[.ref dd, key], []⟩) R ⟨h, g, d, t, os⟩) :
 codeAny (model prog w) A (.call (.ref q) ⟨[key], []⟩) R ⟨h, g, d, t, os⟩ := by
 refine codeAny_of_tree ?_
 show wpAny _ _ (callAny (.ref q) _) _ _ _
 refine nd_load ho ?_
 dsimp only
 have L0 : Looks (model prog w) h (typeOf (.ref dd)) (.type "set") := (Looks.ld (part := none) hl).andThen .now
 have L1 : Looks (model prog w) h (isInstance (.ref dd) (.type "module")) false := L0.andThen (Looks.of_pure (by rw [isSubtype_type]; kernel_rfl))
 have L2 : Looks (model prog w) h (isInstance (.ref dd) (.type "type")) false := L0.andThen (Looks.of_pure (by rw [isSubtype_type]; kernel_rfl))
 unfold checkBoundCall
 repeat lk
 exact ⟨Code.quiet_builtin _ (by decide +kernel), hq⟩
end
section
variable {α β : Type} {C : Cx} {A : Around} {L : Addr} {E : PV} {m : Mp} {H : HF} {env : Env}
variable {K : Type} [DecidableEq K] {knd : KeyKind C.prog C.w K} {kvs : List (K × Value)} {d : Addr} {k : K} {key : Value} {T : K → Bool} {a : Addr} {n : Nat}
theorem Jg {expr : Bool} {Q : PV} (D : zG knd H d kvs) (h : ∀ q, H q = none → q ≠ L → Q (.ref q) m (put H q (bmO "dict.get" (.ref d)))) : W C A L (getAttr (.ref d) "get" expr) Q E m H := fun s S g => by
 refine hdG fun gQ gZ => ?_
 refine zc D.of fun o a hq2 => ?_
 obtain ⟨es, ep, ⟨c1, c2, c3⟩, c4, _⟩ := hq2
 obtain ⟨oc, od, oda, osl⟩ := o
 refine gZ ?_
 dsimp only at c1 c2 c3 c4
 subst c1 c2 c3 c4
 refine hdG fun gQ gZ => ?_
 obtain ⟨hh, gg, dd, tt, os⟩ := s
 refine gZ ?_
 have p := S.push (o := bmO "dict.get" (.ref d)) rfl
 exact VJ (S.at_ _ _ a) ⟨m, _, p.1, g, rfl, h _ p.2.1 p.2.2⟩
theorem Xy {q : Addr} {dflt : Value} {Q : PV} (D : zG knd H d kvs) (ho : H q = some (bmO "dict.get" (.ref d))) (hk : knd.is k key = true) (h : Q ((valueAt kvs k).getD dflt) m H) : W C A L (call (.ref q) [key, dflt]) Q E m H := fun s S g => by
 have dof := D.dictOf S
 refine hdG fun gQ gZ => ?_
 refine zc D.of fun o a hq2 => ?_
 obtain ⟨es, ep, ⟨c1, c2, c3⟩, c4, _⟩ := hq2
 obtain ⟨oc, od, oda, osl⟩ := o
 refine gZ ?_
 dsimp only at c1 c2 c3 c4
 subst c1 c2 c3 c4
 refine hdG fun gQ gZ => ?_
 obtain ⟨hh, gg, dd, tt, os⟩ := s
 refine gZ ?_
 refine wpAny_call (Q6 (S.at_ _ _ ho) (S.at_ _ _ a) (codeAny_builtin PySem.F.entry_dict_get ?_))
 exact meets_dict_get_default knd d hk D.lo dflt A (wants (QS C L ⟨hh, gg, dd, tt, os⟩ Q) (QS C L ⟨hh, gg, dd, tt, os⟩ E)) ⟨hh, gg, dd, tt, os⟩ (zd _ dof.mapOf ⟨ m, H, S, g, rfl, h⟩)
theorem Ja {expr : Bool} {Q : PV} (D : jw knd H a T n) (h : ∀ q, H q = none → q ≠ L → Q (.ref q) m (put H q (bmO "set.__contains__" (.ref a)))) : W C A L (getAttr (.ref a) "__contains__" expr) Q E m H := fun s S g => by
 refine hdG fun gQ gZ => ?_
 refine zc D.of fun o x hq2 => ?_
 obtain ⟨es, ep, tb, ⟨c1, c2, c3⟩, c4, _⟩ := hq2
 obtain ⟨oc, od, oda, osl⟩ := o
 refine gZ ?_
 dsimp only at c1 c2 c3 c4
 subst c1 c2 c3 c4
 refine hdG fun gQ gZ => ?_
 obtain ⟨hh, gg, dd, tt, os⟩ := s
 refine gZ ?_
 have p := S.push (o := bmO "set.__contains__" (.ref a)) rfl
 exact J6 (S.at_ _ _ x) ⟨m, _, p.1, g, rfl, h _ p.2.1 p.2.2⟩
theorem kI {q : Addr} {Q : PV} (D : jw knd H a T n) (ho : H q = some (bmO "set.__contains__" (.ref a))) (hk : knd.is k key = true) (hs : key.scannable = true) (h : Q (.bool (T k)) m H) : W C A L (call (.ref q) [key]) Q E m H := fun s S g => by
 have sof := D.setOf S
 refine hdG fun gQ gZ => ?_
 refine zc D.of fun o x hq2 => ?_
 obtain ⟨es, ep, tb, ⟨c1, c2, c3⟩, c4, _⟩ := hq2
 obtain ⟨oc, od, oda, osl⟩ := o
 refine gZ ?_
 dsimp only at c1 c2 c3 c4
 subst c1 c2 c3 c4
 refine hdG fun gQ gZ => ?_
 obtain ⟨hh, gg, dd, tt, os⟩ := s
 refine gZ ?_
 refine wpAny_call (Q5 (S.at_ _ _ ho) (S.at_ _ _ x) (codeAny_builtin entry_set_contains ?_))
 unfold Builtin.«frozenset.__contains__» Builtin.Frozenset.oneOther
 simp only [List.isEmpty_nil, bind_assoc]
 unfold Builtin.Frozenset.addrOf Builtin.Frozenset.withSetAsKey setContains
 refine wpAny_bind (wpAny_pure ?_)
 try dsimp only
 refine wpAny_bind (wpAny_pure ?_)
 try dsimp only
 refine wpAny_bind (wpAny_tryCatch ?_)
 refine wpAny_holding ?_
 refine wpAny_bind (knd.pyHash hk ?_)
 refine wpAny_bind (wpAny_setFind_of (s := ⟨hh, gg, dd, tt + 1, os⟩) hk hs sof fun r hr => ?_)
 refine wpAny_pure ?_
 show wpAny _ _ (ret (Value.bool r.isSome)) _ _ _
 rw [hr]
 exact wpAny_pure ⟨m, _, S, g, rfl, h⟩
end
end
section
abbrev liO (l : Addr) (i : Nat) : Obj := { cls := .type "list_iterator", data := .fields #[.ref l, .int i 0] }
abbrev mwO (id : String) (v : Value) : Obj := { cls := .type "method-wrapper", data := .fields #[.builtin id, v] }
theorem Vo : Slot "list_iterator" "__getattribute__" "object.__getattribute__" :=
 .of (owner := "object") (n := "__getattribute__") (by rw [typeLookup_type, builtinLookup_eq_fast]; kernel_rfl) (by decide +kernel) (by decide +kernel) (by decide +kernel)
  (by first | exact .inl (by decide +kernel) | exact .inr (by decide +kernel)) (by rw [isSubtype_type]; kernel_rfl)
theorem aK : entryFor table "object.__getattribute__" = some Builtin.«object.__getattribute__» := entryFor_of_tree (by kernel_rfl)
theorem Kr (a b : Value) : argsOk "object.__getattribute__" ⟨[a, b], []⟩ := by unfold argsOk; kernel_rfl
theorem aJ : typeLookup (.type "list_iterator") "__getattribute__" = pure (some (.builtin "object.__getattribute__")) := by rw [typeLookup_type, builtinLookup_eq_fast]; kernel_rfl
theorem aI : typeLookup (.type "list_iterator") "__getattr__" = pure none := by rw [typeLookup_type, builtinLookup_eq_fast]; kernel_rfl
theorem ZO : Slot "wrapper_descriptor" "__get__" "wrapper_descriptor.__get__" :=
 .of (owner := "wrapper_descriptor") (n := "__get__") (by rw [typeLookup_type, builtinLookup_eq_fast]; kernel_rfl) (by decide +kernel) (by decide +kernel) (by decide +kernel)
  (by first | exact .inl (by decide +kernel) | exact .inr (by decide +kernel)) (by rw [isSubtype_type]; kernel_rfl)
theorem Q0 : entryFor table "wrapper_descriptor.__get__" = some Builtin.«wrapper_descriptor.__get__» := entryFor_of_tree (by kernel_rfl)
theorem VP (a b c : Value) : argsOk "wrapper_descriptor.__get__" ⟨[a, b, c], []⟩ := by unfold argsOk; kernel_rfl
theorem Qr : typeLookup (.type "wrapper_descriptor") "__set__" = pure none := by rw [typeLookup_type, builtinLookup_eq_fast]; kernel_rfl
theorem Qs : typeLookup (.type "wrapper_descriptor") "__delete__" = pure none := by rw [typeLookup_type, builtinLookup_eq_fast]; kernel_rfl
theorem aF : typeOf (.builtin "list_iterator.__next__") = pure (.type "wrapper_descriptor") := by show builtinType _ = _; rw [builtinType_eq_fast]; kernel_rfl
theorem eP : typeLookup (.type "list_iterator") "__next__" = pure (some (.builtin "list_iterator.__next__")) := slot_listiter_next.lookup
theorem eO : Manifest.toldItsClass.contains "list_iterator.__next__" = false := by decide +kernel
theorem gL : (".".intercalate ("list_iterator.__next__".cutAt '.').dropLast, ("list_iterator.__next__".cutAt '.').getLastD "") = ("list_iterator", "__next__") := by decide +kernel
theorem aG : isSubtype (.type "list_iterator") (.type "list_iterator") = pure true := by rw [isSubtype_type]; kernel_rfl
theorem Vn : isSubtype (.type "list_iterator") (.type (".".intercalate ("list_iterator.__next__".cutAt '.').dropLast)) = pure true := by
 rw [show ".".intercalate ("list_iterator.__next__".cutAt '.').dropLast = "list_iterator" by decide +kernel]; exact aG
section
variable {prog : Program} {w : World} {A : Around} {E : Value → Shared → Prop} {h : Heap} {g : Array GenState} {d : Drawn} {t : Nat} {os : OsState} {a : Addr} {o : Obj}
theorem aH {R : Result → Shared → Prop} (hx : h.get? a = some o) (hc : o.cls = .type "list_iterator") (hq : R (.ok (.ret (.ref h.objs.size))) ⟨h.push { cls := .type "method-wrapper", data := .fields #[.builtin "list_iterator.__next__", .ref a] }, g, d, t, os⟩) :
 codeAny (model prog w) A (.call (.builtin "wrapper_descriptor.__get__") ⟨[.builtin "list_iterator.__next__", .ref a, .type "list_iterator"], []⟩) R ⟨h, g, d, t, os⟩ := by
 refine hdG fun gQ gZ => ?_
 obtain ⟨oc, od, oda, osl⟩ := o
 refine gZ ?_
 dsimp only at hc
 subst hc
 have hT5 : (⟨h, g, d, t, os⟩ : Shared).TypeIs (.builtin "list_iterator.__next__") "wrapper_descriptor" := aF
 have f8 : Looks (model prog w) h (isSubtype (.type "list_iterator") (.type (".".intercalate ("list_iterator.__next__".cutAt '.').dropLast))) true := Looks.of_pure Vn
 refine codeAny_call_builtin ZO.plain Q0 (ZO.check _ _ _ _ _ _ _ _ hT5 (VP _ _ _) ?_)
 repeat lk
 exact hq
theorem Vp {Q : Value → Shared → Prop} {expr : Bool} {l : Addr} {i : Nat} (hx : h.get? a = some (liO l i)) (hq : Q (.ref h.objs.size) ⟨h.push { cls := .type "method-wrapper", data := .fields #[.builtin "list_iterator.__next__", .ref a] }, g, d, t + 1, os⟩) :
 wpAny (model prog w) A (getAttr (.ref a) "__next__" expr) Q E ⟨h, g, d, t, os⟩ := by
 have hT : (⟨h, g, d, t + 1, os⟩ : Shared).TypeIs (.ref a) "list_iterator" := ⟨_, hx, rfl⟩
 have L0 : Looks (model prog w) h (typeOf (.ref a)) (.type "list_iterator") := (Looks.ld (part := none) hx).andThen .now
 have L1 : Looks (model prog w) h (typeLookup (.type "list_iterator") "__getattribute__") (some (.builtin "object.__getattribute__")) := Looks.of_pure aJ
 have L2 : Looks (model prog w) h (typeLookup (.type "list_iterator") "__getattr__") none := Looks.of_pure aI
 have L3 : Looks (model prog w) h (typeLookup (.type "list_iterator") "__next__") (some (.builtin "list_iterator.__next__")) := Looks.of_pure eP
 have L4 : Looks (model prog w) h (typeOf (.builtin "list_iterator.__next__")) (.type "wrapper_descriptor") := Looks.of_pure aF
 have L5 : Looks (model prog w) h (typeLookup (.type "wrapper_descriptor") "__get__") (some (.builtin "wrapper_descriptor.__get__")) := Looks.of_pure ZO.lookup
 have L6 : Looks (model prog w) h (typeLookup (.type "wrapper_descriptor") "__set__") none := Looks.of_pure Qr
 have L7 : Looks (model prog w) h (typeLookup (.type "wrapper_descriptor") "__delete__") none := Looks.of_pure Qs
 unfold getAttr getAttrBy
 refine wpAny_bind (wpAny_mkText (wpAny_holding (wpAny_bind (L0.at (wpAny_bind (L1.at ?_))))))
 show wpAny _ _ (getAttrByItsOwn _ _ _ _ _ _) _ _ _
 unfold getAttrByItsOwn
 refine wpAny_bind (wpAny_pure (a := none) (wpAny_bind (wpAny_attempt (wpAny_holding ?_))))
 show wpAny _ _ (if expr && false then _ else boundAndCalled _ _ _) _ _ _
 rw [Bool.and_false, if_neg (by decide)]
 unfold boundAndCalled
 have LB : Looks (model prog w) h (bindSpecial (.builtin "object.__getattribute__") (.ref a)) (.builtin "object.__getattribute__", [.ref a]) := Looks.of_pure (Vo.bind (.ref a))
 refine wpAny_bind (LB.at (wpAny_call (codeAny_call_builtin Vo.plain aK (Vo.check _ _ _ _ _ _ _ _ hT (Kr _ _) ?_))))
 unfold Builtin.«object.__getattribute__»
 repeat (first | with_reducible refine wpAny_call ?_ | lk)
 refine aH hx rfl ?_
 repeat lk
 exact hq
theorem YK {R : Result → Shared → Prop} {q it l : Addr} {i : Nat} (ho : h.get? q = some (mwO "list_iterator.__next__" (.ref it))) (hl : h.get? it = some (liO l i))
 (hq : codeAny (model prog w) A (.builtin "list_iterator.__next__" ⟨[.ref it], []⟩) R ⟨h, g, d, t, os⟩) :
 codeAny (model prog w) A (.call (.ref q) ⟨[], []⟩) R ⟨h, g, d, t, os⟩ := by
 refine codeAny_of_tree ?_
 show wpAny _ _ (callAny (.ref q) _) _ _ _
 refine nd_load ho ?_
 dsimp only
 have L0 : Looks (model prog w) h (typeOf (.ref it)) (.type "list_iterator") := (Looks.ld (part := none) hl).andThen .now
 have L1 : Looks (model prog w) h (isInstance (.ref it) (.type "module")) false := L0.andThen (Looks.of_pure (by rw [isSubtype_type]; kernel_rfl))
 have L2 : Looks (model prog w) h (isInstance (.ref it) (.type "type")) false := L0.andThen (Looks.of_pure (by rw [isSubtype_type]; kernel_rfl))
 unfold checkBoundCall
 repeat lk
 exact ⟨Code.quiet_builtin _ (by decide +kernel), hq⟩
end
end
section
abbrev JW (t : Addr) : Obj := { cls := .type "StopIteration", data := .fields #[.ref t, .none, .none, .none, .bool false, .none] }
abbrev Kv (i : Nat) : Obj := { cls := .type "list_iterator", data := .fields #[.none, .int i 0] }
noncomputable def dropA (H : HF) (a : Addr) : HF := fun b => if b = a then none else H b
theorem YF {H : HF} {a b : Addr} (h : b ≠ a) : dropA H a b = H b := by simp [dropA, h]
theorem qx {H : HF} {a : Addr} : Ext (dropA H a) H := fun b o e => by
 unfold dropA at e; split at e
 · cases e
 · exact e
theorem KO {H : HF} {a : Addr} {o : Obj} (h : H a = none) : dropA (put H a o) a = H := by
 funext b; unfold dropA; split
 · rename_i q; subst q; exact h.symm
 · rename_i q; exact za q
section
variable {α β : Type} {C : Cx} {A : Around} {L : Addr} {E : PV} {m : Mp} {H : HF} {env : Env}
theorem Xv {l : Addr} {its : List Value} {k : Nat} {Q : PV} (hl : H l = some (ze its k)) (h : ∀ it, H it = none → it ≠ L → Q (.ref it) m (put H it (liO l 0))) : W C A L (call (.builtin "iter") [.ref l]) Q E m H := fun s S g => by
 have p := S.push (o := liO l 0) rfl
 refine call_function_entry (by decide +kernel) (by decide +kernel) kdk_entry_iter (kdk_args_iter _) ?_
 unfold Builtin.«iter»
 refine wpAny_bind (m := someArgs "iter" 1 2 _) (wpAny_of_eq (a := [Value.ref l]) (by kernel_rfl) ?_)
 show wpAny _ _ (pyIter (.ref l) >>= _) _ _ _
 refine wpAny_bind (wpAny_pyIter_list ⟨_, S.at_ _ _ hl, rfl, _, rfl⟩ ?_)
 exact wpAny_pure (zd _ rfl ⟨ m, _, p.1, g, rfl, h _ p.2.1 p.2.2⟩)
theorem Jd {it l : Addr} {i : Nat} {expr : Bool} {Q : PV} (hx : H it = some (liO l i)) (h : ∀ q, H q = none → q ≠ L → Q (.ref q) m (put H q (mwO "list_iterator.__next__" (.ref it)))) : W C A L (getAttr (.ref it) "__next__" expr) Q E m H := fun s S g => by
 refine hdG fun gQ gZ => ?_
 obtain ⟨hh, gg, dd, tt, os⟩ := s
 refine gZ ?_
 have p := S.push (o := mwO "list_iterator.__next__" (.ref it)) rfl
 exact Vp (S.at_ _ _ hx) ⟨m, _, p.1, g, rfl, h _ p.2.1 p.2.2⟩
theorem Yi {q it l : Addr} {i : Nat} {its : List Value} {k : Nat} {x : Value} {Q : PV} (ho : H q = some (mwO "list_iterator.__next__" (.ref it))) (hi : H it = some (liO l i)) (hl : H l = some (ze its k)) (hx : its[i]? = some x) (h : Q x m (put H it (liO l (i + 1)))) :
 W C A L (call (.ref q) []) Q E m H := fun s S g => by
 have hol := S.at_ _ _ hl
 have hit := S.at_ _ _ hi
 have u := S.update (f := Obj.mapFields (·.setIfInBounds 1 (rawInt ((i : Int) + 1)))) hi (by rfl)
 refine hdG fun gQ gZ => ?_
 obtain ⟨hh, gg, dd, tt, os⟩ := s
 refine gZ ?_
 refine wpAny_call (YK (S.at_ _ _ ho) hit (codeAny_builtin entry_listiter_next ?_))
 show wpAny _ _ (field (.ref it) 0 >>= _) _ _ _
 refine wpAny_bind (wpAny_field hit rfl (x := .ref l) rfl ?_)
 show wpAny _ _ (if (Value.ref l == Value.none) = true then _ else _) _ _ _
 rw [if_neg (show ¬ ((Value.ref l == Value.none) = true) from Bool.false_ne_true)]
 show wpAny _ _ (field (.ref it) 1 >>= _) _ _ _
 refine wpAny_bind (wpAny_field hit rfl (x := .int i 0) rfl ?_)
 show wpAny _ _ (seqItems? (.ref l) >>= _) _ _ _
 refine wpAny_bind (wpAny_seqItems hol rfl ?_)
 simp only [Int.toNat_natCast, List.getElem?_toArray, hx]
 refine wpAny_bind (wpAny_setField hit rfl (by simp) (wpAny_pure ?_))
 refine ⟨m, _, u, g, rfl, ?_⟩
 have e : Obj.mapFields (·.setIfInBounds 1 (rawInt ((i : Int) + 1))) (liO l i) = liO l (i + 1) := by
  rfl
 rw [e]; exact h
theorem Yh {q it l : Addr} {i : Nat} {its : List Value} {k : Nat} {Q : PV} (hA : A.handled = none) (ho : H q = some (mwO "list_iterator.__next__" (.ref it))) (hi : H it = some (liO l i)) (hl : H l = some (ze its k)) (hx : its[i]? = none)
 (h : ∀ e t, H e = none → e ≠ L → E (.ref e) m (put (put H it (Kv i)) e (JW t))) : W C A L (call (.ref q) []) Q E m H := fun s S g => by
 have hol := S.at_ _ _ hl
 have hit := S.at_ _ _ hi
 have hne := S.ne hi
 have u := S.update (f := Obj.mapFields (·.setIfInBounds 0 Value.none)) hi (by rfl)
 refine hdG fun gQ gZ => ?_
 obtain ⟨hh, gg, dd, tt, os⟩ := s
 refine gZ ?_
 have e : Obj.mapFields (·.setIfInBounds 0 Value.none) (liO l i) = Kv i := rfl
 rw [e] at u
 dsimp only at u
 refine wpAny_call (YK (S.at_ _ _ ho) hit (codeAny_builtin entry_listiter_next ?_))
 show wpAny _ _ (field (.ref it) 0 >>= _) _ _ _
 refine wpAny_bind (wpAny_field hit rfl (x := .ref l) rfl ?_)
 show wpAny _ _ (if (Value.ref l == Value.none) = true then _ else _) _ _ _
 rw [if_neg (show ¬ ((Value.ref l == Value.none) = true) from Bool.false_ne_true)]
 show wpAny _ _ (field (.ref it) 1 >>= _) _ _ _
 refine wpAny_bind (wpAny_field hit rfl (x := .int i 0) rfl ?_)
 show wpAny _ _ (seqItems? (.ref l) >>= _) _ _ _
 refine wpAny_bind (wpAny_seqItems hol rfl ?_)
 simp only [Int.toNat_natCast, List.getElem?_toArray, hx]
 refine wpAny_bind (wpAny_rule (wpAny_bind (wpAny_setField hit rfl (by simp) ?_)))
 show wpAny _ _ (newExc (.type "StopIteration") [] >>= _) _ _ _
 have p1 := u.push (o := { cls := .type "tuple", data := .seq ([] : List Value).toArray }) rfl
 have p2 := (p1.1.drop (Ext.put_new p1.2.1)).push (o := JW (hh.update it (Obj.mapFields (·.setIfInBounds 0 Value.none))).objs.size) rfl
 refine wpAny_bind ?_
 simp only [newExc, newTuple]
 refine wpAny_bind (wpAny_newObj_type ?_ (by size_fits))
 refine wpAny_bind (m := firstArgMember _ _) (wpAny_of_eq (a := Value.none) (by first | rfl | (simp only [firstArgMember]; rfl)) ?_)
 refine wpAny_newObj_type ?_ (by size_fits)
 simp only [raiseNew]
 refine wpAny_bind (wpAny_handled ?_)
 rw [show (A.under (Code.builtin "list_iterator.__next__" ⟨[Value.ref it], []⟩)).handled = none from hA]
 refine wpAny_bind (wpAny_pure (wpAny_throw ?_))
 have he : H ((hh.update it (Obj.mapFields (·.setIfInBounds 0 Value.none))).push { cls := .type "tuple", data := .seq ([] : List Value).toArray }).objs.size = none := by
  have := p2.2.1
  by_cases q : ((hh.update it (Obj.mapFields (·.setIfInBounds 0 Value.none))).push { cls := .type "tuple", data := .seq ([] : List Value).toArray }).objs.size = it
  · rw [q, zb] at this; cases this
  · rwa [za q] at this
 exact ⟨m, _, p2.1, g, rfl, h _ _ he p2.2.2⟩
end
end
section
noncomputable def Y1 (C : Cx) (outer : List Env) : Prop := ∀ env ∈ outer, env.scope.kind ≠ .module ∧ ∃ L o, env.frame = some L ∧ C.B L = some (true, o) ∧ ∀ vs, o.data ≠ .fields vs
structure Frs (C : Cx) (A : Around) (L : Addr) (env : Env) (outer : List Env) : Prop where
 frames : A.frames = some (env :: outer)
 fr : env.frame = some L
 kind : env.scope.kind ≠ .module
 out : Y1 C outer
theorem Y1.ext {C : Cx} {B' : BF} {outer : List Env} (F : Y1 C outer) (e : Ext C.B B') : Y1 (C.at_ B') outer := fun env he => let ⟨a, L, o, b, c, d⟩ := F env he; (yg a (yL L o (zl b (e _ _ c) d)))
structure Jl (H : HF) (a : Addr) (T : String) : Prop where
 of : ∃ oe vs a0, H a = some oe ∧ oe.cls = .type T ∧ oe.data = .fields vs ∧ vs[0]? = some a0 ∧ vs[1]? = some Value.none
theorem Jl.stop {H : HF} {a t : Addr} : Jl (put H a (JW t)) a "StopIteration" := ⟨_, _, _, zb, rfl, rfl, rfl, rfl⟩
section
variable {α β : Type} {C : Cx} {A : Around} {L : Addr} {E : PV} {m : Mp} {H : HF} {env : Env} {outer : List Env}
noncomputable def ja (h : Heap) (a : Addr) (l : List Env) : Heap := hideAll h (a :: l.filterMap (·.frame))
theorem Z1 {h : Heap} {a : Addr} {oe : Obj} {vs : Array Value} (S : St C L m H h) (F : Frs C A L env outer) (he : H a = some oe) (hd : oe.data = .fields vs) :
 (ja h a (env :: outer)).StaysIn h ∧ h.FunFrames (ja h a (env :: outer)) (env :: outer) ∧ (ja h a (env :: outer)).get? a = none := by
 refine (zl (fun b o e => of_hideAll _ e) ?_ (hideAll_none _ (.head _)))
 have none_at : ∀ env' ∈ env :: outer, ∀ L', env'.frame = some L' → (ja h a (env :: outer)).get? L' = none := fun env' hm L' hf => hideAll_none _ (.tail _ (List.mem_filterMap.mpr (zd env' hm hf)))
 have go : ∀ l : List Env, (∀ env' ∈ l, env' ∈ env :: outer) → (∀ env' ∈ l, env'.scope.kind ≠ .module ∧ ∃ L' o, env'.frame = some L' ∧ h.get? L' = some o ∧ ∀ vs, o.data ≠ .fields vs) → h.FunFrames (ja h a (env :: outer)) l := by
  intro l
  induction l with
  | nil => intro _ _; trivial
  | cons e r ih =>
   intro hm hk
   refine hdG fun gQ gZ => ?_
   refine z5 (hk e (.head _)) fun k zq => yE zq fun L' o zq => zw zq fun f ho hn => ?_
   refine gZ ?_
   exact ⟨k, (qN L' o f (none_at e (hm e (.head _)) L' f) ho hn), ih (fun e' he' => hm e' (.tail _ he')) fun e' he' => hk e' (.tail _ he')⟩
 refine go _ (fun _ hm => hm) fun env' hm => ?_
 rcases List.mem_cons.mp hm with rfl | hm
 · refine hdG fun gQ gZ => ?_
   obtain ⟨oL, es, ep, hL, hd', _⟩ := S.ns
   refine gZ ?_
   exact (yg F.kind (yL L oL (zl F.fr hL (fun vs q => by rw [hd'] at q; cases q))))
 · refine hdG fun gQ gZ => ?_
   refine z5 (F.out env' hm) fun k zq => yE zq fun L' o zq => zw zq fun f hB hn => ?_
   obtain ⟨sl, ho⟩ : ∃ sl, h.get? L' = some { o with slots := sl } := S.kb _ _ hB
   refine gZ ?_
   exact (yg k (yL L' _ (zl f ho hn)))
theorem vh {h h' : Heap} {a : Addr} {oe : Obj} {vs : Array Value} (S : St C L m H h) (F : Frs C A L env outer) (he : H a = some oe) (hd : oe.data = .fields vs)
 (k : (ja h a (env :: outer)).StaysIn h') (up : ∀ b o, h.get? b = some o → (∀ vs, o.data ≠ .fields vs) → ∃ sl, h'.get? b = some { o with slots := sl }) : St C L m (dropA H a) h' := by
 have notfr : ∀ b, C.B b = none → b ≠ L → b ≠ a → b ∉ a :: (env :: outer).filterMap (·.frame) := fun b hB hL ha hm => by
  rcases List.mem_cons.mp hm with q | hm
  · exact ha q
  · refine zc (List.mem_filterMap.mp hm) fun env' hm' hf => ?_
    rcases List.mem_cons.mp hm' with rfl | hm'
    · rw [F.fr] at hf; exact hL (Option.some.inj hf).symm
    · refine hdG fun gQ gZ => ?_
      refine z5 (F.out env' hm') fun _ zq => yE zq fun L' o zq => zw zq fun f hB' _ => ?_
      refine gZ ?_
      rw [f] at hf; cases hf; rw [hB] at hB'; cases hB'
 refine ⟨?_, fun b o e => ?_, ?_, fun b p e => ?_, fun b o e => S.new b o (qx b o e), S.nL⟩
 · refine hdG fun gQ gZ => ?_
   obtain ⟨oL, es, ep, hL, hd', r⟩ := S.ns
   obtain ⟨sl, hL'⟩ := up L oL hL fun vs q => by rw [hd'] at q; cases q
   refine gZ ?_
   exact ⟨_, es, ep, hL', hd', r⟩
 · have e' := qx b o e
   have hba : b ≠ a := fun q => by rw [q] at e; unfold dropA at e; rw [if_pos rfl] at e; cases e
   exact k b o (hideAll_get _ (S.at_ b o e') (notfr b (S.new b o e') (S.ne e') hba))
 · exact zW qx S.no
 · have kb := S.kb b p e
   have hba : b ≠ a := fun q => by rw [q] at e; have := S.new a oe he; rw [this] at e; cases e
   have hbL : b ≠ L := fun q => by rw [q, S.nL] at e; cases e
   by_cases hm : b ∈ a :: (env :: outer).filterMap (·.frame)
   · rcases List.mem_cons.mp hm with q | hm
     · exact (hba q).elim
     · refine zc (List.mem_filterMap.mp hm) fun env' hm' hf => ?_
       rcases List.mem_cons.mp hm' with rfl | hm'
       · rw [F.fr] at hf; exact (hbL (Option.some.inj hf).symm).elim
       · refine hdG fun gQ gZ => ?_
         refine z5 (F.out env' hm') fun _ zq => yE zq fun L' o zq => zw zq fun f hB' hn => ?_
         refine gZ ?_
         rw [f] at hf; cases hf; rw [e] at hB'; cases hB'
         obtain ⟨sl, ho⟩ := kb
         obtain ⟨sl', ho'⟩ := up _ _ ho hn
         exact ⟨sl', ho'⟩
   · obtain ⟨f, o⟩ := p
     cases f with
     | false => exact k b o (hideAll_get _ kb hm)
     | true => obtain ⟨sl, ho⟩ := kb; exact ⟨sl, k b _ (hideAll_get _ ho hm)⟩
theorem bF {K : Frag} {mg mb : Mp} {q : Program} {loose : List Str} {body : List Stmt} {x : Str} {T : String} {np hpos pos : Pos} {b₀ : Stmt} {suite : List Stmt} {Q : PF} (X : Bd K mg mb q loose C) (F : Frs C A env.locals env outer)
 (hf : nsIn K mainGlobals x = some none) (hv : bootBuiltins x = some (.type T)) (hn : x ≠ "__name__")
 (hexc : isSubtype (.type T) (.type "BaseException") = pure true) (hnt : isSubtype (.type ((Manifest.find? T).elim "type" fun x => x.metatype)) (.type "tuple") = pure false) (hsub : isSubtype (.type T) (.type T) = pure true)
 (h : W C A env.locals (execs body env) (fun f m H => Q f m H ∧ f ≠ .next ∨ f = .next ∧ Q .next m H) (fun e m H => ∃ a, e = .ref a ∧ Jl H a T ∧ W C (A.mark (some e)) env.locals (execs (b₀ :: suite) env) Q no m (dropA H a)) m H)
 (hk : env.scope.kind = .function) (hx : env.kindOf x = some .globalImplicit) (hg : env.globals = mainGlobals) (hb : env.builtins = builtinsNs) (hd' : (x == ("__debug__" : Str)) = false) :
 W C A env.locals (exec (.Try body [.ExceptHandler (some (.Name x np)) none (b₀ :: suite) hpos] [] [] pos) env) Q E m H := fun s S g => by
 refine wpAny_Try_except (wpAny_mono (h s S g) (fun f s₁ z => ?_) fun e s₁ z => ?_)
 · refine hdG fun gQ gZ => ?_
   obtain ⟨m', H', S', g', eo, z⟩ := z
   refine gZ ?_
   rcases z with ⟨z, zn⟩ | ⟨rfl, z⟩
   · cases f with
     | next => exact (zn rfl).elim
     | cont => exact ⟨m', H', S', g', eo, z⟩
     | brk => exact ⟨m', H', S', g', eo, z⟩
     | ret r => exact ⟨m', H', S', g', eo, z⟩
   · exact wpAny_execs_nil ⟨m', H', S', g', eo, z⟩
 · refine hdG fun gQ gZ => ?_
   obtain ⟨m', H', S', g', eo, a, rfl, ⟨oe, vs, a0, ha, hc, hd, h0, h1⟩, z⟩ := z
   refine zw (Z1 S' F ha hd) fun f1 f2 f3 => ?_
   refine gZ ?_
   unfold noteFrame
   simp only [F.fr]
   refine wpAny_bind (wpAny_field (S'.at_ _ _ ha) hd h1 ?_)
   rw [if_neg (by decide)]
   refine wpAny_newEntryW F.frames f2 F.fr (S'.at_ _ _ ha) f1 f3 hd (Array.getElem?_eq_some_iff.mp h1).1 h0 fun h' hL => ?_
   refine hdG fun gQ gZ => ?_
   obtain ⟨k1, k2, k3, k4⟩ := hL
   refine gZ ?_
   have S2 := vh S' F ha hd k1 k4
   refine wpAny_handleBy_builtin (b := true) hexc hnt hsub (Name_function_global hk hx (loadGlobal_builtin (by rw [hg]; exact (X.T _ S2.kb).g) (mg_none_of (X.K _ S2.kb) (X.T _ S2.kb).g hf) (by rw [hb]; exact (X.T _ S2.kb).b) (((X.T _ S2.kb).builtins x hn).trans hv) (zl rfl ?_ ?_)) hd')
   · refine hdG fun gQ gZ => ?_
     obtain ⟨oe', _, _, _, _, he', ⟨hc', _⟩, _⟩ := k3
     refine gZ ?_
     exact ⟨oe', he', hc'.trans hc⟩
   · rw [if_pos rfl]
     refine wpAny_setFlight_noneW k1 k2 k3.at fun h'' j1 j2 j3 j4 => ?_
     have k4' : ∀ b o, s₁.heap.get? b = some o → (∀ vs, o.data ≠ .fields vs) → ∃ sl, h''.get? b = some { o with slots := sl } := fun b o e hn => by
      obtain ⟨sl, e'⟩ := k4 b o e hn
      exact ⟨sl, j4 b _ e' hn⟩
     have S3 := vh S' F ha hd j1 k4'
     exact wpAny_mono (z.go S3 g' eo) (fun _ _ z => z) fun _ _ z => by obtain ⟨_, _, _, _, _, z⟩ := z; exact z.elim
end
end
section
section
variable {α β : Type} {C : Cx} {A : Around} {L : Addr} {E : PV} {m : Mp} {H : HF} {env : Env}
theorem aL {Hf : HF} {h : Heap} (S : St C L m H h) (hs : Ext Hf H) : ∃ o, kc C.B L Hf h L = some (true, o) ∧ ∀ vs, o.data ≠ .fields vs := by
 refine hdG fun gQ gZ => ?_
 obtain ⟨oL, es, ep, hL, hd, _⟩ := S.ns
 refine gZ ?_
 refine (zd oL ?_ (fun vs q => by rw [hd] at q; cases q))
 have := ZS (L := L) (zW hs S.no) S.nL hL
 rwa [beq_self_eq_true] at this
theorem Frs.callee {outer : List Env} (F : Frs C A L env outer) {B' : BF} {env' : Env} {L' : Addr} (e : Ext C.B B') (o : ∃ o, B' L = some (true, o) ∧ ∀ vs, o.data ≠ .fields vs) (f : env'.frame = some L') (k : env'.scope.kind ≠ .module) : Frs (C.at_ B') (A.deeper env') L' env' (env :: outer) :=
 ⟨Around.frames_deeper F.frames, f, k, fun e' he => by
  rcases List.mem_cons.mp he with rfl | he
  · obtain ⟨o, a, b⟩ := o; exact ⟨F.kind, L, o, F.fr, a, b⟩
  · exact F.out.ext e e' he⟩
theorem ko {K : Frag} {mg mb : Mp} {q : Program} {loose : List Str} {oc : Value} {od : Option Addr} {osl : Array (Option Value)} {name qual : Str} {params : Arguments} {body : List Stmt} {scope : Scope} {dV kV doc pm cdv ct : Value} {an : Option Addr}
 {f : Addr} {vs : List Value} {kw : List (Str × Value)} {binds : List (Str × Value)} {Q : PV} {Qf : Value → HF → Prop} (Hf : HF)
 (X : Bd K mg mb q loose C) (ho : K.lookup f = some ⟨oc, od, .func (fnOf name qual params body scope dV kV doc pm an cdv ct), osl⟩) (hcd : codeIn K cdv qual = true) (hroom : A.depth < recursionLimit)
 (hbind : ∀ s : Shared, K.In s.heap → BindsTo s (fnOf name qual params body scope dV kV doc pm an cdv ct) ⟨vs, kw⟩ binds) (hloc : ∀ y ∈ binds, scope.names.lookup y.1 = some .local) (hsub : Ext Hf H)
 (h : ∀ B' L', Ext C.B B' → (∃ o, B' L = some (true, o) ∧ ∀ vs, o.data ≠ .fields vs) → W (C.at_ B') (A.deeper (envOf qual scope L' f cdv)) (envOf qual scope L' f cdv).locals (execs body (envOf qual scope L' f cdv)) (fun fl _ H' => Qf (match fl with | .ret v => v | _ => .none) H') (fun _ _ _ => False) (bl binds) Hf)
 (k : ∀ v Hf' H', Qf v Hf' → Upd Hf H Hf' H' → Q v m H')
 (hco : scope.isCoroutine = false := by kernel_rfl) (hgen : scope.isGenerator = false := by kernel_rfl) (hk : scope.kind = .function := by kernel_rfl) (hcell : ∀ x ∈ scope.names, x.2 ≠ .cell := by decide +kernel) :
 WC C A L (.call (.ref f) ⟨vs, kw⟩) Q E m H := fun s S g => by
 refine (codeAny_call_def (fd := fnOf name qual params body scope dV kV doc pm an cdv ct) (body := body) (binds := binds) hroom (X.K _ S.kb _ _ ho) rfl (X.T _ S.kb).nolimit (codeRec_of (X.K _ S.kb) hcd) rfl (hbind s (X.K _ S.kb)) hcell hloc (fun h₀ hns hkeep => ?_) hco hgen hk)
 have nB : ∀ b o, C.B b = some o → Hf b = none := fun b o e => by
  cases q : Hf b with
  | none => rfl
  | some o' => have := S.new b o' (hsub b o' q); rw [this] at e; cases e
 have S₀ : St (C.at_ (kc C.B L Hf s.heap)) s.heap.objs.size (bl binds) Hf h₀ := by
  refine ⟨hns, fun a o e => hkeep _ _ (S.at_ a o (hsub a o e)), ?_, fun b o e => (jW S e).keep (hkeep _), fun a o e => xZ e, ?_⟩
  · cases q : Hf s.heap.objs.size with
    | none => rfl
    | some o => have := S.at_ _ _ (hsub _ _ q); rw [zt] at this; cases this
  · show kc C.B L Hf s.heap _ = none
    unfold kc; split
    · rfl
    · rw [(S.fresh (zt s.heap)).2.2, zt]; rfl
 refine wpAny_mono (h (kc C.B L Hf s.heap) s.heap.objs.size (kE nB) (aL S hsub) { s with heap := h₀, toks := s.toks + binds.length } S₀ g) (fun fl s' q => ?_) fun e s' q => ?_
 · refine hdG fun gQ gZ => ?_
   obtain ⟨m', Hf', S', g', eo, q⟩ := q
   obtain ⟨b1, b2⟩ := S.back hsub S'
   refine gZ ?_
   exact ⟨m, _, b1, g', eo, k _ _ _ q b2⟩
 · refine hdG fun gQ gZ => ?_
   obtain ⟨m', Hf', S', g', eo, q⟩ := q
   refine gZ ?_
   exact q.elim
theorem js {K : Frag} {mg mb : Mp} {q : Program} {loose : List Str} {oc : Value} {od : Option Addr} {osl : Array (Option Value)} {name qual : Str} {params : Arguments} {body : List Stmt} {scope : Scope} {dV kV doc pm cdv ct : Value} {an : Option Addr}
 {f : Addr} {vs : List Value} {kw : List (Str × Value)} {front : List (Str × Value)} {nm : Str} {rest : List Value} {Q : PV} {Qf : Value → HF → Prop} (Hf : HF)
 (X : Bd K mg mb q loose C) (ho : K.lookup f = some ⟨oc, od, .func (fnOf name qual params body scope dV kV doc pm an cdv ct), osl⟩) (hcd : codeIn K cdv qual = true) (hroom : A.depth < recursionLimit)
 (hbind : bindArgs (fnOf name qual params body scope dV kV doc pm an cdv ct) ⟨vs, kw⟩ = (newTuple rest >>= fun t => pure (front ++ [(nm, t)]))) (hz : rest.length ≤ sizeLine) (hloc : ∀ t, ∀ y ∈ front ++ [(nm, t)], scope.names.lookup y.1 = some .local) (hsub : Ext Hf H)
 (h : ∀ B' L' T, Ext C.B B' → (∃ o, B' L = some (true, o) ∧ ∀ vs, o.data ≠ .fields vs) → Hf T = none → W (C.at_ B') (A.deeper (envOf qual scope L' f cdv)) (envOf qual scope L' f cdv).locals (execs body (envOf qual scope L' f cdv)) (fun fl _ H' => Qf (match fl with | .ret v => v | _ => .none) H') (fun _ _ _ => False) (fun x => (front ++ [(nm, Value.ref T)]).reverse.lookup x) (put Hf T (yp rest 0)))
 (k : ∀ v Hf' H', Qf v Hf' → Upd Hf H Hf' H' → Q v m H')
 (hco : scope.isCoroutine = false := by kernel_rfl) (hgen : scope.isGenerator = false := by kernel_rfl) (hk : scope.kind = .function := by kernel_rfl) (hcell : ∀ x ∈ scope.names, x.2 ≠ .cell := by decide +kernel) :
 WC C A L (.call (.ref f) ⟨vs, kw⟩) Q E m H := fun s S g => by
 refine codeAny_call_function (fd := fnOf name qual params body scope dV kV doc pm an cdv ct) (body := body) hroom (X.K _ S.kb _ _ ho) rfl hco hgen rfl (codeRec_of (X.K _ S.kb) hcd) ?_
 rw [hbind]
 have hsize : sizeOk (.seq rest.toArray 0) := by unfold sizeOk; simpa using hz
 refine zw (S.push (o := yp rest 0) rfl) fun S1 n1 n2 => ?_
 have hT : Hf s.heap.objs.size = none := zW hsub n1
 have hsub' : Ext (put Hf s.heap.objs.size (yp rest 0)) (put H s.heap.objs.size (yp rest 0)) := fun b o e => by
  by_cases q : b = s.heap.objs.size
  · subst q; rw [zb] at e ⊢; exact e
  · rw [za q] at e ⊢; exact hsub b o e
 have gB := (X.T _ S1.kb).nolimit
 refine wpAny_bind (wpAny_newObj_type (wpAny_pure ?_) hsize)
 generalize hT' : s.heap.objs.size = T at *
 have nB : ∀ b o, C.B b = some o → put Hf T (yp rest 0) b = none := fun b o e => by
  cases q : put Hf T (yp rest 0) b with
  | none => rfl
  | some o' => have := S1.new b o' (hsub' b o' q); rw [this] at e; cases e
 refine wpAny_newFunctionEnv hcell (hloc _) (fun h₀ hns hsb => ⟨gB.fresh _ hsb, codeAny_func ?_⟩) hk
 have hkeep : ∀ b o, (s.heap.push (yp rest 0)).get? b = some o → h₀.get? b = some o := fun b o e => hsb.extBut b o (Nat.ne_of_lt (Heap.lt_size e)) (Heap.get?_push_of_some _ e)
 have S₀ : St ⟨C.prog, C.w, kc C.B L (put Hf T (yp rest 0)) (s.heap.push (yp rest 0))⟩ (s.heap.push (yp rest 0)).objs.size (fun x => (front ++ [(nm, Value.ref T)]).reverse.lookup x) (put Hf T (yp rest 0)) h₀ := by
  refine ⟨hns, fun a o e => hkeep _ _ (S1.at_ a o (hsub' a o e)), ?_, fun b o e => (jW S1 e).keep (hkeep _), fun a o e => xZ e, ?_⟩
  · cases q : put Hf T (yp rest 0) (s.heap.push (yp rest 0)).objs.size with
    | none => rfl
    | some o => have := S1.at_ _ _ (hsub' _ _ q); rw [zt] at this; cases this
  · show kc C.B L (put Hf T (yp rest 0)) (s.heap.push (yp rest 0)) _ = none
    unfold kc; split
    · rfl
    · rw [(S1.fresh (zt (s.heap.push (yp rest 0)))).2.2, zt]; rfl
 refine wpAny_mono (h (kc C.B L (put Hf T (yp rest 0)) (s.heap.push (yp rest 0))) (s.heap.push (yp rest 0)).objs.size T (kE nB) (aL S1 hsub') hT ⟨h₀, _, _, _, _⟩ S₀ g) (fun fl s' q => ?_) fun e s' q => ?_
 · refine hdG fun gQ gZ => ?_
   obtain ⟨m', Hf', S', g', eo, q⟩ := q
   obtain ⟨b1, b2⟩ := S1.back hsub' S'
   refine gZ ?_
   refine ⟨m, _, b1, g', eo, k _ _ _ q ⟨b2.in_, fun a o e n => ?_, fun a n n' => ?_⟩⟩
   · have hne : a ≠ T := fun q => by rw [q, n1] at e; cases e
     exact b2.out a o ((za hne).trans e) ((za hne).trans n)
   · by_cases hne : a = T
     · rw [hne]; exact n1
     · have := b2.fresh a ((za hne).trans n) n'
       rwa [za hne] at this
 · refine hdG fun gQ gZ => ?_
   obtain ⟨m', Hf', S', g', eo, q⟩ := q
   refine gZ ?_
   exact q.elim
theorem vo {f : Value} {vs : List Value} {kw : List (Str × Value)} {Q : PV} (h : WC C A L (.call f ⟨vs, kw⟩) Q E m H) : W C A L (call f vs kw) Q E m H := fun s S g => wpAny_call (h s S g)
end
end
section
section
variable {α β : Type} {C : Cx} {A : Around} {L : Addr} {E : PV} {m : Mp} {H : HF} {env : Env}
theorem K2 {l : Addr} {its : List Value} {k : Nat} {Q : PV} (hl : H l = some (ze its k)) (hz : its.length ≤ sizeLine) (h : ∀ a, H a = none → a ≠ L → Q (.ref a) m (put H a (yp its 0))) : W C A L (call (.type "tuple") [.ref l]) Q E m H := fun s S g =>
 call_tuple_list (items := its.toArray) ⟨_, S.at_ _ _ hl, rfl, _, rfl⟩ (fun h' hk => by
  have p := (S.keeps hk).push (o := yp its 0) rfl
  exact ⟨m, _, p.1, g, rfl, h _ p.2.1 p.2.2⟩) (by simpa using hz)
theorem jV (f : Array Value → Array Value) (its : List Value) (k : Nat) : ∃ k', Obj.mapSeq f (ze its k) = { cls := .type "list", data := .seq (f its.toArray) k' } := ⟨_, rfl⟩
theorem ZB {l : Addr} {its : List Value} {y : Value} {k : Nat} {Q : PV} (hl : H l = some (ze (its ++ [y]) k)) (hz : its.length + 1 ≤ sizeLine) (h : ∀ k', Q y m (put H l (ze its k'))) : W C A L (call (.builtin "list.pop") [.ref l]) Q E m H := fun s S g => by
 obtain ⟨k', e⟩ := jV (fun xs => xs.eraseIdxIfInBounds ((its ++ [y]).toArray.size - 1)) (its ++ [y]) k
 have e2 : ((its ++ [y]).toArray.eraseIdxIfInBounds ((its ++ [y]).toArray.size - 1)) = its.toArray := by
  simp [List.eraseIdx_append_of_length_le]
 rw [e2] at e
 have u := S.update (f := Obj.mapSeq (fun xs => xs.eraseIdxIfInBounds ((its ++ [y]).toArray.size - 1))) hl (by rw [e]; rfl)
 rw [e] at u
 exact call_meets PySem.F.slot_list_pop ⟨_, S.at_ _ _ hl, rfl⟩ PySem.F.entry_list_pop (PySem.F.args_list_pop_1 _) (MeetsSeq.list_pop_last l (its ++ [y]).toArray k y (by simp) (by simpa using hz)) ⟨S.at_ _ _ hl, m, _, u, g, rfl, h _⟩
theorem Yb {l : Addr} {its : List Value} {k : Nat} {Q : PV} (hl : H l = some (ze its k)) (hz : its.length ≤ sizeLine) (h : ∀ k', Q .none m (put H l (ze [] k'))) : W C A L (call (.builtin "list.clear") [.ref l]) Q E m H := fun s S g => by
 obtain ⟨k', e⟩ := jV (fun _ => #[]) its k
 have u := S.update (f := Obj.mapSeq (fun _ => #[])) hl (by rw [e]; rfl)
 rw [e] at u
 exact call_meets PySem.F.slot_list_clear ⟨_, S.at_ _ _ hl, rfl⟩ PySem.F.entry_list_clear (PySem.F.args_list_clear_1 _) (AutoSeq1.list_clear_list_0 l its.toArray k (by simpa using hz)) ⟨S.at_ _ _ hl, m, _, u, g, rfl, h _⟩
theorem YU {elts : List Expr} {x1 : Nat} {pos : Pos} {t : Addr} {vs : List Value} {k : Nat} {Q : Unit → Mp → HF → Prop} (hh : A.handled = none) (ht : H t = some (yp vs k)) (hn : (assignEach elts env).length = vs.length) (hs : (assignEach elts env).findIdx? (·.1) = none)
 (h : W C A L (assignInOrder ((assignEach elts env).map (·.2)) vs) Q E m H) : W C A L (assign (.Tuple elts x1 pos) env (.ref t)) Q E m H := fun s S g =>
 wpAny_assign_Tuple (items := vs.toArray) hh ⟨_, S.at_ _ _ ht, rfl, _, rfl⟩ (by simpa using hn) hs (fun h' he => by
  refine zw (S.fresh (zt s.heap)) fun f1 f2 f3 => ?_
  exact h.go (S.moved f1 f3 f2 fun b o nb e => he b o nb e) g rfl)
theorem wc {t : Addr} {vs : List Value} {k : Nat} {Q : PV} (ht : H t = some (yp vs k)) (hz : vs.length ≤ sizeLine) (h : ∀ t, Q (.int vs.length t) m H) : W C A L (call (.builtin "len") [.ref t]) Q E m H := fun s S g => by
 refine len_tuple (items := vs.toArray) ⟨_, S.at_ _ _ ht, rfl, _, rfl⟩ (by rw [sizeLine_eq] at hz; simp; omega) ⟨m, H, S, g, rfl, ?_⟩
 rw [List.size_toArray]; exact h _
theorem qy {prog : Program} {w : World} {A : Around} {E : Value → Shared → Prop} {s : Shared} {l : Addr} {vs : List Value} {Q : List Value → Shared → Prop} (hl : s.heap.IsTuple l vs.toArray)
 (h : Q vs { s with heap := (s.heap.push (seqObj "list" #[] 0)).update s.heap.objs.size (Obj.mapSeq (· ++ vs.toArray)) }) (hsz : vs.length ≤ sizeLine) :
 wpAny (model prog w) A (collect (.ref l)) Q E s := by
 refine hdG fun gQ gZ => ?_
 obtain ⟨o, ho, hc, n, hd⟩ := id hl
 refine gZ ?_
 unfold collect
 refine wpAny_bind (wpAny_runValue (codeAny_builtin entry_proto_collect' ?_))
 show wpAny _ _ (do again (.builtin "list.__iadd__" ⟨[← newList [], .ref l], []⟩)) _ _ s
 refine wpAny_bind (wpAny_newList (wpAny_pure ⟨Code.quiet_builtin _ (by decide +kernel), codeAny_builtin entry_list_iadd' ?_⟩))
 show wpAny _ _ (Builtin.List.listExtendWith (.ref s.heap.objs.size) (.ref l) (.ref s.heap.objs.size)) _ _ { s with heap := s.heap.push (seqObj "list" #[] 0) }
 unfold Builtin.List.listExtendWith
 have ho' : (s.heap.push (seqObj "list" #[] 0)).get? l = some o := Heap.get?_push_of_some _ ho
 refine wpAny_bind (wpAny_typeOf (T := "tuple") ⟨o, ho', hc⟩ ?_)
 have ht : (Value.type "tuple" == Value.type "tuple") = true := by rfl
 rw [if_pos (by rw [ht]; simp)]
 refine wpAny_bind (listItems_at ho' hd ?_)
 refine wpAny_bind (listItems_at (xs := #[]) (n := 0) (Heap.get?_push_size _ rfl) rfl ?_)
 rw [if_neg (by simp)]
 refine wpAny_bind (listUpdate_at (xs := #[]) (n := 0) (Heap.get?_push_size _ rfl) rfl ?_ (Nat.zero_le _) (by show (#[] ++ vs.toArray).size ≤ sizeLine + 1; simp only [Array.size_append, List.size_toArray, List.length_nil]; omega))
 refine wpAny_pure ?_
 show wpAny (model prog w) A (do
  let o ← load s.heap.objs.size
  match o.data with
  | .seq xs _ => pure xs.toList
  | _ => unsupported "internal:collect") Q E { s with heap := (s.heap.push (seqObj "list" #[] 0)).update s.heap.objs.size (Obj.mapSeq (· ++ vs.toArray)) }
 refine wpAny_bind (wpAny_load (get?_update_seq (Heap.get?_push_size _ rfl) _) ?_)
 show wpAny _ _ (pure ((#[] : Array Value) ++ vs.toArray).toList) Q E _
 rw [show ((#[] : Array Value) ++ vs.toArray).toList = vs by simp]
 exact wpAny_pure h
theorem wZ {prog : Program} {w : World} {A : Around} {E : Value → Shared → Prop} {s : Shared} {l : Addr} {vs : List Value} {ss : List Str} {Q : Value → Shared → Prop} (hl : s.heap.IsTuple l vs.toArray) (hS : StrsAre vs ss) (h64 : vs.length < 64)
 (h : ∀ (out : Array Value) (ss' : List Str), StrsAre out.toList ss' → ss'.Perm ss → sortedS ss' = true → Q (.ref (s.heap.objs.size + 1)) { s with heap := sortedAll s.heap vs out }) :
 wpAny (model prog w) A (call (.builtin "sorted") [.ref l]) Q E s := by
 refine Calls.call_function_entry kind_sorted plain_sorted entry_sorted (args_sorted1 _) ?_
 unfold Builtin.«sorted»
 refine wpAny_bind (m := checkCount "sorted" 1 1 _) (wpAny_pure ?_)
 refine wpAny_bind (qy hl ?_ (by rw [sizeLine_eq]; omega))
 refine wpAny_bind (wpAny_newList ?_ (by rw [sizeLine_eq]; omega))
 have hsz : ((s.heap.push (seqObj "list" #[] 0)).update s.heap.objs.size (Obj.mapSeq (· ++ vs.toArray))).objs.size = s.heap.objs.size + 1 := by
  rw [Heap.size_update, size_push']
 have hoL : (((s.heap.push (seqObj "list" #[] 0)).update s.heap.objs.size (Obj.mapSeq (· ++ vs.toArray))).push (seqObj "list" vs.toArray 0)).get? (s.heap.objs.size + 1) = some (seqObj "list" vs.toArray 0) := by
  rw [← hsz]; exact Heap.get?_push_size _ rfl
 show wpAny _ _ _ _ _ { s with heap := ((s.heap.push (seqObj "list" #[] 0)).update s.heap.objs.size (Obj.mapSeq (· ++ vs.toArray))).push (seqObj "list" vs.toArray 0) }
 rw [hsz]
 refine wpAny_bind (wpAny_holding (wpAny_call_entry slot_list_sort ⟨_, hoL, rfl⟩ entry_list_sort (list_sort_treeK strKind_oneLt hoL hS.keysOf (fun v₁ v₂ rest e => keyKind_strs (by rw [← e]; exact hS)) h64 fun st' a1 a2 => (zd _ rfl ?_)) (args_list_sort _)))
 refine zu (sorted_out_str hS a1 a2) fun ss' h1 h2 h3 => ?_
 exact wpAny_pure (zd _ rfl (h _ ss' h1 h2 h3))
theorem vU {h : Heap} (S : St C L m H h) (vs : List Value) (out : Array Value) : ∃ k, St C L m (put H (h.objs.size + 1) (ze out.toList k)) (sortedAll h vs out) ∧ H (h.objs.size + 1) = none ∧ h.objs.size + 1 ≠ L := by
 obtain ⟨e, he⟩ := sortedAll_at h vs out
 have hn : h.get? (h.objs.size + 1) = none := by
  cases q : h.get? (h.objs.size + 1) with
  | none => rfl
  | some o => exact absurd (Nat.lt_trans (Nat.lt_succ_self _) (Heap.lt_size q)) (Nat.lt_irrefl _)
 refine zw (S.grow (fun b o q => sortedAll_old q) hn he) fun a b c => ?_
 refine (zP e ?_ b c)
 have : ze out.toList e = seqObj "list" out e := by simp [seqObj]
 rw [this]; exact a
theorem wL {l : Addr} {vs : List Value} {k : Nat} {ss : List Str} {Q : PV} (hl : H l = some (yp vs k)) (hS : StrsAre vs ss) (h64 : vs.length < 64) (h : ∀ a vs' ss' k', H a = none → a ≠ L → StrsAre vs' ss' → ss'.Perm ss → sortedS ss' = true → Q (.ref a) m (put H a (ze vs' k'))) :
 W C A L (call (.builtin "sorted") [.ref l]) Q E m H := fun s S g => wZ (vs := vs) ⟨_, S.at_ _ _ hl, rfl, _, rfl⟩ hS h64 fun out ss' a1 a2 a3 => by
 refine zu (vU S vs out) fun e S' b c => ?_
 exact ⟨m, _, S', g, rfl, h _ _ _ e b c a1 a2 a3⟩
theorem Zx {l : Addr} {vs : List Value} {k : Nat} {ss : List Str} {Q : PV} (hl : H l = some (ze vs k)) (hS : StrsAre vs ss) (h64 : vs.length < 64) (h : ∀ a vs' ss' k', H a = none → a ≠ L → StrsAre vs' ss' → ss'.Perm ss → sortedS ss' = true → Q (.ref a) m (put H a (ze vs' k'))) :
 W C A L (call (.builtin "sorted") [.ref l]) Q E m H := fun s S g => sorted_strs (vs := vs) ⟨_, S.at_ _ _ hl, rfl, _, rfl⟩ hS h64 fun out ss' a1 a2 a3 => by
 refine zu (vU S vs out) fun e S' b c => ?_
 exact ⟨m, _, S', g, rfl, h _ _ _ e b c a1 a2 a3⟩
abbrev enO (it : Addr) : Obj := { cls := .type "enumerate", dict := none, data := .fields #[.none, .bool false, .ref it, rawInt 0, .none, .none], slots := #[] }
theorem Qa {y : Str} {t : Tok} {Q : PV} (h : ∀ e it oI, H e = none → H it = none → e ≠ it → e ≠ L → it ≠ L → oI.cls = .type (strIterType y) → oI.data = .fields #[.str y t, .int 0 0] → Q (.ref e) m (put (put H it oI) e (enO it))) :
 W C A L (call (.type "enumerate") [.str y t]) Q E m H := fun s S g => call_enumerate_str fun h' a b c d => by
 refine hdG fun gQ gZ => ?_
 obtain ⟨oI, b1, b2, b3⟩ := b
 have nI := zt s.heap
 have nE : s.heap.get? (s.heap.objs.size + 1) = none := by
  cases q : s.heap.get? (s.heap.objs.size + 1) with
  | none => rfl
  | some o => exact absurd (Nat.lt_trans (Nat.lt_succ_self _) (Heap.lt_size q)) (Nat.lt_irrefl _)
 refine zw (S.grow d nI b1) fun S1 n1 n2 => ?_
 refine zw (S.fresh nE) fun f1 f2 f3 => ?_
 refine gZ ?_
 have ne : s.heap.objs.size + 1 ≠ s.heap.objs.size := Nat.succ_ne_self _
 exact ⟨m, _, S1.put a f3 f2, g, rfl, h _ _ oI f1 n1 ne f2 n2 b2 b3⟩
theorem Q3 {prog : Program} {w : World} {A : Around} (hh : A.handled = none) (it : Addr) (x : Str) (t : Tok) :
 Draws prog w A it [it] x.cps.size (fun i v => ∃ c u, x.cps[i]? = some c ∧ v = .str ⟨#[c]⟩ u) (fun i h => h.IsStrIter it (strIterType x) x t i) := by
 unfold strIterType
 split
 · exact Draws.strAscii hh it x t
 · exact Draws.strWide hh it x t
theorem Qj {elts : List Expr} {x1 : Nat} {tpos : Pos} {iter : Expr} {body : List Stmt} {pos : Pos} {Q : PF} (hh : A.handled = none)
 (hn : (assignEach elts env).length = 2) (hs' : (assignEach elts env).findIdx? (·.1) = none)
 (h : W C A env.locals (eval iter env) (fun xv m H => ∃ e it y t H0 oI, xv = .ref e ∧ H e = some (enO it) ∧ H it = some oI ∧ oI.cls = .type (strIterType y) ∧ oI.data = .fields #[.str y t, .int 0 0] ∧ Ext H0 H ∧ H0 e = none ∧ H0 it = none ∧ e ≠ it ∧
  ∃ Inv : Nat → Mp → HF → Prop, Inv 0 m H0 ∧
  (∀ B' k c m H, Ext C.B B' → y.cps[k]? = some c → Inv k m H → ∀ t u, W (C.at_ B') A env.locals (assignInOrder ((assignEach elts env).map (·.2)) [.int k t, .str ⟨#[c]⟩ u]) (fun _ m H => W (C.at_ B') A env.locals (execs body env) (fun f m' H' => match f with
   | .next | .cont => Inv (k + 1) m' H'
   | .brk => Q .next m' H'
   | .ret r => Q (.ret r) m' H') no m H) no m H) ∧ (∀ m H, Inv y.cps.size m H → Q .next m H)) E m H)
 (hs : ∀ x, foldedSetIterable iter env x = pure x) :
 W C A env.locals (exec (.For (.Tuple elts x1 tpos) iter body [] pos) env) Q E m H := fun s S g => by
 refine wpAny_For (h.useQ S g rfl fun xv m₁ H₁ s₁ S₁ g₁ e₁ z => ?_) hs
 refine hdG fun gQ gZ => ?_
 refine eX z fun e it y t H0 oI zq => VD zq fun hq6 he hi hi1 hi2 hx h0e h0i ne zq => yW zq fun Inv zq => zw zq fun i0 step last => ?_
 refine gZ ?_
 try clear z
 obtain rfl := hq6
 have Wk := WalksT.enumerateD (Q3 (prog := C.prog) (w := C.w) (A := A.in1) hh it y t) e ne (by simp [ne]) (by simp)
 have nBe := S₁.new _ _ he
 have nBi := S₁.new _ _ hi
 have nLe := S₁.ne he
 have nLi := S₁.ne hi
 refine wpAny_pyIter_enum (S₁.at_ _ _ he) ?_
 refine codeAny_forLoop_any (fun j s' => ∃ i m' H', i ≤ y.cps.size ∧ j = y.cps.size + 1 - i ∧ s'.os = s.os ∧ s'.gens = #[] ∧ St C env.locals m' H' s'.heap ∧ Inv i m' H' ∧ H' e = none ∧ H' it = none ∧ (∃ old, IsEnum s'.heap e it i old) ∧ s'.heap.IsStrIter it (strIterType y) y t i) ?_ (y.cps.size + 1)
  (qp 0 (m₁) H0 (Kz (Nat.zero_le _) rfl (e₁) (g₁) (S₁.drop hx) i0 h0e h0i ⟨_, S₁.at_ _ _ he⟩ ⟨oI, S₁.at_ _ _ hi, hi1, hi2⟩))
 intro j s' hri
 refine hdG fun gQ gZ => ?_
 obtain ⟨i, m₂, H₂, hi', rfl, eo₂, g₂, S₂, I₂, hE₂, hI₂, en₂, it₂⟩ := hri
 refine gZ ?_
 have moved : ∀ h' : Heap, (∀ b o, b ∉ [e, it] → s'.heap.get? b = some o → h'.get? b = some o) → St C env.locals m₂ H₂ h' := fun h' hk => by
  have own : ∀ b o, b ≠ e → b ≠ it → s'.heap.get? b = some o → h'.get? b = some o := fun b o n1 n2 q => hk b o (by simp [n1, n2]) q
  refine hdG fun gQ gZ => ?_
  obtain ⟨oL, a1, a2, hL, a3⟩ := S₂.ns
  refine gZ ?_
  exact ⟨⟨oL, a1, a2, own _ _ (Ne.symm nLe) (Ne.symm nLi) hL, a3⟩, fun a o q => own _ _ (fun z => by subst z; rw [hE₂] at q; cases q) (fun z => by subst z; rw [hI₂] at q; cases q) (S₂.at_ a o q), S₂.no,
   fun b o q => (S₂.kb b o q).keep fun o' => own _ o' (fun z => by subst z; rw [nBe] at q; cases q) (fun z => by subst z; rw [nBi] at q; cases q), S₂.new, S₂.nL⟩
 by_cases hlt : i < y.cps.size
 · refine Wk.item i s' _ _ hlt ⟨en₂, it₂⟩ fun T vals h' tk hP hT hTup mid hk => ?_
   refine hdG fun gQ gZ => ?_
   refine zI hP fun tt x hq2 hq3 => ?_
   try clear hP
   obtain ⟨c, u, hc, rfl⟩ := hq2
   refine gZ ?_
   obtain rfl := hq3
   refine Wk.go _ _ _ i T ⟨h', s'.gens, s'.drawn, tk, s'.os⟩ _ _ mid fun h'' st hk2 => ?_
   have hap := Wk.apart _ _ _ mid
   have hk3 : ∀ b o, b ∉ [e, it] → s'.heap.get? b = some o → h''.get? b = some o := fun b o nb q => hk2 b o nb (hk b o nb q)
   have S₃ := moved h'' hk3
   have hTup' : h''.IsTuple T #[.int i tt, .str ⟨#[c]⟩ u] := by
    obtain ⟨o, ho, r⟩ := hTup
    exact ⟨o, hk2 T o hap ho, r⟩
   refine hdG fun gQ gZ => ?_
   obtain ⟨⟨old, en₃⟩, oS, ho3, hc3, hd3⟩ := st
   refine gZ ?_
   refine wpAny_assign_Tuple (items := #[.int i tt, .str ⟨#[c]⟩ u]) hh hTup' (by simpa using hn) hs' fun h₄ hb₄ => ?_
   refine zw (S₃.fresh (zt h'')) fun f1 f2 f3 => ?_
   have S₄ := S₃.moved f1 f3 f2 fun b o nb q => hb₄ b o nb q
   have he4 : h₄.get? e = _ := hb₄ e _ (Nat.ne_of_lt (Heap.lt_size en₃)) en₃
   have hi4 : h₄.get? it = _ := hb₄ it _ (Nat.ne_of_lt (Heap.lt_size ho3)) ho3
   have S₅ := S₄.hide he4 hE₂ nLe
   have S₆ := St.hide S₅ hi4 hI₂ nLi
   have nB2 : qG C.B e { cls := .type "enumerate", dict := none, data := .fields #[.none, .bool false, .ref it, rawInt ((i + 1 : Nat) : Int), .none, old], slots := #[] } it = none := by rw [wv (Ne.symm ne)]; exact nBi
   have w₁ := step _ i c m₂ H₂ ((yP nBe).trans (yP nB2)) hc I₂ tt u ⟨h₄, s'.gens, s'.drawn, tk, s'.os⟩ S₆ g₂
   refine wpAny_mono w₁ (fun _ s₄ z => ?_) fun _ _ z => by obtain ⟨_, _, _, _, _, z⟩ := z; exact z.elim
   refine hdG fun gQ gZ => ?_
   obtain ⟨m₄, H₄, S₇, g₄, e₄, z⟩ := z
   refine gZ ?_
   refine wpAny_mono (z s₄ S₇ g₄) (fun f s₅ y' => ?_) fun _ _ z => by obtain ⟨_, _, _, _, _, z⟩ := z; exact z.elim
   refine hdG fun gQ gZ => ?_
   obtain ⟨m₅, H₅, S₈, g₅, e₅, y'⟩ := y'
   have e₆ : s₅.os = s.os := (e₅.trans e₄).trans eo₂
   obtain ⟨S₉, k₉, n₉⟩ := St.show (C := ⟨C.prog, C.w, qG C.B e { cls := .type "enumerate", dict := none, data := .fields #[.none, .bool false, .ref it, rawInt ((i + 1 : Nat) : Int), .none, old], slots := #[] }⟩) nB2 S₈
   obtain ⟨S₁₀, k₁₀, n₁₀⟩ := St.show nBe S₉
   refine gZ ?_
   have st5 : (∃ old, IsEnum s₅.heap e it ((i + 1 : Nat) : Int) old) ∧ s₅.heap.IsStrIter it (strIterType y) y t (i + 1) := ⟨⟨old, k₁₀⟩, oS, k₉, hc3, hd3⟩
   cases f with
   | next => exact ⟨y.cps.size + 1 - (i + 1), by exact (an 0x2d0211609081822500203044a103044a0 [_,_]) hlt, i + 1, m₅, H₅, hlt, rfl, e₆, g₅, S₁₀, y', n₁₀, n₉, st5.1, st5.2⟩
   | cont => exact ⟨y.cps.size + 1 - (i + 1), by exact (an 0x2d0211609081822500203044a103044a0 [_,_]) hlt, i + 1, m₅, H₅, hlt, rfl, e₆, g₅, S₁₀, y', n₁₀, n₉, st5.1, st5.2⟩
   | brk => exact ⟨m₅, H₅, S₁₀, g₅, e₆, y'⟩
   | ret r => exact ⟨m₅, H₅, S₁₀, g₅, e₆, y'⟩
 · have hin : i = y.cps.size := by exact (an 0x52140585a140310a0 [_,_]) hi' hlt
   subst hin
   exact Wk.done s' _ _ ⟨en₂, it₂⟩ fun h' tk hk => wpAny_execs_nil ⟨m₂, H₂, moved h' hk, g₂, eo₂, last _ _ I₂⟩
end
end
section
open Builtin Builtin.ObjectAttr Builtin.Getset_descriptor
structure jt (K : Frag) (Cl fN p : Addr) : Prop where
 obj : ∃ oc od cd sl v, K.lookup Cl = some ⟨oc, od, .cls cd, sl⟩ ∧ cd.mro.isEmpty = false ∧ (sl.toList[4]?).join = some v ∧ (∀ i, v ≠ .builtin i) ∧ cd.mro.contains (.ref Cl) = true ∧ cd.mro.contains (.type "object") = true
 call : specialIn K (.ref Cl) "__call__" = some (some (.builtin "type.__call__"))
 typ : instIn K (.ref Cl) (.type "type") = some true
 init : findIn K (.ref Cl) "__init__" = some (some (.builtin "object.__init__"))
 reads : readsIn K Cl (.type "type") = true
 new : findCls K (.ref Cl) (.type "type") "__new__" = some (.get (.builtin "staticmethod.__get__") (.ref p) .none (.ref Cl))
 rec_ : recIn K p "staticmethod" = some [.ref fN]
 hand : handedIn (.ref fN) = true
section
variable {prog : Program} {w : World} {A : Around} {K : Frag} {Cl fN p : Addr} {R : Result → Shared → Prop} {h : Heap} {g : Array GenState} {d : Drawn} {t : Nat} {os : OsState}
theorem kZ {M : Model} {h : Heap} (X : K.In h) (N : jt K Cl fN p) : Looks M h (Bind.madeBy (.ref Cl)) none := by
 refine hdG fun gQ gZ => ?_
 refine vJ N.obj fun oc od cd sl v zq => kg zq fun ho e4 e3 hv _ _ => ?_
 have hc : clsIn K Cl = some cd := by unfold clsIn; rw [ho]
 have hm : Looks M h (mroOf (.ref Cl)) cd.mro := (looks_clsIn X hc).andThen .now
 obtain ⟨c, l, hl⟩ : ∃ c l, cd.mro = c :: l := by cases q : cd.mro with | nil => rw [q] at e4; cases e4 | cons c l => exact ⟨c, l, rfl⟩
 refine gZ ?_
 intro A Q E s k q
 unfold Bind.madeBy
 refine wpAny_bind (hm A _ E s k ?_)
 rw [hl, List.forIn_cons]
 refine wpAny_bind (wpAny_bind (wpAny_bind (wpAny_bind (wpAny_loadPart (k _ _ (X _ _ ho)) (wpAny_pure ?_)))))
 dsimp only
 rw [← Array.getElem?_toList, e3]
 cases v with
 | builtin i => exact absurd rfl (hv i)
 | _ => exact wpAny_pure (wpAny_pure (wpAny_pure q))
theorem QH {s : Shared} {E : Value → Shared → Prop} {expr : Bool} {Q : Value → Shared → Prop} (X : K.In s.heap) (N : jt K Cl fN p) (hq : Q (.ref fN) { s with toks := s.toks + 1 }) : wpAny (model prog w) A (getAttr (.ref Cl) "__new__" expr) Q E s :=
 cls_bind X N.reads N.new (wpAny_call (sm_get (s := { s with toks := s.toks + 1 }) X N.rec_ (handed_on N.hand hq)))
theorem QG (a b c e : Value) : argsOk "object.__init__" ⟨[a, b, c, e], []⟩ := by unfold argsOk; kernel_rfl
theorem Zc {x1 x2 x3 : Value} (X : K.In h) (N : jt K Cl fN p)
 (hq : codeAny (model prog w) (A.under (.builtin "type.__call__" ⟨.ref Cl :: [x1, x2, x3], []⟩)) (.call (.ref fN) ⟨.ref Cl :: [x1, x2, x3], []⟩) (fun r s' => match r with
  | .ok (.ret v) => ∃ x o, v = .ref x ∧ s'.heap.get? x = some o ∧ o.cls = .ref Cl ∧ K.In s'.heap ∧ R (.ok (.ret (.ref x))) s'
  | .ok _ => False
  | .error e => R (.error e) s') ⟨h, g, d, t + 1, os⟩) :
 codeAny (model prog w) A (.call (.ref Cl) ⟨[x1, x2, x3], []⟩) R ⟨h, g, d, t, os⟩ := by
 refine vJ N.obj fun oc od cd sl v zq => kg zq fun ho e4 e3 hv e5 e6 => ?_
 have hC := X _ _ ho
 have call := looks_specialIn (M := model prog w) X N.call
 have typ := looks_instIn (M := model prog w) X N.typ
 have made := kZ (M := model prog w) X N
 have hc : clsIn K Cl = some cd := by unfold clsIn; rw [ho]
 refine codeAny_of_tree ?_
 show wpAny _ _ (callAny (.ref Cl) _) _ _ _
 refine nd_load hC ?_
 show wpAny _ _ (callAny.viaDunder (.ref Cl) _) _ _ _
 unfold callAny.viaDunder
 refine wpAny_bind (call.at ?_)
 dsimp only
 rw [tc_bind]
 refine wpAny_bind (wpAny_pure (wpAny_bind (wpAny_pure ?_)))
 refine wpAny_pure (a := Fin.again (.call (.builtin "type.__call__") ⟨.ref Cl :: [x1, x2, x3], []⟩)) (And.intro rfl ?_)
 refine codeAny_call_builtin_at (Code.quiet_builtin _ (by decide +kernel)) entry_typeCall (check_slot tc_kind tc_split typ (tc_args _ _ _) ?_)
 unfold Builtin.«type.__call__»
 have hm : Looks (model prog w) h (mroOf (.ref Cl)) cd.mro := ((Looks.ld (part := none) hC).andThen .now).andThen .now
 repeat (first | simp only [e4, Bool.false_eq_true, if_false] | with_reducible refine QH (s := ⟨h, g, d, t, os⟩) X N ?_ | with_reducible refine wpAny_call ?_ | lk)
 refine codeAny_mono hq fun r s' z => ?_
 rcases r with e | (v | _ | _ | _) <;> first | exact z | exact z.elim | skip
 refine hdG fun gQ gZ => ?_
 obtain ⟨x, o, rfl, hx, hcls, X', z⟩ := z
 have hx' : ∃ od' dt sl', s'.heap.get? x = some ⟨.ref Cl, od', dt, sl'⟩ := by obtain ⟨c', od', dt, sl'⟩ := o; cases hcls; exact (qp _ _ _ hx)
 obtain ⟨od', dt, sl', hx'⟩ := hx'
 clear hx
 obtain ⟨h', g', d', t', os'⟩ := s'
 refine gZ ?_
 have t1 : Looks (model prog w) h' (typeOf (.ref x)) (.ref Cl) := (Looks.ld hx').andThen .now
 have self : Looks (model prog w) h' (isSubtype (.ref Cl) (.ref Cl)) true := looks_mroIn X' (by unfold mroIn; rw [hc, Option.bind_some, if_neg (by rw [e4]; decide), e5])
 have top : Looks (model prog w) h' (isSubtype (.ref Cl) (.type "object")) true := looks_mroIn X' (by unfold mroIn; rw [hc, Option.bind_some, if_neg (by rw [e4]; decide), e6])
 have i1 := looks_findIn (M := model prog w) X' N.init
 have made' := kZ (M := model prog w) X' N
 have b1 : Looks (model prog w) h' (bindSpecial (.builtin "object.__init__") (.ref x)) (.builtin "object.__init__", [.ref x]) := Looks.of_pure (oi_bind (.ref x))
 have t2 : Looks (model prog w) h' (isInstance (.ref x) (.type "object")) true := t1.andThen top
 unfold isInstance callSpecial? specialOf
 repeat (first | with_reducible refine wpAny_call ?_ | lk)
 refine codeAny_call_builtin oi_plain entry_oi (@check_slot (model prog w) _ _ _ "object.__init__" "object" "__init__" (.ref x) [x1, x2, x3] [] _ oi_kind oi_split t2 (QG (.ref x) x1 x2 x3) ?_)
 unfold Builtin.«object.__init__»
 repeat lk
 exact z
end
section
variable {C : Cx} {A : Around} {L : Addr} {E : PV} {m : Mp} {H : HF} {K : Frag} {mg mb : Mp} {q : Program} {loose : List Str}
theorem K5 {Cl fN p : Addr} {x1 x2 x3 : Value} {Q : PV} (X : Bd K mg mb q loose C) (N : jt K Cl fN p)
 (h : WC C (A.under (.builtin "type.__call__" ⟨.ref Cl :: [x1, x2, x3], []⟩)) L (.call (.ref fN) ⟨.ref Cl :: [x1, x2, x3], []⟩) (fun v m H => ∃ x o, v = .ref x ∧ H x = some o ∧ o.cls = .ref Cl ∧ Q (.ref x) m H) E m H) :
 W C A L (call (.ref Cl) [x1, x2, x3]) Q E m H := fun s S g => by
 refine wpAny_call ?_
 refine hdG fun gQ gZ => ?_
 obtain ⟨hh, gg, d, t, os⟩ := s
 refine gZ ?_
 refine Zc (X.K _ S.kb) N ?_
 have S' : St C L m H (Shared.mk hh gg d (t + 1) os).heap := S
 refine codeAny_mono (h ⟨hh, gg, d, t + 1, os⟩ S' g) fun r s' y => ?_
 rcases r with e | (v | _ | _ | _)
 · exact y
 · exact y.elim
 · exact y.elim
 · exact y.elim
 · refine hdG fun gQ gZ => ?_
   obtain ⟨m', H', S2, g', eo, x, o, rfl, hx, hc, y⟩ := y
   refine gZ ?_
   exact ⟨x, o, rfl, S2.at_ _ _ hx, hc, X.K _ S2.kb, m', H', S2, g', eo, y⟩
end
end
section
open Builtin Builtin.ObjectAttr Builtin.Getset_descriptor
theorem JO : Builtin.Slots.bestBase [.type "tuple"] = pure (.type "tuple") := by kernel_rfl
theorem XS : Bind.madeBy (.type "tuple") = pure (some "tuple.__new__") := by kernel_rfl
theorem JN : builtinKind "tuple.__new__" = some .builtinFn := by decide +kernel
theorem Qw : splitId "tuple.__new__" = some ("tuple", "__new__") := by decide +kernel
theorem JP (Cl tt : Addr) : argsOk "tuple.__new__" ⟨[.ref Cl, .ref tt], []⟩ := by unfold argsOk; kernel_rfl
theorem bJ : (Code.call (.builtin "tuple.__new__") ⟨[], []⟩).quiet = true := by decide +kernel
structure YX (K : Frag) (Cl : Addr) : Prop where
 obj : ∃ oc od cd sl v, K.lookup Cl = some ⟨oc, od, .cls cd, sl⟩ ∧ cd.mro = [.ref Cl, .type "tuple", .type "object"] ∧ cd.bases = [.type "tuple"] ∧ cd.hasDel = false ∧ (sl.toList[4]?).join = some v ∧ (∀ i, v ≠ .builtin i)
 typ : instIn K (.ref Cl) (.type "type") = some true
section
variable {prog : Program} {w : World} {A : Around} {K : Frag} {Cl fN p : Addr} {R : Result → Shared → Prop} {h : Heap} {g : Array GenState} {d : Drawn} {t : Nat} {os : OsState}
theorem wX {M : Model} {h : Heap} (X : K.In h) (N : jt K Cl fN p) (T : YX K Cl) : Looks M h (Bind.staticBase (.ref Cl)) (.type "tuple") := by
 refine vJ T.obj fun oc od cd sl v zq => kg zq fun ho e1 e2 _ _ _ => ?_
 have hc : clsIn K Cl = some cd := by unfold clsIn; rw [ho]
 have hm : Looks M h (mroOf (.ref Cl)) cd.mro := (looks_clsIn X hc).andThen .now
 have hcl : Looks M h (classData Cl) cd := looks_clsIn X hc
 have made := kZ (M := M) X N
 intro A Q E s k q
 unfold Bind.staticBase
 refine wpAny_bind (hm A _ E s k ?_)
 rw [e1, List.forIn_cons]
 refine wpAny_bind (wpAny_bind (wpAny_bind (made A _ E s k ?_)))
 dsimp only [Option.isSome_none]
 rw [if_neg (by decide)]
 refine wpAny_bind (wpAny_bind (wpAny_load (k _ _ (X _ _ ho)) (wpAny_pure ?_)))
 rw [e2, JO]
 refine wpAny_bind (wpAny_pure (wpAny_pure ?_))
 dsimp only
 rw [List.forIn_cons, XS]
 refine wpAny_bind (wpAny_bind (wpAny_pure ?_))
 dsimp only [Option.isSome_some]
 rw [if_pos rfl]
 exact wpAny_pure (wpAny_pure (wpAny_pure q))
theorem Wf {tt : Addr} {vs : List Value} (X : K.In h) (N : jt K Cl fN p) (T : YX K Cl) (ht : h.get? tt = some (yp vs 0)) (hz : vs.length ≤ sizeLine)
 (hq : ∀ h' x dx t', (∀ b o, h.get? b = some o → h'.get? b = some o) → h.get? x = none → h'.get? x = some ⟨.ref Cl, some dx, .seq vs.toArray 0, #[]⟩ → R (.ok (.ret (.ref x))) ⟨h', g, d, t', os⟩) :
 codeAny (model prog w) A (.call (.builtin "tuple.__new__") ⟨[.ref Cl, .ref tt], []⟩) R ⟨h, g, d, t, os⟩ := by
 refine vJ T.obj fun oc od cd sl v zq => kg zq fun ho e1 e2 e3 _ _ => ?_
 have hC := X _ _ ho
 have hc : clsIn K Cl = some cd := by unfold clsIn; rw [ho]
 have typ := looks_instIn (M := model prog w) X T.typ
 have stat := wX (M := model prog w) X N T
 have sub : Looks (model prog w) h (isSubtype (.ref Cl) (.type "tuple")) true := looks_mroIn X (by unfold mroIn; rw [hc, Option.bind_some, e1]; rfl)
 have made : Looks (model prog w) h (Bind.madeBy (.type "tuple")) (some "tuple.__new__") := Looks.of_pure XS
 have i1 := looks_findIn (M := model prog w) X N.init
 have isT : Looks (model prog w) h (isType (.ref Cl)) true := (Looks.ld hC).andThen .now
 have ⟨sig, hs⟩ : ∃ sig, Manifest.signature? "tuple.__new__" = some sig := by
  cases q : Manifest.signature? "tuple.__new__" with
  | some sig => exact ⟨sig, rfl⟩
  | none => exact absurd q (by decide +kernel)
 have ha := JP Cl tt
 simp only [argsOk, hs] at ha
 have ha2 : Bind.checkArgs "tuple.__new__" sig ⟨[.ref Cl, .ref tt], []⟩ = pure () := ha
 refine codeAny_call_builtin_code (Code.quiet_builtin _ (by decide +kernel)) ?_
 simp only [checkBuiltinCall, JN, Qw, hs]
 rw [ha2]
 repeat (first | simp only [bne_self_eq_false, Bool.false_eq_true, if_false] | lk)
 refine codeAny_builtin F.entry_tuple_new ?_
 unfold Builtin.«tuple.__new__»
 have mh : Looks (model prog w) h (Bind.madeHere "tuple.__new__" (.ref Cl)) () := stat.andThen (made.andThen (Looks.of_pure (by simp only [Option.map_some, bne_self_eq_false, Bool.false_eq_true, if_false])))
 have hcol : ∀ (A' : Around) (Q : List Value → Shared → Prop) (E : Value → Shared → Prop), Q vs ⟨(h.push (seqObj "list" #[] 0)).update h.objs.size (Obj.mapSeq (· ++ vs.toArray)), g, d, t, os⟩ → wpAny (model prog w) A' (collect (.ref tt)) Q E ⟨h, g, d, t, os⟩ := fun A' Q E z =>
  qy (s := ⟨h, g, d, t, os⟩) ⟨_, ht, rfl, _, rfl⟩ z hz
 have kh : ∀ b o, h.get? b = some o → ((h.push (seqObj "list" #[] 0)).update h.objs.size (Obj.mapSeq (· ++ vs.toArray))).get? b = some o := fun b o e => by
  have hne : b ≠ h.objs.size := fun z => by subst z; exact absurd (Heap.lt_size e) (Nat.lt_irrefl _)
  rw [(Heap.SameBut.update ..).2 b hne]
  exact Heap.get?_push_of_some _ e
 have hfin : ∀ b, ((h.push (seqObj "list" #[] 0)).update h.objs.size (Obj.mapSeq (· ++ vs.toArray))).get? b = none → h.get? b = none := fun b e => by
  cases q : h.get? b with
  | none => rfl
  | some o => rw [kh b o q] at e; cases e
 repeat (first | simp only [bne_self_eq_false, Bool.false_eq_true, if_false] | with_reducible refine hcol _ _ _ ?_ | lk)
 generalize (h.push (seqObj "list" #[] 0)).update h.objs.size (Obj.mapSeq (· ++ vs.toArray)) = h1 at kh hfin ⊢
 rw [if_neg (by simp; omega)]
 unfold newObjAsIs classHasDel
 refine wpAny_bind (wpAny_alloc (wpAny_bind (wpAny_bind (wpAny_load (Heap.get?_push_of_some _ (Heap.get?_push_of_some _ (kh _ _ hC))) (wpAny_pure ?_)))))
 rw [e3]
 refine wpAny_pure (wpAny_pure ?_)
 have n1 : h1.get? (h1.push { cls := Value.type "dict", data := Data.dict #[] }).objs.size = none := by
  cases q : h1.get? (h1.push { cls := Value.type "dict", data := Data.dict #[] }).objs.size with
  | none => rfl
  | some o => have := Heap.lt_size q; rw [Heap.size_push] at this; exact absurd (Nat.lt_of_succ_lt this) (Nat.lt_irrefl _)
 exact hq _ _ h1.objs.size _ (fun b o e => Heap.get?_push_of_some _ (Heap.get?_push_of_some _ (kh b o e))) (hfin _ n1) (Heap.get?_push_size _ rfl)
end
section
variable {C : Cx} {A : Around} {L : Addr} {E : PV} {m : Mp} {H : HF} {K : Frag} {mg mb : Mp} {q : Program} {loose : List Str} {env : Env}
abbrev Jp (Cl dx : Addr) (vs : List Value) : Obj := ⟨.ref Cl, some dx, .seq vs.toArray 0, #[]⟩
theorem Xs {Cl fN p tt : Addr} {vs : List Value} {Q : PV} (X : Bd K mg mb q loose C) (N : jt K Cl fN p) (T : YX K Cl) (ht : H tt = some (yp vs 0)) (hz : vs.length ≤ sizeLine)
 (h : ∀ x dx, H x = none → x ≠ L → Q (.ref x) m (put H x (Jp Cl dx vs))) : W C A L (call (.builtin "tuple.__new__") [.ref Cl, .ref tt]) Q E m H := fun s S g => by
 refine wpAny_call ?_
 refine hdG fun gQ gZ => ?_
 obtain ⟨hh, gg, d, t, os⟩ := s
 refine gZ ?_
 refine Wf (X.K _ S.kb) N T (S.at_ _ _ ht) hz fun h' x dx t' k nx hx => ?_
 refine zw (S.grow k nx hx) fun S' f1 f2 => ?_
 exact ⟨m, _, S', g, rfl, h x dx f1 f2⟩
theorem Xr {o : Expr} {name : Str} {apos pos : Pos} {e : Expr} {rest : List Expr} {b : String} {Tn : String} {Q : PV} (X : Bd K mg mb q loose C) (ht : typeOf (.type Tn) = pure (.type "type")) (hs : Manifest.isStub Tn = false)
 (ef : findCls K (.type Tn) (.type "type") name = some (.val (.builtin b))) (hh : handedIn (.builtin b) = true)
 (h : W C A L (eval o env) (fun ov m H => ov = .type Tn ∧ W C A L (spliced (backTo pos (starEach (e :: rest) env))) (fun vs m H => W C A L (call (.builtin b) vs) Q E m H) E m H) E m H)
 (pl : Sem Bool) (hc : eval (.Call (.Attribute o name apos) (e :: rest) [] pos) env = (do
  let ov ← eval o env
  standAt apos.atName
  let (f, first) ← holding [ov] (getMethod ov name pl)
  callWith pos f first (backTo pos (starEach (e :: rest) env)) (backToKw pos (keywordEach [] env))))
 (he : starEach (e :: rest) env = (false, eval e env) :: starEach rest env) (hplain : (backTo pos (starEach (e :: rest) env)).any (·.1) = false) :
 W C A L (eval (.Call (.Attribute o name apos) (e :: rest) [] pos) env) Q E m H := fun s S g =>
 methodCall_KW (pl := pl) (h.useQ S g rfl fun ov m' H' s' S' g' eo z => by
  obtain ⟨rfl, z⟩ := z
  have XK := X.K _ S'.kb
  have hstub : opaqueClassAbove (.type Tn) = pure none := by unfold opaqueClassAbove; dsimp only; rw [hs]; rfl
  have L0 : Looks C.M s'.heap (typeOf (.type Tn)) (.type "type") := Looks.of_pure ht
  have hg : findIn K (.type "type") "__getattribute__" = some (some (.builtin "type.__getattribute__")) := type_tga
  unfold getMethod specialOf
  refine wpAny_bind (wpAny_bind (L0.here ((looks_findIn XK hg).here ?_)))
  dsimp only
  rw [if_pos canon_tga]
  have LO : Looks C.M s'.heap (opaqueClassAbove (.type Tn)) none := Looks.of_pure hstub
  refine wpAny_bind (cls_open XK LO L0 hg (looks_hook XK (r := none) (by rfl)) (by show subIn K _ _ = _; rfl) ef (wpAny_pure ?_))
  show wpAny _ _ (handedOut (.builtin b)) _ _ _
  rw [handedOut_of hh]
  refine wpAny_pure (wpAny_pure ?_)
  refine Calls.callWith_builtin hplain ?_
  rw [he] at z ⊢
  have S2 : St C L m' H' (Shared.mk s'.heap s'.gens s'.drawn (s'.toks + 1) s'.os).heap := S'
  exact Calls.evalArgs_plain (z.useQ S2 g' eo fun vs m' H' s' S' g' eo z => z.go S' g' eo)) hc
end
end
section
open Builtin Builtin.ObjectAttr Builtin.Getset_descriptor
abbrev tiO (t : Addr) (i : Nat) : Obj := { cls := .type "tuple_iterator", data := .fields #[.ref t, .int i 0] }
section
variable {prog : Program} {w : World} {A : Around} {E : Value → Shared → Prop} {h : Heap} {g : Array GenState} {d : Drawn} {t : Nat} {os : OsState}
theorem wk {it x : Addr} {i : Nat} {o : Obj} {items : Array Value} {n : Nat} {v : Value} {Q : Option Value → Shared → Prop} (hit : h.get? it = some (tiO x i)) (hx : h.get? x = some o) (hd : o.data = .seq items n) (hv : items[i]? = some v)
 (hQ : ∀ h', h'.get? it = some (tiO x (i + 1)) → Heap.SameBut it h h' → Q (some v) ⟨h', g, d, t, os⟩) : wpAny (model prog w) A (pyNext (.ref it)) Q E ⟨h, g, d, t, os⟩ := by
 have hT : Shared.TypeIs ⟨h, g, d, t, os⟩ (.ref it) "tuple_iterator" := ⟨_, hit, rfl⟩
 unfold pyNext
 refine wpAny_bind (wpAny_attempt (wpAny_callSpecial?_slot (name := Str.ofString "__next__") hT F.slot_tuple_iterator_next
  (wpAny_call_entry F.slot_tuple_iterator_next hT F.entry_tuple_iterator_next ?_ (F.args_tuple_iterator_next_1 _))))
 show wpAny _ _ (field (.ref it) 0 >>= _) _ _ _
 refine wpAny_bind (wpAny_field hit rfl (x := .ref x) rfl ?_)
 show wpAny _ _ (if (Value.ref x == Value.none) = true then _ else _) _ _ _
 rw [if_neg (show ¬ ((Value.ref x == Value.none) = true) from Bool.false_ne_true)]
 show wpAny _ _ (field (.ref it) 1 >>= _) _ _ _
 refine wpAny_bind (wpAny_field hit rfl (x := .int i 0) rfl ?_)
 show wpAny _ _ (seqItems? (.ref x) >>= _) _ _ _
 refine wpAny_bind (wpAny_seqItems hx hd ?_)
 simp only [Int.toNat_natCast, hv]
 refine wpAny_bind (wpAny_setField hit rfl (by simp) (wpAny_pure (zd v rfl (wpAny_pure (hQ _ ?_ (Heap.SameBut.update ..))))))
 exact Heap.get?_update_self _ hit rfl
theorem JU {it x : Addr} {i : Nat} {o : Obj} {items : Array Value} {n : Nat} {Q : Option Value → Shared → Prop} (hh : A.handled = none) (hit : h.get? it = some (tiO x i)) (hx : h.get? x = some o) (hd : o.data = .seq items n) (hv : items[i]? = none)
 (hQ : ∀ h', Heap.ExtBut it h h' → Q none ⟨h', g, d, t, os⟩) : wpAny (model prog w) A (pyNext (.ref it)) Q E ⟨h, g, d, t, os⟩ := by
 have hT : Shared.TypeIs ⟨h, g, d, t, os⟩ (.ref it) "tuple_iterator" := ⟨_, hit, rfl⟩
 unfold pyNext
 refine wpAny_bind (wpAny_attempt (wpAny_callSpecial?_slot (name := Str.ofString "__next__") hT F.slot_tuple_iterator_next
  (wpAny_call_entry F.slot_tuple_iterator_next hT F.entry_tuple_iterator_next ?_ (F.args_tuple_iterator_next_1 _))))
 show wpAny _ _ (field (.ref it) 0 >>= _) _ _ _
 refine wpAny_bind (wpAny_field hit rfl (x := .ref x) rfl ?_)
 show wpAny _ _ (if (Value.ref x == Value.none) = true then _ else _) _ _ _
 rw [if_neg (show ¬ ((Value.ref x == Value.none) = true) from Bool.false_ne_true)]
 show wpAny _ _ (field (.ref it) 1 >>= _) _ _ _
 refine wpAny_bind (wpAny_field hit rfl (x := .int i 0) rfl ?_)
 show wpAny _ _ (seqItems? (.ref x) >>= _) _ _ _
 refine wpAny_bind (wpAny_seqItems hx hd ?_)
 simp only [Int.toNat_natCast, hv]
 refine wpAny_bind (wpAny_rule (wpAny_bind (wpAny_setField hit rfl (by simp) ?_)))
 show wpAny _ _ (newExc (.type "StopIteration") [] >>= _) _ _ _
 refine wpAny_bind ?_
 simp only [newExc, newTuple]
 refine wpAny_bind (wpAny_newObj_type ?_ (by size_fits))
 refine wpAny_bind (m := firstArgMember _ _) (wpAny_of_eq (a := Value.none) (by first | rfl | (simp only [firstArgMember]; rfl)) ?_)
 refine wpAny_newObj_type ?_ (by size_fits)
 simp only [raiseNew]
 refine wpAny_bind (wpAny_handled ?_)
 rw [show A.in1.handled = none from hh]
 refine wpAny_bind (wpAny_pure (wpAny_throw ?_))
 refine wpAny_bind (wpAny_isInstance (T := "StopIteration") (b := true) ⟨_, Heap.get?_push_size _ rfl, rfl⟩ isSubtype_stop ?_)
 exact wpAny_pure (hQ _ (((Heap.SameBut.update ..).extBut.push _).push _))
theorem Qy {K : Frag} {Cl x : Addr} {o : Obj} {Q : Value → Shared → Prop} (X : K.In h) (hx : h.get? x = some o) (hc : o.cls = .ref Cl) (hf : findIn K (.ref Cl) "__iter__" = some (some (.builtin "tuple.__iter__"))) (hm : mroIn K Cl (.type "tuple") = some true)
 (hQ : Q (.ref h.objs.size) ⟨h.push (tiO x 0), g, d, t, os⟩) : wpAny (model prog w) A (pyIter (.ref x)) Q E ⟨h, g, d, t, os⟩ := by
 refine hdG fun gQ gZ => ?_
 obtain ⟨c, od, dt, sl⟩ := o
 refine gZ ?_
 cases hc
 have t1 : Looks (model prog w) h (typeOf (.ref x)) (.ref Cl) := (Looks.ld hx).andThen .now
 have i1 := looks_findIn (M := model prog w) X hf
 have s1 : Looks (model prog w) h (specialOf (.ref x) "__iter__") (some (.builtin "tuple.__iter__")) := t1.andThen i1
 have b1 : Looks (model prog w) h (bindSpecial (.builtin "tuple.__iter__") (.ref x)) (.builtin "tuple.__iter__", [.ref x]) := Looks.of_pure (F.slot_tuple_iter.bind _)
 have t2 : Looks (model prog w) h (isInstance (.ref x) (.type "tuple")) true := t1.andThen (looks_mroIn X hm)
 unfold pyIter
 refine wpAny_bind (s1.at ?_)
 unfold callSpecialIfBoundUnlessNone? bindSpecialIfBound?
 have hcall : ∀ (A' : Around) (Q' : Value → Shared → Prop) (E' : Value → Shared → Prop), Q' (.ref h.objs.size) ⟨h.push (tiO x 0), g, d, t, os⟩ → wpAny (model prog w) A' (call (.builtin "tuple.__iter__") [.ref x]) Q' E' ⟨h, g, d, t, os⟩ := fun A' Q' E' z => by
  refine wpAny_call ?_
  refine codeAny_call_builtin F.slot_tuple_iter.plain F.entry_tuple_iter (@check_slot (model prog w) _ _ ⟨h, g, d, t, os⟩ "tuple.__iter__" "tuple" "__iter__" (.ref x) [] [] _ (by decide +kernel) (by decide +kernel) t2 (F.args_tuple_iter_1 _) ?_)
  show wpAny _ _ (do ret (← newFields "tuple_iterator" [.ref x, rawInt 0])) _ _ _
  exact wpAny_bind (wpAny_newObj_type (wpAny_pure z))
 have hT : Shared.TypeIs ⟨h.push (tiO x 0), g, d, t, os⟩ (.ref h.objs.size) "tuple_iterator" := ⟨_, Heap.get?_push_size _ rfl, rfl⟩
 have hfin : ∀ (it : Value), it = .ref h.objs.size → wpAny (model prog w) A (do
  let r ← specialOf it "__next__"
  match r with
  | none => do
   rule "iter.non-iterator"
   raiseError "TypeError" s!"iter() returned non-iterator of type '{← PySem.typeNameOf it}'"
  | some _ => pure it) Q E ⟨h.push (tiO x 0), g, d, t, os⟩ := fun it e => by
  subst e
  exact wpAny_bind (wpAny_specialOf hT F.slot_tuple_iterator_next.lookup (wpAny_pure hQ))
 dsimp only
 refine wpAny_bind (wpAny_holding (wpAny_bind (wpAny_bind (s1.at (wpAny_bind (wpAny_askSetting ?_))))))
 dsimp only
 split
 · refine wpAny_bind (b1.at (wpAny_pure ?_))
   dsimp only
   rw [if_neg (by decide)]
   exact wpAny_bind (hcall _ _ _ (wpAny_pure (hfin _ rfl)))
 · refine wpAny_tryCatch (wpAny_bind (b1.at (wpAny_pure ?_)))
   dsimp only
   rw [if_neg (by decide)]
   exact wpAny_bind (hcall _ _ _ (wpAny_pure (hfin _ rfl)))
end
section
variable {C : Cx} {A : Around} {L : Addr} {E : PV} {m : Mp} {H : HF} {K : Frag} {mg mb : Mp} {q : Program} {loose : List Str} {env : Env}
theorem fe {prog : Program} {w : World} {A : Around} {E : Value → Shared → Prop} {K : Frag} {Cl x dx : Addr} {v1 v2 v3 : Value} {s : Shared} {Q : List Value → Shared → Prop} (X : K.In s.heap) (hA : A.handled = none) (hx : s.heap.get? x = some (Jp Cl dx [v1, v2, v3]))
 (hf : findIn K (.ref Cl) "__iter__" = some (some (.builtin "tuple.__iter__"))) (hm : mroIn K Cl (.type "tuple") = some true)
 (hQ : ∀ h', Heap.ExtBut s.heap.objs.size s.heap h' → Q [v1, v2, v3] { s with heap := h' }) : wpAny (model prog w) A (unpackItems (.ref x) 3 none) Q E s := by
 refine hdG fun gQ gZ => ?_
 obtain ⟨h, g, d, t, os⟩ := s
 refine gZ ?_
 have t1 : Looks (model prog w) h (typeOf (.ref x)) (.ref Cl) := (Looks.ld hx).andThen .now
 have s1 : Looks (model prog w) h (specialOf (.ref x) "__iter__") (some (.builtin "tuple.__iter__")) := t1.andThen (looks_findIn X hf)
 have hne : x ≠ h.objs.size := fun z => by subst z; exact absurd (Heap.lt_size hx) (Nat.lt_irrefl _)
 unfold unpackItems notIterableAtAll
 refine wpAny_bind (wpAny_bind (s1.at ?_))
 rw [if_pos (show (some (Value.builtin "tuple.__iter__")).isSome = true from rfl)]
 refine wpAny_pure ?_
 rw [if_neg (by decide)]
 refine wpAny_bind (wpAny_holding (Qy X hx rfl hf hm ?_))
 have hx0 : (h.push (tiO x 0)).get? x = some (Jp Cl dx [v1, v2, v3]) := Heap.get?_push_of_some _ hx
 refine wpAny_bind (wpAny_holding ?_)
 show wpAny _ _ (pyNext (.ref h.objs.size) >>= _) _ _ _
 refine wpAny_bind (wk (Heap.get?_push_size _ rfl) hx0 rfl (v := v1) rfl fun h1 i1 e1 => ?_)
 have hx1 := (e1.2 x hne).trans hx0
 refine wpAny_bind (wpAny_holding ?_)
 show wpAny _ _ (pyNext (.ref h.objs.size) >>= _) _ _ _
 refine wpAny_bind (wk i1 hx1 rfl (v := v2) rfl fun h2 i2 e2 => ?_)
 have hx2 := (e2.2 x hne).trans hx1
 refine wpAny_bind (wpAny_holding ?_)
 show wpAny _ _ (pyNext (.ref h.objs.size) >>= _) _ _ _
 refine wpAny_bind (wk i2 hx2 rfl (v := v3) rfl fun h3 i3 e3 => ?_)
 have hx3 := (e3.2 x hne).trans hx2
 refine wpAny_bind (wpAny_holding ?_)
 show wpAny _ _ (pure []) _ _ _
 refine wpAny_pure (wpAny_pure (wpAny_pure (wpAny_pure ?_)))
 rw [if_neg (by show ¬ (3 < 3); decide)]
 refine wpAny_bind (wpAny_holding (JU hA i3 hx3 rfl rfl fun h4 e4 => ?_))
 rw [if_neg (by decide)]
 refine wpAny_pure (hQ h4 fun b o hb e => ?_)
 exact e4 b o hb ((e3.2 b hb).trans ((e2.2 b hb).trans ((e1.2 b hb).trans (Heap.get?_push_of_some _ e))))
theorem VX {elts : List Expr} {x1 : Nat} {pos : Pos} {Cl x dx : Addr} {v1 v2 v3 : Value} {Q : Unit → Mp → HF → Prop} (X : Bd K mg mb q loose C) (hh : A.handled = none) (hx : H x = some (Jp Cl dx [v1, v2, v3]))
 (hf : findIn K (.ref Cl) "__iter__" = some (some (.builtin "tuple.__iter__"))) (hm : mroIn K Cl (.type "tuple") = some true)
 (hn : (assignEach elts env).length = 3) (hs : (assignEach elts env).findIdx? (·.1) = none)
 (h : W C A L (assignInOrder ((assignEach elts env).map (·.2)) [v1, v2, v3]) Q E m H) : W C A L (assign (.Tuple elts x1 pos) env (.ref x)) Q E m H := fun s S g => by
 rw [arm_assign_Tuple]
 refine wpAny_bind (wpAny_standAt ?_)
 unfold unpack
 rw [hn, hs]
 refine wpAny_bind (wpAny_holding (fe (X.K _ S.kb) hh (S.at_ _ _ hx) hf hm fun h' he => ?_))
 refine zw (S.fresh (zt s.heap)) fun f1 f2 f3 => ?_
 exact h.go (S.moved f1 f3 f2 fun b o nb e => he b o nb e) g rfl
end
end
section
abbrev cNI : Addr := 320
abbrev cTS : Addr := 417
theorem yk {x : Str} {t : Tok} : ∀ {vs : List Value} {ss : List Str}, StrsAre vs ss → StrsAre (vs ++ [.str x t]) (ss ++ [x])
 | _, _, .nil => .cons _ _ .nil
 | _, _, .cons y t' h => .cons y t' (yk h)
structure PN where
 name : Str
 np : Int
 ss : List Str
structure Nd where
 n : PN
 a : Addr
 dx : Addr
 sc : Addr
noncomputable def Ju (d : Nd) (t u : Tok) : List (Option Value) := [some (.str d.n.name t), some (.int d.n.np u), some (.ref d.sc)]
structure bI (H : HF) (d : Nd) : Prop where
 inst : ∃ t u, qg H d.a d.dx cNI (Ju d t u)
 succ : ∃ vs k, H d.sc = some (ze vs k) ∧ StrsAre vs d.n.ss
abbrev kK (g : List Nd) : List (Str × Value) := g.map fun d => (d.n.name, .ref d.a)
structure zz (p : Program) (w : World) (H : HF) (N : Addr) (g : List Nd) : Prop where
 dict : zG (PySem.strKind p w) H N (kK g)
 nodes : ∀ d ∈ g, bI H d
 inj : (g.map (·.sc)).Nodup
 dxN : ∀ d ∈ g, d.dx ≠ N
noncomputable def vE (g : List Nd) (x : Str) (f : PN → PN) : List Nd := g.map fun d => if d.n.name = x then { d with n := f d.n } else d
noncomputable def yG (g : List PN) (x : Str) (f : PN → PN) : List PN := g.map fun n => if n.name = x then f n else n
theorem xq (g : List Nd) (x : Str) (f : PN → PN) : (vE g x f).map (·.n) = yG (g.map (·.n)) x f := by
 unfold vE yG
 rw [List.map_map, List.map_map]
 refine List.map_congr_left fun d _ => ?_
 show (if d.n.name = x then { d with n := f d.n } else d).n = if d.n.name = x then f d.n else d.n
 split <;> rfl
theorem XN (g : List Nd) (x : Str) (f : PN → PN) : (vE g x f).map (·.sc) = g.map (·.sc) := by
 unfold vE
 rw [List.map_map]
 refine List.map_congr_left fun d _ => ?_
 show (if d.n.name = x then { d with n := f d.n } else d).sc = d.sc
 split <;> rfl
theorem Yl (g : List Nd) (x : Str) (f : PN → PN) (hf : ∀ n, (f n).name = n.name) : kK (vE g x f) = kK g := by
 unfold vE kK
 rw [List.map_map]
 refine List.map_congr_left fun d _ => ?_
 show ((if d.n.name = x then { d with n := f d.n } else d).n.name, Value.ref (if d.n.name = x then { d with n := f d.n } else d).a) = _
 split
 · rw [hf]
 · rfl
theorem Ym {g : List Nd} {x : Str} {f : PN → PN} {N : Addr} (h : ∀ d ∈ g, d.dx ≠ N) : ∀ d ∈ vE g x f, d.dx ≠ N := fun e he => by
 refine zc (List.mem_map.mp he) fun c hc hq2 => ?_
 obtain rfl := hq2
 split
 · exact h c hc
 · exact h c hc
section
variable {p : Program} {w : World} {H : HF} {N : Addr} {g : List Nd}
theorem zz.names (G : zz p w H N g) : (g.map (·.n.name)).Nodup := by
 have := G.dict.nodup
 rwa [List.map_map] at this
theorem zz.same (G : zz p w H N g) {d e : Nd} (hd : d ∈ g) (he : e ∈ g) (h : d.n.name = e.n.name) : d = e := by
 have n := G.names
 clear G
 induction g with
 | nil => cases hd
 | cons c r ih =>
  rw [List.map_cons, List.nodup_cons] at n
  rcases List.mem_cons.mp hd with q1 | q1
  · rcases List.mem_cons.mp he with q2 | q2
    · rw [q1, q2]
    · exact (n.1 (q1 ▸ h ▸ List.mem_map.mpr (zd e q2 rfl))).elim
  · rcases List.mem_cons.mp he with q2 | q2
    · exact (n.1 (q2 ▸ h ▸ List.mem_map.mpr (zd d q1 rfl))).elim
    · exact ih q1 q2 n.2
theorem zz.sameSc (G : zz p w H N g) {d e : Nd} (hd : d ∈ g) (he : e ∈ g) (h : d.sc = e.sc) : d = e := by
 have n := G.inj
 clear G
 induction g with
 | nil => cases hd
 | cons c r ih =>
  rw [List.map_cons, List.nodup_cons] at n
  rcases List.mem_cons.mp hd with q1 | q1
  · rcases List.mem_cons.mp he with q2 | q2
    · rw [q1, q2]
    · exact (n.1 (q1 ▸ h ▸ List.mem_map.mpr (zd e q2 rfl))).elim
  · rcases List.mem_cons.mp he with q2 | q2
    · exact (n.1 (q2 ▸ h ▸ List.mem_map.mpr (zd d q1 rfl))).elim
    · exact ih q1 q2 n.2
theorem zz.val (G : zz p w H N g) {d : Nd} (hd : d ∈ g) : valueAt (kK g) d.n.name = some (.ref d.a) := by
 obtain ⟨i, hi⟩ := List.mem_iff_getElem?.mp (List.mem_map.mpr (zd d hd rfl) : (d.n.name, Value.ref d.a) ∈ kK g)
 exact valueAt_of_get G.dict.nodup hi
theorem wU {kvs : List (Str × Value)} {x : Str} (h : ∀ kv ∈ kvs, kv.1 ≠ x) : valueAt kvs x = none := by
 unfold valueAt
 rw [List.find?_eq_none.mpr fun kv hk => by simpa using h kv hk]; rfl
theorem wT {kvs : List (Str × Value)} {x : Str} {v : Value} (h : valueAt kvs x = some v) : (x, v) ∈ kvs := by
 unfold valueAt at h
 refine zc (Option.map_eq_some_iff.mp h) fun kv hk hq2 => ?_
 obtain rfl := hq2
 have := List.find?_some hk
 have e : kv.1 = x := by simpa using this
 rw [← e]; exact List.mem_of_find?_eq_some hk
theorem zz.of_val (G : zz p w H N g) {x : Str} {v : Value} (h : valueAt (kK g) x = some v) : ∃ d ∈ g, d.n.name = x ∧ v = .ref d.a := by
 refine zc (List.mem_map.mp (wT h)) fun d hd e => ?_
 cases e
 exact (zP d hd rfl rfl)
theorem zz.ext {H' : HF} (G : zz p w H N g) (e : Ext H H') : zz p w H' N g :=
 ⟨G.dict.ext e, fun d hd => by
  refine hdG fun gQ gZ => ?_
  obtain ⟨⟨t, u, I⟩, vs, k, hs, hS⟩ := G.nodes d hd
  refine gZ ?_
  exact ⟨(yL t u (I.ext e)), vs, k, e _ _ hs, hS⟩, G.inj, G.dxN⟩
theorem zz.at {H' : HF} {x : Addr} (G : zz p w H N g) (e : ∀ b, b ≠ x → H' b = H b) (hN : x ≠ N) (ha : ∀ d ∈ g, x ≠ d.a ∧ x ≠ d.dx ∧ x ≠ d.sc) : zz p w H' N g :=
 ⟨G.dict.eq (e _ (Ne.symm hN)), fun d hd => by
  refine hdG fun gQ gZ => ?_
  obtain ⟨⟨t, u, I⟩, vs, k, hs, hS⟩ := G.nodes d hd
  refine zw (ha d hd) fun n1 n2 n3 => ?_
  refine gZ ?_
  exact ⟨(yL t u ⟨ (e _ (Ne.symm n1)).trans I.obj, (e _ (Ne.symm n2)).trans I.dict⟩), vs, k, (e _ (Ne.symm n3)).trans hs, hS⟩, G.inj, G.dxN⟩
theorem zz.ne_of (G : zz p w H N g) {x : Addr} {o : Obj} (hx : H x = some o) (h1 : o.cls ≠ .type "dict") (h2 : o.cls ≠ .ref cNI) (h3 : ∀ d ∈ g, x ≠ d.sc) : x ≠ N ∧ ∀ d ∈ g, x ≠ d.a ∧ x ≠ d.dx ∧ x ≠ d.sc := by
 refine ⟨G.dict.ne hx h1, fun d hd => ?_⟩
 refine hdG fun gQ gZ => ?_
 obtain ⟨⟨t, u, I⟩, vs, k, hs, hS⟩ := G.nodes d hd
 refine gZ ?_
 exact (zl (zi hx I.obj (fun z => h2 (by rw [z]))) (zi hx I.dict (fun z => h1 (by rw [z]))) (h3 d hd))
theorem zz.setNp (G : zz p w H N g) {d : Nd} (hd : d ∈ g) {v : Int} {t u : Tok} : zz p w (put H d.a ⟨.ref cNI, some d.dx, .plain, [some (.str d.n.name t), some (.int v u), some (.ref d.sc)].toArray⟩) N (vE g d.n.name fun n => { n with np := v }) := by
 refine hdG fun gQ gZ => ?_
 obtain ⟨⟨t₀, u₀, I₀⟩, vs₀, k₀, hs₀, hS₀⟩ := G.nodes d hd
 refine gZ ?_
 refine ⟨?_, fun e he => ?_, (by rw [XN]; exact G.inj), fun e he => Ym G.dxN e he⟩
 · rw [Yl _ _ (fun n => { n with np := v }) fun _ => rfl]
   exact G.dict.eq (za (Ne.symm (G.dict.ne I₀.obj (by intro z; cases z))))
 · refine hdG fun gQ gZ => ?_
   refine zc (List.mem_map.mp he) fun c hc hq2 => ?_
   obtain rfl := hq2
   obtain ⟨⟨t', u', I⟩, vs, k, hs, hS⟩ := G.nodes c hc
   refine gZ ?_
   have nd : c.dx ≠ d.a := zi I.dict I₀.obj (by intro z; cases z)
   have ns : c.sc ≠ d.a := zi hs I₀.obj (by intro z; cases z)
   by_cases q : c.n.name = d.n.name
   · obtain rfl := G.same hc hd q
     rw [if_pos rfl]
     exact ⟨(yL t u ⟨ zb, (za nd).trans I.dict⟩), vs, k, (za ns).trans hs, hS⟩
   · rw [if_neg q]
     have na : c.a ≠ d.a := zi I.obj I₀.obj fun z => q (by
      have := congrArg Obj.slots z
      simp [Ju] at this
      exact this.1.1)
     exact ⟨(yL t' u' ⟨ (za na).trans I.obj, (za nd).trans I.dict⟩), vs, k, (za ns).trans hs, hS⟩
theorem zz.addSucc (G : zz p w H N g) {d : Nd} (hd : d ∈ g) {vs : List Value} {k : Nat} {x : Str} {t : Tok} (hl : StrsAre vs d.n.ss) : zz p w (put H d.sc (ze (vs ++ [.str x t]) k)) N (vE g d.n.name fun n => { n with ss := n.ss ++ [x] }) := by
 refine hdG fun gQ gZ => ?_
 obtain ⟨⟨t₀, u₀, I₀⟩, vs₀, k₀, hs₀, hS₀⟩ := G.nodes d hd
 refine gZ ?_
 refine ⟨?_, fun e he => ?_, (by rw [XN]; exact G.inj), fun e he => Ym G.dxN e he⟩
 · rw [Yl _ _ (fun n => { n with ss := n.ss ++ [x] }) fun _ => rfl]
   exact G.dict.eq (za (Ne.symm (G.dict.ne hs₀ (by simp))))
 · refine hdG fun gQ gZ => ?_
   refine zc (List.mem_map.mp he) fun c hc hq2 => ?_
   obtain rfl := hq2
   obtain ⟨⟨t', u', I⟩, vs', k', hs, hS⟩ := G.nodes c hc
   refine gZ ?_
   have na : c.a ≠ d.sc := zi I.obj hs₀ (by intro z; cases z)
   have nd : c.dx ≠ d.sc := zi I.dict hs₀ (by simp)
   by_cases q : c.n.name = d.n.name
   · obtain rfl := G.same hc hd q
     rw [if_pos rfl]
     refine ⟨(yL t' u' ⟨ (za na).trans I.obj, (za nd).trans I.dict⟩), _, k, zb, ?_⟩
     exact yk hl
   · rw [if_neg q]
     have ns : c.sc ≠ d.sc := fun z => q (by rw [G.sameSc hc hd z])
     exact ⟨(yL t' u' ⟨ (za na).trans I.obj, (za nd).trans I.dict⟩), vs', k', (za ns).trans hs, hS⟩
end
abbrev Jq : Option (Addr × List Str) → Value
 | none => .none
 | some (R, _) => .ref R
structure zs (p : Program) (w : World) (H : HF) (S dS N : Addr) (g : List Nd) (rdy : Option (Addr × List Str)) (np nf : Int) : Prop where
 inst : ∃ f, kS H S dS cTS f 4 ∧ f "_node2info" = some (.ref N) ∧ (∃ t, f "_npassedout" = some (.int np t)) ∧ (∃ t, f "_nfinished" = some (.int nf t)) ∧
  f "_ready_nodes" = some (Jq rdy) ∧ ∀ x : Str, x ≠ "_node2info" → x ≠ "_npassedout" → x ≠ "_nfinished" → x ≠ "_ready_nodes" → f x = none
 graph : zz p w H N g
 apart : dS ≠ N ∧ ∀ d ∈ g, dS ≠ d.dx
 ready : ∀ R rs, rdy = some (R, rs) → (∃ vs k, H R = some (ze vs k) ∧ StrsAre vs rs) ∧ ∀ d ∈ g, R ≠ d.sc
theorem xb : ∀ {vs : List Value} {ss : List Str}, StrsAre vs ss → ∀ {k : Nat} {v : Value}, vs[k]? = some v → ∃ p t, v = .str p t ∧ ss[k]? = some p
 | _, _, .nil, k, v, h => by simp at h
 | _, _, .cons y t' r, 0, v, h => (zO y t' (by simpa using h.symm) rfl)
 | _, _, .cons y t' r, k + 1, v, h => by
  refine zI (xb r (k := k) (v := v) (by simpa using h)) fun p t e1 e2 => ?_
  exact (zO p t e1 (by simpa using e2))
theorem zs.upd {H H' : HF} {p : Program} {w : World} {S dS N : Addr} {g : List Nd} {rdy : Option (Addr × List Str)} {np nf : Int} {a : Addr} {oa : Obj} {x : Str} {f : PN → PN} (SA : zs p w H S dS N g rdy np nf)
 (ho : H a = some oa) (h1 : oa.cls ≠ .type "dict") (h2 : oa.cls ≠ .ref cTS) (e : ∀ b, b ≠ a → H' b = H b) (G' : zz p w H' N (vE g x f)) (hR : ∀ R rs, rdy = some (R, rs) → R ≠ a) : zs p w H' S dS N (vE g x f) rdy np nf := by
 refine hdG fun gQ gZ => ?_
 obtain ⟨⟨f', I, r⟩, G, ap, rd⟩ := SA
 refine zc I.dict fun od hod hA => ?_
 refine zI hA.of fun es kk hq2 hA' => ?_
 refine gZ ?_
 obtain rfl := hq2
 have n1 : S ≠ a := zi I.obj ho fun z => h2 (by rw [← z])
 have n2 : dS ≠ a := zi hod ho fun z => h1 (by rw [← z])
 refine ⟨(zd f' ⟨(e _ n1).trans I.obj, (zd _ ((e _ n2).trans hod) hA), fun _ _ => trivial⟩ r), G', ⟨ap.1, fun d hd => ?_⟩, fun R rs h => ?_⟩
 · refine zc (List.mem_map.mp hd) fun c hc hq2 => ?_
   obtain rfl := hq2
   split
   · exact ap.2 c hc
   · exact ap.2 c hc
 · refine hdG fun gQ gZ => ?_
   obtain ⟨⟨vs, k, hr, hS⟩, hd⟩ := rd R rs h
   refine gZ ?_
   refine ⟨(zO vs k ((e _ (hR R rs h)).trans hr) hS), fun d hd' => ?_⟩
   refine zc (List.mem_map.mp hd') fun c hc hq2 => ?_
   obtain rfl := hq2
   split
   · exact hd c hc
   · exact hd c hc
noncomputable def getP (G : List PN) (x : Str) : Option PN := G.find? fun n => n.name = x
noncomputable def xc (G : List PN) (x : Str) : Int := (getP G x).elim 0 PN.np
noncomputable def wr (G : List PN) (x : Str) : List Str := (getP G x).elim [] PN.ss
theorem zz.getP {p : Program} {w : World} {H : HF} {N : Addr} {g : List Nd} (G : zz p w H N g) {d : Nd} (hd : d ∈ g) : getP (g.map (·.n)) d.n.name = some d.n := by
 have n := G.names
 clear G
 unfold Internal.getP
 induction g with
 | nil => cases hd
 | cons c r ih =>
  rw [List.map_cons, List.nodup_cons] at n
  rw [List.map_cons, List.find?_cons]
  rcases List.mem_cons.mp hd with rfl | q
  · simp
  · have : c.n.name ≠ d.n.name := fun z => n.1 (z ▸ List.mem_map.mpr (zd d q rfl))
    rw [decide_eq_false this]
    exact ih q n.2
theorem zs.app {H : HF} {p : Program} {w : World} {S dS N R : Addr} {g : List Nd} {rs rs' : List Str} {np nf : Int} {vs' : List Value} {k' : Nat} (SA : zs p w H S dS N g (some (R, rs)) np nf) (hS' : StrsAre vs' rs') :
 zs p w (put H R (ze vs' k')) S dS N g (some (R, rs')) np nf := by
 refine hdG fun gQ gZ => ?_
 obtain ⟨⟨f', I, r⟩, G, ap, rd⟩ := SA
 obtain ⟨⟨vs, k, hr, hS⟩, hd⟩ := rd R rs rfl
 refine zc I.dict fun od hod hA => ?_
 refine zI hA.of fun es kk hq2 hA' => ?_
 obtain rfl := hq2
 have n1 : S ≠ R := zi I.obj hr fun z => by have := congrArg Obj.cls z; simp at this
 have n2 : dS ≠ R := zi hod hr fun z => by have := congrArg Obj.cls z; simp at this
 obtain ⟨a1, a2⟩ := G.ne_of hr (by simp) (by simp) hd
 refine gZ ?_
 refine ⟨(zd f' ⟨(za n1).trans I.obj, (zd _ ((za n2).trans hod) hA), fun _ _ => trivial⟩ r), G.at (fun b n => za n) a1 a2, ap, fun R' rs'' h => ?_⟩
 cases h
 exact ⟨(zO vs' k' zb hS'), hd⟩
theorem zs.re {H H' : HF} {p : Program} {w : World} {S dS N : Addr} {g : List Nd} {rdy : Option (Addr × List Str)} {np nf np' nf' : Int} {f' : Mp} (SA : zs p w H S dS N g rdy np nf) (I' : kS H' S dS cTS f' 4) (e : ∀ b, b ≠ dS → H' b = H b)
 (f1 : f' "_node2info" = some (.ref N)) (f2 : ∃ t, f' "_npassedout" = some (.int np' t)) (f3 : ∃ t, f' "_nfinished" = some (.int nf' t)) (f4 : f' "_ready_nodes" = some (Jq rdy))
 (f5 : ∀ x : Str, x ≠ "_node2info" → x ≠ "_npassedout" → x ≠ "_nfinished" → x ≠ "_ready_nodes" → f' x = none) : zs p w H' S dS N g rdy np' nf' := by
 refine hdG fun gQ gZ => ?_
 obtain ⟨⟨f, I, r⟩, G, ap, rd⟩ := SA
 refine zc I.dict fun od hod hA => ?_
 refine zI hA.of fun es kk hq2 hA' => ?_
 refine gZ ?_
 obtain rfl := hq2
 refine ⟨(jZ f' I' f1 f2 f3 f4 f5), G.at e ap.1 fun d hd => ?_, ap, fun R rs h => ?_⟩
 · refine hdG fun gQ gZ => ?_
   obtain ⟨⟨t, u, Id⟩, vs, k, hs, hS⟩ := G.nodes d hd
   refine gZ ?_
   exact (zl (zi hod Id.obj (by intro z; cases z)) (ap.2 d hd) (zi hod hs fun z => by have := congrArg Obj.cls z; simp at this))
 · refine hdG fun gQ gZ => ?_
   obtain ⟨⟨vs, k, hr, hS⟩, hd⟩ := rd R rs h
   refine gZ ?_
   have : R ≠ dS := zi hr hod fun z => by have := congrArg Obj.cls z; simp at this
   exact ⟨(zO vs k ((e _ this).trans hr) hS), hd⟩
noncomputable def patch (H₀ H₁ : HF) (a : Addr) : HF := fun b => if b = a then H₁ b else H₀ b
theorem qJ {H₀ H₁ : HF} {a : Addr} : patch H₀ H₁ a a = H₁ a := by simp [patch]
theorem qm {H₀ H₁ : HF} {a b : Addr} (h : b ≠ a) : patch H₀ H₁ a b = H₀ b := by simp [patch, h]
theorem Ke {H₀ H₁ H : HF} {a : Addr} (e : Ext H₀ H) (k : ∀ b, b ≠ a → H₁ b = H b) : Ext (patch H₀ H₁ a) H₁ := fun b o h => by
 by_cases q : b = a
 · subst q; rwa [qJ] at h
 · rw [qm q] at h; rw [k b q]; exact e b o h
theorem kS.patch {H₀ H₁ : HF} {x dx Cl : Addr} {f f₀ : Mp} {n n₀ : Nat} (I : kS H₁ x dx Cl f n) (I₀ : kS H₀ x dx Cl f₀ n₀) : kS (patch H₀ H₁ dx) x dx Cl f n := by
 refine hdG fun gQ gZ => ?_
 refine zc I₀.dict fun o ho hA => ?_
 refine zI hA.of fun es k hq2 _ => ?_
 obtain rfl := hq2
 have n : x ≠ dx := zi I₀.obj ho (by intro z; cases z)
 refine zc I.dict fun o' ho' hA' => ?_
 refine gZ ?_
 exact ⟨(qm n).trans I₀.obj, (zd o' (qJ.trans ho') hA'), fun _ _ => trivial⟩
theorem Yu {H₀ H : HF} {a : Addr} {o : Obj} (e : Ext H₀ H) : Ext (put H₀ a o) (put H a o) := fun b ob h => by
 by_cases z : b = a
 · subst z; rw [zb] at h ⊢; exact h
 · rw [za z] at h; exact (za z).trans (e b ob h)
theorem Kg {H₀ H₁ : HF} {a : Addr} {o o' : Obj} (h : H₀ a = some o) (h' : H₁ a = some o') (b : Addr) : H₀ b ≠ none ↔ Internal.patch H₀ H₁ a b ≠ none := by
 by_cases z : b = a
 · subst z; rw [qJ, h, h']; simp
 · rw [qm z]
section
variable {C : Cx} {A : Around} {L : Addr} {E : PV} {m : Mp} {H : HF} {env : Env}
theorem fB {e : Expr} {pos : Pos} {Q : PV} (h : W C A L (eval e env) Q E m H) : W C A L (eval (.BoolOp .Or [e] pos) env) Q E m H := h
@[reducible] def orV (C : Cx) (A : Around) (L : Addr) (env : Env) (rest : List Expr) (pos : Pos) (Q : PV) (E : PV) (v : Value) (c : Bool) (m : Mp) (H : HF) : Prop :=
 match c with
 | true => Q v m H
 | false => W C A L (eval (.BoolOp .Or rest pos) env) Q E m H
theorem iK {e₁ e₂ : Expr} {rest : List Expr} {pos : Pos} {Q : PV} (h : W C A L (eval e₁ env) (fun v m H => W C A L (truthy v) (orV C A L env (e₂ :: rest) pos Q E v) E m H) E m H) :
 W C A L (eval (.BoolOp .Or (e₁ :: e₂ :: rest) pos) env) Q E m H := fun s S g =>
 BoolOp_or (h.useQ S g rfl fun v m₁ H₁ s₁ S₁ g₁ e₁ z => z.useQ S₁ g₁ e₁ fun c m₂ H₂ s₂ S₂ g₂ e₂ z => by
  cases c with
  | false => exact W.go z S₂ g₂ e₂
  | true => exact ⟨m₂, H₂, S₂, g₂, e₂, z⟩)
theorem Wr {rest : List Expr} {pos : Pos} {Q : PV} {v : Value} {c : Bool} (h1 : c = true → Q v m H) (h2 : c = false → W C A L (eval (.BoolOp .Or rest pos) env) Q E m H) : orV C A L env rest pos Q E v c m H := by
 cases c with
 | true => exact h1 rfl
 | false => exact h2 rfl
theorem jU (a : Addr) (its : List Value) (hz : its.length ≤ sizeLine) : Meets (Builtin.«bool.__new__» ⟨[.type "bool", .ref a], []⟩) (fun _ R s' => s'.heap.IsList a its.toArray ∧ R (.ok (.ret (.bool (!its.toArray.isEmpty)))) { s' with toks := s'.toks + 1 + 1 }) :=
 Meets.of_wp fun prog w A R s hs => by
  refine hdG fun gQ gZ => ?_
  obtain ⟨hp, g, d, tk, os⟩ := s
  obtain ⟨hl, hs⟩ := hs
  refine gZ ?_
  have f1 := F.conv_sub_bool
  have hfit : (its.toArray.size : Int) < 2 ^ 63 := by rw [sizeLine_eq] at hz; simp; omega
  repeat (any_goals (first | assumption | (with_reducible refine wpAny_truthy_list hl hfit ?_) | wp_step))
  all_goals first | exact ⟨_, rfl, hs⟩ | exact hs | skip
theorem Xz {a : Addr} {its : List Value} {k : Nat} {Q : PV} (e : H a = some (ze its k)) (hz : its.length ≤ sizeLine) (h : Q (.bool (!its.isEmpty)) m H) : W C A L (call (.type "bool") [.ref a]) Q E m H := fun s S g => by
 refine call_bool_1 (jU a its hz) ⟨⟨_, S.at_ _ _ e, rfl, _, rfl⟩, ?_⟩
 have e2 : (!its.toArray.isEmpty) = (!its.isEmpty) := by simp
 rw [e2]
 exact ⟨rfl, m, H, S, g, rfl, h⟩
theorem yC {e : Expr} {pos : Pos} {Q : PF} (h : W C A env.locals (eval e env) (fun _ m H => Q .next m H) E m H) (hi : interactive env = false) (hs : swapsWith e none pos.line env = pure false) : W C A env.locals (exec (.Expr e pos) env) Q E m H := fun s S g => by
 rw [exec_Expr env e pos hi hs]
 exact wpAny_bind (wpAny_standAt (wpAny_bind (h.useQ S g rfl fun v m' H' s' S' g' eo q => wpAny_dropValue ⟨m', H', S', g', eo, q⟩)))
theorem Qb {func : Expr} {pos : Pos} {Q : PV} (h : W C A L (eval func env) (fun v m H => ∃ q id self, v = .ref q ∧ H q = some (mwO id self) ∧ W C A L (call (.ref q) []) Q E m H) E m H)
 (he : eval (.Call func [] [] pos) env = (eval func env >>= fun f => callWith pos f [] (backTo pos (starEach [] env)) (backToKw pos (keywordEach [] env)))) : W C A L (eval (.Call func [] [] pos) env) Q E m H := fun s S g => by
 rw [he]
 refine wpAny_bind (h.useQ S g rfl fun v m' H' s' S' g' eo z => ?_)
 refine hdG fun gQ gZ => ?_
 obtain ⟨q, id, self, rfl, ho, z⟩ := z
 refine gZ ?_
 show wpAny _ _ (callWith pos _ [] (backTo pos (starEach [] env)) []) _ _ _
 exact callWith_of (P := fun h => h.get? q = some (mwO id self)) rfl (fun h ho => ⟨.machine, .inr (.inl rfl), (Looks.ld (part := none) ho).andThen .now⟩) (evalArgs_nil3 ⟨S'.at_ _ _ ho, z.go S' g' eo⟩)
theorem fE {x : Str} {k : Nat} {p pos : Pos} {Q : PF} (h : Q .next m H) (hi : interactive env = false) : W C A env.locals (exec (.Expr (.Constant (.str x) k p) pos) env) Q E m H :=
 fun s S g => wpAny_Expr (wpAny_Constant_str ⟨m, H, S, g, rfl, h⟩) hi rfl
theorem ZF {o value : Expr} {attr : Str} {p pos : Pos} {Q : PF}
 (h : W C A env.locals (eval value env) (fun v m H => W C A env.locals (eval o env) (fun ov m H => W C A env.locals (setAttr ov attr v) (fun _ => Q .next) E m H) E m H) E m H)
 (hs : swapsWithSole [.Attribute o attr p] value pos.line env = pure false) (hw : swappedStores [.Attribute o attr p] value env = pure none) :
 W C A env.locals (exec (.Assign [.Attribute o attr p] value pos) env) Q E m H :=
 zm (h.mono (fun v m H z => xh (Qd z)) fun _ _ _ z => z) hs hw
end
theorem zx {K : Frag} {s : Shared} {fd : FuncData} {args : Args} {binds : List (Str × Value)} (X : K.In s.heap) (e : ∀ S, peek K S (bindArgs fd args) = some binds) : BindsTo s fd args binds :=
 fun M A Q E h => fun Γ p _ => wp_of_peek X (h) _ (e _)
end
set_option hygiene false in
local macro_rules | `(tactic| walk_at "mp") => `(tactic| first | with_reducible assumption | with_reducible exact xF | ((with_reducible refine (zk ?_).trans ?_); (focus (decide +kernel)); walk_at "mp"))
set_option hygiene false in
local macro_rules | `(tactic| walk_at "w") => `(tactic| first
 | (with_reducible first
  | refine yc ?_
  | refine fs ?_
  | refine iL ?_
  | refine Jj ?_
  | refine VU (fun _ => ?_)
  | refine fo (fun _ => ?_)
  | refine bz ?_)
 | (with_reducible refine fx (by walk_at "mp") ?_ (by kernel_rfl))
 | (with_reducible first
  | refine VZ ?_
  | refine Qe ?_
  | refine Qk ?_ (by kernel_rfl)
  | refine vp ?_ (by kernel_rfl)
  | refine Yd ?_
  | refine Ye ?_
  | refine XA ?_
  | refine xM ?_
  | refine bE (fun _ => ?_)
  | refine bx (fun _ => ?_)
  | refine wM (fun _ => ?_)
  | refine bA (fun _ => ?_)
  | refine fA ?_
  | refine fw ?_
  | refine fz ?_
  | refine VV ?_
  | refine Yc ?_
  | refine ZD ?_ (by kernel_rfl)
  | refine Xu ?_ (fun _ _ => rfl)
  | refine Z8 ?_
  | refine Z7 ?_
  | refine Qi ?_ (fun _ _ => rfl)
  | refine Ji ?_ (fun _ _ => rfl))
 | (with_reducible refine qA ?_ (by kernel_rfl))
 | (with_reducible refine ZE ?_ (by kernel_rfl) (by kernel_rfl) (by kernel_rfl))
 | (with_reducible first
  | refine z7 ?_
  | refine zg ?_)
 | (with_reducible refine wh ?_ (by kernel_rfl) (by kernel_rfl))
 | (with_reducible first
  | refine bG ?_
  | refine Qg ?_
  | refine fE ?_ (by kernel_rfl)
  | refine bH ?_
  | refine ZF ?_ (by kernel_rfl) (by kernel_rfl)
  | refine xh ?_
  | refine qB ?_
  | refine Qd ?_)
 | (with_reducible refine VY ?_ (by kernel_rfl) (by kernel_rfl))
 | (with_reducible first
  | refine Kj ?_
  | refine Kk ?_)
 | (with_reducible refine XD.go (by assumption) ?_))
local macro_rules | `(tactic| walk_at "r") => `(tactic| repeat walk_at "w")
section
theorem XT (P : Params) : (K P).lookup 426 = some bQ := by kernel_rfl
theorem V1 (P : Params) : nsIn (K P) mainGlobals "_law_takes" = some (some (.ref 426)) := by kernel_rfl
theorem ju (P : Params) : nsIn (K P) mainGlobals "len" = some none := by kernel_rfl
theorem xn (P : Params) : nsIn (K P) mainGlobals "range" = some none := by kernel_rfl
theorem jv : bootBuiltins "len" = some (.builtin "len") := by decide +kernel
theorem xo : bootBuiltins "range" = some (.type "range") := by decide +kernel
theorem Y9 (P : Params) : codeIn (K P) (.ref 425) "_law_takes" = true := by kernel_rfl
section
noncomputable def yv (x : Str) : Str := Txt.slice x (some 10) (some (-6))
noncomputable def yK (y p : Str) (n : Nat) : List Int := ((List.range n).map (fun (k : Nat) => (k : Int))).filter fun k => (Txt.slice y (some k) (some (k + p.length))).cps.toList == p.cps.toList
noncomputable def takesB (x y : Str) : Bool := (Txt.slice x none (some 10)).cps.toList == (Str.ofString "(?s:(?>.*?").cps.toList && ((Txt.slice x (some (-6)) none).cps.toList == (Str.ofString ").*)\\Z").cps.toList && !(yK y (yv x) y.length).isEmpty)
theorem zA {n : Nat} (h : n ≤ 1000) : n ≤ sizeLine := by rw [sizeLine_eq]; omega
theorem XU {x y : Str} {t u : Tok} {Q : PV} (X : Bd (K C.w.params) mg mb q loose C) (hroom : A.depth < recursionLimit) (hh : A.handled = none) (hu : A.units + 100 < cLine) (hx : x.length ≤ 1000) (hy : y.length ≤ 1000)
 (h : Q (.bool (takesB x y)) m H) : W C A L (call (.ref 426) [.str x t, .str y u] []) Q E m H := by
 refine W.drop (Qf := fun v => v = .bool (takesB x y)) ?_ (fun v e => by subst e; exact h)
 refine jp (binds := [("text", .str x t), ("name", .str y u)]) (Qf := fun v H => v = .bool (takesB x y)) (fun _ => none) X (XT _) (Y9 _) hroom (by kernel_rfl) (fun L' => ?_) (fun _ _ e => by cases e) (fun B' L' Hc eB eH hc => ?_) (fun v Hf' H' hv u => (zl rfl u.ext0 hv))
  (by kernel_rfl) (by kernel_rfl) (by kernel_rfl)
 · intro z hz
   rcases List.mem_cons.mp hz with rfl | hz
   · left; kernel_rfl
   · rcases List.mem_cons.mp hz with rfl | hz
     · right; exact ⟨by kernel_rfl, by kernel_rfl⟩
     · cases hz
 · have X' := X.mono eB
   refine hdG fun gQ gZ => ?_
   refine zc (hc "name" (L' + 1) (by kernel_rfl)) fun o1 h1 d1 => ?_
   refine zc (hc "piece" (L' + 1 + 1) (by kernel_rfl)) fun o2 h2 d2 => ?_
   refine gZ ?_
   have d1 : o1.data = .cell (some (.str y u)) := d1.trans (by kernel_rfl)
   refine yc (jr (c := L' + 1 + 1) (by kernel_rfl) ?_ (by kernel_rfl) (by kernel_rfl) (by kernel_rfl))
   have m1 : (bindL (envOfC "_law_takes" (fdS (yq 23)) L' 426 (.ref 425)).kindOf [("text", .str x t), ("name", .str y u)] fun _ => none) "text" = some (.str x t) := by kernel_rfl
   generalize (bindL (envOfC "_law_takes" (fdS (yq 23)) L' 426 (.ref 425)).kindOf [("text", .str x t), ("name", .str y u)] fun _ => none) = m0 at m1 ⊢
   walk_at "r"
   refine (zE _ _ _ _ rfl zS.i zS.i (zA hx) (fun _ => ?_))
   refine (yT _ _ h2 d2 (fun o2' e2' => ?_))
   refine yc (je (cl := [("piece", L' + 1 + 1), ("name", L' + 1)]) hh ?_ (by kernel_rfl) (by kernel_rfl) (by kernel_rfl) (by decide +kernel) (by kernel_rfl) (by decide +kernel) (by kernel_rfl) (fun _ => rfl) (by kernel_rfl))
   with_reducible refine zN X' (xn _) xo ?_
   walk_at "r"
   with_reducible refine zh X' (ju _) jv ?_
   walk_at "r"
   have h1' : put Hc (L' + 1 + 1) o2' (L' + 1) = some o1 := (za (Nat.ne_of_lt (Nat.lt_succ_self _))).trans h1
   with_reducible refine wg (c := L' + 1) (by kernel_rfl) h1' d1 ?_
   walk_at "r"
   with_reducible refine yx (zA hy) (fun _ => ?_)
   walk_at "r"
   with_reducible refine jB (fun r _ _ _ hr hrL => ?_)
   have hr1 : r ≠ L' + 1 := fun e => by rw [e, h1'] at hr; cases hr
   have hr2 : r ≠ L' + 1 + 1 := fun e => by rw [e, zb] at hr; cases hr
   generalize hHr : put (put Hc (L' + 1 + 1) o2') r _ = Hr
   have g1 : Hr (L' + 1) = some o1 := by rw [← hHr, za (Ne.symm hr1)]; exact h1'
   have g2 : Hr (L' + 1 + 1) = some o2' := by rw [← hHr, za (Ne.symm hr2)]; exact zb
   have g3 := (congrFun hHr r).symm.trans zb
   refine ⟨y.length, _, [], fun k ys H' => H' = Hr ∧ xT H' ys ((yK y (yv x) k).map .int), zA hy, zM g3 (sm0 (by exact (an 0x1522f89402a052a1784a0 [_]) hy)) sz0, ⟨rfl, xT.nil⟩, (by simp), ?_, ?_⟩
   · intro B'' Lc k ys v mc H1 eB' hk hys hP hmc hI
     obtain ⟨tk, rfl⟩ := hP
     obtain ⟨rfl, hys'⟩ := hI
     have X'' := X'.mono eB'
     have hkk : (0 + (k : Int) * 1) = k := by exact (an 0x90740042c1121d009 [_])
     rw [hkk] at hmc
     with_reducible refine qe ?_
     walk_at "r"
     with_reducible refine wg (c := L' + 1) (by kernel_rfl) g1 d1 ?_
     walk_at "r"
     with_reducible refine zh X'' (ju _) jv ?_
     walk_at "r"
     with_reducible refine wg (c := L' + 1 + 1) (by kernel_rfl) g2 e2' ?_
     walk_at "r"
     with_reducible refine yx (zA (Nat.le_trans (Txt.slice_le _ _ _) hx)) (fun _ => ?_)
     walk_at "r"
     refine (zE _ _ _ _ rfl zS.i zS.i (zA hy) (fun _ => ?_))
     with_reducible refine wg (c := L' + 1 + 1) (by kernel_rfl) g2 e2' ?_
     walk_at "r"
     have hstep : yK y (yv x) (k + 1) = yK y (yv x) k ++ (if (Txt.slice y (some (k : Int)) (some (k + (yv x).length))).cps.toList == (yv x).cps.toList then [(k : Int)] else []) := by
      unfold yK
      rw [List.range_succ, List.map_append, List.filter_append]
      simp [List.filter_cons]
     split
     · rename_i hc
       have hc : ((Txt.slice y (some (k : Int)) (some (k + (yv x).length))).cps.toList == (yv x).cps.toList) = true := hc
       walk_at "r"
       refine ⟨rfl, ?_⟩
       rw [hstep, if_pos hc, List.map_append]
       exact hys'.append (.cons .int .nil)
     · rename_i hc
       have hc : ((Txt.slice y (some (k : Int)) (some (k + (yv x).length))).cps.toList == (yv x).cps.toList) = false := hc
       refine ⟨rfl, ?_⟩
       rw [hstep, hc, if_neg (by decide), List.append_nil]
       exact hys'
   · intro ys H1 hI a kk ha haL
     obtain ⟨rfl, hys'⟩ := hI
     walk_at "r"
     with_reducible refine Jk ?_
     walk_at "r"
     refine (zE _ _ _ _ rfl zS.n zS.i (zA hx) (fun _ => ?_))
     walk_at "r"
     refine K0 (fun hc1 => ?_) (fun hc1 => ?_)
     · walk_at "r"
       with_reducible refine Jk ?_
       walk_at "r"
       refine (zE _ _ _ _ rfl zS.i zS.n (zA hx) (fun _ => ?_))
       walk_at "r"
       refine K0 (fun hc2 => ?_) (fun hc2 => ?_)
       · walk_at "r"
         with_reducible refine JF ?_
         walk_at "r"
         with_reducible refine zK (by decide +kernel) (fun e he heL => ?_)
         have hea : a ≠ e := fun q => by rw [← q, zb] at he; cases he
         have ra : Rd (put (put H1 a (ze ys kk)) e (ze [] 0)) (.ref a) (.list ((yK y (yv x) y.length).map .int)) := .list ((za hea).trans zb) ((hys'.ext (Ext.put_new ha)).ext (Ext.put_new he))
         have rb : Rd (put (put H1 a (ze ys kk)) e (ze [] 0)) (.ref e) (.list []) := .list zb .nil
         refine K4 ra rb (shaped_ints _) (by decide +kernel) ?_ ?_ ?_
         · cases (yK y (yv x) y.length) <;> rfl
         · show A.units + 3 + 64 < cLine
           exact (an 0xb420624312805a10302109030c4a0 [_,_]) hu
         · show Value.bool _ = Value.bool (takesB x y)
           unfold takesB
           rw [hc1, hc2]
           cases (yK y (yv x) y.length) <;> rfl
       · show Value.bool _ = Value.bool (takesB x y)
         unfold takesB
         rw [hc1, hc2]
         rfl
     · show Value.bool _ = Value.bool (takesB x y)
       unfold takesB
       rw [hc1]
       rfl
end
end
section
noncomputable abbrev iG (Lz : Addr) : Env := envOf "escape" (fdS (yq 12)) Lz 287 (.ref 286)
theorem Xo (P : Params) : (K P).lookup 287 = some b0 := by kernel_rfl
theorem ZY (P : Params) : codeIn (K P) (.ref 286) "escape" = true := by kernel_rfl
theorem QK (P : Params) : nsIn (K P) mainGlobals "escape" = some (some (.ref 287)) := by kernel_rfl
theorem eD (P : Params) : nsIn (K P) mainGlobals "_special_chars_map" = some (some (.ref 277)) := by kernel_rfl
theorem Zd (P : Params) : nsIn (K P) mainGlobals "isinstance" = some none := by kernel_rfl
theorem eC (P : Params) : nsIn (K P) mainGlobals "str" = some none := by kernel_rfl
theorem Zu : bootBuiltins "isinstance" = some (.builtin "isinstance") := by decide +kernel
theorem fh : bootBuiltins "str" = some (.type "str") := by decide +kernel
noncomputable def cK : Data → Array DictEntry
 | .dict es _ => es
 | _ => #[]
theorem QN : Kx (cK Js.data).toList = true := by kernel_rfl
noncomputable def kP (c : Nat) : Bool := 97 ≤ c && c ≤ 122
theorem QM : (List.range 26).all (fun i => (findBy Value.isInt (cK Js.data) ((97 + i : Nat) : Int)).isNone) = true := by kernel_rfl
theorem Xh {c : Nat} (h : kP c = true) : findBy Value.isInt (cK Js.data) (c : Int) = none := by
 unfold kP at h
 simp only [Bool.and_eq_true, decide_eq_true_eq] at h
 have := List.all_eq_true.mp QM (c - 97) (List.mem_range.mpr (by exact (an 0x5c55a862500a41061891768482830c4a0 [_]) h))
 rw [show 97 + (c - 97) = c by exact (an 0xb8ab50c4a014820c3123100105061894106189 [_]) h] at this
 exact Option.isNone_iff_eq_none.mp this
section
theorem VT {x : Str} {t : Tok} {Q : PV} (h : Q (.bool true) m H) : W C A L (call (.builtin "isinstance") [.str x t, .type "str"]) Q E m H := fun s S g =>
 call_isinstance (isinstance_true (Tx := "str") PySem.F.isi_meta_str PySem.F.sub_str_str) ⟨rfl, ⟨m, H, S, g, rfl, h⟩⟩
theorem QZ {c : Nat} {t : Tok} {Q : PV} (X : Bd (K C.w.params) mg mb q loose C) (hroom : A.depth < recursionLimit) (hh : A.handled = none) (hc : kP c = true)
 (h : ∀ t, Q (.str ⟨#[c]⟩ t) m H) : W C A L (call (.ref 287) [.str ⟨#[c]⟩ t] []) Q E m H := by
 refine W.drop (Qf := fun v => ∃ t, v = .str ⟨#[c]⟩ t) ?_ (fun v e => by obtain ⟨t, rfl⟩ := e; exact h t)
 refine zF (binds := [("pattern", .str ⟨#[c]⟩ t)]) (Qf := fun v H => ∃ t, v = .str ⟨#[c]⟩ t) (fun _ => none) X (Xo _) (ZY _) hroom (fun s _ => .of_eq (by kernel_rfl)) ?_ (fun _ _ e => by cases e) (fun B' L' eB => ?_) (fun v Hf' H' hv u => (zl rfl u.ext0 hv))
  (by kernel_rfl) (by kernel_rfl) (by kernel_rfl) ?_
 · intro y hy; rcases List.mem_cons.mp hy with rfl | hy
   · kernel_rfl
   · cases hy
 · have X' := X.mono eB
   have m1 : (bl [("pattern", .str ⟨#[c]⟩ t)]) "pattern" = some (.str ⟨#[c]⟩ t) := by kernel_rfl
   generalize (bl [("pattern", .str ⟨#[c]⟩ t)]) = m0 at m1 ⊢
   refine yc (env := iG L') ?_
   walk_at "r"
   with_reducible refine zh X' (Zd _) Zu ?_
   walk_at "r"
   with_reducible refine vq X' (eC _) fh ?_
   walk_at "r"
   with_reducible refine VT ?_
   walk_at "r"
   with_reducible refine zC ?_
   walk_at "r"
   refine (zy ("str") ("str.translate") PySem.F.plainAttrs_str PySem.F.slot_str_translate PySem.F.type_str_translate (.str) ?_)
   walk_at "r"
   with_reducible refine jd X' (eD _) ?_
   walk_at "r"
   refine Zw hh ?_ (by decide +kernel) (fun h k => Xi (es := cK Js.data) (n := 24) (X'.K h k) (by kernel_rfl) QN) (Xh hc) (fun t => ?_)
   · unfold kP at hc
     simp only [Bool.and_eq_true, decide_eq_true_eq] at hc
     have h9 : c < 128 := by exact (an 0x2e2ad431280520830c48b81104a0 [_]) hc
     simp [h9]
   · exact ⟨t, rfl⟩
 · have e : (fdS (yq 12)).names.all (fun x => x.2 != .cell) = true := by kernel_rfl
   intro x hx; have := List.all_eq_true.mp e x hx; exact bne_iff_ne.mp this
end
end
section
noncomputable abbrev e8 (Lz : Addr) : Env := envOf "_translate" (fdS (yq 14)) Lz 294 (.ref 293)
theorem wj (P : Params) : (K P).lookup 275 = some V4 := by kernel_rfl
theorem Wd (P : Params) : (K P).lookup 294 = some bZ := by kernel_rfl
theorem JK (P : Params) : codeIn (K P) (.ref 293) "_translate" = true := by kernel_rfl
theorem ij (P : Params) : nsIn (K P) mainGlobals "_translate" = some (some (.ref 294)) := by kernel_rfl
noncomputable def yj (res : List (Option Nat)) (c : Nat) : List (Option Nat) :=
 if c = 42 then (if res.getLast? = some none then res else res ++ [none]) else if c = 63 then res ++ [some 46] else res ++ [some c]
noncomputable def y8 (pat : List Nat) : List (Option Nat) := pat.foldl yj []
noncomputable def jR (c : Nat) : Bool := c == 42 || c == 63 || kP c
noncomputable def Y0 (S : Addr) : Value → Option Nat → Prop
 | v, none => v = .ref S
 | v, some c => ∃ t, v = .str ⟨#[c]⟩ t
inductive kt (S : Addr) : List Value → List (Option Nat) → Prop
 | nil : kt S [] []
 | cons {v i vs is} : Y0 S v i → kt S vs is → kt S (v :: vs) (i :: is)
theorem kt.snoc {S : Addr} {vs : List Value} {is : List (Option Nat)} {v : Value} {i : Option Nat} (h : kt S vs is) (g : Y0 S v i) : kt S (vs ++ [v]) (is ++ [i]) := by
 induction h with
 | nil => exact .cons g .nil
 | cons a _ ih => exact .cons a ih
theorem kt.length {S : Addr} {vs : List Value} {is : List (Option Nat)} (h : kt S vs is) : vs.length = is.length := by
 induction h with
 | nil => rfl
 | cons _ _ ih => simp [ih]
theorem kt.get {S : Addr} {vs : List Value} {is : List (Option Nat)} (h : kt S vs is) : ∀ (k : Nat) (v : Value), vs[k]? = some v → ∃ i, is[k]? = some i ∧ Y0 S v i := by
 induction h with
 | nil => intro k v e; simp at e
 | cons a _ ih =>
  intro k v e
  cases k with
  | zero => simp at e; subst e; exact (zd _ rfl a)
  | succ k => exact ih k v (by simpa using e)
theorem Y7 {pat : List Nat} {i c : Nat} (h : pat[i]? = some c) : y8 (pat.take (i + 1)) = yj (y8 (pat.take i)) c := by
 unfold y8
 rw [List.take_add_one, h]
 simp
theorem yh {l : List Nat} {i c : Nat} (h : l[i]? = some c) : Txt.charAt (S' l) (i : Int) = some c := by
 obtain ⟨hi, e⟩ := List.getElem?_eq_some_iff.mp h
 have h0 : ¬ ((i : Int) < 0) := by exact (an 0x168501622243a0 [_,_]) hi
 unfold Txt.charAt seqIndex?
 simp [Str.length, h0, hi, e]
theorem xQ {l : List Nat} {i c : Nat} (h : l[i]? = some c) : Txt.item (S' l) (i : Int) = ⟨#[c]⟩ := by
 unfold Txt.item; rw [yh h]; rfl
theorem zU {i : Nat} (h : i ≤ 1000) : fitsSsize (i : Int) = true := by
 unfold fitsSsize; simp; omega
theorem jK {c d : Nat} {x : Str} {b : Bool} (hx : x.cps.toList = [d]) (h : ((⟨#[c]⟩ : Str).cps.toList == x.cps.toList) = b) : (c == d) = b := by
 rw [← h, hx]; simp
theorem Yp : (Str.ofString "*").cps.toList = [42] := by decide +kernel
theorem w5 : (Str.ofString "?").cps.toList = [63] := by decide +kernel
theorem KV : (Str.ofString "[").cps.toList = [91] := by decide +kernel
theorem kt.last {S : Addr} {vs : List Value} {is : List (Option Nat)} (h : kt S vs is) (ne : vs.isEmpty = false) : ∃ v i, vs[vs.length - 1]? = some v ∧ is.getLast? = some i ∧ Y0 S v i := by
 have hl : 0 < vs.length := by cases vs with | nil => cases ne | cons _ _ => simp
 have e : vs[vs.length - 1]? = some vs[vs.length - 1] := List.getElem?_eq_getElem (by exact (an 0xb40245a005044a0 [_]) hl)
 refine zc (h.get _ _ e) fun i e1 e2 => ?_
 exact (yT _ i e (by rw [List.getLast?_eq_getElem?, ← h.length]; exact e1) e2)
structure TrI (pat : List Nat) (S : Addr) (t u : Tok) (r b : Addr) (m : Mp) (H : HF) (i : Nat) : Prop where
 f1 : m "pat" = some (.str (S' pat) t)
 f2 : m "STAR" = some (.ref S)
 f3 : m "QUESTION_MARK" = some (.str ⟨#[46]⟩ u)
 f4 : m "res" = some (.ref r)
 f5 : m "add" = some (.ref b)
 f6 : ∃ t1, m "i" = some (.int i t1)
 f7 : ∃ t2, m "n" = some (.int pat.length t2)
 g2 : H b = some (bmO "list.append" (.ref r))
 it : ∃ vs k, H r = some (ze vs k) ∧ kt S vs (y8 (pat.take i)) ∧ vs.length ≤ i
section
theorem xg {a b : Value} {Q : PV} (hp : plainIs a b = true) (hne : a ≠ b) (h : Q (.bool true) m H) : W C A L (compareOp .IsNot a b) Q E m H := fun s S g => wpAny_isNot_other hp hne ⟨m, H, S, g, rfl, h⟩
theorem hW {pat : List Nat} {S : Addr} {t u : Tok} {Q : PV} (X : Bd (K C.w.params) mg mb q loose C) (hroom : A.depth + 2 < recursionLimit) (hh : A.handled = none) (hp : pat.all jR = true) (hz : pat.length ≤ 100)
 (h : ∀ H' r vs k, Ext H H' → H' r = some (ze vs k) → kt S vs (y8 pat) → Q (.ref r) m H') : W C A L (call (.ref 294) [.str (S' pat) t, .ref S, .str ⟨#[46]⟩ u] []) Q E m H := by
 refine zF (binds := [("pat", .str (S' pat) t), ("STAR", .ref S), ("QUESTION_MARK", .str ⟨#[46]⟩ u)]) (Qf := fun v H => ∃ r vs k, v = .ref r ∧ H r = some (ze vs k) ∧ kt S vs (y8 pat)) (fun _ => none) X (Wd _) (JK _) (by exact (an 0xb4206109402d0a0 [_,_]) hroom) (fun s _ => .of_eq (by kernel_rfl)) ?_ (fun _ _ e => by cases e) (fun B' L' eB => ?_)
  (fun v Hf' H' hv u => by refine vK hv fun r vs k zq => zw zq fun hq3 e1 e2 => ?_; try clear hv; obtain rfl := hq3; exact h _ r vs k u.ext0 (u.in_ _ _ e1) e2)
  (by kernel_rfl) (by kernel_rfl) (by kernel_rfl) ?_
 · intro y hy
   exact vD (by kernel_rfl) y hy
 · have X' := X.mono eB
   have m1 : (bl [("pat", .str (S' pat) t), ("STAR", .ref S), ("QUESTION_MARK", .str ⟨#[46]⟩ u)]) "pat" = some (.str (S' pat) t) := by kernel_rfl
   have m2 : (bl [("pat", .str (S' pat) t), ("STAR", .ref S), ("QUESTION_MARK", .str ⟨#[46]⟩ u)]) "STAR" = some (.ref S) := by kernel_rfl
   have m3 : (bl [("pat", .str (S' pat) t), ("STAR", .ref S), ("QUESTION_MARK", .str ⟨#[46]⟩ u)]) "QUESTION_MARK" = some (.str ⟨#[46]⟩ u) := by kernel_rfl
   generalize (bl [("pat", .str (S' pat) t), ("STAR", .ref S), ("QUESTION_MARK", .str ⟨#[46]⟩ u)]) = m0 at m1 m2 m3 ⊢
   have hh' : (A.deeper (e8 L')).handled = none := hh
   have hr' : (A.deeper (e8 L')).depth < recursionLimit := by show A.depth + 1 < _; exact (an 0x16840c212805a103044a0 [_,_]) hroom
   have hlen : (S' pat).length = pat.length := by show pat.toArray.size = _; simp
   have hzz : (S' pat).length ≤ sizeLine := zA (by rw [hlen]; exact (an 0xa890c4a0188108a917c4a0 [_,_]) hz hlen)
   refine yc (env := e8 L') ?_
   walk_at "r"
   with_reducible refine zK (by decide +kernel) (fun r hr hrL => ?_)
   walk_at "r"
   walk_at "r"
   with_reducible refine jq (its := []) (k := 0) zb (fun b hb hbL => ?_)
   walk_at "r"
   with_reducible refine xi (names := ["i", "n"]) hh' ?_ (by decide +kernel)
   walk_at "r"
   with_reducible refine zh X' (ju _) jv ?_
   walk_at "r"
   with_reducible refine yx hzz (fun _ => ?_)
   walk_at "r"
   refine ⟨rfl, ?_⟩
   show W _ _ _ (assignInOrder [bindName _ "n", bindName _ "i"] [.int _ _, .int _ _]) _ _ _ _
   walk_at "r"
   have hbr : b ≠ r := fun e => by rw [e, zb] at hb; cases hb
   rw [hlen]
   refine y0 (fun j m H => ∃ i, i ≤ pat.length ∧ j = pat.length - i ∧ TrI pat S t u r b m H i) pat.length (zP 0 (Nat.zero_le _) rfl ?_) ?_
   · exact ⟨by walk_at "mp", by walk_at "mp", by walk_at "mp", by walk_at "mp", by walk_at "mp", ⟨_, show _ = some (Value.int (0 : Int) _) from by walk_at "mp"⟩, ⟨_, by walk_at "mp"⟩, zb, [], 0, (za (Ne.symm hbr)).trans zb, .nil, Nat.le_refl _⟩
   · intro j mm HH hri
     refine hdG fun gQ gZ => ?_
     refine zu hri fun i hi hq2 hq3 => ?_
     try clear hri
     obtain rfl := hq2
     obtain ⟨f1, f2, f3, f4, f5, ⟨t1, f6⟩, ⟨t2, f7⟩, g2, vs, k, g1, it, hv⟩ := hq3
     refine gZ ?_
     walk_at "r"
     refine qh (fun hlt => ?_) (fun hge => ?_)
     · have hlt : i < pat.length := by have := of_decide_eq_true hlt; exact (an 0x310a2221d087402d0a0 [_,_,_]) hlen this
       obtain ⟨c, hc⟩ : ∃ c, pat[i]? = some c := ⟨pat[i], by simp [hlt]⟩
       have hok : jR c = true := List.all_eq_true.mp hp c (List.mem_of_getElem? hc)
       have hstep := Y7 hc
       walk_at "r"
       refine z8.str (zU (by exact (an 0x151218942310a2168500a917c4a0 [_,_,_]) hz hlen hlt)) (by rw [yh hc]; rfl) (fun tc => ?_)
       rw [xQ hc]
       walk_at "r"
       -- the names after the two stores
       rename_i tx _
       generalize hm' : set (set mm "c" (.str ⟨#[c]⟩ tc)) "i" (.int ((i : Int) + 1) tx) = m'
       have k1 : m' "pat" = some (.str (S' pat) t) := by rw [← hm']; walk_at "mp"
       have k2 : m' "STAR" = some (.ref S) := by rw [← hm']; walk_at "mp"
       have k3 : m' "QUESTION_MARK" = some (.str ⟨#[46]⟩ u) := by rw [← hm']; walk_at "mp"
       have k4 : m' "res" = some (.ref r) := by rw [← hm']; walk_at "mp"
       have k5 : m' "add" = some (.ref b) := by rw [← hm']; walk_at "mp"
       have k6 : m' "i" = some (.int ((i : Int) + 1) tx) := by rw [← hm']; walk_at "mp"
       have k7 : m' "n" = some (.int pat.length t2) := by rw [← hm']; walk_at "mp"
       have k8 : m' "c" = some (.str ⟨#[c]⟩ tc) := by rw [← hm']; walk_at "mp"
       have fin : ∀ H' vs' k', H' r = some (ze vs' k') → H' b = some (bmO "list.append" (.ref r)) → kt S vs' (yj (y8 (pat.take i)) c) → vs'.length ≤ i + 1 →
        ∃ k, k < pat.length - i ∧ ∃ i', i' ≤ pat.length ∧ k = pat.length - i' ∧ TrI pat S t u r b m' H' i' := fun H' vs' k' e1 e2 e3 e4 =>
        (xa (pat.length - (i + 1)) (yg (by exact (an 0x188110b4084582428010182250a0 [_,_,_]) hlen hlt) (xa (i + 1) (zl hlt rfl ⟨ k1, k2, k3, k4, k5, ⟨tx, by rw [k6]; rfl⟩, ⟨t2, k7⟩, e2, vs', k', e1, by rw [hstep]; exact e3, e4⟩))))
       refine zT (fun h1 => ?_) (fun h1 => ?_)
       · have hc42 : c = 42 := by simpa using jK Yp h1
         walk_at "r"
         with_reducible refine ZA ?_
         walk_at "r"
         with_reducible refine jn g1 (zA (by omega)) ?_
         walk_at "r"
         refine Wq (fun h2 => ?_) (fun h2 => ?_)
         · have hem : vs = [] := by simpa using h2
           have hnil : y8 (pat.take i) = [] := by
            have := it.length; rw [hem] at this
            exact List.eq_nil_of_length_eq_zero this.symm
           walk_at "r"
           with_reducible refine zQ ?_
           with_reducible refine zp (bid := "list.append") (self := .ref r) k5 ?_
           walk_at "r"
           refine ⟨g2, zL g2 g1 (zA (by exact (an 0x2a243128462144291a0168518a917c4a0 [_,_,_,_]) hz hlen hv hlt)) ⟨(fun _ => nofun), ?_⟩⟩
           walk_at "r"
           exact fin _ _ _ zb ((za hbr).trans g2) (by unfold yj; rw [if_pos hc42, hnil]; simp; rw [hem]; exact .cons rfl .nil) (by rw [List.length_append, List.length_singleton]; exact (an 0x148500a03044a103044a0 [_,_]) hv)
         · have hne : vs.isEmpty = false := by simpa using h2
           refine yE (it.last hne) fun v it' zq => zw zq fun e1 e2 e3 => ?_
           walk_at "r"
           with_reducible refine ZA ?_
           walk_at "r"
           with_reducible refine Qh ?_ (fun _ _ => rfl)
           walk_at "r"
           have hvl : 0 < vs.length := by cases vs with | nil => cases hne | cons _ _ => simp
           refine z8.listNeg g1 (by exact (an 0x11121a089 [])) (by exact (an 0x5a0124034112183a0 [_]) hvl) (by omega) (v := v) (by rw [show (-1 + (vs.length : Int)).toNat = vs.length - 1 by exact (an 0x2d009180a0894020087401a089 [_]) hvl]; exact e1) ?_
           walk_at "r"
           cases it' with
           | none =>
            have hv' : v = .ref S := e3
            subst hv'
            walk_at "r"
            with_reducible refine qf ?_
            walk_at "r"
            with_reducible refine Jb ?_
            walk_at "r"
            exact fin HH vs k g1 g2 (by unfold yj; rw [if_pos hc42, if_pos e2]; exact it) (by exact (an 0xa428050182250a0 [_,_]) hv)
           | some ch =>
            obtain ⟨tv, rfl⟩ := e3
            refine xg (by kernel_rfl) nofun ?_
            walk_at "r"
            with_reducible refine zQ ?_
            with_reducible refine zp (bid := "list.append") (self := .ref r) k5 ?_
            walk_at "r"
            refine ⟨g2, zL g2 g1 (zA (by exact (an 0x2a243128462144291a0168518a917c4a0 [_,_,_,_]) hz hlen hv hlt)) ⟨(fun _ => nofun), ?_⟩⟩
            walk_at "r"
            exact fin _ _ _ zb ((za hbr).trans g2) (by unfold yj; rw [if_pos hc42, if_neg (by rw [e2]; simp)]; exact it.snoc rfl) (by rw [List.length_append, List.length_singleton]; exact (an 0x148500a03044a103044a0 [_,_]) hv)
       · have hc42 : c ≠ 42 := by simpa using jK Yp h1
         walk_at "r"
         refine zT (fun h2 => ?_) (fun h2 => ?_)
         · have hc63 : c = 63 := by simpa using jK w5 h2
           walk_at "r"
           with_reducible refine zQ ?_
           with_reducible refine zp (bid := "list.append") (self := .ref r) k5 ?_
           walk_at "r"
           refine ⟨g2, zL g2 g1 (zA (by exact (an 0x2a243128462144291a0168518a917c4a0 [_,_,_,_]) hz hlen hv hlt)) ⟨(fun _ => nofun), ?_⟩⟩
           walk_at "r"
           exact fin _ _ _ zb ((za hbr).trans g2) (by unfold yj; rw [if_neg hc42, if_pos hc63]; exact it.snoc ⟨_, rfl⟩) (by rw [List.length_append, List.length_singleton]; exact (an 0x148500a03044a103044a0 [_,_]) hv)
         · have hc63 : c ≠ 63 := by simpa using jK w5 h2
           have hl : kP c = true := by
            unfold jR at hok
            simp only [Bool.or_eq_true, beq_iff_eq] at hok
            rcases hok with (h | h) | h
            · exact (hc42 h).elim
            · exact (hc63 h).elim
            · exact h
           walk_at "r"
           refine zT (fun h3 => ?_) (fun h3 => ?_)
           · have : c = 91 := by simpa using jK KV h3
             rw [this] at hl; cases hl
           · walk_at "r"
             with_reducible refine zQ ?_
             with_reducible refine zp (bid := "list.append") (self := .ref r) k5 ?_
             walk_at "r"
             with_reducible refine zJ X' (QK _) (by kernel_rfl) ?_
             walk_at "r"
             refine QZ X' hr' hh' hl (fun te => ?_)
             walk_at "r"
             refine ⟨g2, zL g2 g1 (zA (by exact (an 0x2a243128462144291a0168518a917c4a0 [_,_,_,_]) hz hlen hv hlt)) ⟨(fun _ => nofun), ?_⟩⟩
             walk_at "r"
             exact fin _ _ _ zb ((za hbr).trans g2) (by unfold yj; rw [if_neg hc42, if_neg hc63]; exact it.snoc ⟨te, rfl⟩) (by rw [List.length_append, List.length_singleton]; exact (an 0x148500a03044a103044a0 [_,_]) hv)
     · have hge : i = pat.length := by have := of_decide_eq_false hge; exact (an 0x310a21485016221d08740310a0 [_,_,_]) hlen hi this
       walk_at "r"
       with_reducible refine jD ?_
       walk_at "r"
       refine ⟨by rw [hge]; simp, ?_⟩
       walk_at "r"
       exact (jY r vs k rfl g1 (by rw [hge, List.take_length] at it; exact it))
 · have e : (fdS (yq 14)).names.all (fun x => x.2 != .cell) = true := by kernel_rfl
   intro x hx; have := List.all_eq_true.mp e x hx; exact bne_iff_ne.mp this
end
end
section
noncomputable abbrev gX (Lz : Addr) : Env := envOf "_join_translated_parts" (fdS (yq 15)) Lz 301 (.ref 300)
theorem aP (P : Params) : (K P).lookup 301 = some bY := by kernel_rfl
theorem Vr (P : Params) : codeIn (K P) (.ref 300) "_join_translated_parts" = true := by kernel_rfl
theorem il (P : Params) : nsIn (K P) mainGlobals "_join_translated_parts" = some (some (.ref 301)) := by kernel_rfl
noncomputable def kO : Option Nat → Str
 | some c => ⟨#[c]⟩
 | none => Str.empty
noncomputable def zD : Option Nat → Bool := Option.isSome
noncomputable def km (l : List Str) : Str := Txt.join Str.empty l
noncomputable def yb : Nat → List (Option Nat) → List Str
 | 0, _ => []
 | _ + 1, [] => []
 | _ + 1, some _ :: _ => []
 | f + 1, none :: tl => match tl with
  | [] => [".*"]
  | _ :: _ => match tl.dropWhile zD with
   | [] => [".*", km ((tl.takeWhile zD).map kO)]
   | r :: rs => (Str.empty ++ Str.ofString "(?>.*?" ++ km ((tl.takeWhile zD).map kO) ++ Str.ofString ")") :: yb f (r :: rs)
noncomputable def yi (is : List (Option Nat)) : List Str := (is.takeWhile zD).map kO ++ yb (is.length + 1) (is.dropWhile zD)
noncomputable def Zj (is : List (Option Nat)) : Str := Str.empty ++ Str.ofString "(?s:" ++ km (yi is) ++ Str.ofString ")\\Z"
theorem xu : ∀ (is : List (Option Nat)) (i : Nat), (is.take i).all zD = true → (is.drop i).takeWhile zD = [] → is.takeWhile zD = is.take i ∧ is.dropWhile zD = is.drop i
 | [], i, _, _ => by simp
 | a :: tl, 0, _, h => by
  have hf : zD a = false := by
   cases q : zD a with
   | false => rfl
   | true => simp [List.takeWhile_cons, q] at h
  constructor
  · simpa using h
  · simp [List.dropWhile_cons, hf]
 | a :: tl, i + 1, h1, h2 => by
  simp only [List.take_succ_cons, List.all_cons, Bool.and_eq_true] at h1
  obtain ⟨ha, h1⟩ := h1
  obtain ⟨e1, e2⟩ := xu tl i h1 (by simpa using h2)
  constructor
  · simp [List.takeWhile_cons, ha, e1]
  · simp [List.dropWhile_cons, ha, e2]
theorem xJ {is : List (Option Nat)} {i : Nat} {x : Option Nat} (h : is[i]? = some x) : is.drop i = x :: is.drop (i + 1) := by
 obtain ⟨hi, e⟩ := List.getElem?_eq_some_iff.mp h
 rw [List.drop_eq_getElem_cons hi, e]
structure JI (vs : List Value) (kp : Nat) (p S r b : Addr) (m : Mp) (H : HF) (i n : Nat) (out : List Str) : Prop where
 f1 : m "inp" = some (.ref p)
 f2 : m "STAR" = some (.ref S)
 f4 : m "res" = some (.ref r)
 f5 : m "add" = some (.ref b)
 f6 : ∃ t1, m "i" = some (.int i t1)
 f7 : ∃ t2, m "n" = some (.int n t2)
 g1 : H p = some (ze vs kp)
 g2 : H b = some (bmO "list.append" (.ref r))
 g3 : ∃ l k, H r = some (ze (strValues l) k) ∧ l.map (·.1) = out
section
theorem iu {is : List (Option Nat)} {vs : List Value} {kp : Nat} {p S : Addr} {Q : PV} (X : Bd (K C.w.params) mg mb q loose C) (hroom : A.depth + 2 < recursionLimit) (hh : A.handled = none) (hi : kt S vs is) (hz : vs.length ≤ 100) (nd : ∀ i, is[i]? = some none → is[i + 1]? ≠ some none)
 (hJ1 : ∀ i, JoinOk Str.empty (((is.drop i).takeWhile zD).map kO) = true ∧ (km (((is.drop i).takeWhile zD).map kO)).length ≤ 300) (hJ2 : JoinOk Str.empty (yi is) = true ∧ (km (yi is)).length ≤ 100000)
 (hp : H p = some (ze vs kp)) (h : ∀ t, Q (.str (Zj is) t) m H) : W C A L (call (.ref 301) [.ref p, .ref S] []) Q E m H := by
 refine W.drop (Qf := fun v => ∃ t, v = .str (Zj is) t) ?_ (fun v e => by obtain ⟨t, rfl⟩ := e; exact h t)
 refine zF (binds := [("inp", .ref p), ("STAR", .ref S)]) (Qf := fun v H => H p = some (ze vs kp) ∧ ∃ t, v = .str (Zj is) t) (put (fun _ => none) p (ze vs kp)) X (aP _) (Vr _) (by exact (an 0xb4206109402d0a0 [_,_]) hroom) (fun s _ => .of_eq (by kernel_rfl)) ?_
  (fun a o e => by
   by_cases q : a = p
   · subst q; rw [zb] at e; cases e; exact hp
   · rw [za q] at e; cases e) (fun B' L' eB => ?_)
  (fun v Hf' H' hv u => (zl rfl (fun a o e => by
   by_cases q : a = p
   · subst q; rw [hp] at e; cases e; exact u.in_ _ _ hv.1
   · exact u.out _ _ e (za q)) hv.2))
  (by kernel_rfl) (by kernel_rfl) (by kernel_rfl) ?_
 · intro y hy
   exact vD (by kernel_rfl) y hy
 · have X' := X.mono eB
   have m1 : (bl [("inp", .ref p), ("STAR", .ref S)]) "inp" = some (.ref p) := by kernel_rfl
   have m2 : (bl [("inp", .ref p), ("STAR", .ref S)]) "STAR" = some (.ref S) := by kernel_rfl
   generalize (bl [("inp", .ref p), ("STAR", .ref S)]) = m0 at m1 m2 ⊢
   have hh' : (A.deeper (gX L')).handled = none := hh
   have hn : vs.length = is.length := hi.length
   refine yc (env := gX L') ?_
   walk_at "r"
   with_reducible refine zK (by decide +kernel) (fun r hr hrL => ?_)
   have hrp : p ≠ r := fun e => by rw [← e, zb] at hr; cases hr
   walk_at "r"
   walk_at "r"
   with_reducible refine jq (its := []) (k := 0) zb (fun b hb hbL => ?_)
   have hbr : b ≠ r := fun e => by rw [e, zb] at hb; cases hb
   have hbp : p ≠ b := fun e => by rw [← e, za hrp, zb] at hb; cases hb
   walk_at "r"
   with_reducible refine xi (names := ["i", "n"]) hh' ?_ (by decide +kernel)
   walk_at "r"
   with_reducible refine zh X' (ju _) jv ?_
   walk_at "r"
   with_reducible refine ZC ((za hbp).trans ((za hrp).trans zb)) (zA (by omega)) (fun _ => ?_)
   walk_at "r"
   refine ⟨rfl, ?_⟩
   rw [hn]
   show W _ _ _ (assignInOrder [bindName _ "n", bindName _ "i"] [.int _ _, .int _ _]) _ _ _ _
   walk_at "r"
   -- the first loop: the signs ahead of the first star
   refine W.mono (Q := fun f m H => f = Flow.next ∧ ∃ i, is.drop i = is.dropWhile zD ∧ i ≤ is.length ∧ JI vs kp p S r b m H i is.length ((is.takeWhile zD).map kO)) (y0 (fun j m H => ∃ i, i ≤ is.length ∧ j = is.length - i ∧ (is.take i).all zD = true ∧ JI vs kp p S r b m H i is.length ((is.take i).map kO)) is.length (yU 0 (Nat.zero_le _) rfl rfl ?_) ?_) (fun f m' H' z => ?_) (fun _ _ _ e => e)
   · exact ⟨by walk_at "mp", by walk_at "mp", by walk_at "mp", by walk_at "mp", ⟨_, show _ = some (Value.int (0 : Int) _) from by walk_at "mp"⟩, ⟨_, by walk_at "mp"⟩, (za hbp).trans ((za hrp).trans zb), zb, [], 0, (za (Ne.symm hbr)).trans zb, rfl⟩
   · intro j mm HH hri
     refine hdG fun gQ gZ => ?_
     refine yw hri fun i hi' hq2 hall hq4 => ?_
     try clear hri
     obtain rfl := hq2
     obtain ⟨f1, f2, f4, f5, ⟨t1, f6⟩, ⟨t2, f7⟩, g1, g2, l, k, g3, hl⟩ := hq4
     refine gZ ?_
     have hll : l.length = i := by have := congrArg List.length hl; simp at this; exact (an 0x29121180d12140310a0 [_,_,_]) hi' this
     walk_at "r"
     refine z6 (fun hlt => ?_) (fun hge => ?_)
     · have hlt : i < is.length := Int.ofNat_lt.mp (of_decide_eq_true hlt)
       obtain ⟨v, hv⟩ : ∃ v, vs[i]? = some v := ⟨vs[i], by simp [hn, hlt]⟩
       refine zc (hi.get i v hv) fun x hx ix => ?_
       walk_at "r"
       refine z8.list g1 (Int.natCast_nonneg _) (by omega) (v := v) (by simpa using hv) ?_
       walk_at "r"
       cases x with
       | none =>
        have ix : v = .ref S := ix
        subst ix
        walk_at "r"
        with_reducible refine qf ?_
        walk_at "r"
        have hd := xJ hx
        obtain ⟨e1, e2⟩ := xu is i hall (by rw [hd]; rfl)
        exact (xx rfl i e2.symm hi' (by rw [e1]; exact ⟨f1, f2, f4, f5, ⟨t1, f6⟩, ⟨t2, f7⟩, g1, g2, l, k, g3, hl⟩))
       | some c =>
        obtain ⟨tv, rfl⟩ := ix
        refine xg (by kernel_rfl) nofun ?_
        walk_at "r"
        with_reducible refine vt ?_
        walk_at "r"
        with_reducible refine zQ ?_
        with_reducible refine zp (bid := "list.append") (self := .ref r) f5 ?_
        walk_at "r"
        refine z8.list g1 (Int.natCast_nonneg _) (by omega) (v := .str ⟨#[c]⟩ tv) (by simpa using hv) ?_
        walk_at "r"
        refine ⟨g2, zL g2 g3 (zA (by simp [strValues]; exact (an 0x2a243128462242311a0168918a917c4a0 [_,_,_,_]) hz hn hll hlt)) ⟨(fun _ => nofun), ?_⟩⟩
        walk_at "r"
        with_reducible refine vy (by walk_at "mp") ?_
        walk_at "r"
        have htk : is.take (i + 1) = is.take i ++ [some c] := by rw [List.take_add_one, hx]; rfl
        refine ⟨is.length - (i + 1), Nat.sub_succ_lt_self _ _ hlt, i + 1, hlt, rfl, by rw [htk, List.all_append, hall]; rfl, ?_⟩
        rw [htk, List.map_append]
        exact ⟨by walk_at "mp", by walk_at "mp", by walk_at "mp", by walk_at "mp", ⟨_, xF⟩, ⟨t2, by walk_at "mp"⟩, (za hrp).trans g1, (za hbr).trans g2, l ++ [(⟨#[c]⟩, tv)], k + 1, by rw [zb]; simp [strValues], by rw [List.map_append, hl]; rfl⟩
     · have hge : i = is.length := by have := of_decide_eq_false hge; exact (an 0x290a01881116221d08740310a0 [_,_,_]) hi' hll this
       walk_at "r"
       obtain ⟨e1, e2⟩ := xu is i hall (by rw [hge]; simp)
       exact (xx rfl i e2.symm hi' (by rw [e1]; exact ⟨f1, f2, f4, f5, ⟨t1, f6⟩, ⟨t2, f7⟩, g1, g2, l, k, g3, hl⟩))
   · refine hdG fun gQ gZ => ?_
     refine xA z fun hq0 i hdr hile hq4 => ?_
     try clear z
     obtain rfl := hq0
     obtain ⟨f1, f2, f4, f5, ⟨t1, f6⟩, ⟨t2, f7⟩, g1, g2, l, k, g3, hl⟩ := hq4
     refine gZ ?_
     walk_at "r"
     -- the second loop: star by star
     refine W.mono (Q := fun f m H => f = Flow.next ∧ ∃ i, i = is.length ∧ JI vs kp p S r b m H i is.length (yi is)) (y0 (fun j m H => ∃ i out f, i ≤ is.length ∧ j = is.length - i ∧ is.length - i < f ∧ out ++ yb f (is.drop i) = yi is ∧ (∀ c, is[i]? ≠ some (some c)) ∧ out.length ≤ i ∧ JI vs kp p S r b m H i is.length out) (is.length - i) (qp i _ (is.length + 1) (Zm hile rfl (by exact (an 0x29021160608940090a0 [_,_]) hile) (by rw [hdr]; rfl) ?_ ?_ ⟨ f1, f2, f4, f5, ⟨t1, f6⟩, ⟨t2, f7⟩, g1, g2, l, k, g3, hl⟩)) ?_) (fun f m' H' z => ?_) (fun _ _ _ e => e)
     · intro c hc
       have := xJ hc
       rw [hdr] at this
       have h2 := List.head?_dropWhile_not zD is
       rw [this] at h2
       exact absurd h2 (by simp [zD])
     · have h3 : (is.takeWhile zD).length + (is.dropWhile zD).length = is.length := by rw [← List.length_append, List.takeWhile_append_dropWhile]
       rw [← hdr, List.length_drop] at h3
       rw [List.length_map]; exact (an 0xa448462202090a240290a0 [_,_,_]) hile h3
     · clear g3 g2 g1 f1 f2 f4 f5 f6 f7 hdr hile hl
       intro j mm HH hri
       refine hdG fun gQ gZ => ?_
       refine vK hri fun i out f zq => vL zq fun hi' hq4 hf hgo hnl hol hq9 => ?_
       try clear hri
       obtain rfl := hq4
       obtain ⟨f1, f2, f4, f5, ⟨t1, f6⟩, ⟨t2, f7⟩, g1, g2, l, k, g3, hl⟩ := hq9
       refine gZ ?_
       have hll : l.length = out.length := by have := congrArg List.length hl; simpa using this
       walk_at "r"
       refine qh (fun hlt => ?_) (fun hge => ?_)
       · have hlt : i < is.length := Int.ofNat_lt.mp (of_decide_eq_true hlt)
         obtain ⟨v, hv⟩ : ∃ v, vs[i]? = some v := ⟨vs[i], by simp [hn, hlt]⟩
         refine zc (hi.get i v hv) fun x hx ix => ?_
         cases x with
         | some c => exact (hnl c hx).elim
         | none =>
         have ix : v = .ref S := ix
         subst ix
         with_reducible refine yc ?_
         with_reducible refine jD ?_
         walk_at "r"
         refine z8.list g1 (Int.natCast_nonneg _) (by omega) (v := .ref S) (by simpa using hv) ?_
         walk_at "r"
         with_reducible refine Je ?_
         walk_at "r"
         refine ⟨rfl, ?_⟩
         walk_at "r"
         with_reducible refine vy (by walk_at "mp") ?_
         walk_at "r"
         rename_i tx
         have hcast : (i : Int) + 1 = ((i + 1 : Nat) : Int) := rfl
         generalize hm' : set mm "i" (.int ((i : Int) + 1) tx) = m'
         have k1 : m' "inp" = some (.ref p) := by rw [← hm']; walk_at "mp"
         have k2 : m' "STAR" = some (.ref S) := by rw [← hm']; walk_at "mp"
         have k4 : m' "res" = some (.ref r) := by rw [← hm']; walk_at "mp"
         have k5 : m' "add" = some (.ref b) := by rw [← hm']; walk_at "mp"
         have k6 : m' "i" = some (.int ((i + 1 : Nat) : Int) tx) := by rw [← hm', ← hcast]; walk_at "mp"
         have k7 : m' "n" = some (.int is.length t2) := by rw [← hm']; walk_at "mp"
         have hd := xJ hx
         refine zT (fun h1 => ?_) (fun h1 => ?_)
         · have hlast : i + 1 = is.length := by have := beq_iff_eq.mp h1; exact (an 0x90742060890e8062103044a0 [_,_]) this
           walk_at "r"
           with_reducible refine zQ ?_
           with_reducible refine zp (bid := "list.append") (self := .ref r) k5 ?_
           walk_at "r"
           refine ⟨g2, zL g2 g3 (zA (by simp [strValues]; exact (an 0xa890c4a1188908a488c6234031101822520a917c4a0 [_,_,_,_,_]) hz hn hol hll hlast)) ⟨(fun _ => nofun), ?_⟩⟩
           walk_at "r"
           with_reducible refine Yj ?_
           walk_at "r"
           rename_i ts
           refine ⟨rfl, i + 1, hlast, k1, k2, k4, k5, ⟨tx, k6⟩, ⟨t2, k7⟩, (za hrp).trans g1, (za hbr).trans g2, l ++ [(Str.ofString ".*", ts)], k + 1, by rw [zb]; simp [strValues], ?_⟩
           rw [List.map_append, hl, ← hgo, hd]
           have h0 : is.drop (i + 1) = [] := by rw [hlast]; simp
           rw [h0]
           cases f with
           | zero => omega
           | succ f => rfl
         · have hmore : i + 1 < is.length := by have := beq_eq_false_iff_ne.mp h1; exact (an 0xb428098742060890e805a103044a0 [_,_]) hlt this
           obtain ⟨v', hv'⟩ : ∃ v, vs[i + 1]? = some v := ⟨vs[i + 1], by simp [hn, hmore]⟩
           refine zc (hi.get (i + 1) v' hv') fun x' hx' ix' => ?_
           cases x' with
           | none => exact (nd i hx hx').elim
           | some c =>
           obtain ⟨tv, rfl⟩ := ix'
           walk_at "r"
           with_reducible refine jD ?_
           walk_at "r"
           refine z8.list g1 (Int.natCast_nonneg _) (by omega) (v := .str ⟨#[c]⟩ tv) (by simpa using hv') ?_
           walk_at "r"
           refine xg (by kernel_rfl) nofun ?_
           walk_at "r"
           refine ⟨rfl, ?_⟩
           walk_at "r"
           with_reducible refine zK (by decide +kernel) (fun qq hq hqL => ?_)
           have nqr : r ≠ qq := fun e => by rw [← e, g3] at hq; cases hq
           have nqb : b ≠ qq := fun e => by rw [← e, g2] at hq; cases hq
           have nqp : p ≠ qq := fun e => by rw [← e, g1] at hq; cases hq
           walk_at "r"
           refine W.mono (Q := fun fl m H => fl = Flow.next ∧ ∃ i2, i + 1 ≤ i2 ∧ i2 ≤ is.length ∧ is.drop i2 = (is.drop (i + 1)).dropWhile zD ∧ JI vs kp p S r b m H i2 is.length out ∧ m "fixed" = some (.ref qq) ∧ ∃ lf kf, H qq = some (ze (strValues lf) kf) ∧ lf.map (·.1) = ((is.drop (i + 1)).takeWhile zD).map kO)
            (y0 (fun j m H => ∃ i2, i + 1 ≤ i2 ∧ i2 ≤ is.length ∧ j = is.length - i2 ∧ ((is.drop (i + 1)).take (i2 - (i + 1))).all zD = true ∧ JI vs kp p S r b m H i2 is.length out ∧ m "fixed" = some (.ref qq) ∧ ∃ lf kf, H qq = some (ze (strValues lf) kf) ∧ lf.map (·.1) = ((is.drop (i + 1)).take (i2 - (i + 1))).map kO)
             (is.length - (i + 1)) (xa (i + 1) (Zm (Nat.le_refl _) (by exact (an 0x16840c1128052103044a0 [_,_]) hmore) rfl (by simp) ?_ xF (yL [] 0 (yg zb (by simp))))) ?_) (fun fl m'' H'' z => ?_) (fun _ _ _ e => e)
           · exact ⟨by walk_at "mp", by walk_at "mp", by walk_at "mp", by walk_at "mp", ⟨tx, by walk_at "mp"⟩, ⟨t2, by walk_at "mp"⟩, (za nqp).trans g1, (za nqb).trans g2, l, k, (za nqr).trans g3, hl⟩
           · clear g3 g2 g1 f1 f2 f4 f5 f6 f7 hl hll hgo
             intro j mm' HH' hri
             refine hdG fun gQ gZ => ?_
             refine yW hri fun i2 zq => vL zq fun lo hi2 hq3 hall hq5 f8 zq => yE zq fun lf kf zq => z5 zq fun g4 hlf => ?_
             try clear hri
             obtain rfl := hq3
             obtain ⟨f1, f2, f4, f5, ⟨t1', f6⟩, ⟨t2', f7⟩, g1, g2, l', k', g3, hl⟩ := hq5
             refine gZ ?_
             have hlf' : lf.length = i2 - (i + 1) := by have := congrArg List.length hlf; simp at this; exact (an 0x5a303044a214840c11288523423018203044a246080c112890a018080c112890a0 [_,_,_,_]) hmore lo hi2 this
             have hoff : i + 1 + (i2 - (i + 1)) = i2 := by exact (an 0x29081822500c4204101822502103044a0 [_,_]) lo
             walk_at "r"
             refine z6 (fun hlt2 => ?_) (fun hge2 => ?_)
             · have hlt2 : i2 < is.length := Int.ofNat_lt.mp (of_decide_eq_true hlt2)
               obtain ⟨v, hv2⟩ : ∃ v, vs[i2]? = some v := ⟨vs[i2], by simp [hn, hlt2]⟩
               refine zc (hi.get i2 v hv2) fun x hx2 ix2 => ?_
               have hxo : (is.drop (i + 1))[i2 - (i + 1)]? = some x := by rw [List.getElem?_drop, hoff]; exact hx2
               walk_at "r"
               refine z8.list g1 (Int.natCast_nonneg _) (by omega) (v := v) (by simpa using hv2) ?_
               walk_at "r"
               cases x with
               | none =>
                have ix2 : v = .ref S := ix2
                subst ix2
                walk_at "r"
                with_reducible refine qf ?_
                walk_at "r"
                obtain ⟨e1, e2⟩ := xu (is.drop (i + 1)) (i2 - (i + 1)) hall (by rw [xJ hxo]; rfl)
                exact (yg rfl (xa i2 (qr lo hi2 (by rw [e2, List.drop_drop, hoff]) ⟨f1, f2, f4, f5, ⟨t1', f6⟩, ⟨t2', f7⟩, g1, g2, l', k', g3, hl⟩ f8 (yL lf kf (yg g4 (by rw [e1]; exact hlf))))))
               | some c2 =>
                obtain ⟨tv2, rfl⟩ := ix2
                refine xg (by kernel_rfl) nofun ?_
                walk_at "r"
                with_reducible refine vt ?_
                walk_at "r"
                with_reducible refine zQ ?_
                with_reducible refine zC ?_
                walk_at "r"
                refine (zy ("list") ("list.append") PySem.F.plainAttrs_list PySem.F.slot_list_append PySem.F.type_list_append (.ref g4) ?_)
                walk_at "r"
                refine z8.list g1 (Int.natCast_nonneg _) (by omega) (v := .str ⟨#[c2]⟩ tv2) (by simpa using hv2) ?_
                walk_at "r"
                refine yB g4 (zA (by simp [strValues]; exact (an 0xa890c4a1188908c0406089488d00c4604101822522303044a4168918a917c4a0 [_,_,_,_,_]) hz hn hlf' hoff hlt2)) ⟨(fun _ => nofun), ?_⟩
                walk_at "r"
                with_reducible refine vy (by walk_at "mp") ?_
                walk_at "r"
                have htk : (is.drop (i + 1)).take (i2 + 1 - (i + 1)) = (is.drop (i + 1)).take (i2 - (i + 1)) ++ [some c2] := by
                 rw [show i2 + 1 - (i + 1) = (i2 - (i + 1)) + 1 by exact (an 0x52003044a1188008203044a1400608942300c112080c1128500203044a103044a0 [_,_]) lo hoff, List.take_add_one, hxo]; rfl
                refine ⟨is.length - (i2 + 1), Nat.sub_succ_lt_self _ _ hlt2, i2 + 1, by exact (an 0x14840c1128062102080c11281081822500a03044a103044a0 [_,_]) lo hoff, hlt2, rfl, by rw [htk, List.all_append, hall]; rfl, ?_, by walk_at "mp", lf ++ [(⟨#[c2]⟩, tv2)], kf + 1, by rw [zb]; simp [strValues], by rw [htk, List.map_append, List.map_append, hlf]; rfl⟩
                exact ⟨by walk_at "mp", by walk_at "mp", by walk_at "mp", by walk_at "mp", ⟨_, xF⟩, ⟨t2', by walk_at "mp"⟩, (za nqp).trans g1, (za nqb).trans g2, l', k', (za nqr).trans g3, hl⟩
             · have hge2 : i2 = is.length := by have := of_decide_eq_false hge2; exact (an 0x1485016221d08740310a0 [_,_]) hi2 this
               walk_at "r"
               obtain ⟨e1, e2⟩ := xu (is.drop (i + 1)) (i2 - (i + 1)) hall (by rw [List.drop_drop, hoff, hge2]; simp)
               exact (yg rfl (xa i2 (qr lo hi2 (by rw [e2, List.drop_drop, hoff]) ⟨f1, f2, f4, f5, ⟨t1', f6⟩, ⟨t2', f7⟩, g1, g2, l', k', g3, hl⟩ f8 (yL lf kf (yg g4 (by rw [e1]; exact hlf))))))
           · refine hdG fun gQ gZ => ?_
             refine z5 z fun hq0 zq => yW zq fun i2 zq => kg zq fun lo hi2 hdr hq5 f8 zq => yE zq fun lf kf zq => z5 zq fun g4 hlf => ?_
             try clear z
             obtain rfl := hq0
             obtain ⟨f1, f2, f4, f5, ⟨t1, f6⟩, ⟨t2, f7⟩, g1, g2, l, k, g3, hl⟩ := hq5
             refine gZ ?_
             walk_at "r"
             with_reducible refine zC ?_
             walk_at "r"
             refine (zy ("str") ("str.join") PySem.F.plainAttrs_str PySem.F.slot_str_join PySem.F.type_str_join (.str) ?_)
             walk_at "r"
             have hem : Str.ofString "" = Str.empty := by decide +kernel
             refine YT g4 (by rw [hem, hlf]; exact (hJ1 _).1) (fun tj => ?_)
             rw [hem, hlf]
             have hcl := (hJ1 (i + 1)).2
             change W _ _ _ _ _ _ _ _
             have hll2 : l.length = out.length := by have := congrArg List.length hl; simpa using this
             have h22 : i + 2 ≤ i2 := by
              rcases Nat.lt_or_ge i2 (i + 2) with h | h
              · have e : i2 = i + 1 := by exact (an 0x52003044a11606109428060182250a0 [_,_]) lo h
                rw [e, xJ hx'] at hdr
                have h6 := congrArg List.length hdr
                have h7 := (List.dropWhile_sublist zD (l := is.drop (i + 1 + 1))).length_le
                rw [List.dropWhile_cons_of_pos (by rfl), List.length_cons] at h6
                exact (an 0x31181822510a448c52103084a0 [_,_,_,_]) h6 h7
              · exact h
             have hnl2 : ∀ c, is[i2]? ≠ some (some c) := by
              intro c hc
              have h6 := xJ hc
              rw [hdr] at h6
              have h7 := List.head?_dropWhile_not zD (is.drop (i + 1))
              rw [h6] at h7
              exact absurd h7 (by simp [zD])
             walk_at "r"
             refine zT (fun h5 => ?_) (fun h5 => ?_)
             · have hl5 : i2 = is.length := by have := beq_iff_eq.mp h5; exact (an 0x241d08740310a0 [_,_]) this
               walk_at "r"
               with_reducible refine zQ ?_
               refine zp (bid := "list.append") (self := .ref r) (q := b) (by walk_at "mp") ?_
               walk_at "r"
               refine ⟨g2, zL g2 g3 (zA (by simp [strValues]; exact (an 0x2a24312846224229223188d28b440608948311a0188930a917c4a0 [_,_,_,_,_,_,_]) hz hn hol hll hmore hll2 hl5)) ⟨(fun _ => nofun), ?_⟩⟩
               walk_at "r"
               with_reducible refine zQ ?_
               refine zp (bid := "list.append") (self := .ref r) (q := b) (by walk_at "mp") ?_
               walk_at "r"
               refine ⟨(za hbr).trans g2, zL ((za hbr).trans g2) zb (zA (by simp [strValues]; exact (an 0x2a24312846224229223188d28b440608948311a0188930a8f7c4a0 [_,_,_,_,_,_,_]) hz hn hol hll hmore hll2 hl5)) ⟨(fun _ => nofun), ?_⟩⟩
               walk_at "r"
               rename_i ts
               obtain ⟨f', rfl⟩ : ∃ f', f = f' + 1 := ⟨f - 1, by exact (an 0x5a0048908c03044828225020 [_,_,_]) hf⟩
               rw [hd] at hgo
               have hgo2 : yb (f' + 1) (none :: is.drop (i + 1)) = [Str.ofString ".*", km (((is.drop (i + 1)).takeWhile zD).map kO)] := by
                have hdw : (is.drop (i + 1)).dropWhile zD = [] := by rw [← hdr, hl5]; simp
                rw [xJ hx'] at hdw ⊢
                simp only [yb]
                rw [hdw]
               refine ⟨is.length - i2, by exact (an 0x1512189463102314840c21288620422c12240090a0 [_,_,_,_]) hz hn h22 hl5, i2, out ++ [Str.ofString ".*", km (((is.drop (i + 1)).takeWhile zD).map kO)], 1, hi2, rfl, by exact (an 0xc40845c112090a0 [_,_]) hl5, ?_, hnl2, by rw [List.length_append]; simp; exact (an 0xa4480620463102414840c2128852103084a0 [_,_,_,_,_]) hol hll hll2 h22, ?_⟩
               · rw [← hgo, hgo2, hl5]; simp [yb]
               · exact ⟨by walk_at "mp", by walk_at "mp", by walk_at "mp", by walk_at "mp", ⟨t1, by walk_at "mp"⟩, ⟨_, by walk_at "mp"⟩, (za hrp).trans ((za hrp).trans g1), (za hbr).trans ((za hbr).trans g2), l ++ [(Str.ofString ".*", ts), (km (((is.drop (i + 1)).takeWhile zD).map kO), tj)], k + 1 + 1, by rw [zb]; simp [strValues, km], by rw [List.map_append, hl]; rfl⟩
             · have hl5 : i2 < is.length := by have := beq_eq_false_iff_ne.mp h5; exact (an 0x290a0261d087402d0a0 [_,_]) hi2 this
               have le1 : (Str.empty ++ Str.ofString "(?>.*?").length = 6 := by decide +kernel
               have le2 : (Str.ofString ")").length = 1 := by decide +kernel
               walk_at "r"
               with_reducible refine zQ ?_
               refine zp (bid := "list.append") (self := .ref r) (q := b) (by walk_at "mp") ?_
               walk_at "r"
               refine YW ?_
               refine xC ?_
               walk_at "r"
               refine (yT _ _ rfl (zA (by rw [le1]; exact (an 0x548be26309 []))) ?_)
               refine xC (vw ?_)
               walk_at "r"
               refine wd (zA (by unfold km at hcl; exact (an 0x54c922500a917c4a0 [_]) hcl)) (fun _ => ?_)
               refine (yT _ _ rfl (zA (by unfold km at hcl; rw [strLen_append, le1]; exact (an 0xa99244a01522f890282309 [_]) hcl)) ?_)
               refine xC ?_
               walk_at "r"
               refine (yT _ _ rfl (zA (by unfold km at hcl; rw [strLen_append, strLen_append, le1, le2]; exact (an 0x1532489402a45f12060890282309 [_]) hcl)) ?_)
               refine YS (zA (by unfold km at hcl; rw [strLen_append, strLen_append, le1, le2]; exact (an 0x1532489402a45f12060890282309 [_]) hcl)) (fun ts => ?_)
               walk_at "r"
               refine ⟨g2, zL g2 g3 (zA (by simp [strValues]; exact (an 0x15121894231121149118c46945a203044a4188d00a917c4a0 [_,_,_,_,_,_]) hz hn hol hll hmore hll2)) ⟨(fun _ => nofun), ?_⟩⟩
               walk_at "r"
               obtain ⟨f', rfl⟩ : ∃ f', f = f' + 1 := ⟨f - 1, by exact (an 0x5a0048908c03044828225020 [_,_,_]) hf⟩
               rw [hd] at hgo
               have hgo2 : yb (f' + 1) (none :: is.drop (i + 1)) = (Str.empty ++ Str.ofString "(?>.*?" ++ km (((is.drop (i + 1)).takeWhile zD).map kO) ++ Str.ofString ")") :: yb f' (is.drop i2) := by
                obtain ⟨y, hy⟩ : ∃ y, is[i2]? = some y := ⟨is[i2], by simp [hl5]⟩
                have hy2 := xJ hy
                have hdw : (is.drop (i + 1)).dropWhile zD = y :: is.drop (i2 + 1) := by rw [← hdr]; exact hy2
                rw [hy2]
                rw [xJ hx'] at hdw ⊢
                simp only [yb]
                rw [hdw]
               refine ⟨is.length - i2, by exact (an 0x5a003044a214840c212885a0422c12240090a0 [_,_,_]) hmore h22 hl5, i2, out ++ [Str.empty ++ Str.ofString "(?>.*?" ++ km (((is.drop (i + 1)).takeWhile zD).map kO) ++ Str.ofString ")"], f', hi2, rfl, by exact (an 0x16800c1128c52103084a3168108b03044a2048d00b44090a0 [_,_,_,_]) hmore h22 hl5 hf, ?_, hnl2, by rw [List.length_append]; simp; exact (an 0xa4480620463102414840c2128852103044a0 [_,_,_,_,_]) hol hll hll2 h22, ?_⟩
               · rw [← hgo, hgo2]; simp
               · exact ⟨by walk_at "mp", by walk_at "mp", by walk_at "mp", by walk_at "mp", ⟨t1, by walk_at "mp"⟩, ⟨_, by walk_at "mp"⟩, (za hrp).trans g1, (za hbr).trans g2, l ++ [(Str.empty ++ Str.ofString "(?>.*?" ++ km (((is.drop (i + 1)).takeWhile zD).map kO) ++ Str.ofString ")", ts)], k + 1, by rw [zb]; simp [strValues, km], by rw [List.map_append, hl]; rfl⟩
       · have hge : i = is.length := by have := of_decide_eq_false hge; exact (an 0x1485016221d08740310a0 [_,_]) hi' this
         walk_at "r"
         refine (yg rfl (xa i (yg hge ?_)))
         have : yi is = out := by
          rw [← hgo, hge]
          cases f with
          | zero => simp [yb]
          | succ f => simp [yb]
         rw [this]
         exact ⟨f1, f2, f4, f5, ⟨t1, f6⟩, ⟨t2, f7⟩, g1, g2, l, k, g3, hl⟩
     · refine hdG fun gQ gZ => ?_
       refine z5 z fun hq0 zq => yW zq fun i zq => z5 zq fun hq2 hq3 => ?_
       try clear z
       obtain rfl := hq0
       obtain rfl := hq2
       obtain ⟨f1, f2, f4, f5, ⟨t1, f6⟩, ⟨t2, f7⟩, g1, g2, l, k, g3, hl⟩ := hq3
       refine gZ ?_
       have hcl := hJ2.2
       have hem : Str.ofString "" = Str.empty := by decide +kernel
       have le1 : (Str.empty ++ Str.ofString "(?s:").length = 4 := by decide +kernel
       have le2 : (Str.ofString ")\\Z").length = 3 := by decide +kernel
       have line5 : ∀ {n : Nat}, n ≤ 100100 → n ≤ sizeLine := fun h => by rw [sizeLine_eq]; omega
       walk_at "r"
       with_reducible refine jD ?_
       walk_at "r"
       refine ⟨by simp, ?_⟩
       walk_at "r"
       with_reducible refine zC ?_
       walk_at "r"
       refine (zy ("str") ("str.join") PySem.F.plainAttrs_str PySem.F.slot_str_join PySem.F.type_str_join (.str) ?_)
       walk_at "r"
       refine YT g3 (by rw [hem, hl]; exact hJ2.1) (fun tj => ?_)
       rw [hem, hl]
       change W _ _ _ _ _ _ _ _
       walk_at "r"
       refine YW ?_
       refine xC ?_
       walk_at "r"
       refine (yT _ _ rfl (line5 (by rw [le1]; exact (an 0x1512c418626209 []))) ?_)
       refine xC (vw ?_)
       walk_at "r"
       refine wd (line5 (by unfold km at hcl; exact (an 0x540ab06189402a258830c4a0 [_]) hcl)) (fun _ => ?_)
       refine (yT _ _ rfl (line5 (by unfold km at hcl; rw [strLen_append, le1]; exact (an 0xa81560c31280544b1061890282209 [_]) hcl)) ?_)
       refine xC ?_
       walk_at "r"
       refine (yT _ _ rfl (line5 (by unfold km at hcl; rw [strLen_append, strLen_append, le1, le2]; exact (an 0x1502ac1862500a89620c312061890282209 [_]) hcl)) ?_)
       refine YS (line5 (by unfold km at hcl; rw [strLen_append, strLen_append, le1, le2]; exact (an 0x1502ac1862500a89620c312061890282209 [_]) hcl)) (fun ts => ?_)
       exact ⟨g1, ts, rfl⟩
 · have e : (fdS (yq 15)).names.all (fun x => x.2 != .cell) = true := by kernel_rfl
   intro x hx; have := List.all_eq_true.mp e x hx; exact bne_iff_ne.mp this
end
end
section
noncomputable abbrev eZ (Lz : Addr) : Env := envOf "translate" (fdS (yq 9)) Lz 275 (.ref 274)
theorem JQ (P : Params) : codeIn (K P) (.ref 274) "translate" = true := by kernel_rfl
theorem ik (P : Params) : nsIn (K P) mainGlobals "translate" = some (some (.ref 275)) := by kernel_rfl
theorem QJ (P : Params) : nsIn (K P) mainGlobals "object" = some none := by kernel_rfl
theorem Q7 : bootBuiltins "object" = some (.type "object") := by decide +kernel
theorem Y6 (res : List (Option Nat)) (c : Nat) : (yj res c).length ≤ res.length + 1 := by
 unfold yj; split
 · split <;> simp
 · split <;> simp
theorem vO : ∀ (pat : List Nat) (res : List (Option Nat)), (pat.foldl yj res).length ≤ res.length + pat.length
 | [], res => by simp
 | c :: pat, res => by
  have h1 := vO pat (yj res c)
  have h2 := Y6 res c
  simp only [List.foldl_cons, List.length_cons]; exact (an 0x280a2468050182250a314040c112890a0 [_,_,_,_]) h1 h2
section
theorem hX {pat : List Nat} {t : Tok} {Q : PV} (X : Bd (K C.w.params) mg mb q loose C) (hroom : A.depth + 4 < recursionLimit) (hh : A.handled = none) (hp : pat.all jR = true) (hz : pat.length ≤ 100)
 (nd : ∀ i, (y8 pat)[i]? = some none → (y8 pat)[i + 1]? ≠ some none)
 (hJ1 : ∀ i, JoinOk Str.empty ((((y8 pat).drop i).takeWhile zD).map kO) = true ∧ (km ((((y8 pat).drop i).takeWhile zD).map kO)).length ≤ 300) (hJ2 : JoinOk Str.empty (yi (y8 pat)) = true ∧ (km (yi (y8 pat))).length ≤ 100000)
 (h : ∀ t, Q (.str (Zj (y8 pat)) t) m H) : W C A L (call (.ref 275) [.str (S' pat) t] []) Q E m H := by
 refine W.drop (Qf := fun v => ∃ t, v = .str (Zj (y8 pat)) t) ?_ (fun v e => by obtain ⟨t, rfl⟩ := e; exact h t)
 refine zF (binds := [("pat", .str (S' pat) t)]) (Qf := fun v H => ∃ t, v = .str (Zj (y8 pat)) t) (fun _ => none) X (wj _) (JQ _) (by exact (an 0xb4206209402d0a0 [_,_]) hroom) (fun s _ => .of_eq (by kernel_rfl)) ?_ (fun _ _ e => by cases e) (fun B' L' eB => ?_) (fun v Hf' H' hv u => (zl rfl u.ext0 hv))
  (by kernel_rfl) (by kernel_rfl) (by kernel_rfl) ?_
 · intro y hy
   exact vD (by kernel_rfl) y hy
 · have X' := X.mono eB
   have m1 : (bl [("pat", .str (S' pat) t)]) "pat" = some (.str (S' pat) t) := by kernel_rfl
   generalize (bl [("pat", .str (S' pat) t)]) = m0 at m1 ⊢
   have hh' : (A.deeper (eZ L')).handled = none := hh
   have hr' : (A.deeper (eZ L')).depth + 2 < recursionLimit := by show A.depth + 1 + 2 < _; exact (an 0x2d081882500b420610903044a0 [_,_]) hroom
   refine yc (env := eZ L') ?_
   with_reducible refine zQ ?_
   walk_at "r"
   refine ⟨(fun _ => nofun), ?_⟩
   walk_at "r"
   with_reducible refine xO X' (QJ _) Q7 ?_
   with_reducible refine Jc (fun S hS hSL => ?_)
   walk_at "r"
   with_reducible refine zJ X' (ij _) (by kernel_rfl) ?_
   walk_at "r"
   have dot : Str.ofString "." = ⟨#[46]⟩ := by decide +kernel
   rw [dot]
   refine hW X' hr' hh' hp hz (fun H' r vs k hx hr hi => ?_)
   walk_at "r"
   with_reducible refine zJ X' (il _) (by kernel_rfl) ?_
   walk_at "r"
   refine iu X' hr' hh' hi (by rw [hi.length]; have := vO pat []; simp at this; exact Nat.le_trans this hz) nd hJ1 hJ2 hr (fun ts => ?_)
   exact ⟨ts, rfl⟩
 · have e : (fdS (yq 9)).names.all (fun x => x.2 != .cell) = true := by kernel_rfl
   intro x hx; have := List.all_eq_true.mp e x hx; exact bne_iff_ne.mp this
end
end
section
open PySem.Spec PySem.SeqAt PySem.Builtin PySem.Builtin.Str
theorem KC (b : Nat) : ∀ (l : List Str) (acc : Nat), (∀ t ∈ l, t.length ≤ b) → l.foldl (fun a t => a + t.length + Str.empty.length) acc ≤ acc + b * l.length
 | [], acc, _ => by simp
 | t :: l, acc, h => by
  have h1 := KC b l (acc + t.length + Str.empty.length) fun x hx => h x (.tail _ hx)
  have h2 := h t (.head _)
  have h3 : Str.empty.length = 0 := rfl
  simp only [List.foldl_cons, List.length_cons, Nat.mul_add, Nat.mul_one]
  exact (an 0x5014405281488500a46906094a2808146890a0 [_,_,_,_,_,_]) h1 h2 h3
theorem xf {l : List Str} (hl : l.length ≤ 300) (h : ∀ t ∈ l, t.length ≤ 330) : JoinOk Str.empty l = true := by
 unfold JoinOk
 have e : l.toArray.foldl (fun a t => a + t.length + Str.empty.length) 0 = l.foldl (fun a t => a + t.length + Str.empty.length) 0 := by simp
 have := KC 330 l 0 h
 have h2 : l.foldl (fun a t => a + t.length + Str.empty.length) 0 ≤ 99000 := by
  have : 330 * l.length ≤ 99000 := by exact (an 0x1532489402ac55810c485412a509 [_]) hl
  exact (an 0xa99244a114042a19528489402ac55810c4a0 [_,_]) hl ‹_›
 rw [show (l.toArray.foldl (· + ·.length + Str.empty.length) 0) = l.toArray.foldl (fun a t => a + t.length + Str.empty.length) 0 from rfl, e]
 have h3 : ¬ (l.foldl (fun a t => a + t.length + Str.empty.length) 0 > 2 ^ 24) := by omega
 have hs := sizeLine_eq
 simp [tooLong]
 omega
noncomputable def ZG (is : List (Option Nat)) : Prop := ∀ i, is[i]? = some none → is[i + 1]? ≠ some none
theorem ZG.snoc {is : List (Option Nat)} {x : Option Nat} (h : ZG is) (hx : x = none → is.getLast? ≠ some none) : ZG (is ++ [x]) := by
 intro i h1 h2
 rcases Nat.lt_trichotomy (i + 1) is.length with c | c | c
 · rw [List.getElem?_append_left (by exact (an 0xb4206089402d0a0 [_,_]) c)] at h1
   rw [List.getElem?_append_left c] at h2
   exact h i h1 h2
 · rw [List.getElem?_append_left (by exact (an 0xc4206089402d0a0 [_,_]) c)] at h1
   rw [List.getElem?_append_right (by exact (an 0x18800c1128450182250a0 [_,_]) c), c, Nat.sub_self] at h2
   refine hx (by simpa using h2) ?_
   rw [List.getLast?_eq_getElem?, ← c, Nat.add_sub_cancel]; exact h1
 · rw [List.getElem?_eq_none (by rw [List.length_append, List.length_singleton]; exact (an 0x2c0c1128500a03044a103044a0 [_,_]) c)] at h2
   cases h2
theorem wW {res : List (Option Nat)} {c : Nat} (h : ZG res) : ZG (yj res c) := by
 unfold yj
 split
 · split
   · exact h
   · rename_i g; exact h.snoc fun _ => g
 · split
   · exact h.snoc nofun
   · exact h.snoc nofun
theorem jg : ∀ (pat : List Nat) (res : List (Option Nat)), ZG res → ZG (pat.foldl yj res)
 | [], _, h => h
 | _ :: pat, _, h => jg pat _ (wW h)
theorem ZL (pat : List Nat) : ZG (y8 pat) := jg pat [] (by intro i h; simp at h)
theorem Jo (b : Nat) : ∀ (l : List Str), (∀ t ∈ l, t.length ≤ b) → (l.map (·.length)).sum ≤ b * l.length
 | [], _ => by simp
 | t :: l, h => by
  have h1 := Jo b l fun x hx => h x (.tail _ hx)
  have h2 := h t (.head _)
  simp only [List.map_cons, List.sum_cons, List.length_cons, Nat.mul_add, Nat.mul_one]
  exact (an 0xa448452340280a344050a0 [_,_,_,_]) h1 h2
theorem KU {b : Nat} {l : List Str} (h : ∀ t ∈ l, t.length ≤ b) : (km l).length ≤ b * l.length := by
 unfold km Txt.join
 rw [StrLaws.glued_eq_join]
 have h1 := StrLaws.join_length_le Str.empty l
 have h2 := Jo b l h
 have h3 : Str.empty.length = 0 := rfl
 rw [h3, Nat.mul_zero] at h1
 exact (an 0x28089448052144290a0 [_,_,_]) h1 h2
theorem Ku (x : Option Nat) : (kO x).length ≤ 1 := by
 cases x with
 | none => exact Nat.zero_le _
 | some c => exact Nat.le_refl _
theorem Kt {is : List (Option Nat)} (h : is.length ≤ 100) (i : Nat) : JoinOk Str.empty (((is.drop i).takeWhile zD).map kO) = true ∧ (km (((is.drop i).takeWhile zD).map kO)).length ≤ 300 := by
 have h1 : ((is.drop i).takeWhile zD).length ≤ 100 := by
  have a := (List.takeWhile_sublist zD (l := is.drop i)).length_le
  rw [List.length_drop] at a
  exact (an 0x2a2431284502448500a890c4a0 [_,_,_]) h a
 have h2 : ∀ t ∈ ((is.drop i).takeWhile zD).map kO, t.length ≤ 1 := fun t ht => by
  refine zc (List.mem_map.mp ht) fun x _ hq2 => ?_
  obtain rfl := hq2
  exact Ku x
 refine ⟨xf (by rw [List.length_map]; exact (an 0x544862500a99244a0 [_]) h1) (fun t ht => Nat.le_trans (h2 t ht) (by exact (an 0x54a9426089 []))), ?_⟩
 have := KU h2
 rw [List.length_map] at this
 exact (an 0x151218942282a1822500a99244a0 [_,_]) h1 this
theorem Zk : ∀ (f : Nat) (l : List (Option Nat)), l.length ≤ 100 → (∀ t ∈ yb f l, t.length ≤ 330) ∧ (yb f l).length ≤ l.length
 | 0, l, _ => by simp [yb]
 | f + 1, [], _ => by simp [yb]
 | f + 1, some _ :: _, _ => by simp [yb]
 | f + 1, [none], _ => by
  have e : (Str.ofString ".*").length = 2 := by decide +kernel
  simp [yb, e]
 | f + 1, none :: a :: tl, h => by
  have e : (Str.ofString ".*").length = 2 := by decide +kernel
  have le1 : (Str.empty ++ Str.ofString "(?>.*?").length = 6 := by decide +kernel
  have le2 : (Str.ofString ")").length = 1 := by decide +kernel
  have hk := (Kt (is := a :: tl) (by simp at h ⊢; exact (an 0x542862500a870c4a0 [_]) h) 0).2
  rw [List.drop_zero] at hk
  cases q : (a :: tl).dropWhile zD with
  | nil =>
   have g : yb (f + 1) (none :: a :: tl) = [Str.ofString ".*", km (((a :: tl).takeWhile zD).map kO)] := by simp only [yb]; rw [q]
   rw [g]
   refine ⟨fun t ht => ?_, by simp⟩
   rcases List.mem_cons.mp ht with rfl | ht
   · exact (an 0xc842500a95284a0 [_]) e
   · rcases List.mem_cons.mp ht with rfl | ht
     · exact (an 0x54c922500a95284a0 [_]) hk
     · cases ht
  | cons y ys =>
   have g : yb (f + 1) (none :: a :: tl) = (Str.empty ++ Str.ofString "(?>.*?" ++ km (((a :: tl).takeWhile zD).map kO) ++ Str.ofString ")") :: yb f (y :: ys) := by simp only [yb]; rw [q]
   have hl : (y :: ys).length ≤ (a :: tl).length := by rw [← q]; exact (List.dropWhile_sublist zD).length_le
   have ih := Zk f (y :: ys) (by simp at h hl ⊢; exact (an 0xa850c4a1148500a870c4a0 [_,_]) h hl)
   rw [g]
   refine ⟨fun t ht => ?_, by simp at hl ih ⊢; exact (an 0x280c1128900a428850182250a0 [_,_,_]) ih.2 hl⟩
   rcases List.mem_cons.mp ht with rfl | ht
   · rw [strLen_append, strLen_append, le1, le2]; exact (an 0x1532489402a54a12060890282309 [_]) hk
   · exact ih.1 t ht
theorem Xk {is : List (Option Nat)} (h : is.length ≤ 100) : JoinOk Str.empty (yi is) = true ∧ (km (yi is)).length ≤ 100000 := by
 have h1 : (is.takeWhile zD).length ≤ 100 := Nat.le_trans (List.takeWhile_sublist zD).length_le h
 have h2 : (is.dropWhile zD).length ≤ 100 := Nat.le_trans (List.dropWhile_sublist zD).length_le h
 have g := Zk (is.length + 1) (is.dropWhile zD) h2
 have h3 : ∀ t ∈ yi is, t.length ≤ 330 := fun t ht => by
  rcases List.mem_append.mp ht with ht | ht
  · refine zc (List.mem_map.mp ht) fun x _ hq2 => ?_
    obtain rfl := hq2
    exact Nat.le_trans (Ku x) (by exact (an 0x54a9426089 []))
  · exact g.1 t ht
 have h4 : (yi is).length ≤ 200 := by
  unfold yi; rw [List.length_append, List.length_map]; have := g.2; exact (an 0x1512189402a2431288522422a44612050a0 [_,_,_]) h1 h2 g.2
 refine ⟨xf (by exact (an 0x5488c2500a99244a0 [_]) h4) h3, ?_⟩
 have := KU h3
 have : 330 * (yi is).length ≤ 66000 := by exact (an 0x1522309402a84e8108485412a509 [_]) h4
 exact (an 0x2a4461284505432a509402a055830c4a0 [_,_]) h4 ‹_›
end
section
noncomputable abbrev iF (Lz : Addr) : Env := envOf "_NodeInfo.__init__" (fdS (mAt 19 1)) Lz 316 (.ref 315)
theorem au (P : Params) : (K P).lookup 316 = some bX := by kernel_rfl
theorem Vd (P : Params) : codeIn (K P) (.ref 315) "_NodeInfo.__init__" = true := by kernel_rfl
theorem ip (P : Params) : nsIn (K P) mainGlobals "_NodeInfo" = some (some (.ref 320)) := by kernel_rfl
theorem im (P : Params) : nsIn (K P) mainGlobals "TopologicalSorter" = some (some (.ref 417)) := by kernel_rfl
section
theorem ii {x : Str} {t : Tok} {Q : PV} (X : Bd (K C.w.params) mg mb q loose C) (hroom : A.depth + 2 < recursionLimit)
 (h : ∀ H' a dx sc t u, Ext H H' → H a = none → H dx = none → H sc = none → qg H' a dx cNI [some (.str x t), some (.int 0 u), some (.ref sc)] → H' sc = some (ze [] 0) → Q (.ref a) m H') :
 W C A L (call (.ref 320) [.str x t]) Q E m H := by
 refine K6 X (by kernel_rfl) (fI := 316) (by kernel_rfl) (by kernel_rfl) (fun a dx ha hdx hadx haL hdL => ?_)
 have e0 : put (put H dx emptyDict) a (instObj cNI dx) dx = some emptyDict := (za (Ne.symm hadx)).trans zb
 refine xP (binds := [("self", .ref a), ("node", .str x t)]) (Qf := fun v H' => v = .none ∧ ∃ sc t u, qg H' a dx cNI [some (.str x t), some (.int 0 u), some (.ref sc)] ∧ H' sc = some (ze [] 0) ∧ sc ≠ a ∧ sc ≠ dx)
  (put (put (fun _ => none) dx emptyDict) a (instObj cNI dx)) X (au _) (Vd _) (by show A.depth + 1 < _; exact (an 0x16840c212805a103044a0 [_,_]) hroom) (fun s _ => .of_eq (by kernel_rfl)) ?_ (fun b o e => ?_) (fun B' L' eB => ?_) (fun v Hf' H' hv u => ?_)
  (by kernel_rfl) (by kernel_rfl) (by kernel_rfl) ?_
 · intro y hy
   exact vD (by kernel_rfl) y hy
 · by_cases q1 : b = a
   · subst q1; rw [zb] at e ⊢; exact e
   · rw [za q1] at e ⊢
     by_cases q2 : b = dx
     · subst q2; rw [zb] at e ⊢; exact e
     · rw [za q2] at e; cases e
 · have X' := X.mono eB
   have m1 : (bl [("self", .ref a), ("node", .str x t)]) "self" = some (.ref a) := by kernel_rfl
   have m2 : (bl [("self", .ref a), ("node", .str x t)]) "node" = some (.str x t) := by kernel_rfl
   generalize (bl [("self", .ref a), ("node", .str x t)]) = m0 at m1 m2 ⊢
   refine yc (env := iF L') ?_
   have I0 : qg (put (put (fun _ => none) dx emptyDict) a (instObj cNI dx)) a dx cNI [] := ⟨zb, (za (Ne.symm hadx)).trans zb⟩
   walk_at "r"
   refine yZ X' I0 (i := 0) (p := 321) (fun I1 => ?_) (by kernel_rfl) (by kernel_rfl) (by kernel_rfl) (by kernel_rfl) (by kernel_rfl) (by decide)
   walk_at "r"
   refine yZ X' I1 (i := 1) (p := 322) (fun I2 => ?_) (by kernel_rfl) (by kernel_rfl) (by kernel_rfl) (by kernel_rfl) (by kernel_rfl) (by decide)
   walk_at "r"
   refine zK (by decide +kernel) (fun sc hsc hscL => ?_)
   walk_at "r"
   have ns1 : sc ≠ a := fun z => by rw [z, zb] at hsc; cases hsc
   have ns2 : sc ≠ dx := fun z => by rw [z] at hsc; rw [I2.dict] at hsc; cases hsc
   refine yZ X' (I2.ext (Ext.put_new hsc)) (i := 2) (p := 323) (fun I3 => ?_) (by kernel_rfl) (by kernel_rfl) (by kernel_rfl) (by kernel_rfl) (by kernel_rfl) (by decide)
   walk_at "r"
   exact (yg rfl (qp sc _ _ (qs I3 ((za ns1).trans zb) ns1 ns2)))
 · refine hdG fun gQ gZ => ?_
   refine z5 hv fun hq0 zq => vK zq fun sc t' u' zq => xS zq fun I hs n1 n2 => ?_
   refine gZ ?_
   try clear hv
   obtain rfl := hq0
   have hf : put (put (fun _ => none) dx emptyDict) a (instObj cNI dx) sc = none := by rw [za n1, za n2]
   refine ⟨rfl, h H' a dx sc t' u' (fun b o e => ?_) ha hdx ?_ ⟨u.in_ _ _ I.obj, u.in_ _ _ I.dict⟩ (u.in_ _ _ hs)⟩
   · have b1 : b ≠ a := fun z => by rw [z, ha] at e; cases e
     have b2 : b ≠ dx := fun z => by rw [z, hdx] at e; cases e
     exact u.out b o (by rw [za b1, za b2]; exact e) (by rw [za b1, za b2])
   · have := u.fresh sc hf (by rw [hs]; simp)
     rwa [za n1, za n2] at this
 · have e : (fdS (mAt 19 1)).names.all (fun x => x.2 != .cell) = true := by kernel_rfl
   intro x hx; have := List.all_eq_true.mp e x hx; exact bne_iff_ne.mp this
end
end
section
noncomputable abbrev iE (Lz : Addr) : Env := envOf "TopologicalSorter.__init__" (fdS (mAt 21 1)) Lz 353 (.ref 352)
theorem Wg (P : Params) : (K P).lookup 353 = some Wu := by kernel_rfl
theorem JR (P : Params) : codeIn (K P) (.ref 352) "TopologicalSorter.__init__" = true := by kernel_rfl
section
theorem cN {f : Mp} {x y : Str} {v : Value} (h : y ≠ x) : set f x v y = f y := zk h
theorem hV {Q : PV} (X : Bd (K C.w.params) mg mb q loose C) (hroom : A.depth + 2 < recursionLimit)
 (h : ∀ H' S dS N, Ext H H' → H S = none → H dS = none → H N = none → zs C.prog C.w H' S dS N [] none 0 0 → Q (.ref S) m H') :
 W C A L (call (.ref 417) []) Q E m H := by
 refine K6 X (by kernel_rfl) (fI := 353) (by kernel_rfl) (by kernel_rfl) (fun a dx ha hdx hadx haL hdL => ?_)
 refine xP (binds := [("self", .ref a), ("graph", .none)]) (Qf := fun v H' => v = .none ∧ ∃ N, zs C.prog C.w H' a dx N [] none 0 0 ∧ N ≠ a ∧ N ≠ dx)
  (put (put (fun _ => none) dx emptyDict) a (instObj cTS dx)) X (Wg _) (JR _) (by show A.depth + 1 < _; exact (an 0x16840c212805a103044a0 [_,_]) hroom) (fun s XX => zx XX (fun _ => by kernel_rfl)) ?_ (fun b o e => ?_) (fun B' L' eB => ?_) (fun v Hf' H' hv u => ?_)
  (by kernel_rfl) (by kernel_rfl) (by kernel_rfl) ?_
 · intro y hy
   exact vD (by kernel_rfl) y hy
 · by_cases q1 : b = a
   · subst q1; rw [zb] at e ⊢; exact e
   · rw [za q1] at e ⊢
     by_cases q2 : b = dx
     · subst q2; rw [zb] at e ⊢; exact e
     · rw [za q2] at e; cases e
 · have X' := X.mono eB
   have m1 : (bl [("self", .ref a), ("graph", .none)]) "self" = some (.ref a) := by kernel_rfl
   have m2 : (bl [("self", .ref a), ("graph", .none)]) "graph" = some .none := by kernel_rfl
   generalize (bl [("self", .ref a), ("graph", .none)]) = m0 at m1 m2 ⊢
   refine yc (env := iE L') ?_
   have I0 : kS (put (put (fun _ => none) dx emptyDict) a (instObj cTS dx)) a dx cTS (fun _ => none) 0 := ⟨zb, (zd _ ((za (Ne.symm hadx)).trans zb) (.nil)), fun _ _ => trivial⟩
   generalize hH0 : put (put (fun _ => none) dx emptyDict) a (instObj cTS dx) = H0 at I0 ⊢
   walk_at "r"
   refine vx X' (a₀ := 353) (o₀ := Wu) (fun N hN hNL hNs => ?_) (by kernel_rfl) (by decide)
   have D0 : zG (PySem.strKind C.prog C.w) (put H0 N emptyDict) N [] := .new hNs
   have nNa : N ≠ a := fun z => by rw [z, I0.obj] at hN; cases hN
   have nNd : N ≠ dx := fun z => by rw [z] at hN; refine zc I0.dict fun o ho _ => ?_; rw [ho] at hN; cases hN
   have I0' := I0.ext (Ext.put_new hN (o := emptyDict))
   generalize hH1 : put H0 N emptyDict = H1 at D0 I0' ⊢
   walk_at "r"
   refine zY X' I0' (by decide) (fun H2 I2 k2 => ?_) (by kernel_rfl) (by kernel_rfl) (by kernel_rfl) (by kernel_rfl)
   walk_at "r"
   refine zY X' I2 (by decide) (fun H3 I3 k3 => ?_) (by kernel_rfl) (by kernel_rfl) (by kernel_rfl) (by kernel_rfl)
   walk_at "r"
   refine zY X' I3 (by decide) (fun H4 I4 k4 => ?_) (by kernel_rfl) (by kernel_rfl) (by kernel_rfl) (by kernel_rfl)
   walk_at "r"
   refine zY X' I4 (by decide) (fun H5 I5 k5 => ?_) (by kernel_rfl) (by kernel_rfl) (by kernel_rfl) (by kernel_rfl)
   walk_at "r"
   refine kn (by rfl) ?_
   walk_at "r"
   refine zT (fun z => ?_) (fun _ => ?_)
   · cases z
   walk_at "r"
   have D5 : zG (PySem.strKind C.prog C.w) H5 N [] := (((D0.eq (k2 _ nNd)).eq (k3 _ nNd)).eq (k4 _ nNd)).eq (k5 _ nNd)
   refine (xx rfl N ⟨(jZ _ I5 (by walk_at "mp") ⟨_, by walk_at "mp"⟩ ⟨_, by walk_at "mp"⟩ (by walk_at "mp") (fun x n1 n2 n3 n4 => ?_)), ⟨D5, (by simp), .nil, (by simp)⟩, ⟨Ne.symm nNd, by simp⟩, (by simp)⟩ nNa nNd)
   rw [zk n3, zk n2, zk n4, zk n1]
 · refine xA hv fun hq0 N S n1 n2 => ?_
   try clear hv
   obtain rfl := hq0
   have hf : put (put (fun _ => none) dx emptyDict) a (instObj cTS dx) N = none := by rw [za n1, za n2]
   have eI : Ext Hf' H' := u.in_
   refine z4 S.inst fun f I f1 f2 f3 f4 f5 => ?_
   refine ⟨rfl, h H' a dx N (fun b o e => ?_) ha hdx ?_ ⟨(jZ f (I.ext eI) f1 f2 f3 f4 f5), S.graph.ext eI, S.apart, (by simp)⟩⟩
   · have b1 : b ≠ a := fun z => by rw [z, ha] at e; cases e
     have b2 : b ≠ dx := fun z => by rw [z, hdx] at e; cases e
     exact u.out b o (by rw [za b1, za b2]; exact e) (by rw [za b1, za b2])
   · refine zc S.graph.dict.cls fun o ho _ => ?_
     have := u.fresh N hf (by rw [ho]; simp)
     rwa [za n1, za n2] at this
 · have e : (fdS (mAt 21 1)).names.all (fun x => x.2 != .cell) = true := by kernel_rfl
   intro x hx; have := List.all_eq_true.mp e x hx; exact bne_iff_ne.mp this
end
end
section
noncomputable abbrev iD (Lz : Addr) : Env := envOf "TopologicalSorter._get_nodeinfo" (fdS (mAt 21 2)) Lz 360 (.ref 359)
theorem aW (P : Params) : (K P).lookup 360 = some bW := by kernel_rfl
theorem Vw (P : Params) : codeIn (K P) (.ref 359) "TopologicalSorter._get_nodeinfo" = true := by kernel_rfl
noncomputable def ensureP (G : List PN) (x : Str) : List PN := if G.any (fun n => n.name = x) then G else G ++ [⟨x, 0, []⟩]
theorem wO {p : Program} {w : World} (x : Str) (t : Tok) : (PySem.strKind p w).is x (.str x t) = true := isStrOf_self x t
section
theorem zs.keep {H' : HF} {p : Program} {w : World} {S dS N : Addr} {g : List Nd} {rdy : Option (Addr × List Str)} {np nf : Int} (SA : zs p w H S dS N g rdy np nf) (e : Ext H H') : zs p w H' S dS N g rdy np nf := by
 refine hdG fun gQ gZ => ?_
 obtain ⟨⟨f, I, r⟩, G, a, rd⟩ := SA
 refine gZ ?_
 exact ⟨(zd f (I.ext e) r), G.ext e, a, fun R rs h => by obtain ⟨⟨vs, k, x, y⟩, z⟩ := rd R rs h; exact ⟨(zO vs k (e _ _ x) y), z⟩⟩
theorem gR {S dS N : Addr} {g : List Nd} {rdy : Option (Addr × List Str)} {np nf : Int} {x : Str} {t : Tok} {Q : PV} (X : Bd (K C.w.params) mg mb q loose C) (hroom : A.depth + 4 < recursionLimit)
 (SA : zs C.prog C.w H S dS N g rdy np nf) (hz : g.length ≤ 1000)
 (h : ∀ H' g' d, zs C.prog C.w H' S dS N g' rdy np nf → d ∈ g' → d.n.name = x → g'.map (·.n) = ensureP (g.map (·.n)) x → (∀ b o, H b = some o → b ≠ N → H' b = some o) → Q (.ref d.a) m H') :
 W C A L (call (.ref 360) [.ref S, .str x t]) Q E m H := by
 refine zF (binds := [("self", .ref S), ("node", .str x t)]) (Qf := fun v H' => ∃ g' d, v = .ref d.a ∧ zs C.prog C.w H' S dS N g' rdy np nf ∧ d ∈ g' ∧ d.n.name = x ∧ g'.map (·.n) = ensureP (g.map (·.n)) x ∧ (∀ b o, H b = some o → b ≠ N → H' b = some o))
  H X (aW _) (Vw _) (yu hroom) (fun s XX => zx XX (fun _ => by kernel_rfl)) ?_ Ext.rfl' (fun B' L' eB => ?_) (fun v Hf' H' hv u => ?_)
  (by kernel_rfl) (by kernel_rfl) (by kernel_rfl) ?_
 · intro y hy
   exact vD (by kernel_rfl) y hy
 · have X' := X.mono eB
   have m1 : (bl [("self", .ref S), ("node", .str x t)]) "self" = some (.ref S) := by kernel_rfl
   have m2 : (bl [("self", .ref S), ("node", .str x t)]) "node" = some (.str x t) := by kernel_rfl
   generalize (bl [("self", .ref S), ("node", .str x t)]) = m0 at m1 m2 ⊢
   refine hdG fun gQ gZ => ?_
   refine z4 SA.inst fun f I f1 hq3 hq4 f4 f5 => ?_
   obtain ⟨t1, f2⟩ := hq3
   obtain ⟨t2, f3⟩ := hq4
   refine gZ ?_
   refine yc (env := iD L') ?_
   walk_at "r"
   with_reducible refine vv ?_
   walk_at "r"
   with_reducible refine zC ?_
   walk_at "r"
   refine zr X' I f1 ?_ (by kernel_rfl) (by kernel_rfl) (attr := none) (by kernel_rfl) (by kernel_rfl) (by rfl)
   refine (zy ("dict") ("dict.get") PySem.F.plainAttrs_dict PySem.F.slot_dict_get PySem.F.type_dict_get SA.graph.dict.hasT ?_)
   walk_at "r"
   refine we (C := (C.at_ B')) SA.graph.dict (wO x t) ?_
   cases hv : valueAt (kK g) x with
   | some v =>
    refine zu (SA.graph.of_val hv) fun d hd hdx hq3 => ?_
    obtain rfl := hq3
    show W _ _ _ _ _ _ _ _
    walk_at "r"
    refine yl (by rfl) ?_
    walk_at "r"
    refine zT (fun z => ?_) (fun _ => ?_)
    · cases z
    walk_at "r"
    refine (yL g d (qr rfl SA hd hdx ?_ (fun _ _ e _ => e)))
    unfold ensureP
    rw [if_pos (List.any_eq_true.mpr (zd d.n (List.mem_map.mpr (zd d hd rfl)) (by simp [hdx])))]
   | none =>
    have hnot : ∀ d ∈ g, d.n.name ≠ x := fun d hd e => by rw [← e, SA.graph.val hd] at hv; cases hv
    show W _ _ _ _ _ _ _ _
    walk_at "r"
    refine yl (by rfl) ?_
    walk_at "r"
    refine zT (fun _ => ?_) (fun z => ?_)
    · walk_at "r"
      refine zm ?_
      with_reducible refine zJ X' (ip _) (by kernel_rfl) ?_
      walk_at "r"
      refine ii X' (by show A.depth + 1 + 2 < _; exact (an 0x2d081882500b420610903044a0 [_,_]) hroom) (fun H1 a dx sc t' u' e1 ha hdx hsc I1 hs1 => ?_)
      have SA1 := SA.keep e1
      refine qB ?_
      walk_at "r"
      with_reducible refine Qc ?_
      walk_at "r"
      refine zr X' (I.ext e1) f1 ?_ (by kernel_rfl) (by kernel_rfl) (attr := none) (by kernel_rfl) (by kernel_rfl) (by rfl)
      walk_at "r"
      refine jc (C := (C.at_ B')) SA1.graph.dict (wO x t) (by rw [sizeLine_eq]; simp; omega) (fun o D1 => ?_)
      walk_at "r"
      have nS : stored (kK g) x (.ref a) = kK (g ++ [⟨⟨x, 0, []⟩, a, dx, sc⟩]) := by
       unfold stored kK
       rw [if_neg, List.map_append]
       · rfl
       · intro z
         refine zc (List.any_eq_true.mp z) fun kv hk e => ?_
         refine zc (List.mem_map.mp hk) fun d hd hq2 => ?_
         obtain rfl := hq2
         exact hnot d hd (by simpa using e)
      rw [nS] at D1
      have keepN : ∀ b, b ≠ N → put H1 N o b = H1 b := fun b n => za n
      have nclsN : ∀ {b : Addr} {ob : Obj}, H1 b = some ob → ob.cls ≠ .type "dict" → b ≠ N := fun hb hc => SA1.graph.dict.ne hb hc
      have hNN : ∀ b, H b = none → b ≠ N := fun b hb z => by rw [z] at hb; refine zc SA.graph.dict.cls fun oN hN _ => ?_; rw [hN] at hb; cases hb
      refine xh ?_
      walk_at "r"
      have I' := I.ext e1
      refine zc I'.dict fun oS hoS hS2 => ?_
      refine (yL (g ++ [⟨⟨x, 0, []⟩, a, dx, sc⟩]) ⟨⟨x, 0, []⟩, a, dx, sc⟩ (qr rfl ⟨(jZ f ⟨(za (nclsN I'.obj (by intro z; cases z))).trans I'.obj, (zd oS ((za SA.apart.1).trans hoS) hS2), fun _ _ => trivial⟩ f1 ⟨t1, f2⟩ ⟨t2, f3⟩ f4 f5), ⟨D1, fun d hd => ?_, ?_, fun d hd => ?_⟩, ⟨SA.apart.1, fun d hd => ?_⟩, fun R rs hR => ?_⟩ (by simp) rfl ?_ (fun b ob e n => (za n).trans (e1 b ob e))))
      · rcases List.mem_append.mp hd with hd | hd
        · refine hdG fun gQ gZ => ?_
          obtain ⟨⟨t', u', Id⟩, vs, k, hs, hSd⟩ := SA1.graph.nodes d hd
          refine gZ ?_
          exact ⟨(yL t' u' ⟨ (za (nclsN Id.obj (by intro z; cases z))).trans Id.obj, (za (SA1.graph.dxN d hd)).trans Id.dict⟩), vs, k, (za (nclsN hs (by simp))).trans hs, hSd⟩
        · obtain rfl := List.mem_singleton.mp hd
          exact ⟨(yL _ _ ⟨ (za (hNN _ ha)).trans I1.obj, (za (hNN _ hdx)).trans I1.dict⟩), [], 0, (za (hNN _ hsc)).trans hs1, .nil⟩
      · rw [List.map_append, List.nodup_append]
        refine (zl SA.graph.inj (by simp) (fun b hb c hc => ?_))
        obtain rfl := List.mem_singleton.mp hc
        refine hdG fun gQ gZ => ?_
        refine zc (List.mem_map.mp hb) fun d hd hq2 => ?_
        obtain rfl := hq2
        obtain ⟨_, vs, k, hs, _⟩ := SA.graph.nodes d hd
        refine gZ ?_
        intro z; rw [z, hsc] at hs; cases hs
      · rcases List.mem_append.mp hd with hd | hd
        · exact SA.graph.dxN d hd
        · obtain rfl := List.mem_singleton.mp hd
          exact hNN _ hdx
      · rcases List.mem_append.mp hd with hd | hd
        · exact SA.apart.2 d hd
        · obtain rfl := List.mem_singleton.mp hd
          intro z
          refine zc I.dict fun oS0 h0 _ => ?_
          rw [z, hdx] at h0; cases h0
      · refine hdG fun gQ gZ => ?_
        obtain ⟨⟨vs, k, hr, hrS⟩, hrd⟩ := SA.ready R rs hR
        refine gZ ?_
        refine ⟨(zO vs k ((za (nclsN (e1 _ _ hr) (by simp))).trans (e1 _ _ hr)) hrS), fun d hd => ?_⟩
        rcases List.mem_append.mp hd with hd | hd
        · exact hrd d hd
        · obtain rfl := List.mem_singleton.mp hd
          intro z
          rw [z, hsc] at hr; cases hr
      · unfold ensureP
        rw [if_neg, List.map_append]
        · rfl
        · intro z
          refine zc (List.any_eq_true.mp z) fun n hn e => ?_
          refine zc (List.mem_map.mp hn) fun d hd hq2 => ?_
          obtain rfl := hq2
          exact hnot d hd (by simpa using e)
    · cases z
 · refine yE hv fun g' d zq => kg zq fun hq2 a1 a2 a3 a4 a5 => ?_
   try clear hv
   obtain rfl := hq2
   exact h H' g' d (a1.keep u.in_) a2 a3 a4 fun b o e n => u.in_ _ _ (a5 b o e n)
 · have e : (fdS (mAt 21 2)).names.all (fun x => x.2 != .cell) = true := by kernel_rfl
   intro x hx; have := List.all_eq_true.mp e x hx; exact bne_iff_ne.mp this
end
end
section
noncomputable abbrev gW (Lz : Addr) : Env := envOf "TopologicalSorter.add" (fdS (mAt 21 3)) Lz 367 (.ref 366)
theorem bw (P : Params) : (K P).lookup 367 = some bV := by kernel_rfl
theorem VR (P : Params) : codeIn (K P) (.ref 366) "TopologicalSorter.add" = true := by kernel_rfl
theorem Ko (P : Params) : nsIn (K P) mainGlobals "len" = some none := by kernel_rfl
theorem KY : bootBuiltins "len" = some (.builtin "len") := by decide +kernel
noncomputable def xL (G : List PN) (x : Str) (k : Int) : List PN := yG G x fun n => { n with np := n.np + k }
noncomputable def vF (G : List PN) (p x : Str) : List PN := yG (ensureP G p) p fun n => { n with ss := n.ss ++ [x] }
noncomputable def Wb (G : List PN) (x : Str) (ps : List Str) : List PN := ps.foldl (fun G p => vF G p x) (xL (ensureP G x) x ps.length)
noncomputable abbrev eU : FuncData := fnOf "add" "TopologicalSorter.add" (fdA (mAt 21 3)) (fdB (mAt 21 3)) (fdS (mAt 21 3)) .none .none (.str (kL (mAt 21 3)) 1019) (.str (Str.ofString "cpy313.graphlib") 909) none (.ref 366) .none
abbrev jb (S : Addr) (x : Str) (t : Tok) : List (Str × Value) := [("self", .ref S), ("node", .str x t)]
theorem zX {n : Nat} (h : n ≤ 100000) : n ≤ sizeLine := by rw [sizeLine_eq]; omega
theorem qX (G : List PN) (x : Str) : (ensureP G x).length ≤ G.length + 1 := by unfold ensureP; split <;> simp
theorem XM (G : List PN) (x : Str) (f : PN → PN) : (yG G x f).length = G.length := by unfold yG; simp
theorem qw {G : List PN} {x : Str} {B : Nat} (h : ∀ n ∈ G, n.ss.length ≤ B) : ∀ n ∈ ensureP G x, n.ss.length ≤ B := fun n hn => by
 unfold ensureP at hn; split at hn
 · exact h n hn
 · rcases List.mem_append.mp hn with hn | hn
   · exact h n hn
   · obtain rfl := List.mem_singleton.mp hn; simp
section
theorem hO {S dS N : Addr} {Hs : HF} {g : List Nd} {np nf : Int} {x : Str} {t : Tok} {pvs : List Value} {ps : List Str} {Q : PV} (X : Bd (K C.w.params) mg mb q loose C) (hroom : A.depth + 5 < recursionLimit) (hh : A.handled = none)
 (hb : bindArgs eU ⟨.ref S :: .str x t :: pvs, []⟩ = (newTuple pvs >>= fun t' => pure (jb S x t ++ [(("predecessors" : Str), t')])))
 (hx : Ext Hs H) (SA : zs C.prog C.w Hs S dS N g none np nf) (hps : StrsAre pvs ps) (hz : g.length + ps.length + 1 ≤ 1000) (hB : ∀ d ∈ g, d.n.ss.length ≤ 1000)
 (h : ∀ H' Hs' g', zs C.prog C.w Hs' S dS N g' none np nf → Upd Hs H Hs' H' → g'.map (·.n) = Wb (g.map (·.n)) x ps → Q .none m H') :
 W C A L (call (.ref 367) (.ref S :: .str x t :: pvs)) Q E m H := by
 have hlen : pvs.length = ps.length := hps.length
 refine vo (js (front := jb S x t) (nm := "predecessors") (rest := pvs) (Qf := fun v H' => v = .none ∧ ∃ g', zs C.prog C.w H' S dS N g' none np nf ∧ g'.map (·.n) = Wb (g.map (·.n)) x ps)
  Hs X (bw _) (VR _) (by exact (an 0xb4206289402d0a0 [_,_]) hroom) hb (zX (by exact (an 0x1522f8903044814484622402a055830c4a0 [_,_,_]) hz hlen)) ?_ hx (fun B' L' T eB hL hT => ?_) (fun v Hf' H' hv u => ?_)
  (by kernel_rfl) (by kernel_rfl) (by kernel_rfl) ?_)
 · intro tv y hy
   have e1 : (fdS (mAt 21 3)).names.lookup ("self" : Str) = some .local := by kernel_rfl
   have e2 : (fdS (mAt 21 3)).names.lookup ("node" : Str) = some .local := by kernel_rfl
   have e3 : (fdS (mAt 21 3)).names.lookup ("predecessors" : Str) = some .local := by kernel_rfl
   simp only [List.cons_append, List.nil_append, List.mem_cons, List.not_mem_nil, or_false] at hy
   rcases hy with rfl | rfl | rfl
   · exact e1
   · exact e2
   · exact e3
 · have X' := X.mono eB
   have m1 : (fun z => (jb S x t ++ [(("predecessors" : Str), Value.ref T)]).reverse.lookup z) "self" = some (.ref S) := by kernel_rfl
   have m2 : (fun z => (jb S x t ++ [(("predecessors" : Str), Value.ref T)]).reverse.lookup z) "node" = some (.str x t) := by kernel_rfl
   have m3 : (fun z => (jb S x t ++ [(("predecessors" : Str), Value.ref T)]).reverse.lookup z) "predecessors" = some (.ref T) := by kernel_rfl
   generalize (fun z => (jb S x t ++ [(("predecessors" : Str), Value.ref T)]).reverse.lookup z) = m0 at m1 m2 m3 ⊢
   have hh' : (A.deeper (gW L')).handled = none := hh
   have SA0 := SA.keep (Ext.put_new hT (o := yp pvs 0))
   have tT : put Hs T (yp pvs 0) T = some (yp pvs 0) := zb
   generalize put Hs T (yp pvs 0) = H0 at SA0 tT ⊢
   refine hdG fun gQ gZ => ?_
   refine z4 SA0.inst fun f I f1 hq3 hq4 f4 f5 => ?_
   obtain ⟨t1, f2⟩ := hq3
   obtain ⟨t2, f3⟩ := hq4
   refine gZ ?_
   have hTN : ∀ {H1 : HF} {g1 : List Nd}, zs C.prog C.w H1 S dS N g1 none np nf → H1 T = some (yp pvs 0) → T ≠ N := fun s e => s.graph.dict.ne e (by simp)
   refine yc (env := gW L') ?_
   walk_at "r"
   refine zr X' I f4 ?_ (by kernel_rfl) (by kernel_rfl) (attr := none) (by kernel_rfl) (by kernel_rfl) (by rfl)
   walk_at "r"
   refine kn (by rfl) ?_
   walk_at "r"
   refine zT (fun z => ?_) (fun _ => ?_)
   · cases z
   walk_at "r"
   refine xN X' ?_ _ rfl (by kernel_rfl) (by kernel_rfl)
   walk_at "r"
   refine (yn S dS cTS 360 f 4 rfl I (f5 _ (by decide +kernel) (by decide +kernel) (by decide +kernel) (by decide +kernel)) (by kernel_rfl) (by kernel_rfl) (by kernel_rfl) (by kernel_rfl) ?_)
   walk_at "r"
   refine gR X' (by show A.depth + 1 + 4 < _; exact (an 0x2d0818a2500b420620903044a0 [_,_]) hroom) SA0 (by exact (an 0x548be240c112050a0188510a917c4a0 [_,_,_]) hz hlen) (fun H1 g1 d1 SA1 hd1 hx1 hG1 keep1 => ?_)
   walk_at "r"
   have tT1 : H1 T = some (yp pvs 0) := keep1 _ _ tT (hTN SA0 tT)
   refine hdG fun gQ gZ => ?_
   obtain ⟨⟨u1, u2, I1⟩, vs1, k1, hs1, hS1⟩ := SA1.graph.nodes d1 hd1
   refine gZ ?_
   refine qD ?_
   walk_at "r"
   refine yz X' I1 (i := 1) (p := 322) rfl ?_ (by kernel_rfl) (by kernel_rfl) (by kernel_rfl) (by kernel_rfl) (by kernel_rfl) (by kernel_rfl) (by rfl)
   with_reducible refine zh X' (Ko _) KY ?_
   walk_at "r"
   refine wc tT1 (zX (by exact (an 0x1522f8903044814484622402a055830c4a0 [_,_,_]) hz hlen)) (fun tl => ?_)
   refine wM (fun ti => ?_)
   refine yZ X' I1 (i := 1) (p := 322) (fun I2 => ?_) (by kernel_rfl) (by kernel_rfl) (by kernel_rfl) (by kernel_rfl) (by kernel_rfl) (by decide)
   have G2 := SA1.graph.setNp hd1 (v := d1.n.np + pvs.length) (t := u1) (u := ti)
   have SA2 := SA1.upd I1.obj (by intro z; cases z) (by intro z; cases z) (fun b n => za n) G2 (fun R rs z => by cases z)
   have hTa : T ≠ d1.a := zi tT1 I1.obj (by intro z; cases z)
   have tT2 := (za (H := H1) (o := ⟨.ref cNI, some d1.dx, .plain, [some (.str d1.n.name u1), some (.int (d1.n.np + pvs.length) ti), some (.ref d1.sc)].toArray⟩) hTa).trans tT1
   change W _ _ _ _ _ _ _ (put H1 d1.a ⟨.ref cNI, some d1.dx, .plain, [some (.str d1.n.name u1), some (.int (d1.n.np + pvs.length) ti), some (.ref d1.sc)].toArray⟩)
   have hG2 : (vE g1 d1.n.name fun n => { n with np := d1.n.np + pvs.length }).map (·.n) = xL (ensureP (g.map (·.n)) x) x ps.length := by
    rw [xq, hG1, hx1]
    unfold xL yG
    refine List.map_congr_left fun n hn => ?_
    split
    · rename_i hnx
      rw [← hG1] at hn
      refine zc (List.mem_map.mp hn) fun d hd hq2 => ?_
      obtain rfl := hq2
      have := SA1.graph.same hd hd1 (hnx.trans hx1.symm)
      rw [this, hlen]
    · rfl
   have hl2 : (vE g1 d1.n.name fun n => { n with np := d1.n.np + pvs.length }).length ≤ g.length + 1 := by
    have e := congrArg List.length hG2
    rw [List.length_map] at e
    rw [e]; unfold xL; rw [XM]
    have := qX (g.map (·.n)) x
    rwa [List.length_map] at this
   have hb2 : ∀ d ∈ (vE g1 d1.n.name fun n => { n with np := d1.n.np + pvs.length }), d.n.ss.length ≤ 1000 := fun d hd => by
    have hm : d.n ∈ xL (ensureP (g.map (·.n)) x) x ps.length := by rw [← hG2]; exact List.mem_map.mpr (zd d hd rfl)
    refine zc (List.mem_map.mp hm) fun n hn e => ?_
    have := qw (B := 1000) (fun n hn => by refine zc (List.mem_map.mp hn) fun d hd hq2 => ?_; obtain rfl := hq2; exact hB d hd) n hn
    rw [← e]; split <;> exact this
   generalize (vE g1 d1.n.name fun n => { n with np := d1.n.np + pvs.length }) = g2 at SA2 hG2 hl2 hb2 ⊢
   generalize (put H1 d1.a ⟨.ref cNI, some d1.dx, .plain, [some (.str d1.n.name u1), some (.int (d1.n.np + pvs.length) ti), some (.ref d1.sc)].toArray⟩) = H2 at SA2 tT2 ⊢
   walk_at "r"
   refine kM hh' ?_ (fun _ => rfl)
   walk_at "r"
   refine (zE pvs.length _ [T] (fun k m H => m "self" = some (.ref S) ∧ m "node" = some (.str x t) ∧ H T = some (yp pvs 0) ∧ ∃ g', zs C.prog C.w H S dS N g' none np nf ∧ g'.map (·.n) = (ps.take k).foldl (fun G p => vF G p x) (xL (ensureP (g.map (·.n)) x) x ps.length) ∧ g'.length ≤ g.length + 1 + k ∧ ∀ d ∈ g', d.n.ss.length ≤ 1000 + k)
    (xj tT2) (qs (by walk_at "mp") (by walk_at "mp") tT2 (xa g2 (qs SA2 hG2 hl2 hb2))) (fun b hb => ?_) (fun B'' k v mm HH eB' hk hP hI => W.body fun QQb hQQb => ?_) (fun mm HH hI => ?_))
   · obtain rfl := List.mem_singleton.mp hb
     exact .inr ⟨_, fun k m H z => z.2.2.1⟩
   · refine hdG fun gQ gZ => ?_
     refine xS hI fun i1 i2 i3 zq => yW zq fun g' zq => xS zq fun SA' hG' hl' hb' => ?_
     try clear hI
     refine zI (xb hps hP) fun p tp hq2 hpk => ?_
     obtain rfl := hq2
     have X'' := X'.mono eB'
     refine z4 SA'.inst fun f' I' f1' f2' f3' f4' f5' => ?_
     refine gZ ?_
     walk_at "r"
     refine xN X'' ?_ _ rfl (by kernel_rfl) (by kernel_rfl)
     walk_at "r"
     refine (yn S dS cTS 360 f' 4 rfl I' (f5' _ (by decide +kernel) (by decide +kernel) (by decide +kernel) (by decide +kernel)) (by kernel_rfl) (by kernel_rfl) (by kernel_rfl) (by kernel_rfl) ?_)
     walk_at "r"
     refine gR X'' (by show A.depth + 1 + 4 < _; exact (an 0x2d0818a2500b420620903044a0 [_,_]) hroom) SA' (by exact (an 0xa917c48182240a24231123168d20a02900c1128500a917c4a0 [_,_,_,_,_]) hz hlen hk hl') (fun H3 g3 d3 SA3 hd3 hx3 hG3 keep3 => ?_)
     walk_at "r"
     have tT3 : H3 T = some (yp pvs 0) := keep3 _ _ i3 (hTN SA' i3)
     refine hdG fun gQ gZ => ?_
     obtain ⟨⟨u1, u2, I3⟩, vs3, k3, hs3, hS3⟩ := SA3.graph.nodes d3 hd3
     refine gZ ?_
     with_reducible refine zQ ?_
     with_reducible refine zC ?_
     walk_at "r"
     refine yz X'' I3 (i := 2) (p := 323) rfl ?_ (by kernel_rfl) (by kernel_rfl) (by kernel_rfl) (by kernel_rfl) (by kernel_rfl) (by kernel_rfl) (by rfl)
     refine (zy ("list") ("list.append") PySem.F.plainAttrs_list slot_list_append PySem.F.type_list_append (.ref hs3) ?_)
     walk_at "r"
     have hbd : d3.n.ss.length ≤ 1000 + k := by
      have hm : d3.n ∈ ensureP (g'.map (·.n)) p := by rw [← hG3]; exact List.mem_map.mpr (zd d3 hd3 rfl)
      exact qw (fun n hn => by refine zc (List.mem_map.mp hn) fun d hd hq2 => ?_; obtain rfl := hq2; exact hb' d hd) _ hm
     have hvl : vs3.length = d3.n.ss.length := hS3.length
     refine yB hs3 (zX (by exact (an 0x2a45f1206089028908c448c50182250a4168d28a029645f1298626402a055830c4a0 [_,_,_,_,_,_,_]) hz hlen hl2 hk hbd hvl)) ⟨(fun _ => nofun), ?_⟩
     walk_at "r"
     have G4 := SA3.graph.addSucc hd3 (k := k3 + 1) (x := x) (t := t) hS3
     have SA4 := SA3.upd hs3 (by simp) (by simp) (fun b n => za n) G4 (fun R rs z => by cases z)
     have hTs : T ≠ d3.sc := zi tT3 hs3 (by intro z; have := congrArg Obj.cls z; simp at this)
     refine ⟨by walk_at "mp", by walk_at "mp", (za hTs).trans tT3, _, SA4, ?_, ?_, fun d hd => ?_⟩
     · rw [xq, hG3, hx3, hG', List.take_add_one, hpk, List.foldl_append]; rfl
     · have : (vE g3 d3.n.name fun n => { n with ss := n.ss ++ [x] }).length = g3.length := by unfold vE; simp
       rw [this]
       have e := congrArg List.length hG3
       rw [List.length_map] at e
       have := qX (g'.map (·.n)) p
       rw [List.length_map] at this
       exact (an 0x140510182250a3189100a03044a34828081822510182250a0 [_,_,_,_,_]) hl' e this
     · refine zc (List.mem_map.mp hd) fun c hc hq2 => ?_
       obtain rfl := hq2
       have hbc : c.n.ss.length ≤ 1000 + k := by
        have hm : c.n ∈ ensureP (g'.map (·.n)) p := by rw [← hG3]; exact List.mem_map.mpr (zd c hc rfl)
        exact qw (fun n hn => by refine zc (List.mem_map.mp hn) fun d hd hq2 => ?_; obtain rfl := hq2; exact hb' d hd) _ hm
       split
       · simp; exact (an 0x14050c8be2500a02060894322f8903044a0 [_,_]) hbc
       · exact (an 0xa028645f128050103044a1917c4a0 [_,_]) hbc
   · refine hdG fun gQ gZ => ?_
     refine xS hI fun i1 i2 i3 zq => yW zq fun g' zq => xS zq fun SA' hG' _ _ => ?_
     refine gZ ?_
     try clear hI
     show W _ _ _ _ _ _ _ _
     walk_at "r"
     refine (yg rfl (xa g' (yg SA' ?_)))
     rw [hG', hlen, List.take_length]; rfl
 · refine hdG fun gQ gZ => ?_
   refine z5 hv fun hq0 zq => yW zq fun g' zq => z5 zq fun a1 a2 => ?_
   refine gZ ?_
   try clear hv
   obtain rfl := hq0
   exact h H' Hf' g' a1 u a2
 · have e : (fdS (mAt 21 3)).names.all (fun x => x.2 != .cell) = true := by kernel_rfl
   intro x hx; have := List.all_eq_true.mp e x hx; exact bne_iff_ne.mp this
end
end
section
noncomputable abbrev gV (Lz : Addr) : Env := envOf "TopologicalSorter.get_ready" (fdS (mAt 21 5)) Lz 379 (.ref 378)
theorem aV (P : Params) : (K P).lookup 379 = some bT := by kernel_rfl
theorem Vv (P : Params) : codeIn (K P) (.ref 378) "TopologicalSorter.get_ready" = true := by kernel_rfl
theorem aw (P : Params) : nsIn (K P) mainGlobals "_NODE_OUT" = some (some (.int (-1) 912)) := by kernel_rfl
theorem aA (P : Params) : nsIn (K P) mainGlobals "_NODE_DONE" = some (some (.int (-2) 915)) := by kernel_rfl
theorem Km (P : Params) : nsIn (K P) mainGlobals "tuple" = some none := by kernel_rfl
theorem KW : bootBuiltins "tuple" = some (.type "tuple") := by decide +kernel
noncomputable def ZQ (G : List PN) (xs : List Str) : List PN := xs.foldl (fun G x => yG G x fun n => { n with np := -1 }) G
theorem kA (xs : List Str) : ∀ G : List PN, (ZQ G xs).map (·.name) = G.map (·.name) := by
 induction xs with
 | nil => intro G; rfl
 | cons x xs ih =>
  intro G
  show (ZQ (yG G x _) xs).map _ = _
  rw [ih]
  unfold yG
  rw [List.map_map]
  refine List.map_congr_left fun n _ => ?_
  show (if n.name = x then { n with np := -1 } else n).name = n.name
  split <;> rfl
section
theorem gP {S dS N R : Addr} {Hs : HF} {g : List Nd} {rs : List Str} {np nf : Int} {Q : PV} (X : Bd (K C.w.params) mg mb q loose C) (hroom : A.depth + 3 < recursionLimit) (hh : A.handled = none)
 (hx : Ext Hs H) (SA : zs C.prog C.w Hs S dS N g (some (R, rs)) np nf) (hz : rs.length ≤ 10000) (hin : ∀ x ∈ rs, ∃ d ∈ g, d.n.name = x)
 (h : ∀ H' Hs' g' T vs, zs C.prog C.w Hs' S dS N g' (some (R, [])) (np + rs.length) nf → Upd Hs H Hs' H' → g'.map (·.n) = ZQ (g.map (·.n)) rs → H' T = some (yp vs 0) → StrsAre vs rs → Hs' T = none → H T = none → Q (.ref T) m H') :
 W C A L (call (.ref 379) [.ref S]) Q E m H := by
 refine zF (binds := [("self", .ref S)]) (Qf := fun v H' => ∃ Hs' g' T vs, v = .ref T ∧ Ext Hs' H' ∧ zs C.prog C.w Hs' S dS N g' (some (R, [])) (np + rs.length) nf ∧ g'.map (·.n) = ZQ (g.map (·.n)) rs ∧ H' T = some (yp vs 0) ∧ StrsAre vs rs ∧ Hs' T = none ∧ Hs T = none ∧ (∀ b, Hs b ≠ none ↔ Hs' b ≠ none))
  Hs X (aV _) (Vv _) (yu hroom) (fun s XX => zx XX (fun _ => by kernel_rfl)) ?_ hx (fun B' L' eB => ?_) (fun v Hf' H' hv u => ?_)
  (by kernel_rfl) (by kernel_rfl) (by kernel_rfl) ?_
 · intro y hy
   exact vD (by kernel_rfl) y hy
 · have X' := X.mono eB
   have m1 : (bl [("self", .ref S)]) "self" = some (.ref S) := by kernel_rfl
   generalize (bl [("self", .ref S)]) = m0 at m1 ⊢
   have hh' : (A.deeper (gV L')).handled = none := hh
   refine hdG fun gQ gZ => ?_
   refine z4 SA.inst fun f I f1 hq3 hq4 f4 f5 => ?_
   obtain ⟨t1, f2⟩ := hq3
   obtain ⟨t2, f3⟩ := hq4
   obtain ⟨⟨vs, kr, hr, hrS⟩, hrd⟩ := SA.ready R rs rfl
   refine gZ ?_
   have hvl : vs.length = rs.length := hrS.length
   refine xp (env := gV L') (fun QQf hQQf => ?_)
   walk_at "r"
   refine zr X' I f4 ?_ (by kernel_rfl) (by kernel_rfl) (attr := none) (by kernel_rfl) (by kernel_rfl) (by rfl)
   walk_at "r"
   refine yl (by rfl) ?_
   walk_at "r"
   refine zT (fun z => ?_) (fun _ => ?_)
   · cases z
   walk_at "r"
   with_reducible refine zN X' (Km _) KW ?_
   walk_at "r"
   refine zr X' I f4 ?_ (by kernel_rfl) (by kernel_rfl) (attr := none) (by kernel_rfl) (by kernel_rfl) (by rfl)
   walk_at "r"
   refine K2 hr (zX (by exact (an 0x1542c491284621402a055830c4a0 [_,_]) hz hvl)) (fun T hT hTL => ?_)
   walk_at "r"
   have IT := I.ext (Ext.put_new hT (o := yp vs 0))
   refine zr X' IT f1 ?_ (by kernel_rfl) (by kernel_rfl) (attr := none) (by kernel_rfl) (by kernel_rfl) (by rfl)
   walk_at "r"
   refine kM hh' ?_ (fun _ => rfl)
   walk_at "r"
   have hdom0 : ∀ b, Hs b ≠ none ↔ Hs b ≠ none := fun _ => Iff.rfl
   refine (zE vs.length _ [T] (fun k m H => m "self" = some (.ref S) ∧ m "n2i" = some (.ref N) ∧ m "result" = some (.ref T) ∧ H T = some (yp vs 0) ∧ ∃ Hs' g', Ext Hs' H ∧ zs C.prog C.w Hs' S dS N g' (some (R, rs)) np nf ∧ Hs' T = none ∧ g'.map (·.n) = ZQ (g.map (·.n)) (rs.take k) ∧ (∀ b, Hs b ≠ none ↔ Hs' b ≠ none))
    (xj zb) (Xm (by walk_at "mp") (by walk_at "mp") (by walk_at "mp") zb (yL Hs g (Xm (Ext.put_new hT) SA hT rfl hdom0))) (fun b hb => ?_) (fun B'' k v mm HH eB' hk hP hI => W.body fun QQb hQQb => ?_) (fun mm HH hI => ?_))
   · obtain rfl := List.mem_singleton.mp hb
     exact .inr ⟨_, fun k m H z => z.2.2.2.1⟩
   · refine hdG fun gQ gZ => ?_
     refine vb hI fun i1 i2 i3 iT zq => yE zq fun Hs' g' zq => vb zq fun ex SA' hT' hG' hdom => ?_
     try clear hI
     refine zI (xb hrS hP) fun p tp hq2 hpk => ?_
     obtain rfl := hq2
     have X'' := X'.mono eB'
     have hnames : g'.map (·.n.name) = g.map (·.n.name) := by
      have := kA (rs.take k) (g.map (·.n))
      rw [← hG', List.map_map, List.map_map] at this
      exact this
     refine zc (hin p (List.mem_of_getElem? hpk)) fun d0 hd0 hd0x => ?_
     obtain ⟨d, hd, hdx⟩ : ∃ d ∈ g', d.n.name = p := by
      have hm : p ∈ g'.map (·.n.name) := by rw [hnames]; exact List.mem_map.mpr (zd d0 hd0 hd0x)
      refine zc (List.mem_map.mp hm) fun d hd e => ?_
      exact (zd d hd e)
     obtain ⟨⟨u1, u2, Id⟩, vsd, kd, hsd, hSd⟩ := SA'.graph.nodes d hd
     refine gZ ?_
     walk_at "r"
     refine jd X'' (aw _) ?_
     walk_at "r"
     refine z8.dict (C := (C.at_ B'')) (SA'.graph.dict.ext ex) (wO p tp) (hdx ▸ SA'.graph.val hd) ?_
     walk_at "r"
     refine yZ X'' (Id.ext ex) (i := 1) (p := 322) (fun I2 => ?_) (by kernel_rfl) (by kernel_rfl) (by kernel_rfl) (by kernel_rfl) (by kernel_rfl) (by decide)
     have G2 := SA'.graph.setNp hd (v := -1) (t := u1) (u := 912)
     have SA2 := SA'.upd Id.obj (by intro z; cases z) (by intro z; cases z) (fun b n => za n) G2 (fun R' rs' z => by
      cases z
      refine hdG fun gQ gZ => ?_
      obtain ⟨⟨_, _, hr', _⟩, _⟩ := SA'.ready R rs rfl
      refine gZ ?_
      exact zi hr' Id.obj (by intro z; cases z))
     have hTa : T ≠ d.a := fun z => by rw [← z] at Id; have := Id.obj; rw [hT'] at this; cases this
     walk_at "r"
     refine ⟨by walk_at "mp", by walk_at "mp", by walk_at "mp", (za hTa).trans iT, _, _, fun b o e => ?_, SA2, (za hTa).trans hT', ?_, fun b => ?_⟩
     · by_cases z : b = d.a
       · subst z; rw [zb] at e ⊢; exact e
       · rw [za z] at e; exact (za z).trans (ex b o e)
     · rw [xq, hG', List.take_add_one, hpk]
       unfold ZQ
       rw [List.foldl_append, hdx]; rfl
     · rw [hdom b]
       by_cases z : b = d.a
       · subst z; rw [zb, Id.obj]; simp
       · rw [za z]
   · refine hdG fun gQ gZ => ?_
     refine vb hI fun i1 i2 i3 iT zq => yE zq fun Hs' g' zq => vb zq fun ex SA' hT' hG' hdom => ?_
     refine gZ ?_
     try clear hI
     rw [hvl, List.take_length] at hG'
     refine hdG fun gQ gZ => ?_
     refine z4 SA'.inst fun f' I' f1' hq3 hq4 f4' f5' => ?_
     obtain ⟨t1', f2'⟩ := hq3
     obtain ⟨t2', f3'⟩ := hq4
     obtain ⟨⟨vs', kr', hr', hrS'⟩, hrd'⟩ := SA'.ready R rs rfl
     refine gZ ?_
     show W _ _ _ _ _ _ _ _
     walk_at "r"
     with_reducible refine zQ ?_
     with_reducible refine qz ?_
     walk_at "r"
     refine zr X' (I'.ext ex) f4' ?_ (by kernel_rfl) (by kernel_rfl) (attr := none) (by kernel_rfl) (by kernel_rfl) (by rfl)
     refine (zy ("list") ("list.clear") PySem.F.plainAttrs_list PySem.F.slot_list_clear PySem.F.type_list_clear (.ref (ex _ _ hr')) ?_)
     refine Yb (ex _ _ hr') (zX (by have := hrS'.length; exact (an 0x2a858922508c4288621402a055830c4a0 [_,_,_]) hz hvl this)) (fun k' => ⟨(fun _ => nofun), ?_⟩)
     have SA3 := SA'.app (vs' := []) (rs' := []) (k' := k') .nil
     have hTR : T ≠ R := fun z => by rw [← z, hT'] at hr'; cases hr'
     have iT3 : put HH R (ze [] k') T = some (yp vs 0) := (za hTR).trans iT
     have hT3 : put Hs' R (ze [] k') T = none := (za hTR).trans hT'
     have ex3 : Ext (put Hs' R (ze [] k')) (put HH R (ze [] k')) := fun b o e => by
      by_cases z : b = R
      · subst z; rw [zb] at e ⊢; exact e
      · rw [za z] at e; exact (za z).trans (ex b o e)
     have hdom3 : ∀ b, Hs b ≠ none ↔ put Hs' R (ze [] k') b ≠ none := fun b => by
      rw [hdom b]
      by_cases z : b = R
      · subst z; rw [zb, hr']; simp
      · rw [za z]
     refine hdG fun gQ gZ => ?_
     refine z4 SA3.inst fun f3 I3 f13 hq3 hq4 f43 f53 => ?_
     obtain ⟨t13, f23⟩ := hq3
     obtain ⟨t23, f33⟩ := hq4
     refine gZ ?_
     walk_at "r"
     refine qD ?_
     walk_at "r"
     refine zr X' (I3.ext ex3) f23 ?_ (by kernel_rfl) (by kernel_rfl) (attr := none) (by kernel_rfl) (by kernel_rfl) (by rfl)
     with_reducible refine zh X' (Ko _) KY ?_
     walk_at "r"
     refine wc iT3 (zX (by exact (an 0x1542c491284621402a055830c4a0 [_,_]) hz hvl)) (fun tl => ?_)
     refine wM (fun ti => ?_)
     have cast : ((vs.length : Nat) : Int) = ((rs.length : Nat) : Int) := by rw [hvl]
     refine vn X' (I3.ext ex3) (by decide) (by rw [f23]; rfl) (fun H4 I4 k4 => ?_) (by kernel_rfl) (by kernel_rfl) (by kernel_rfl) (by kernel_rfl)
     refine zc I3.dict fun oD hoD _ => ?_
     refine zc I4.dict fun oD4 hoD4 _ => ?_
     have hTd : T ≠ dS := fun z => by rw [z] at hT3; rw [hoD] at hT3; cases hT3
     have SA4 := SA3.re (I4.patch I3) (fun b n => qm n) (by walk_at "mp") ⟨_, by rw [cast] ; walk_at "mp"⟩ ⟨_, by walk_at "mp"⟩ (by walk_at "mp") (fun x n1 n2 n3 n4 => by rw [zk n2]; exact f53 x n1 n2 n3 n4)
     walk_at "r"
     exact (Ky _ _ T vs (QU rfl (Ke ex3 k4) SA4 hG' ((k4 _ hTd).trans iT3) hrS ((qm hTd).trans hT3) (by
      cases q : Hs T with
      | none => rfl
      | some o => exact absurd hT3 ((hdom3 T).mp (by rw [q]; simp))) (fun b => (hdom3 b).trans (Kg hoD hoD4 b))))
 · refine KM hv fun Hs' g' T vs zq => Q1 zq fun hq4 ex a1 a2 a3 a4 a5 a6 dom => ?_
   try clear hv
   obtain rfl := hq4
   refine h H' Hs' g' T vs a1 ⟨fun a o e => u.in_ _ _ (ex _ _ e), fun a o e n => u.out a o e n, fun a n n' => ?_⟩ a2 (u.in_ _ _ a3) a4 a5 (u.fresh T a6 (by rw [a3]; simp))
   exact absurd ((dom a).mpr n') (by simp [n])
 · have e : (fdS (mAt 21 5)).names.all (fun x => x.2 != .cell) = true := by kernel_rfl
   intro x hx; have := List.all_eq_true.mp e x hx; exact bne_iff_ne.mp this
end
end
section
noncomputable abbrev iC (Lz : Addr) : Env := envOf "TopologicalSorter.is_active" (fdS (mAt 21 6)) Lz 386 (.ref 385)
theorem aU (P : Params) : (K P).lookup 386 = some bS := by kernel_rfl
theorem Vu (P : Params) : codeIn (K P) (.ref 385) "TopologicalSorter.is_active" = true := by kernel_rfl
theorem aB (P : Params) : nsIn (K P) mainGlobals "bool" = some none := by kernel_rfl
theorem bv : bootBuiltins "bool" = some (.type "bool") := by decide +kernel
section
theorem iw {S dS N R : Addr} {Hs : HF} {g : List Nd} {rs : List Str} {np nf : Int} {Q : PV} (X : Bd (K C.w.params) mg mb q loose C) (hroom : A.depth + 3 < recursionLimit)
 (hx : Ext Hs H) (SA : zs C.prog C.w Hs S dS N g (some (R, rs)) np nf) (hz : rs.length ≤ 10000)
 (h : Q (.bool (decide (nf < np) || !rs.isEmpty)) m H) :
 W C A L (call (.ref 386) [.ref S]) Q E m H := by
 refine W.drop (Qf := fun v => v = .bool (decide (nf < np) || !rs.isEmpty)) ?_ (fun v e => by subst e; exact h)
 refine zF (binds := [("self", .ref S)]) (Qf := fun v H' => v = .bool (decide (nf < np) || !rs.isEmpty) ∧ Ext Hs H')
  Hs X (aU _) (Vu _) (yu hroom) (fun s XX => zx XX (fun _ => by kernel_rfl)) ?_ hx (fun B' L' eB => ?_) (fun v Hf' H' hv u => (zl rfl (fun b o e => ?_) hv.1))
  (by kernel_rfl) (by kernel_rfl) (by kernel_rfl) ?_
 · intro y hy
   exact vD (by kernel_rfl) y hy
 · have X' := X.mono eB
   have m1 : (bl [("self", .ref S)]) "self" = some (.ref S) := by kernel_rfl
   generalize (bl [("self", .ref S)]) = m0 at m1 ⊢
   refine hdG fun gQ gZ => ?_
   refine z4 SA.inst fun f I f1 hq3 hq4 f4 f5 => ?_
   obtain ⟨t1, f2⟩ := hq3
   obtain ⟨t2, f3⟩ := hq4
   obtain ⟨⟨vs, kr, hr, hrS⟩, hrd⟩ := SA.ready R rs rfl
   refine gZ ?_
   have hvl : vs.length = rs.length := hrS.length
   have hemp : vs.isEmpty = rs.isEmpty := by cases hrS <;> rfl
   refine yc (env := iC L') ?_
   walk_at "r"
   refine zr X' I f4 ?_ (by kernel_rfl) (by kernel_rfl) (attr := none) (by kernel_rfl) (by kernel_rfl) (by rfl)
   walk_at "r"
   refine yl (by rfl) ?_
   walk_at "r"
   refine zT (fun z => ?_) (fun _ => ?_)
   · cases z
   walk_at "r"
   with_reducible refine iK ?_
   walk_at "r"
   refine zr X' I f3 ?_ (by kernel_rfl) (by kernel_rfl) (attr := none) (by kernel_rfl) (by kernel_rfl) (by rfl)
   walk_at "r"
   refine zr X' I f2 ?_ (by kernel_rfl) (by kernel_rfl) (attr := none) (by kernel_rfl) (by kernel_rfl) (by rfl)
   walk_at "r"
   refine Wr (fun z => ?_) (fun z => ?_)
   · rw [z]; exact ⟨rfl, Ext.rfl'⟩
   · walk_at "r"
     with_reducible refine fB ?_
     walk_at "r"
     with_reducible refine zN X' (aB _) bv ?_
     walk_at "r"
     refine zr X' I f4 ?_ (by kernel_rfl) (by kernel_rfl) (attr := none) (by kernel_rfl) (by kernel_rfl) (by rfl)
     walk_at "r"
     refine Xz hr (zX (by exact (an 0x1542c491284621402a055830c4a0 [_,_]) hz hvl)) ?_
     rw [z, hemp]; exact ⟨rfl, Ext.rfl'⟩
 · cases q : Hs b with
   | none => exact u.out b o e q
   | some o' =>
    have := hx b o' q
    rw [this] at e; cases e
    exact u.in_ _ _ (hv.2 b _ q)
 · have e : (fdS (mAt 21 6)).names.all (fun x => x.2 != .cell) = true := by kernel_rfl
   intro x hx; have := List.all_eq_true.mp e x hx; exact bne_iff_ne.mp this
end
end
section
noncomputable abbrev gU (Lz : Addr) : Env := envOf "TopologicalSorter.done" (fdS (mAt 21 8)) Lz 400 (.ref 399)
theorem bg (P : Params) : (K P).lookup 400 = some bR := by kernel_rfl
theorem VH (P : Params) : codeIn (K P) (.ref 399) "TopologicalSorter.done" = true := by kernel_rfl
noncomputable abbrev aX : FuncData := fnOf "done" "TopologicalSorter.done" (fdA (mAt 21 8)) (fdB (mAt 21 8)) (fdS (mAt 21 8)) .none .none (.str (kL (mAt 21 8)) 1067) (.str (Str.ofString "cpy313.graphlib") 909) none (.ref 399) .none
abbrev vf (S : Addr) : List (Str × Value) := [("self", .ref S)]
noncomputable def vM (st : List PN × List Str) (s : Str) : List PN × List Str := (yG st.1 s fun n => { n with np := n.np - 1 }, if xc st.1 s - 1 = 0 then st.2 ++ [s] else st.2)
noncomputable def doneP (st : List PN × List Str) (x : Str) : List PN × List Str := (wr st.1 x).foldl vM (yG st.1 x fun n => { n with np := -2 }, st.2)
theorem yo (G : List PN) (x : Str) (f : PN → PN) (hf : ∀ n, (f n).name = n.name) : (yG G x f).map (·.name) = G.map (·.name) := by
 unfold yG
 rw [List.map_map]
 refine List.map_congr_left fun n _ => ?_
 show (if n.name = x then f n else n).name = n.name
 split
 · exact hf n
 · rfl
theorem wb (l : List Str) : ∀ st : List PN × List Str, (l.foldl vM st).1.map (·.name) = st.1.map (·.name) := by
 induction l with
 | nil => intro st; rfl
 | cons s l ih =>
  intro st
  rw [List.foldl_cons, ih]
  exact yo _ _ _ fun _ => rfl
theorem ve (st : List PN × List Str) (x : Str) : (doneP st x).1.map (·.name) = st.1.map (·.name) := by
 unfold doneP
 rw [wb]
 exact yo _ _ _ fun _ => rfl
theorem ZJ {G : List PN} {x : Str} {f : PN → PN} (hf : ∀ n, (f n).ss = n.ss) (P : List Str → Prop) (h : ∀ n ∈ G, P n.ss) : ∀ n ∈ yG G x f, P n.ss := fun n hn => by
 refine zc (List.mem_map.mp hn) fun c hc hq2 => ?_
 obtain rfl := hq2
 split
 · rw [hf]; exact h c hc
 · exact h c hc
theorem VL (P : List Str → Prop) (l : List Str) : ∀ st : List PN × List Str, (∀ n ∈ st.1, P n.ss) → ∀ n ∈ (l.foldl vM st).1, P n.ss := by
 induction l with
 | nil => intro st h; exact h
 | cons s l ih =>
  intro st h
  rw [List.foldl_cons]
  exact ih _ (ZJ (by intro _; rfl) P h)
theorem YG (P : List Str → Prop) (st : List PN × List Str) (x : Str) (h : ∀ n ∈ st.1, P n.ss) : ∀ n ∈ (doneP st x).1, P n.ss := by
 unfold doneP
 exact VL P _ _ (ZJ (by intro _; rfl) P h)
theorem vI (l : List Str) : ∀ st : List PN × List Str, (l.foldl doneP st).1.map (·.name) = st.1.map (·.name) := by
 induction l with
 | nil => intro st; rfl
 | cons s l ih => intro st; rw [List.foldl_cons, ih, ve]
theorem ZW (P : List Str → Prop) (l : List Str) : ∀ st : List PN × List Str, (∀ n ∈ st.1, P n.ss) → ∀ n ∈ (l.foldl doneP st).1, P n.ss := by
 induction l with
 | nil => intro st h; exact h
 | cons s l ih => intro st h; rw [List.foldl_cons]; exact ih _ (YG P st s h)
theorem YH (l : List Str) : ∀ st : List PN × List Str, (l.foldl vM st).2.length ≤ st.2.length + l.length := by
 induction l with
 | nil => intro st; simp
 | cons s l ih =>
  intro st
  rw [List.foldl_cons]
  refine Nat.le_trans (ih _) ?_
  unfold vM
  dsimp only
  split
  · simp; exact (an 0xa020608942800a103044a0 [_,_])
  · simp
theorem zz.has {p : Program} {w : World} {H : HF} {N : Addr} {g : List Nd} (G : zz p w H N g) {x : Str} (h : x ∈ (g.map (·.n)).map (·.name)) : ∃ d ∈ g, d.n.name = x := by
 refine zc (List.mem_map.mp h) fun n hn e => ?_
 refine zc (List.mem_map.mp hn) fun d hd hq2 => ?_
 obtain rfl := hq2
 exact (zd d hd e)
section
theorem iI {S dS N R : Addr} {Hs : HF} {g : List Nd} {rs : List Str} {np nf : Int} {pvs : List Value} {ps : List Str} {Q : PV} (X : Bd (K C.w.params) mg mb q loose C) (hroom : A.depth + 5 < recursionLimit) (hh : A.handled = none)
 (hb : bindArgs aX ⟨.ref S :: pvs, []⟩ = (newTuple pvs >>= fun t' => pure (vf S ++ [(("nodes" : Str), t')])))
 (hx : Ext Hs H) (SA : zs C.prog C.w Hs S dS N g (some (R, rs)) np nf) (hps : StrsAre pvs ps) (hz : rs.length ≤ 1000) (hpl : ps.length ≤ 50)
 (hcl : ∀ n ∈ g.map (·.n), n.ss.length ≤ 1000 ∧ ∀ s ∈ n.ss, s ∈ (g.map (·.n)).map (·.name)) (hin : ∀ x ∈ ps, x ∈ (g.map (·.n)).map (·.name))
 (hout : ∀ k x, ps[k]? = some x → xc ((ps.take k).foldl doneP (g.map (·.n), rs)).1 x = -1)
 (h : ∀ H' Hs' g', zs C.prog C.w Hs' S dS N g' (some (R, (ps.foldl doneP (g.map (·.n), rs)).2)) np (nf + ps.length) → Upd Hs H Hs' H' → g'.map (·.n) = (ps.foldl doneP (g.map (·.n), rs)).1 → Q .none m H') :
 W C A L (call (.ref 400) (.ref S :: pvs)) Q E m H := by
 have hlen : pvs.length = ps.length := hps.length
 refine vo (js (front := vf S) (nm := "nodes") (rest := pvs) (Qf := fun v H' => v = .none ∧ ∃ g', zs C.prog C.w H' S dS N g' (some (R, (ps.foldl doneP (g.map (·.n), rs)).2)) np (nf + ps.length) ∧ g'.map (·.n) = (ps.foldl doneP (g.map (·.n), rs)).1)
  Hs X (bg _) (VH _) (by exact (an 0xb4206289402d0a0 [_,_]) hroom) hb (zX (by exact (an 0x2a9411284621402a055830c4a0 [_,_]) hpl hlen)) ?_ hx (fun B' L' T eB hL hT => ?_) (fun v Hf' H' hv u => ?_)
  (by kernel_rfl) (by kernel_rfl) (by kernel_rfl) ?_)
 · intro tv y hy
   have e1 : (fdS (mAt 21 8)).names.lookup ("self" : Str) = some .local := by kernel_rfl
   have e3 : (fdS (mAt 21 8)).names.lookup ("nodes" : Str) = some .local := by kernel_rfl
   simp only [List.cons_append, List.nil_append, List.mem_cons, List.not_mem_nil, or_false] at hy
   rcases hy with rfl | rfl
   · exact e1
   · exact e3
 · have X' := X.mono eB
   have m1 : (fun z => (vf S ++ [(("nodes" : Str), Value.ref T)]).reverse.lookup z) "self" = some (.ref S) := by kernel_rfl
   have m3 : (fun z => (vf S ++ [(("nodes" : Str), Value.ref T)]).reverse.lookup z) "nodes" = some (.ref T) := by kernel_rfl
   generalize (fun z => (vf S ++ [(("nodes" : Str), Value.ref T)]).reverse.lookup z) = m0 at m1 m3 ⊢
   have hh' : (A.deeper (gU L')).handled = none := hh
   have SA0 := SA.keep (Ext.put_new hT (o := yp pvs 0))
   have tT : put Hs T (yp pvs 0) T = some (yp pvs 0) := zb
   have hTd : ∀ b, Hs b ≠ none → T ≠ b := fun b hb z => hb (z ▸ hT)
   have hTR : T ≠ R := by obtain ⟨⟨_, _, hr, _⟩, _⟩ := SA.ready R rs rfl; exact hTd R (by rw [hr]; simp)
   have hTS : T ≠ dS := by refine zc SA.inst fun _ I _ => ?_; refine zc I.dict fun _ ho _ => ?_; exact hTd dS (by rw [ho]; simp)
   generalize put Hs T (yp pvs 0) = H0 at SA0 tT ⊢
   refine hdG fun gQ gZ => ?_
   refine z4 SA0.inst fun f I f1 hq3 hq4 f4 f5 => ?_
   obtain ⟨t1, f2⟩ := hq3
   obtain ⟨t2, f3⟩ := hq4
   refine gZ ?_
   refine xp (env := gU L') (fun QQf hQQf => ?_)
   walk_at "r"
   refine zr X' I f4 ?_ (by kernel_rfl) (by kernel_rfl) (attr := none) (by kernel_rfl) (by kernel_rfl) (by rfl)
   walk_at "r"
   refine yl (by rfl) ?_
   walk_at "r"
   refine zT (fun z => ?_) (fun _ => ?_)
   · cases z
   walk_at "r"
   refine zr X' I f1 ?_ (by kernel_rfl) (by kernel_rfl) (attr := none) (by kernel_rfl) (by kernel_rfl) (by rfl)
   walk_at "r"
   refine kM hh' ?_ (fun _ => rfl)
   walk_at "r"
   refine (zE pvs.length _ [T] (fun k m H => m "self" = some (.ref S) ∧ m "n2i" = some (.ref N) ∧ H T = some (yp pvs 0) ∧ ∃ g', zs C.prog C.w H S dS N g' (some (R, ((ps.take k).foldl doneP (g.map (·.n), rs)).2)) np (nf + k) ∧ g'.map (·.n) = ((ps.take k).foldl doneP (g.map (·.n), rs)).1 ∧ ((ps.take k).foldl doneP (g.map (·.n), rs)).2.length ≤ 1000 + k * 1000)
    (xj tT) (qs (by walk_at "mp") (by walk_at "mp") tT (xa g (zl (by simpa using SA0) (by simp) (by simpa using hz)))) (fun b hb => ?_) (fun B'' k v mm HH eB' hk hP hI => W.body fun QQb hQQb => ?_) (fun mm HH hI => ?_))
   · obtain rfl := List.mem_singleton.mp hb
     exact .inr ⟨_, fun k m H z => z.2.2.1⟩
   · refine hdG fun gQ gZ => ?_
     refine xS hI fun i1 i2 i3 zq => yW zq fun g' zq => zw zq fun SA' hG' hl' => ?_
     try clear hI
     refine zI (xb hps hP) fun p tp hq2 hpk => ?_
     refine gZ ?_
     obtain rfl := hq2
     have hkl : k < ps.length := by exact (an 0xc42885a2402d0a0 [_,_,_]) hlen hk
     have X'' := X'.mono eB'
     have hst := vI (ps.take k) (g.map (·.n), rs)
     have hsS := ZW (fun l => l.length ≤ 1000 ∧ ∀ s ∈ l, s ∈ (g.map (·.n)).map (·.name)) (ps.take k) (g.map (·.n), rs) hcl
     have hout' := hout k p hpk
     have hfold : (ps.take (k + 1)).foldl doneP (g.map (·.n), rs) = doneP ((ps.take k).foldl doneP (g.map (·.n), rs)) p := by
      rw [show ps.take (k + 1) = ps.take k ++ [p] by rw [List.take_add_one, hpk]; rfl, List.foldl_append]; rfl
     generalize (ps.take k).foldl doneP (g.map (·.n), rs) = st at SA' hG' hl' hst hsS hout' hfold
     refine zc (SA'.graph.has (by rw [hG', hst]; exact hin p (List.mem_of_getElem? hpk))) fun d hd hdx => ?_
     have hgd := SA'.graph.getP hd
     rw [hdx, hG'] at hgd
     have hnp : d.n.np = -1 := by unfold xc at hout'; rw [hgd] at hout'; exact hout'
     have hdm : d.n ∈ st.1 := by rw [← hG']; exact List.mem_map.mpr (zd d hd rfl)
     refine hdG fun gQ gZ => ?_
     obtain ⟨hssl, hssin⟩ := hsS d.n hdm
     obtain ⟨⟨u1, u2, Id⟩, vsd, kd, hsd, hSd⟩ := SA'.graph.nodes d hd
     refine gZ ?_
     walk_at "r"
     with_reducible refine vv ?_
     walk_at "r"
     with_reducible refine zC ?_
     walk_at "r"
     refine (zy ("dict") ("dict.get") PySem.F.plainAttrs_dict PySem.F.slot_dict_get PySem.F.type_dict_get SA'.graph.dict.hasT ?_)
     walk_at "r"
     refine we (C := (C.at_ B'')) SA'.graph.dict (wO p tp) ?_
     rw [show valueAt (kK g') p = some (.ref d.a) from hdx ▸ SA'.graph.val hd]
     show W _ _ _ _ _ _ _ _
     walk_at "r"
     refine yl (by rfl) ?_
     walk_at "r"
     refine zT (fun z => ?_) (fun _ => ?_)
     · cases z
     walk_at "r"
     refine yz X'' Id (i := 1) (p := 322) rfl ?_ (by kernel_rfl) (by kernel_rfl) (by kernel_rfl) (by kernel_rfl) (by kernel_rfl) (by kernel_rfl) (by rfl)
     walk_at "r"
     refine jd X'' (aw _) ?_
     walk_at "r"
     with_reducible refine ft ?_
     walk_at "r"
     rw [hnp]
     refine zT (fun z => ?_) (fun _ => ?_)
     · cases z
     walk_at "r"
     refine jd X'' (aA _) ?_
     walk_at "r"
     refine yZ X'' Id (i := 1) (p := 322) (fun I2 => ?_) (by kernel_rfl) (by kernel_rfl) (by kernel_rfl) (by kernel_rfl) (by kernel_rfl) (by decide)
     have G2 := SA'.graph.setNp hd (v := -2) (t := u1) (u := 915)
     have SA2 := SA'.upd Id.obj (by intro z; cases z) (by intro z; cases z) (fun b n => za n) G2 (fun R' rs' z => by
      cases z
      refine hdG fun gQ gZ => ?_
      obtain ⟨⟨_, _, hr', _⟩, _⟩ := SA'.ready R _ rfl
      refine gZ ?_
      exact zi hr' Id.obj (by intro z; cases z))
     have hRsc : R ≠ d.sc := (SA'.ready R _ rfl).2 d hd
     have hTa : T ≠ d.a := zi i3 Id.obj (by intro z; cases z)
     have hTsc : T ≠ d.sc := zi i3 hsd (by intro z; have := congrArg Obj.cls z; simp at this)
     have hsca : d.sc ≠ d.a := zi hsd Id.obj (by intro z; cases z)
     have tT2 := (za (H := HH) (o := ⟨.ref cNI, some d.dx, .plain, [some (.str d.n.name u1), some (.int (-2) 915), some (.ref d.sc)].toArray⟩) hTa).trans i3
     have hsc2 := (za (H := HH) (o := ⟨.ref cNI, some d.dx, .plain, [some (.str d.n.name u1), some (.int (-2) 915), some (.ref d.sc)].toArray⟩) hsca).trans hsd
     have I3 : qg (put HH d.a ⟨.ref cNI, some d.dx, .plain, [some (.str d.n.name u1), some (.int (-2) 915), some (.ref d.sc)].toArray⟩) d.a d.dx cNI [some (.str d.n.name u1), some (.int (-2) 915), some (.ref d.sc)] := I2
     change W _ _ _ _ _ _ _ (put HH d.a ⟨.ref cNI, some d.dx, .plain, [some (.str d.n.name u1), some (.int (-2) 915), some (.ref d.sc)].toArray⟩)
     have hG2 : (vE g' d.n.name fun n => { n with np := -2 }).map (·.n) = yG st.1 p fun n => { n with np := -2 } := by rw [xq, hG', hdx]
     generalize (vE g' d.n.name fun n => { n with np := -2 }) = g2 at SA2 hG2
     generalize (put HH d.a ⟨.ref cNI, some d.dx, .plain, [some (.str d.n.name u1), some (.int (-2) 915), some (.ref d.sc)].toArray⟩) = H2 at SA2 tT2 hsc2 I3 ⊢
     walk_at "r"
     refine kM hh' ?_ (fun _ => rfl)
     walk_at "r"
     refine yz X'' I3 (i := 2) (p := 323) rfl ?_ (by kernel_rfl) (by kernel_rfl) (by kernel_rfl) (by kernel_rfl) (by kernel_rfl) (by kernel_rfl) (by rfl)
     have hss : wr st.1 p = d.n.ss := by unfold wr; rw [hgd]; rfl
     have hdn : doneP st p = d.n.ss.foldl vM (yG st.1 p fun n => { n with np := -2 }, st.2) := by unfold doneP; rw [hss]
     have hvs : vsd.length = d.n.ss.length := hSd.length
     refine (zE vsd.length _ [d.sc] (fun j m H => m "self" = some (.ref S) ∧ m "n2i" = some (.ref N) ∧ H T = some (yp pvs 0) ∧ H d.sc = some (ze vsd kd) ∧
      ∃ g3, zs C.prog C.w H S dS N g3 (some (R, ((d.n.ss.take j).foldl vM (yG st.1 p fun n => { n with np := -2 }, st.2)).2)) np (nf + k) ∧ g3.map (·.n) = ((d.n.ss.take j).foldl vM (yG st.1 p fun n => { n with np := -2 }, st.2)).1)
      (y7 hsc2) (Xm (by walk_at "mp") (by walk_at "mp") tT2 hsc2 (xa g2 (yg (by simpa using SA2) (by simpa using hG2)))) (fun b hb => ?_) (fun B3 j v m3 H3 eB3 hj hP3 hI3 => W.body fun QQb hQQb => ?_) (fun m3 H3 hI3 => ?_))
     · obtain rfl := List.mem_singleton.mp hb
       exact .inr ⟨_, fun k m H z => z.2.2.2.1⟩
     · refine hdG fun gQ gZ => ?_
       refine vb hI3 fun j1 j2 j3 j4 zq => yW zq fun g3 zq => z5 zq fun SA3 hG3 => ?_
       try clear hI3
       refine zI (xb hSd hP3) fun sx ts hq2 hsx => ?_
       refine gZ ?_
       obtain rfl := hq2
       have X3 := X''.mono eB3
       have hfold3 : (d.n.ss.take (j + 1)).foldl vM (yG st.1 p fun n => { n with np := -2 }, st.2) = vM ((d.n.ss.take j).foldl vM (yG st.1 p fun n => { n with np := -2 }, st.2)) sx := by
        rw [show d.n.ss.take (j + 1) = d.n.ss.take j ++ [sx] by rw [List.take_add_one, hsx]; rfl, List.foldl_append]; rfl
       have hnm3 := wb (d.n.ss.take j) (yG st.1 p fun n => { n with np := -2 }, st.2)
       have hln3 := YH (d.n.ss.take j) (yG st.1 p fun n => { n with np := -2 }, st.2)
       have htl : (d.n.ss.take j).length ≤ 1000 := by rw [List.length_take]; exact (an 0x548be2508c42885a2402a45f120d0a0 [_,_,_]) hssl hvs hj
       generalize (d.n.ss.take j).foldl vM (yG st.1 p fun n => { n with np := -2 }, st.2) = s3 at SA3 hG3 hfold3 hnm3 hln3
       dsimp only at hnm3 hln3
       rw [yo st.1 p (fun n => { n with np := -2 }) fun _ => rfl, hst] at hnm3
       refine zc (SA3.graph.has (by rw [hG3, hnm3]; exact hssin sx (List.mem_of_getElem? hsx))) fun d4 hd4 hd4x => ?_
       have hg4 := SA3.graph.getP hd4
       rw [hd4x, hG3] at hg4
       have hnp4 : xc s3.1 sx = d4.n.np := by unfold xc; rw [hg4]; rfl
       refine hdG fun gQ gZ => ?_
       obtain ⟨⟨w1, w2, I4⟩, vs4, k4, hs4, hS4⟩ := SA3.graph.nodes d4 hd4
       refine gZ ?_
       walk_at "r"
       refine z8.dict (C := (C.at_ B3)) SA3.graph.dict (wO sx ts) (hd4x ▸ SA3.graph.val hd4) ?_
       walk_at "r"
       refine qD ?_
       walk_at "r"
       refine yz X3 I4 (i := 1) (p := 322) rfl ?_ (by kernel_rfl) (by kernel_rfl) (by kernel_rfl) (by kernel_rfl) (by kernel_rfl) (by kernel_rfl) (by rfl)
       refine VU (fun _ => ?_)
       refine VS (fun ti => ?_)
       refine yZ X3 I4 (i := 1) (p := 322) (fun I5 => ?_) (by kernel_rfl) (by kernel_rfl) (by kernel_rfl) (by kernel_rfl) (by kernel_rfl) (by decide)
       have G5 := SA3.graph.setNp hd4 (v := d4.n.np - 1) (t := w1) (u := ti)
       have SA5 := SA3.upd I4.obj (by intro z; cases z) (by intro z; cases z) (fun b n => za n) G5 (fun R' rs' z => by
        cases z
        refine hdG fun gQ gZ => ?_
        obtain ⟨⟨_, _, hr', _⟩, _⟩ := SA3.ready R _ rfl
        refine gZ ?_
        exact zi hr' I4.obj (by intro z; cases z))
       have hTa4 : T ≠ d4.a := zi j3 I4.obj (by intro z; cases z)
       have hsca4 : d.sc ≠ d4.a := zi j4 I4.obj (by intro z; cases z)
       have tT5 := (za (H := H3) (o := ⟨.ref cNI, some d4.dx, .plain, [some (.str d4.n.name w1), some (.int (d4.n.np - 1) ti), some (.ref d4.sc)].toArray⟩) hTa4).trans j3
       have hsc5 := (za (H := H3) (o := ⟨.ref cNI, some d4.dx, .plain, [some (.str d4.n.name w1), some (.int (d4.n.np - 1) ti), some (.ref d4.sc)].toArray⟩) hsca4).trans j4
       have I6 : qg (put H3 d4.a ⟨.ref cNI, some d4.dx, .plain, [some (.str d4.n.name w1), some (.int (d4.n.np - 1) ti), some (.ref d4.sc)].toArray⟩) d4.a d4.dx cNI [some (.str d4.n.name w1), some (.int (d4.n.np - 1) ti), some (.ref d4.sc)] := I5
       change W _ _ _ _ _ _ _ (put H3 d4.a ⟨.ref cNI, some d4.dx, .plain, [some (.str d4.n.name w1), some (.int (d4.n.np - 1) ti), some (.ref d4.sc)].toArray⟩)
       have hG5 : (vE g3 d4.n.name fun n => { n with np := d4.n.np - 1 }).map (·.n) = yG s3.1 sx fun n => { n with np := n.np - 1 } := by
        rw [xq, hG3, hd4x]
        unfold yG
        refine List.map_congr_left fun n hn => ?_
        split
        · rename_i hnx
          rw [← hG3] at hn
          refine zc (List.mem_map.mp hn) fun d' hd' hq2 => ?_
          obtain rfl := hq2
          rw [SA3.graph.same hd' hd4 (hnx.trans hd4x.symm)]
        · rfl
       generalize (vE g3 d4.n.name fun n => { n with np := d4.n.np - 1 }) = g5 at SA5 hG5
       generalize (put H3 d4.a ⟨.ref cNI, some d4.dx, .plain, [some (.str d4.n.name w1), some (.int (d4.n.np - 1) ti), some (.ref d4.sc)].toArray⟩) = H5 at SA5 tT5 hsc5 I6 ⊢
       walk_at "r"
       refine yz X3 I6 (i := 1) (p := 322) rfl ?_ (by kernel_rfl) (by kernel_rfl) (by kernel_rfl) (by kernel_rfl) (by kernel_rfl) (by kernel_rfl) (by rfl)
       walk_at "r"
       refine zT (fun z => ?_) (fun z => ?_)
       · have hz0 : xc s3.1 sx - 1 = 0 := by rw [hnp4]; simpa using z
         refine hdG fun gQ gZ => ?_
         refine z4 SA5.inst fun f6 I7 f16 f26 f36 f46 f56 => ?_
         obtain ⟨⟨vr, kr, hr, hrS⟩, hrd⟩ := SA5.ready R _ rfl
         refine gZ ?_
         walk_at "r"
         with_reducible refine zQ ?_
         with_reducible refine zC ?_
         walk_at "r"
         refine zr X3 I7 f46 ?_ (by kernel_rfl) (by kernel_rfl) (attr := none) (by kernel_rfl) (by kernel_rfl) (by rfl)
         refine (zy ("list") ("list.append") PySem.F.plainAttrs_list slot_list_append PySem.F.type_list_append (.ref hr) ?_)
         walk_at "r"
         have hrl : vr.length = s3.2.length := hrS.length
         have hk50 : k * 1000 ≤ 50000 := by exact (an 0x552822508c42885a2402a85aa104485917c4a0 [_,_,_]) hpl hlen hk
         refine yB hr (zX (by exact (an 0xaa5044a1188510b448c5010b22f894722f89482a45f12945014a9130c4c80550b5420890b22f89462a055830c4a0 [_,_,_,_,_,_,_]) hpl hlen hk hl' htl hln3 hrl hk50)) ⟨(fun _ => nofun), ?_⟩
         walk_at "r"
         have SA8 := SA5.app (k' := kr + 1) (yk hrS (x := sx) (t := ts))
         have hdec : vM s3 sx = (yG s3.1 sx (fun n => { n with np := n.np - 1 }), s3.2 ++ [sx]) := by unfold vM; rw [if_pos hz0]
         refine ⟨by walk_at "mp", by walk_at "mp", (za hTR).trans tT5, (za (Ne.symm hRsc)).trans hsc5, g5, ?_, ?_⟩
         · rw [hfold3, hdec]; exact SA8
         · rw [hfold3, hdec]; exact hG5
       · have hz0 : ¬ (xc s3.1 sx - 1 = 0) := by rw [hnp4]; simpa using z
         walk_at "r"
         have hdec : vM s3 sx = (yG s3.1 sx (fun n => { n with np := n.np - 1 }), s3.2) := by unfold vM; rw [if_neg hz0]
         refine ⟨by walk_at "mp", by walk_at "mp", tT5, hsc5, g5, ?_, ?_⟩
         · rw [hfold3, hdec]; exact SA5
         · rw [hfold3, hdec]; exact hG5
     · refine hdG fun gQ gZ => ?_
       refine vb hI3 fun j1 j2 j3 j4 zq => yW zq fun g3 zq => z5 zq fun SA3 hG3 => ?_
       refine gZ ?_
       try clear hI3
       rw [hvs, List.take_length, ← hdn] at SA3 hG3
       have hln3 := YH d.n.ss (yG st.1 p fun n => { n with np := -2 }, st.2)
       rw [← hdn] at hln3
       dsimp only at hln3
       refine hdG fun gQ gZ => ?_
       refine z4 SA3.inst fun f6 I7 f16 hq3 hq4 f46 f56 => ?_
       obtain ⟨t26, f26⟩ := hq3
       obtain ⟨t36, f36⟩ := hq4
       refine gZ ?_
       show W _ _ _ _ _ _ _ _
       walk_at "r"
       refine qD ?_
       walk_at "r"
       refine zr X'' I7 f36 ?_ (by kernel_rfl) (by kernel_rfl) (attr := none) (by kernel_rfl) (by kernel_rfl) (by rfl)
       refine VU (fun _ => ?_)
       refine wM (fun ti => ?_)
       refine vn X'' I7 (by decide) (by rw [f36]; rfl) (fun H4 I8 k8 => ?_) (by kernel_rfl) (by kernel_rfl) (by kernel_rfl) (by kernel_rfl)
       have SA9 := SA3.re I8 k8 (by walk_at "mp") ⟨_, by walk_at "mp"⟩ ⟨_, by walk_at "mp"⟩ (by walk_at "mp") (fun x n1 n2 n3 n4 => by rw [zk n3]; exact f56 x n1 n2 n3 n4)
       walk_at "r"
       have cast : nf + (k : Int) + 1 = nf + ((k + 1 : Nat) : Int) := by push_cast; exact (ar 0x4808182243a05806089021d02c [_] [_])
       refine ⟨by walk_at "mp", by walk_at "mp", (k8 _ hTS).trans j3, g3, ?_, ?_, ?_⟩
       · rw [hfold, ← cast]; exact SA9
       · rw [hfold]; exact hG3
       · rw [hfold]; exact (an 0x5010b22f894322f89442a45f128c62348280a344805010b22f8903044a1917c4a0 [_,_,_,_,_]) hl' hssl hvs hln3
   · refine hdG fun gQ gZ => ?_
     refine xS hI fun i1 i2 i3 zq => yW zq fun g' zq => zw zq fun SA' hG' _ => ?_
     refine gZ ?_
     try clear hI
     rw [hlen, List.take_length] at SA' hG'
     show W _ _ _ _ _ _ _ _
     walk_at "r"
     exact (yg rfl (xa g' (yg SA' hG')))
 · refine hdG fun gQ gZ => ?_
   refine z5 hv fun hq0 zq => yW zq fun g' zq => z5 zq fun a1 a2 => ?_
   refine gZ ?_
   try clear hv
   obtain rfl := hq0
   exact h H' Hf' g' a1 u a2
 · have e : (fdS (mAt 21 8)).names.all (fun x => x.2 != .cell) = true := by kernel_rfl
   intro x hx; have := List.all_eq_true.mp e x hx; exact bne_iff_ne.mp this
end
end
section
structure DFr where
 x : Str
 d : Nd
 q : Addr
 it : Addr
 p : Nat
noncomputable def uns (w : Nd → Nat) (g : List Nd) (Sn : Str → Bool) : Nat := (g.map fun d => if Sn d.n.name = true then 0 else w d).sum
abbrev JC (Sn : Str → Bool) (x : Str) : Str → Bool := fun k' => Sn k' || decide (k' = x)
theorem Qt {w : Nd → Nat} {g : List Nd} {Sn : Str → Bool} {x : Str} (h : ∀ d ∈ g, d.n.name ≠ x) : uns w g (JC Sn x) = uns w g Sn := by
 unfold uns
 congr 1
 refine List.map_congr_left fun d hd => ?_
 have : decide (d.n.name = x) = false := decide_eq_false (h d hd)
 simp [JC, this]
theorem ZK {w : Nd → Nat} : ∀ {g : List Nd} {Sn : Str → Bool} {d : Nd}, (g.map (·.n.name)).Nodup → d ∈ g → Sn d.n.name = false → uns w g Sn = w d + uns w g (JC Sn d.n.name)
 | [], _, _, _, hd, _ => by cases hd
 | c :: r, Sn, d, hn, hd, hs => by
  rw [List.map_cons, List.nodup_cons] at hn
  have e : ∀ S, uns w (c :: r) S = (if S c.n.name = true then 0 else w c) + uns w r S := fun S => by unfold uns; rw [List.map_cons, List.sum_cons]
  rw [e, e]
  rcases List.mem_cons.mp hd with q | q
  · subst q
    rw [hs, if_neg (by decide), if_pos (by simp [JC])]
    rw [Qt (g := r) (x := d.n.name) fun d' hd' z => hn.1 (List.mem_map.mpr (zd d' hd' z))]
    exact (an 0xc020508940050a0 [_,_])
  · rw [ZK hn.2 q hs]
    have hne : c.n.name ≠ d.n.name := fun z => hn.1 (z ▸ List.mem_map.mpr (zd d q rfl))
    have : JC Sn d.n.name c.n.name = Sn c.n.name := by simp [JC, hne]
    rw [this]; exact (an 0x30081448108102890a0 [_,_,_])
theorem Yn : ∀ g : List Nd, uns (fun _ => 1) g (fun _ => false) = g.length
 | [] => rfl
 | d :: r => by
  have := Yn r
  unfold uns at this ⊢
  rw [List.map_cons, List.sum_cons, this, List.length_cons]
  simp; exact (an 0xc03044a00282089 [_])
theorem Jn (w : Nd → Nat) (Sn : Str → Bool) : ∀ g : List Nd, uns w g Sn ≤ uns w g (fun _ => false)
 | [] => Nat.le_refl _
 | d :: r => by
  have := Jn w Sn r
  unfold uns at this ⊢
  simp only [List.map_cons, List.sum_cons, Bool.false_eq_true, if_false] at this ⊢
  split <;> omega
noncomputable def mu (g : List Nd) (fr : List DFr) (Sn : Str → Bool) : Nat := uns (fun d => 2 + d.n.ss.length) g Sn + (fr.map fun f => 1 + (f.d.n.ss.length - f.p)).sum
theorem wx (g : List Nd) (fr : List DFr) (f : DFr) (Sn : Str → Bool) : mu g (fr ++ [f]) Sn = mu g fr Sn + (1 + (f.d.n.ss.length - f.p)) := by
 unfold mu; rw [List.map_append, List.sum_append]; simp; exact (an 0xc02041234504481428008102091a282250a0 [_,_,_,_])
theorem Jv (g : List Nd) (Sn : Str → Bool) : ∀ fr : List DFr, fr.length ≤ mu g fr Sn := fun fr => by
 have : fr.length ≤ (fr.map fun f => 1 + (f.d.n.ss.length - f.p)).sum := by
  induction fr with
  | nil => simp
  | cons f r ih => simp only [List.map_cons, List.sum_cons, List.length_cons]; exact (an 0x148d00a028c082448608903044a0 [_,_,_,_]) ih
 unfold mu; exact (an 0x148900a02890a0 [_,_,_]) this
structure Dyn (p : Program) (w : World) (H0 H : HF) (g : List Nd) (st is se nd : Addr) (fr : List DFr) (Sn : Str → Bool) (n : Nat) : Prop where
 base : Ext H0 H
 stk : ∃ vs k, H st = some (ze vs k) ∧ StrsAre vs (fr.map (·.x))
 its : ∃ k, H is = some (ze (fr.map fun f => .ref f.q) k)
 frm : ∀ f ∈ fr, f.d ∈ g ∧ f.d.n.name = f.x ∧ H f.q = some (mwO "list_iterator.__next__" (.ref f.it)) ∧ H f.it = some (liO f.d.sc f.p) ∧ f.p ≤ f.d.n.ss.length ∧ H0 f.it = none
 inj : (fr.map (·.it)).Nodup
 seen : jw (PySem.strKind p w) H se Sn n
 pos : ∃ kvs, zG (PySem.strKind p w) H nd kvs ∧ kvs.map (·.1) = fr.map (·.x)
 cnt : n + uns (fun _ => 1) g Sn = g.length
structure Plc (H0 : HF) (st is se nd : Addr) : Prop where
 n1 : H0 st = none
 n2 : H0 is = none
 n3 : H0 se = none
 n4 : H0 nd = none
 d12 : st ≠ is
theorem z9 {H0 H : HF} {a : Addr} {o : Obj} (e : Ext H0 H) (n : H0 a = none) : Ext H0 (put H a o) := fun b ob h => (za fun z => by rw [z, n] at h; cases h).trans (e b ob h)
section
variable {p : Program} {w : World} {H0 H : HF} {g : List Nd} {st is se nd : Addr} {fr : List DFr} {Sn : Str → Bool} {n : Nat}
theorem Dyn.next {f : DFr} (D : Dyn p w H0 H g st is se nd (fr ++ [f]) Sn n) (hp : f.p < f.d.n.ss.length) : Dyn p w H0 (put H f.it (liO f.d.sc (f.p + 1))) g st is se nd (fr ++ [{ f with p := f.p + 1 }]) Sn n := by
 refine hdG fun gQ gZ => ?_
 obtain ⟨b, ⟨vs, k, s1, s2⟩, ⟨k2, i1⟩, fm, j, s, ⟨kvs, d1, d2⟩, c⟩ := D
 refine kg (fm f (by simp)) fun a1 a2 a3 a4 a5 a6 => ?_
 refine gZ ?_
 have hl : ∀ {a : Addr} {o : Obj}, H a = some o → o.cls ≠ .type "list_iterator" → put H f.it (liO f.d.sc (f.p + 1)) a = some o := fun h hc => (za (zi h a4 fun z => hc (by rw [z]))).trans h
 refine ⟨z9 b a6, (zO vs k (hl s1 (by simp)) (by simpa using s2)), ⟨k2, by simpa using hl i1 (by simp)⟩, fun x hx => ?_, by simpa using j, ?_, (zd kvs ?_ (by simpa using d2)), c⟩
 · rcases List.mem_append.mp hx with hx | hx
   · refine kg (fm x (List.mem_append.mpr (.inl hx))) fun b1 b2 b3 b4 b5 b6 => ?_
     have hne : x.it ≠ f.it := fun z => by
      rw [List.map_append, List.nodup_append] at j
      exact j.2.2 x.it (List.mem_map.mpr (zd x hx rfl)) f.it (by simp) z
     exact (qr b1 b2 (hl b3 (by simp)) ((za hne).trans b4) b5 b6)
   · obtain rfl := List.mem_singleton.mp hx
     exact (qr a1 a2 (hl a3 (by simp)) zb hp a6)
 · refine zu s.cls fun o ho c1 _ => ?_
   exact s.eq (za (zi ho a4 fun z => by rw [z] at c1; simp at c1))
 · refine zu d1.cls fun o ho c1 _ => ?_
   exact d1.eq (za (zi ho a4 fun z => by rw [z] at c1; simp at c1))
theorem vS : ∀ {vs : List Value} {ss : List Str} {x : Str}, StrsAre vs (ss ++ [x]) → ∃ vs' t, vs = vs' ++ [.str x t] ∧ StrsAre vs' ss
 | _, [], x, .cons _ t .nil => (zO [] t rfl (.nil))
 | _, s :: ss, x, .cons _ t h => by
  refine zI (vS (ss := ss) h) fun vs' t' hq2 h' => ?_
  obtain rfl := hq2
  exact (zO (_ :: vs') t' rfl (.cons _ t h'))
theorem wS {kvs : List (Str × Value)} {xs : List Str} {x : Str} (h : kvs.map (·.1) = xs ++ [x]) (hn : (kvs.map (·.1)).Nodup) : (without kvs x).map (·.1) = xs ∧ (valueAt kvs x).isSome = true := by
 have e : (without kvs x).map (·.1) = (kvs.map (·.1)).filter fun y => decide (y ≠ x) := by
  unfold without; rw [List.filter_map]; rfl
 constructor
 · rw [e, h]
   rw [h, List.nodup_append] at hn
   rw [List.filter_append]
   have h1 : xs.filter (fun y => decide (y ≠ x)) = xs := List.filter_eq_self.mpr fun y hy => by simpa using fun z => hn.2.2 y hy x (by simp) z
   rw [h1]; simp
 · unfold valueAt
   rw [Option.isSome_map]
   refine zc (List.mem_map.mp (show x ∈ kvs.map (·.1) by rw [h]; simp)) fun kv hk e => ?_
   exact List.find?_isSome.mpr (zd kv hk (by simpa using e))
theorem Xb {kvs : List (Str × Value)} {x : Str} {v : Value} (h : x ∉ kvs.map (·.1)) : stored kvs x v = kvs ++ [(x, v)] := by
 unfold stored
 rw [if_neg]
 intro z
 refine zc (List.any_eq_true.mp z) fun kv hk e => ?_
 exact h (List.mem_map.mpr (zd kv hk (by simpa using e)))
theorem xd {H : HF} {a b : Addr} {o o' : Obj} (h : H a = some o) (h' : H b = some o') (n : o.cls ≠ o'.cls) : a ≠ b := zi h h' fun z => n (by rw [z])
theorem Dyn.push (D : Dyn p w H0 H g st is se nd fr Sn n) (P : Plc H0 st is se nd) {d : Nd} (hd : d ∈ g) {x : Str} {t : Tok} (hdx : d.n.name = x) (hs : Sn x = false) (hn : (g.map (·.n.name)).Nodup) (hxn : x ∉ fr.map (·.x))
 {o o' : Obj} {it q : Addr} {vs : List Value} {kvs : List (Str × Value)} {v : Value} {k k' : Nat}
 (Ds : jw (PySem.strKind p w) (put H se o) se (JC Sn x) (n + 1)) (hit : put H se o it = none) (hq : put (put H se o) it (liO d.sc 0) q = none) (hvs : StrsAre vs (fr.map (·.x))) (hkv : kvs.map (·.1) = fr.map (·.x))
 (Dd : zG (PySem.strKind p w) (put (put (put (put (put H se o) it (liO d.sc 0)) q (mwO "list_iterator.__next__" (.ref it))) is (ze ((fr.map fun f => .ref f.q) ++ [.ref q]) k)) nd o') nd (stored kvs x v)) :
 Dyn p w H0 (put (put (put (put (put (put H se o) it (liO d.sc 0)) q (mwO "list_iterator.__next__" (.ref it))) is (ze ((fr.map fun f => .ref f.q) ++ [.ref q]) k)) nd o') st (ze (vs ++ [.str x t]) k')) g st is se nd (fr ++ [⟨x, d, q, it, 0⟩]) (JC Sn x) (n + 1) := by
 refine hdG fun gQ gZ => ?_
 obtain ⟨b, ⟨vs0, k0, s1, s2⟩, ⟨k2, i1⟩, fm, j, sd, ⟨kvs0, d1, d2⟩, c⟩ := D
 refine zu sd.cls fun osd hsd csd _ => ?_
 refine zu d1.cls fun ond hnd cnd _ => ?_
 refine gZ ?_
 have fit : ∀ {a : Addr} {ob : Obj}, H a = some ob → a ≠ se → a ≠ it := fun h hne z => by rw [← z, za hne, h] at hit; cases hit
 have fq : ∀ {a : Addr} {ob : Obj}, H a = some ob → a ≠ se → a ≠ q := fun h hne z => by rw [← z, za (fit h hne), za hne, h] at hq; cases hq
 have se_st : st ≠ se := zi s1 hsd fun z => by rw [← z] at csd; simp at csd
 have se_is : is ≠ se := zi i1 hsd fun z => by rw [← z] at csd; simp at csd
 have se_nd : nd ≠ se := zi hnd hsd fun z => by rw [← z, cnd] at csd; simp at csd
 have nd_st : st ≠ nd := zi s1 hnd fun z => by rw [← z] at cnd; simp at cnd
 have nd_is : is ≠ nd := zi i1 hnd fun z => by rw [← z] at cnd; simp at cnd
 have it_se : it ≠ se := fun z => by rw [z, zb] at hit; cases hit
 have q_it : q ≠ it := fun z => by rw [z, zb] at hq; cases hq
 have q_se : q ≠ se := fun z => by rw [z, za (Ne.symm it_se), zb] at hq; cases hq
 have old : ∀ {a : Addr} {ob : Obj}, H a = some ob → a ≠ se → a ≠ is → a ≠ nd → a ≠ st → put (put (put (put (put (put H se o) it (liO d.sc 0)) q (mwO "list_iterator.__next__" (.ref it))) is (ze ((fr.map fun f => .ref f.q) ++ [.ref q]) k)) nd o') st (ze (vs ++ [.str x t]) k') a = some ob := fun h h1 h2 h3 h4 => by
  rw [za h4, za h3, za h2, za (fq h h1), za (fit h h1), za h1]; exact h
 have b1 := z9 (o := o) b P.n3
 have b2 := z9 (o := liO d.sc 0) b1 (zW b1 hit)
 have b3 := z9 (o := mwO "list_iterator.__next__" (.ref it)) b2 (zW b2 hq)
 have b4 := z9 (o := ze ((fr.map fun f => .ref f.q) ++ [.ref q]) k) b3 P.n2
 have b5 := z9 (o := o') b4 P.n4
 have itH0 : H0 it = none := zW b1 hit
 refine ⟨z9 b5 P.n1, (zO _ _ zb (by rw [List.map_append]; exact yk hvs)), ⟨k, ?_⟩, fun f hf => ?_, ?_, ?_, (zd _ (Dd.eq (za (Ne.symm nd_st))) ?_), ?_⟩
 · rw [za (Ne.symm P.d12), za nd_is, zb, List.map_append]; rfl
 · rcases List.mem_append.mp hf with hf | hf
   · refine kg (fm f hf) fun a1 a2 a3 a4 a5 a6 => ?_
     refine (qr a1 a2 (old a3 ?_ ?_ ?_ ?_) (old a4 ?_ ?_ ?_ ?_) a5 a6)
     · exact zi a3 hsd fun z => by rw [← z] at csd; simp at csd
     · exact zi a3 i1 fun z => by have := congrArg Obj.cls z; simp at this
     · exact zi a3 hnd fun z => by rw [← z] at cnd; simp at cnd
     · exact zi a3 s1 fun z => by have := congrArg Obj.cls z; simp at this
     · exact zi a4 hsd fun z => by rw [← z] at csd; simp at csd
     · exact zi a4 i1 fun z => by have := congrArg Obj.cls z; simp at this
     · exact zi a4 hnd fun z => by rw [← z] at cnd; simp at cnd
     · exact zi a4 s1 fun z => by have := congrArg Obj.cls z; simp at this
   · obtain rfl := List.mem_singleton.mp hf
     refine (qr hd hdx ?_ ?_ (Nat.zero_le _) itH0)
     · rw [za (Ne.symm (fq s1 se_st)), za (Ne.symm (fq hnd se_nd)), za (Ne.symm (fq i1 se_is)), zb]
     · rw [za (Ne.symm (fit s1 se_st)), za (Ne.symm (fit hnd se_nd)), za (Ne.symm (fit i1 se_is)), za (Ne.symm q_it), zb]
 · rw [List.map_append, List.nodup_append]
   refine (zl j (by simp) (fun a ha c hc => ?_))
   obtain rfl := List.mem_singleton.mp hc
   refine zc (List.mem_map.mp ha) fun f hf hq2 => ?_
   obtain rfl := hq2
   refine kg (fm f hf) fun a1 a2 a3 a4 a5 a6 => ?_
   exact fit a4 (xd a4 hsd (by rw [csd]; simp))
 · exact Ds.eq (by rw [za (Ne.symm se_st), za (Ne.symm se_nd), za (Ne.symm se_is), za (Ne.symm q_se), za (Ne.symm it_se)])
 · rw [Xb (by rw [hkv]; exact hxn), List.map_append, List.map_append, hkv]; rfl
 · have := ZK (w := fun _ => 1) (Sn := Sn) hn hd (by rw [hdx]; exact hs)
   rw [hdx] at this
   exact (an 0x31101468060143044a318880a103044a0 [_,_,_,_]) c this
theorem Dyn.top {f : DFr} (D : Dyn p w H0 H g st is se nd (fr ++ [f]) Sn n) (P : Plc H0 st is se nd) {e : Obj} {o' : Obj} {vs : List Value} {k k' : Nat}
 (hvs : StrsAre vs (fr.map (·.x))) (hd' : ∃ kvs', zG (PySem.strKind p w) (put (put (put H f.it e) st (ze vs k)) nd o') nd kvs' ∧ kvs'.map (·.1) = fr.map (·.x)) :
 Dyn p w H0 (put (put (put (put H f.it e) st (ze vs k)) nd o') is (ze (fr.map fun f => .ref f.q) k')) g st is se nd fr Sn n := by
 refine hdG fun gQ gZ => ?_
 obtain ⟨b, ⟨vs0, k0, s1, s2⟩, ⟨k2, i1⟩, fm, j, sd, ⟨kvs0, d1, d2⟩, c⟩ := D
 refine zu sd.cls fun osd hsd csd _ => ?_
 refine zu d1.cls fun ond hnd cnd _ => ?_
 refine kg (fm f (by simp)) fun _ _ _ it4 _ it6 => ?_
 have nd_st : st ≠ nd := zi s1 hnd fun z => by rw [← z] at cnd; simp at cnd
 have nd_is : is ≠ nd := zi i1 hnd fun z => by rw [← z] at cnd; simp at cnd
 have old : ∀ {a : Addr} {ob : Obj}, H a = some ob → a ≠ f.it → a ≠ is → a ≠ nd → a ≠ st → put (put (put (put H f.it e) st (ze vs k)) nd o') is (ze (fr.map fun f => .ref f.q) k') a = some ob := fun h h1 h2 h3 h4 => by
  rw [za h2, za h3, za h4, za h1]; exact h
 have b1 := z9 (o := e) b it6
 have b2 := z9 (o := ze vs k) b1 P.n1
 have b3 := z9 (o := o') b2 P.n4
 refine zc hd' fun kvs' D' hk' => ?_
 refine gZ ?_
 try clear hd'
 refine ⟨z9 b3 P.n2, (zO vs k ?_ hvs), ⟨k', zb⟩, fun x hx => ?_, ?_, sd.eq ?_, (zd kvs' (D'.eq (za (Ne.symm nd_is))) hk'), c⟩
 · rw [za P.d12, za nd_st, zb]
 · refine kg (fm x (List.mem_append.mpr (.inl hx))) fun a1 a2 a3 a4 a5 a6 => ?_
   have hne : x.it ≠ f.it := fun z => by
    rw [List.map_append, List.nodup_append] at j
    exact j.2.2 x.it (List.mem_map.mpr (zd x hx rfl)) f.it (by simp) z
   refine (qr a1 a2 (old a3 ?_ ?_ ?_ ?_) (old a4 hne ?_ ?_ ?_) a5 a6)
   · exact zi a3 it4 fun z => by have := congrArg Obj.cls z; simp at this
   · exact zi a3 i1 fun z => by have := congrArg Obj.cls z; simp at this
   · exact zi a3 hnd fun z => by rw [← z] at cnd; simp at cnd
   · exact zi a3 s1 fun z => by have := congrArg Obj.cls z; simp at this
   · exact zi a4 i1 fun z => by have := congrArg Obj.cls z; simp at this
   · exact zi a4 hnd fun z => by rw [← z] at cnd; simp at cnd
   · exact zi a4 s1 fun z => by have := congrArg Obj.cls z; simp at this
 · rw [List.map_append, List.nodup_append] at j; exact j.1
 · rw [za, za, za, za]
   · exact zi hsd it4 fun z => by rw [z] at csd; simp at csd
   · exact zi hsd s1 fun z => by rw [z] at csd; simp at csd
   · exact zi hsd hnd fun z => by rw [z, cnd] at csd; simp at csd
   · exact zi hsd i1 fun z => by rw [z] at csd; simp at csd
end
end
section
noncomputable abbrev Wa (Lz : Addr) : Env := envOf "TopologicalSorter._find_cycle" (fdS (mAt 21 9)) Lz 407 (.ref 406)
theorem aZ (P : Params) : (K P).lookup 407 = some Wt := by kernel_rfl
theorem VA (P : Params) : codeIn (K P) (.ref 406) "TopologicalSorter._find_cycle" = true := by kernel_rfl
theorem Ve (P : Params) : nsIn (K P) mainGlobals "set" = some none := by kernel_rfl
theorem VO : bootBuiltins "set" = some (.type "set") := by decide +kernel
theorem ay (P : Params) : nsIn (K P) mainGlobals "iter" = some none := by kernel_rfl
theorem bt : bootBuiltins "iter" = some (.builtin "iter") := by decide +kernel
theorem av (P : Params) : nsIn (K P) mainGlobals "StopIteration" = some none := by kernel_rfl
theorem br : bootBuiltins "StopIteration" = some (.type "StopIteration") := by decide +kernel
theorem Xc {α : Type} (l : List α) : l = [] ∨ ∃ a b, l = a ++ [b] := by
 rcases List.eq_nil_or_concat l with h | ⟨a, b, h⟩
 · exact .inl h
 · exact .inr (yL a b (by rw [h, List.concat_eq_append]))
theorem wp : isSubtype (.type ((Manifest.find? "StopIteration").elim "type" fun x => x.metatype)) (.type "tuple") = pure false := by rw [isSubtype_type]; kernel_rfl
structure NF (S N st is se nd : Addr) (m : Mp) : Prop where
 a1 : m "self" = some (.ref S)
 a2 : m "n2i" = some (.ref N)
 a3 : m "stack" = some (.ref st)
 a4 : m "itstack" = some (.ref is)
 a5 : m "seen" = some (.ref se)
 a6 : m "node2stacki" = some (.ref nd)
theorem NF.set {S N st is se nd : Addr} {m : Mp} (F : NF S N st is se nd m) {v : Value} : NF S N st is se nd (Internal.set m "node" v) :=
 ⟨(zk (by decide +kernel)).trans F.a1, (zk (by decide +kernel)).trans F.a2, (zk (by decide +kernel)).trans F.a3, (zk (by decide +kernel)).trans F.a4, (zk (by decide +kernel)).trans F.a5, (zk (by decide +kernel)).trans F.a6⟩
section
theorem iz {S dS N : Addr} {Hs : HF} {g : List Nd} {rdy : Option (Addr × List Str)} {np nf : Int} {env : Env} {outer : List Env} {Q : PV} (rank : Str → Nat) (X : Bd (K C.w.params) mg mb q loose C) (hroom : A.depth + 3 < recursionLimit) (hh : A.handled = none)
 (F : Frs C A L env outer) (hx : Ext Hs H) (SA : zs C.prog C.w Hs S dS N g rdy np nf) (hgl : g.length ≤ 1000) (hmu : mu g [] (fun _ => false) ≤ 100000)
 (hcl : ∀ d ∈ g, ∀ s ∈ d.n.ss, (∃ d' ∈ g, d'.n.name = s) ∧ rank d.n.name < rank s)
 (h : Q .none m H) :
 W C A L (call (.ref 407) [.ref S]) Q E m H := by
 refine W.drop (Qf := fun v => v = .none) ?_ (fun v e => by subst e; exact h)
 refine vo (ko (binds := [("self", .ref S)]) (Qf := fun v H' => v = .none ∧ Ext Hs H')
  Hs X (aZ _) (VA _) (yu hroom) (fun s XX => zx XX (fun _ => by kernel_rfl)) ?_ hx (fun B' L' eB hL => ?_) (fun v Hf' H' hv u => (zl rfl (fun b o e => ?_) hv.1))
  (by kernel_rfl) (by kernel_rfl) (by kernel_rfl) ?_)
 · intro y hy
   exact vD (by kernel_rfl) y hy
 · have X' := X.mono eB
   have hkind : (fdS (mAt 21 9)).kind = .function := by kernel_rfl
   have F' : Frs (C.at_ B') (A.deeper (Wa L')) L' (Wa L') (env :: outer) :=
    F.callee eB hL rfl (by show (fdS (mAt 21 9)).kind ≠ .module; rw [hkind]; decide)
   have m1 : (bl [("self", .ref S)]) "self" = some (.ref S) := by kernel_rfl
   generalize (bl [("self", .ref S)]) = m0 at m1 ⊢
   have hh' : (A.deeper (Wa L')).handled = none := hh
   refine hdG fun gQ gZ => ?_
   refine z4 SA.inst fun f I f1 hq3 hq4 f4 f5 => ?_
   obtain ⟨t1, f2⟩ := hq3
   obtain ⟨t2, f3⟩ := hq4
   refine gZ ?_
   refine xp (env := Wa L') (fun QQf hQQf => ?_)
   walk_at "r"
   refine zr X' I f1 ?_ (by kernel_rfl) (by kernel_rfl) (attr := none) (by kernel_rfl) (by kernel_rfl) (by rfl)
   walk_at "r"
   with_reducible refine zK (by decide +kernel) (fun st hst hstL => ?_)
   walk_at "r"
   with_reducible refine zK (by decide +kernel) (fun is his hisL => ?_)
   walk_at "r"
   with_reducible refine xO X' (Ve _) VO ?_
   refine K3 (C := (C.at_ B')) (knd := PySem.strKind C.prog C.w) (fun se ose hse hseL Dse => ?_)
   walk_at "r"
   refine vx X' (a₀ := 407) (o₀ := Wt) (fun nd hnd hndL hnds => ?_) (by kernel_rfl) (by decide)
   have e1 : Ext Hs (put Hs st (ze [] 0)) := Ext.put_new hst
   have e2 := Ext.put_new (o := ze [] 0) his
   have e3 := Ext.put_new (o := ose) hse
   have e4 := Ext.put_new (o := emptyDict) hnd
   have d12 : is ≠ st := fun z => by rw [z, zb] at his; cases his
   have PL : Plc Hs st is se nd := ⟨hst, zW e1 his, zW (e1.trans e2) hse, zW ((e1.trans e2).trans e3) hnd, Ne.symm d12⟩
   have DY : Dyn C.prog C.w Hs (put (put (put (put Hs st (ze [] 0)) is (ze [] 0)) se ose) nd emptyDict) g st is se nd [] (fun _ => false) 0 :=
    ⟨((e1.trans e2).trans e3).trans e4, (zO [] 0 (e4 _ _ (e3 _ _ (e2 _ _ zb))) (.nil)), ⟨0, e4 _ _ (e3 _ _ zb)⟩, (by simp), .nil, Dse.ext e4, (zd [] (.new hnds) rfl), by rw [Yn]; exact (an 0xc4005009 [_])⟩
   generalize (put (put (put (put Hs st (ze [] 0)) is (ze [] 0)) se ose) nd emptyDict) = H1 at DY ⊢
   walk_at "r"
   refine kM hh' ?_ (fun _ => rfl)
   walk_at "r"
   refine zc SA.graph.dict.of fun oN hoN hoNd => ?_
   refine (zE ((kK g).length) _ [N] (fun k m H => NF S N st is se nd m ∧ ∃ Sn n, Dyn C.prog C.w Hs H g st is se nd [] Sn n)
    (vA (C := (C.at_ B')) (SA.graph.dict.ext DY.base)) (yg ⟨by walk_at "mp", by walk_at "mp", by walk_at "mp", by walk_at "mp", by walk_at "mp", by walk_at "mp"⟩ (yL _ _ DY)) (fun b hb => ?_) (fun B2 k v m2 H2 eB2 hk hP hI => W.body fun QQb hQQb => ?_) (fun m2 H2 hI => ?_))
   · obtain rfl := List.mem_singleton.mp hb
     exact .inr ⟨oN, fun k m H z => by refine z5 z fun _ zq => yE zq fun _ _ D => ?_; try clear z; exact D.base _ _ hoN⟩
   · refine hdG fun gQ gZ => ?_
     refine zI hP fun key xv hkx hkey => ?_
     try clear hP
     obtain ⟨tk, rfl⟩ := Value.isStrOf_shape hkey
     obtain ⟨d0, hd0, hd0x⟩ : ∃ d ∈ g, d.n.name = key := by
      refine zc (List.mem_map.mp (List.mem_of_getElem? hkx)) fun d hd e => ?_
      exact (zd d hd ((Prod.mk.inj e).1))
     refine z5 hI fun N2 zq => yE zq fun Sn n D2 => ?_
     try clear hI
     have X2 := X'.mono eB2
     obtain ⟨b1, b2, b3, b4, b5, b6⟩ := N2
     refine gZ ?_
     walk_at "r"
     refine K9 (C := (C.at_ B2)) D2.seen (wO key tk) rfl ?_
     walk_at "r"
     refine zT (fun _ => ?_) (fun hsn => ?_)
     · walk_at "r"
       with_reducible refine XC ?_
       walk_at "r"
       with_reducible refine vZ ?_
       walk_at "r"
       with_reducible refine vZ ?_
       walk_at "r"
       exact ⟨NF.set ⟨b1, b2, b3, b4, b5, b6⟩, Sn, n, D2⟩
     · walk_at "r"
       refine W.mono (Q := fun f m H => f = .next ∧ NF S N st is se nd m ∧ ∃ Sn n, Dyn C.prog C.w Hs H g st is se nd [] Sn n)
        (y0 (fun μ m H => NF S N st is se nd m ∧ ∃ fr Sn n x t, m "node" = some (.str x t) ∧ (∃ d ∈ g, d.n.name = x) ∧ Dyn C.prog C.w Hs H g st is se nd fr Sn n ∧ (∀ f ∈ fr, rank f.x < rank x) ∧ fr.Pairwise (fun a b => rank a.x < rank b.x) ∧ (fr = [] → Sn x = false) ∧ mu g fr Sn = μ ∧ μ ≤ 100000)
         (mu g [] Sn) (yg (NF.set ⟨b1, b2, b3, b4, b5, b6⟩) (qM [] Sn n key tk (ZT xF (zd d0 hd0 hd0x) D2 (by simp) (.nil) (fun _ => hsn) rfl ?_))) (fun μ m3 H3 hI3 => ?_)) (fun fl m3 H3 z => ?_) fun _ _ _ z => z
       · refine Nat.le_trans ?_ hmu
         unfold mu
         exact Nat.add_le_add_right (Jn _ _ _) _
       · refine hdG fun gQ gZ => ?_
         refine z5 hI3 fun hq0 zq => vJ zq fun fr Sn3 n3 x tx zq => ZZ zq fun hnode hq7 D3 hrk hpw hemp hmu3 hle3 => ?_
         try clear hI3
         obtain ⟨c1, c2, c3, c4, c5, c6⟩ := hq0
         obtain ⟨d, hd, hdx⟩ := hq7
         refine gZ ?_
         with_reducible refine qA ?_
         with_reducible refine JE ?_
         with_reducible refine xM ?_
         with_reducible refine yc ?_
         refine W.mono (Q := fun f m H => f = .next ∧ NF S N st is se nd m ∧ ∃ fr Sn n, Dyn C.prog C.w Hs H g st is se nd fr Sn n ∧ fr.Pairwise (fun a b => rank a.x < rank b.x) ∧ mu g fr Sn ≤ μ) ?_ (fun fl m4 H4 z => ?_) fun _ _ _ z => z
         · have hxn : ∀ f ∈ fr, f.x ≠ x := fun f hf z => by have := hrk f hf; rw [z] at this; exact Nat.lt_irrefl _ this
           walk_at "r"
           refine K9 (C := (C.at_ B2)) D3.seen (wO x tx) rfl ?_
           walk_at "r"
           refine zT (fun hs => ?_) (fun hs => ?_)
           · walk_at "r"
             refine zc D3.pos fun kvs Dp hkv => ?_
             refine fy (C := (C.at_ B2)) Dp (wO x tx) ?_
             rw [wU fun kv hk z => by
              refine zc (List.mem_map.mp (show kv.1 ∈ fr.map (·.x) by rw [← hkv]; exact List.mem_map.mpr (zd kv hk rfl))) fun f' hf' e => ?_
              exact hxn f' hf' (e.trans z)]
             walk_at "r"
             refine zT (fun z => ?_) (fun _ => ?_)
             · cases z
             walk_at "r"
             exact (zl rfl ⟨c1, c2, c3, c4, c5, c6⟩ (qp fr Sn3 n3 (zl D3 hpw (by exact (an 0x62140290a0 [_,_]) hmu3))))
           · walk_at "r"
             with_reducible refine zQ ?_
             with_reducible refine zC ?_
             walk_at "r"
             refine (zy ("set") ("set.add") PySem.F.plainAttrs_set PySem.F.slot_set_add PySem.F.type_set_add D3.seen.hasT ?_)
             have hcnt := D3.cnt
             walk_at "r"
             refine Q9 (C := (C.at_ B2)) D3.seen (wO x tx) rfl (by show n3 + 1 < 4096; exact (an 0x2a45f1284621028900b810220903044a0 [_,_,_]) hgl hcnt) (fun o Ds => ⟨(fun _ => nofun), ?_⟩)
             rw [if_neg (by rw [hs]; decide)] at Ds
             refine hdG fun gQ gZ => ?_
             refine zu D3.seen.cls fun ose3 hose3 cse3 _ => ?_
             have keepN : ∀ {a : Addr} {ob : Obj}, H3 a = some ob → ob.cls ≠ .type "set" → put H3 se o a = some ob := fun h hc => (za (xd h hose3 (by rw [cse3]; exact hc))).trans h
             obtain ⟨⟨w1, w2, Id⟩, vsd, kd, hsd, hSd⟩ := SA.graph.nodes d hd
             have Id3 := Id.ext D3.base
             have hsd3 := D3.base _ _ hsd
             have hN3 := D3.base _ _ hoN
             refine zI D3.stk fun vs3 k3 hst3 hvs3 => ?_
             obtain ⟨ki3, his3⟩ := D3.its
             refine zc D3.pos fun kvs Dp hkv => ?_
             refine zu Dp.cls fun ond hnd3 cnd3 _ => ?_
             refine gZ ?_
             have hfrl : fr.length ≤ 100000 := Nat.le_trans (Jv g Sn3 fr) (by exact (an 0xc4280540ab06189422a055830c4a0 [_,_]) hmu3 hle3)
             have hvl : vs3.length = fr.length := by rw [hvs3.length, List.length_map]
             walk_at "r"
             with_reducible refine zQ ?_
             with_reducible refine zC ?_
             walk_at "r"
             refine (zy ("list") ("list.append") PySem.F.plainAttrs_list slot_list_append PySem.F.type_list_append (.ref (keepN his3 (by simp))) ?_)
             walk_at "r"
             refine vz ?_ (by kernel_rfl)
             with_reducible refine zh X2 (ay _) bt ?_
             walk_at "r"
             refine vz ?_ (by kernel_rfl)
             walk_at "r"
             have DN4 : zG (PySem.strKind C.prog C.w) (put H3 se o) N (kK g) := (SA.graph.dict.ext D3.base).eq (za (xd hN3 hose3 (by obtain ⟨_, _, e, _⟩ := hoNd; rw [cse3, e.1]; simp)))
             refine z8.dict (C := (C.at_ B2)) DN4 (wO x tx) (hdx ▸ SA.graph.val hd) ?_
             have Id4 : qg (put H3 se o) d.a d.dx cNI _ := ⟨keepN Id3.obj (by intro z; cases z), keepN Id3.dict (by simp)⟩
             refine yz X2 Id4 (i := 2) (p := 323) rfl ?_ (by kernel_rfl) (by kernel_rfl) (by kernel_rfl) (by kernel_rfl) (by kernel_rfl) (by kernel_rfl) (by rfl)
             walk_at "r"
             refine Xv (keepN hsd3 (by simp)) (fun it hit hitL => ?_)
             refine Jd zb (fun q hq hqL => ?_)
             walk_at "r"
             have up2 : ∀ {a : Addr} {ob : Obj}, put H3 se o a = some ob → put (put (put H3 se o) it (liO d.sc 0)) q (mwO "list_iterator.__next__" (.ref it)) a = some ob := fun h => Ext.put_new hq _ _ (Ext.put_new hit _ _ h)
             refine yB (up2 (keepN his3 (by simp))) (zX (by simp; exact (an 0xa81560c31280620422a055830c4a0 [_,_]) hfrl hvl)) ⟨(fun _ => nofun), ?_⟩
             have d12' : st ≠ is := Ne.symm d12
             have stT : put (put (put (put H3 se o) it (liO d.sc 0)) q (mwO "list_iterator.__next__" (.ref it))) is (ze ((fr.map fun f => .ref f.q) ++ [.ref q]) (ki3 + 1)) st = some (ze vs3 k3) := (za d12').trans (up2 (keepN hst3 (by simp)))
             walk_at "r"
             refine zm ?_
             with_reducible refine zh X2 (Ko _) KY ?_
             walk_at "r"
             refine ZC stT (zX (by exact (an 0xa81560c31284621402a055830c4a0 [_,_]) hfrl hvl)) (fun tl => ?_)
             refine xh ?_
             walk_at "r"
             with_reducible refine Qc ?_
             walk_at "r"
             have Dp4 : zG (PySem.strKind C.prog C.w) (put (put (put (put H3 se o) it (liO d.sc 0)) q (mwO "list_iterator.__next__" (.ref it))) is (ze ((fr.map fun f => .ref f.q) ++ [.ref q]) (ki3 + 1))) nd kvs := by
              refine hdG fun gQ gZ => ?_
              obtain ⟨lo, ob, hob, hdo⟩ := Dp
              refine gZ ?_
              refine ⟨lo, ob, ?_, hdo⟩
              refine hdG fun gQ gZ => ?_
              obtain ⟨_, _, e, _⟩ := hdo
              refine gZ ?_
              rw [za (xd hob his3 (by rw [e.1]; simp))]
              exact up2 (keepN hob (by rw [e.1]; simp))
             have hkl : kvs.length ≤ 100000 := by have := congrArg List.length hkv; rw [List.length_map, List.length_map] at this; exact (an 0x1502ac1862508c4288621402a055830c4a0 [_,_,_]) hfrl hvl this
             refine jc (C := (C.at_ B2)) Dp4 (wO x tx) (zX hkl) (fun o' Dd => ?_)
             walk_at "r"
             with_reducible refine zQ ?_
             with_reducible refine zC ?_
             walk_at "r"
             have stN : st ≠ nd := xd hst3 hnd3 (by rw [cnd3]; simp)
             refine (zy ("list") ("list.append") PySem.F.plainAttrs_list slot_list_append PySem.F.type_list_append (.ref ((za stN).trans stT)) ?_)
             walk_at "r"
             refine yB ((za stN).trans stT) (zX (by exact (an 0xa81560c31284621402a055830c4a0 [_,_]) hfrl hvl)) ⟨(fun _ => nofun), ?_⟩
             walk_at "r"
             have hxn' : x ∉ fr.map (·.x) := fun z => by
              refine zc (List.mem_map.mp z) fun f' hf' e => ?_
              exact hxn f' hf' e
             have D9 := D3.push PL hd (t := tx) (k' := k3 + 1) hdx hs SA.graph.names hxn' Ds hit hq hvs3 hkv Dd
             have hum := ZK (w := fun d => 2 + d.n.ss.length) (Sn := Sn3) SA.graph.names hd (by rw [hdx]; exact hs)
             rw [hdx] at hum
             refine (zl rfl ⟨c1, c2, c3, c4, c5, c6⟩ (qp _ _ _ (zl D9 ?_ ?_)))
             · rw [List.pairwise_append]
               exact (zl hpw (by simp) (fun a ha b hb => by obtain rfl := List.mem_singleton.mp hb; exact hrk a ha))
             · rw [wx]
               unfold mu at hmu3 ⊢
               show _ + (1 + (d.n.ss.length - 0)) ≤ _
               exact (an 0xc46050a4180500145084a4148c081042514112050a0 [_,_,_,_,_]) hmu3 hum
         · refine hdG fun gQ gZ => ?_
           refine zw z fun hq0 hq1 zq => vK zq fun fr Sn4 n4 zq => zw zq fun D4 hpw4 hmu4 => ?_
           try clear z
           obtain rfl := hq0
           obtain ⟨c1, c2, c3, c4, c5, c6⟩ := hq1
           refine gZ ?_
           walk_at "r"
           refine W.mono (Q := fun f m H => (f = .next ∧ NF S N st is se nd m ∧ ∃ fr Sn n x t, m "node" = some (.str x t) ∧ (∃ d ∈ g, d.n.name = x) ∧ Dyn C.prog C.w Hs H g st is se nd fr Sn n ∧ (∀ f ∈ fr, rank f.x < rank x) ∧ fr.Pairwise (fun a b => rank a.x < rank b.x) ∧ (fr = [] → Sn x = false) ∧ mu g fr Sn < μ) ∨
            (f = .brk ∧ NF S N st is se nd m ∧ ∃ Sn n, Dyn C.prog C.w Hs H g st is se nd [] Sn n))
            (y0 (fun k m H => NF S N st is se nd m ∧ ∃ fr Sn n, Dyn C.prog C.w Hs H g st is se nd fr Sn n ∧ fr.Pairwise (fun a b => rank a.x < rank b.x) ∧ mu g fr Sn = k ∧ k ≤ μ)
             (mu g fr Sn4) (yg ⟨c1, c2, c3, c4, c5, c6⟩ (qp fr Sn4 n4 (qs D4 hpw4 rfl hmu4))) (fun k m5 H5 hI5 => ?_)) (fun fl m5 H5 z => ?_) fun _ _ _ z => z
           · refine hdG fun gQ gZ => ?_
             refine z5 hI5 fun hq0 zq => vK zq fun fr5 Sn5 n5 zq => xS zq fun D5 hpw5 hq6 hk5 => ?_
             try clear hI5
             obtain ⟨g1, g2, g3, g4, g5, g6⟩ := hq0
             obtain rfl := hq6
             refine zI D5.stk fun vs5 k5 hst5 hvs5 => ?_
             refine gZ ?_
             have hfrl : fr5.length ≤ 100000 := Nat.le_trans (Jv g Sn5 fr5) (by exact (an 0x188908a81560c31288522402a055830c4a0 [_,_,_]) hmu3 hle3 hk5)
             have hvl : vs5.length = fr5.length := by rw [hvs5.length, List.length_map]
             walk_at "r"
             refine jn hst5 (zX (by exact (an 0xa81560c31284621402a055830c4a0 [_,_]) hfrl hvl)) ?_
             refine qh (fun hne => ?_) (fun he => ?_)
             · rcases Xc fr5 with rfl | ⟨fr', f, rfl⟩
               · cases hvs5; cases hne
               refine hdG fun gQ gZ => ?_
               refine kg (D5.frm f (by simp)) fun hdg hdx5 hq5 hit5 hp5 hit0 => ?_
               obtain ⟨ki5, his5⟩ := D5.its
               obtain ⟨⟨w1, w2, Id⟩, vsd, kd, hsd, hSd⟩ := SA.graph.nodes f.d hdg
               refine gZ ?_
               have hsd5 := D5.base _ _ hsd
               have F2 : Frs (C.at_ B2) (A.deeper (Wa L')) L' (Wa L') (env :: outer) := ⟨F'.frames, F'.fr, F'.kind, F'.out.ext eB2⟩
               walk_at "r"
               refine bF (C := (C.at_ B2)) X2 F2 (av _) br (by decide +kernel) (by rw [isSubtype_type]; kernel_rfl) wp (by rw [isSubtype_type]; kernel_rfl) ?_ (by kernel_rfl) (by kernel_rfl) (by kernel_rfl) (by kernel_rfl) (by decide +kernel)
               rw [List.map_append] at his5
               walk_at "r"
               refine Qb ?_ (by kernel_rfl)
               walk_at "r"
               with_reducible refine Qh ?_ (fun _ _ => rfl)
               walk_at "r"
               have hil : ((fr'.map fun f => Value.ref f.q) ++ [f].map fun f => Value.ref f.q).length = fr'.length + 1 := by simp
               refine z8.listNeg his5 (by decide) (by rw [hil]; exact (an 0x806822430703044a0 [_])) (by decide) (v := .ref f.q) ?_ ?_
               · rw [hil, show (-1 + ((fr'.length + 1 : Nat) : Int)).toNat = fr'.length by exact (an 0x18804010e06089401a089 [_]), List.getElem?_append_right (by simp)]; simp
               refine (jY f.q _ _ rfl hq5 ?_)
               by_cases hp : f.p < f.d.n.ss.length
               · have hpv : f.p < vsd.length := by rw [hSd.length]; exact hp
                 refine hdG fun gQ gZ => ?_
                 refine zI (xb hSd (List.getElem?_eq_getElem hpv)) fun s ts hsv hss => ?_
                 obtain ⟨⟨d', hd', hd'x⟩, hrs⟩ := hcl f.d hdg s (List.mem_of_getElem? hss)
                 refine gZ ?_
                 rw [hdx5] at hrs
                 refine Yi hq5 hit5 hsd5 (x := .str s ts) (by rw [List.getElem?_eq_getElem hpv, hsv]) ?_
                 walk_at "r"
                 with_reducible refine Yj ?_
                 walk_at "r"
                 refine .inl ⟨.inl (zl rfl (NF.set ⟨g1, g2, g3, g4, g5, g6⟩) (qM _ Sn5 n5 s ts (Zm xF (zd d' hd' hd'x) (D5.next hp) ?_ ?_ (by simp) ?_))), nofun⟩
                 · rw [List.pairwise_append] at hpw5
                   intro a ha
                   rcases List.mem_append.mp ha with ha | ha
                   · exact Nat.lt_trans (hpw5.2.2 a ha f (by simp)) hrs
                   · obtain rfl := List.mem_singleton.mp ha
                     exact hrs
                 · rw [List.pairwise_append] at hpw5 ⊢
                   exact (zl hpw5.1 (by simp) (fun a ha b hb => by obtain rfl := List.mem_singleton.mp hb; exact hpw5.2.2 a ha f (by simp)))
                 · rw [wx] at hk5 ⊢
                   show _ + (1 + (f.d.n.ss.length - (f.p + 1))) < _
                   exact (an 0x523020412243044a0168510b460408203044a243044a0 [_,_,_,_]) hk5 hp
               · have hpv : vsd.length ≤ f.p := by rw [hSd.length]; exact (an 0x52042585a042290a0 [_,_]) hp5 hp
                 refine Yh hh' hq5 hit5 hsd5 (List.getElem?_eq_none hpv) (fun e te he heL => ?_)
                 refine (zP e rfl Jl.stop ?_)
                 have hei : e ≠ f.it := fun z => by rw [z, hit5] at he; cases he
                 rw [KO ((za hei).trans he)]
                 refine zc D5.pos fun kvs Dp hkv => ?_
                 refine zu Dp.cls fun ond hnd5 cnd5 _ => ?_
                 rw [List.map_append] at hvs5 hkv
                 refine zI (vS hvs5) fun vs' t' hq2 hvs' => ?_
                 obtain rfl := hq2
                 obtain ⟨hw1, hw2⟩ := wS hkv Dp.nodup
                 have stI : st ≠ f.it := xd hst5 hit5 (by simp)
                 have ndI : nd ≠ f.it := xd hnd5 hit5 (by rw [cnd5]; simp)
                 have isI : is ≠ f.it := xd his5 hit5 (by simp)
                 have ndS : nd ≠ st := xd hnd5 hst5 (by rw [cnd5]; simp)
                 have isN : is ≠ nd := xd his5 hnd5 (by rw [cnd5]; simp)
                 have hkl : kvs.length ≤ 100000 := by have := congrArg List.length hkv; rw [List.length_map] at this; simp at this hfrl; exact (an 0x1806089428055fa906189422a055830c4a0 [_,_]) this hfrl
                 refine yc ?_
                 refine Jh ?_
                 walk_at "r"
                 with_reducible refine qz ?_
                 walk_at "r"
                 refine (zy ("list") ("list.pop") PySem.F.plainAttrs_list PySem.F.slot_list_pop PySem.F.type_list_pop (.ref ((za stI).trans hst5)) ?_)
                 refine ZB ((za stI).trans hst5) (zX (by have := hvs'.length; simp at this hfrl; exact (an 0x188500abf520c31284540ab0618903044a0 [_,_]) this hfrl)) (fun k6 => ?_)
                 have Dp6 : zG (PySem.strKind C.prog C.w) (put (put H5 f.it (Kv f.p)) st (ze vs' k6)) nd kvs := (Dp.eq (za ndI)).eq (za ndS)
                 refine Xx (C := (C.at_ B2)) Dp6 (wO f.x t') (zX hkl) hw2 (fun o' Dd => ?_)
                 refine yc ?_
                 refine yC ?_ (by kernel_rfl) (by kernel_rfl)
                 with_reducible refine qz ?_
                 walk_at "r"
                 have his7 : put (put (put H5 f.it (Kv f.p)) st (ze vs' k6)) nd o' is = some (ze ((fr'.map fun f => .ref f.q) ++ [.ref f.q]) ki5) := by
                  rw [za isN, za d12, za isI]; exact his5
                 refine (zy ("list") ("list.pop") PySem.F.plainAttrs_list PySem.F.slot_list_pop PySem.F.type_list_pop (.ref his7) ?_)
                 refine ZB his7 (zX (by simp at hfrl ⊢; exact (an 0x55fa906189402afd4830c4a0 [_]) hfrl)) (fun k8 => ?_)
                 walk_at "r"
                 have D8 := D5.top PL (e := Kv f.p) (o' := o') (k := k6) (k' := k8) hvs' (zd _ Dd hw1)
                 refine ⟨mu g fr' Sn5, ?_, ⟨g1, g2, g3, g4, g5, g6⟩, fr', Sn5, n5, D8, (List.pairwise_append.mp hpw5).1, rfl, ?_⟩
                 · rw [wx]; exact (an 0x58102091218225020 [_,_,_])
                 · rw [wx] at hk5; exact (an 0xa4204082468a08940290a0 [_,_,_,_]) hk5
             · have : fr5 = [] := by
                cases fr5 with
                | nil => rfl
                | cons a r => rw [List.map_cons] at hvs5; cases hvs5; cases he
               subst this
               walk_at "r"
               with_reducible refine Yj ?_
               walk_at "r"
               exact .inr (zl rfl ⟨g1, g2, g3, g4, g5, g6⟩ (yL Sn5 n5 D5))
           · rcases z with ⟨rfl, N5, fr5, Sn5, n5, x5, t5, h1, h2, h3, h4, h5, h6, h7⟩ | ⟨rfl, N5, Sn5, n5, D5⟩
             · walk_at "r"
               exact ⟨_, h7, N5, fr5, Sn5, n5, x5, t5, h1, h2, h3, h4, h5, h6, rfl, by exact (an 0x188908a81560c312885a2402a055830c4a0 [_,_,_]) hmu3 hle3 h7⟩
             · exact ⟨rfl, N5, Sn5, n5, D5⟩
       · refine zw z fun hq0 N3 zq => yE zq fun Sn3 n3 D3 => ?_
         try clear z
         obtain rfl := hq0
         walk_at "r"
         exact ⟨N3, Sn3, n3, D3⟩
   · refine z5 hI fun N2 zq => yE zq fun Sn n D2 => ?_
     try clear hI
     show W _ _ _ _ _ _ _ _
     walk_at "r"
     exact ⟨rfl, D2.base⟩
 · cases z : Hs b with
   | none => exact u.out b o e z
   | some o' =>
    have := hx b o' z
    rw [this] at e; cases e
    exact u.in_ _ _ (hv.2 b _ z)
 · have e : (fdS (mAt 21 9)).names.all (fun x => x.2 != .cell) = true := by kernel_rfl
   intro x hx; have := List.all_eq_true.mp e x hx; exact bne_iff_ne.mp this
end
end
section
noncomputable abbrev cJ (Lz : Addr) : Env := envOf "TopologicalSorter.prepare" (fdS (mAt 21 4)) Lz 372 (.ref 371)
theorem Wp (P : Params) : (K P).lookup 372 = some bU := by kernel_rfl
theorem Va (P : Params) : codeIn (K P) (.ref 371) "TopologicalSorter.prepare" = true := by kernel_rfl
noncomputable def vH (G : List PN) : List Str := (G.filter fun n => n.np == 0).map (·.name)
section
theorem ie {S dS N : Addr} {Hs : HF} {g : List Nd} {np nf : Int} {env : Env} {outer : List Env} {Q : PV} (rank : Str → Nat) (X : Bd (K C.w.params) mg mb q loose C) (hroom : A.depth + 5 < recursionLimit) (hh : A.handled = none)
 (F : Frs C A L env outer) (hx : Ext Hs H) (SA : zs C.prog C.w Hs S dS N g none np nf) (hgl : g.length ≤ 1000) (hmu : mu g [] (fun _ => false) ≤ 100000)
 (hcl : ∀ d ∈ g, ∀ s ∈ d.n.ss, (∃ d' ∈ g, d'.n.name = s) ∧ rank d.n.name < rank s)
 (h : ∀ H' Hs' R, zs C.prog C.w Hs' S dS N g (some (R, vH (g.map (·.n)))) np nf → Upd Hs H Hs' H' → Q .none m H') :
 W C A L (call (.ref 372) [.ref S]) Q E m H := by
 refine vo (ko (binds := [("self", .ref S)]) (Qf := fun v H' => v = .none ∧ ∃ R, zs C.prog C.w H' S dS N g (some (R, vH (g.map (·.n)))) np nf)
  Hs X (Wp _) (Va _) (yu hroom) (fun s XX => zx XX (fun _ => by kernel_rfl)) ?_ hx (fun B' L' eB hL => ?_) (fun v Hf' H' hv u => ?_)
  (by kernel_rfl) (by kernel_rfl) (by kernel_rfl) ?_)
 · intro y hy
   exact vD (by kernel_rfl) y hy
 · have X' := X.mono eB
   have hkind : (fdS (mAt 21 4)).kind = .function := by kernel_rfl
   have F' : Frs (C.at_ B') (A.deeper (cJ L')) L' (cJ L') (env :: outer) :=
    F.callee eB hL rfl (by show (fdS (mAt 21 4)).kind ≠ .module; rw [hkind]; decide)
   have m1 : (bl [("self", .ref S)]) "self" = some (.ref S) := by kernel_rfl
   generalize (bl [("self", .ref S)]) = m0 at m1 ⊢
   have hh' : (A.deeper (cJ L')).handled = none := hh
   refine hdG fun gQ gZ => ?_
   refine z4 SA.inst fun f I f1 hq3 hq4 f4 f5 => ?_
   obtain ⟨t1, f2⟩ := hq3
   obtain ⟨t2, f3⟩ := hq4
   refine gZ ?_
   refine yc (env := cJ L') ?_
   walk_at "r"
   refine zr X' I f4 ?_ (by kernel_rfl) (by kernel_rfl) (attr := none) (by kernel_rfl) (by kernel_rfl) (by rfl)
   walk_at "r"
   refine kn (by rfl) ?_
   walk_at "r"
   refine zT (fun z => ?_) (fun _ => ?_)
   · cases z
   walk_at "r"
   refine kJ (cl := []) hh' ?_ (by kernel_rfl) (by decide +kernel) (by kernel_rfl) (by decide +kernel) (by kernel_rfl) (fun _ => rfl)
   with_reducible refine qz ?_
   walk_at "r"
   refine zr X' I f1 ?_ (by kernel_rfl) (by kernel_rfl) (attr := none) (by kernel_rfl) (by kernel_rfl) (by rfl)
   refine (zy ("dict") ("dict.values") PySem.F.plainAttrs_dict PySem.F.slot_dict_values PySem.F.type_dict_values SA.graph.dict.hasT ?_)
   refine Q8 (C := (C.at_ B')) SA.graph.dict (fun v hv hvL => ?_)
   have eV := Ext.put_new (o := ZH N) hv
   have SAv := SA.keep eV
   have hvv : put Hs v (ZH N) v = some (ZH N) := zb
   have Iv := I.ext eV
   generalize hHv : put Hs v (ZH N) = Hv at eV SAv hvv Iv ⊢
   refine zc SAv.graph.dict.of fun oN hoN hoNd => ?_
   refine ⟨(kK g).length, _, [N], fun k ys H => H = Hv ∧ StrsAre ys (vH ((g.take k).map (·.n))), (zX (by simp; exact (an 0x1522f89402a055830c4a0 [_]) hgl)), jf (C := (C.at_ B')) SAv.graph.dict hvv, ⟨rfl, .nil⟩, fun b hb => ?_, ?_, ?_⟩
   · obtain rfl := List.mem_singleton.mp hb
     exact .inr ⟨oN, fun k ys H z => z.1 ▸ hoN⟩
   · intro B2 Lc k ys v2 mc H2 eB2 hk hys hP hmc hI
     refine hdG fun gQ gZ => ?_
     obtain ⟨rfl, hI⟩ := hI
     obtain ⟨key, hkx⟩ := hP
     have X2 := X'.mono eB2
     have hkg : k < g.length := by simpa using hk
     obtain ⟨d, hdk⟩ : ∃ d, g[k]? = some d := ⟨g[k], List.getElem?_eq_getElem hkg⟩
     refine gZ ?_
     have hd := List.mem_of_getElem? hdk
     have hv2 : v2 = .ref d.a := by rw [List.getElem?_map, hdk] at hkx; cases hkx; rfl
     subst hv2
     refine hdG fun gQ gZ => ?_
     obtain ⟨⟨w1, w2, Id⟩, vsd, kd, hsd, hSd⟩ := SAv.graph.nodes d hd
     refine gZ ?_
     have hstep : vH ((g.take (k + 1)).map (·.n)) = vH ((g.take k).map (·.n)) ++ (if d.n.np == 0 then [d.n.name] else []) := by
      unfold vH
      rw [List.take_add_one, hdk, List.map_append, List.filter_append, List.map_append]
      congr 1
      show List.map _ (List.filter _ [d.n]) = _
      rw [List.filter_cons]
      split <;> rfl
     with_reducible refine qe ?_
     walk_at "r"
     refine yz X2 Id (i := 1) (p := 322) rfl ?_ (by kernel_rfl) (by kernel_rfl) (by kernel_rfl) (by kernel_rfl) (by kernel_rfl) (by kernel_rfl) (by rfl)
     walk_at "r"
     split
     · rename_i hc
       walk_at "r"
       refine yz X2 Id (i := 0) (p := 321) rfl ?_ (by kernel_rfl) (by kernel_rfl) (by kernel_rfl) (by kernel_rfl) (by kernel_rfl) (by kernel_rfl) (by rfl)
       refine ⟨rfl, ?_⟩
       have hc : (d.n.np == 0) = true := hc
       rw [hstep, if_pos hc]
       exact yk hI
     · rename_i hc
       refine ⟨rfl, ?_⟩
       have hc : (d.n.np == 0) = false := hc
       rw [hstep, hc, if_neg (by decide), List.append_nil]
       exact hI
   · intro ys H2 hI R kR hR hRL
     obtain ⟨rfl, hI⟩ := hI
     have hgt : g.take (kK g).length = g := by rw [List.length_map, List.take_length]
     rw [hgt] at hI
     have eR := Ext.put_new (o := ze ys kR) hR
     have SAr := SAv.keep eR
     have IR := Iv.ext eR
     walk_at "r"
     refine vn X' IR (by decide) (by rw [f4]; rfl) (fun H4 I4 k4 => ?_) (by kernel_rfl) (by kernel_rfl) (by kernel_rfl) (by kernel_rfl)
     refine zc IR.dict fun oD hoD hA => ?_
     refine zI hA.of fun es kk hq2 _ => ?_
     obtain rfl := hq2
     have hRd : R ≠ dS := xd (zb (H := H2) (a := R) (o := ze ys kR)) hoD (by simp)
     have G4 := SAr.graph.at k4 SAr.apart.1 fun d hd => by
      obtain ⟨⟨w1, w2, Id⟩, vs, k, hs, hS⟩ := SAr.graph.nodes d hd
      exact (zl (zi hoD Id.obj (by intro z; cases z)) (SAr.apart.2 d hd) (xd hoD hs (by simp)))
     have SA4 : zs C.prog C.w H4 S dS N g (some (R, vH (g.map (·.n)))) np nf :=
      ⟨(jZ _ I4 (by walk_at "mp") ⟨_, by walk_at "mp"⟩ ⟨_, by walk_at "mp"⟩ (by walk_at "mp") (fun x n1 n2 n3 n4 => by rw [zk n4]; exact f5 x n1 n2 n3 n4)), G4, SAr.apart, fun R' rs hR' => by
       cases hR'
       refine ⟨(zO ys kR ((k4 _ hRd).trans zb) hI), fun d hd z => ?_⟩
       obtain ⟨_, vs, k, hs, _⟩ := SAv.graph.nodes d hd
       rw [← z, hR] at hs; cases hs⟩
     walk_at "r"
     refine kH X' ?_ _ rfl
     walk_at "r"
     refine (yn S dS cTS 407 _ 4 rfl I4 (by rw [zk (by decide +kernel)]; exact f5 _ (by decide +kernel) (by decide +kernel) (by decide +kernel) (by decide +kernel)) (by kernel_rfl) (by kernel_rfl) (by kernel_rfl) (by kernel_rfl) ?_)
     refine iz rank X' (by show A.depth + 1 + 3 < _; exact (an 0x2d0818a2500b420618903044a0 [_,_]) hroom) hh' F' Ext.rfl' SA4 hgl hmu hcl ?_
     walk_at "r"
     refine Zv ?_
     walk_at "r"
     exact (yg rfl (xa R SA4))
 · refine z5 hv fun hq0 zq => yW zq fun R a1 => ?_
   try clear hv
   obtain rfl := hq0
   exact h H' Hf' R a1 u
 · have e : (fdS (mAt 21 4)).names.all (fun x => x.2 != .cell) = true := by kernel_rfl
   intro x hx; have := List.all_eq_true.mp e x hx; exact bne_iff_ne.mp this
end
end
section
open PySem.Spec PySem.SeqAt PySem.Builtin PySem.Builtin.Str
noncomputable def clipN (v : Option Int) (d n : Nat) : Nat := match v with
 | none => d
 | some i => if i < 0 then (i + n).toNat else min i.toNat n
theorem KI (xs : List Nat) : ∀ (l : List Nat), (∀ k ∈ l, k < xs.length) → l.filterMap (fun i => xs[i]?) = l.map fun k => xs.getD k 0
 | [], _ => rfl
 | k :: l, h => by
  rw [List.filterMap_cons, List.getElem?_eq_getElem (h k (.head _)), List.map_cons, KI xs l fun k hk => h k (.tail _ hk), List.getD_eq_getElem?_getD, List.getElem?_eq_getElem (h k (.head _))]; rfl
theorem Xg (xs : List Nat) (a b : Nat) (hb : b ≤ xs.length) : ((List.range (b - a)).map fun k => a + k).filterMap (fun i => xs[i]?) = (xs.take b).drop a := by
 rw [KI xs _ fun k hk => by
  refine zc (List.mem_map.mp hk) fun j hj hq2 => ?_
  obtain rfl := hq2
  have := List.mem_range.mp hj; exact (an 0xa448c582408d08b44050a0 [_,_,_,_]) hb this]
 apply List.ext_getElem?
 intro i
 rw [List.getElem?_map, List.getElem?_map, List.getElem?_drop, List.getElem?_take]
 by_cases h : i < b - a
 · rw [List.getElem?_range h, if_pos (by exact (an 0x582408908b44050a0 [_,_,_]) h)]
   show some (xs.getD (a + i) 0) = _
   rw [List.getD_eq_getElem?_getD, List.getElem?_eq_getElem (by exact (an 0xa448c582408d08b44050a0 [_,_,_,_]) hb h)]; rfl
 · rw [List.getElem?_eq_none (by rw [List.length_range]; exact (an 0x58582428110a44090a0 [_,_,_]) h), if_neg (by exact (an 0x2c2c1204484b0b44050a0 [_,_,_]) h)]; rfl
theorem KR (v : Option Int) (d : Nat) (n : Nat) (hd : d ≤ n) : (match v with
 | none => (d : Int)
 | some i => max 0 (min (if i < 0 then i + n else i) (n : Int))) = (clipN v d n : Int) := by
 unfold clipN
 cases v with
 | none => rfl
 | some i =>
  dsimp only
  by_cases h : i < 0
  · simp only [h, if_true]; exact (ar 0x444ac241c4010e81604061d0010e81609 [_] [_]) h
  · simp only [h, if_false]; exact (ar 0x2c444ac241c1a010b02030e81609 [_] [_]) h
theorem YJ (v : Option Int) (d n : Nat) (hd : d ≤ n) : clipN v d n ≤ n := by
 unfold clipN; cases v with
 | none => exact hd
 | some i => dsimp only; split <;> omega
theorem QV (n a b : Nat) : sliceRange (a : Int) (b : Int) 1 = (List.range (b - a)).map fun k => a + k := by
 have h1 : (1 : Int) > 0 := by decide
 unfold sliceRange
 simp only [h1, if_true]
 have hc : (if (a : Int) < b then ((b : Int) - a + 1 - 1) / 1 else 0).toNat = b - a := by
  split
  · rw [Int.ediv_one]; exact (an 0x110e803a118090a0100a08903044820e843a0 [_,_]) ‹_›
  · exact (an 0x2c443a00e846024280409 [_,_]) ‹_›
 rw [hc]
 refine List.map_congr_left fun k _ => ?_
 rw [Int.one_mul]; exact (an 0x60142804010e843a0 [_,_])
theorem Vt (n : Nat) (l u : Option Int) : strSliceIndices l u 1 n = (List.range (clipN u n n - clipN l 0 n)).map fun k => clipN l 0 n + k := by
 rw [← QV n (clipN l 0 n) (clipN u n n)]
 rw [← KR l 0 n (Nat.zero_le _), ← KR u n n (Nat.le_refl _)]
 cases l <;> cases u <;> rfl
theorem yQ (xs : List Nat) (l u : Option Int) : Txt.slice (S' xs) l u = S' ((xs.take (clipN u xs.length xs.length)).drop (clipN l 0 xs.length)) := by
 have hlen : (S' xs).length = xs.length := by show xs.toArray.size = _; simp
 have hidx : strSliceIndices l u 1 xs.length = (List.range (clipN u xs.length xs.length - clipN l 0 xs.length)).map fun k => clipN l 0 xs.length + k := Vt xs.length l u
 unfold Txt.slice
 rw [hlen, hidx]
 generalize ha : clipN l 0 xs.length = a
 generalize hb : clipN u xs.length xs.length = b
 have hbl : b ≤ xs.length := hb ▸ YJ _ _ _ (Nat.le_refl _)
 have hal : a ≤ xs.length := ha ▸ YJ _ _ _ (Nat.zero_le _)
 split
 · rename_i h
   have h2 : b - a = xs.length := by simpa using h
   have : a = 0 ∧ b = xs.length := by
    rcases Nat.eq_zero_or_pos xs.length with z | z
    · exact (an 0x31023188520a448452240311024084609445c62242304a0 [_,_,_,_,_]) ha hb hbl hal h2 z
    · exact (an 0xc408c52242311024084789445c62242304a0 [_,_,_,_]) ha hbl h2 z
   rw [this.1, this.2]; simp
 · have : ((fun i => (S' xs).cps[i]?) : Nat → Option Nat) = fun i => xs[i]? := by funext i; simp
   rw [this, Xg xs a b hbl]
theorem qk (xs : List Nat) (i j : Nat) : Txt.slice (S' xs) (some (i : Int)) (some (j : Int)) = S' ((xs.take j).drop i) := by
 rw [yQ]
 have h1 : clipN (some (i : Int)) 0 xs.length = min i xs.length := by unfold clipN; dsimp only; rw [if_neg (Int.not_lt.mpr (Int.natCast_nonneg _)), Int.toNat_natCast]
 have h2 : clipN (some (j : Int)) xs.length xs.length = min j xs.length := by unfold clipN; dsimp only; rw [if_neg (Int.not_lt.mpr (Int.natCast_nonneg _)), Int.toNat_natCast]
 rw [h1, h2]
 have e1 : xs.take (min j xs.length) = xs.take j := by
  rcases Nat.le_total j xs.length with h | h
  · rw [Nat.min_eq_left h]
  · rw [Nat.min_eq_right h, List.take_of_length_le h, List.take_length]
 rw [e1]
 congr 1
 rcases Nat.le_total i xs.length with h | h
 · rw [Nat.min_eq_left h]
 · rw [Nat.min_eq_right h, List.drop_of_length_le (by rw [List.length_take]; exact (an 0xa420d0a0 [_,_])), List.drop_of_length_le (by rw [List.length_take]; exact (an 0x148908a440d0a0 [_,_,_]) h)]
theorem vV (xs : List Nat) (i : Nat) : Txt.slice (S' xs) (some (i : Int)) none = S' (xs.drop i) := by
 rw [yQ]
 have h1 : clipN (some (i : Int)) 0 xs.length = min i xs.length := by unfold clipN; dsimp only; rw [if_neg (Int.not_lt.mpr (Int.natCast_nonneg _)), Int.toNat_natCast]
 have h2 : clipN none xs.length xs.length = xs.length := rfl
 rw [h1, h2, List.take_length]
 congr 1
 rcases Nat.le_total i xs.length with h | h
 · rw [Nat.min_eq_left h]
 · rw [Nat.min_eq_right h, List.drop_of_length_le (Nat.le_refl _), List.drop_of_length_le h]
theorem QA (xs : List Nat) (j : Nat) : Txt.slice (S' xs) none (some (j : Int)) = S' (xs.take j) := by
 have := qk xs 0 j
 rw [List.drop_zero] at this
 rw [← this, yQ, yQ]; rfl
theorem jJ (xs : List Nat) (j : Nat) (hj : 0 < j) : Txt.slice (S' xs) none (some (-(j : Int))) = S' (xs.take (xs.length - j)) := by
 rw [yQ]
 have h2 : clipN (some (-(j : Int))) xs.length xs.length = xs.length - j := by unfold clipN; dsimp only; rw [if_pos (by exact (an 0x168049112183a0 [_]) hj)]; exact (an 0x30120422008742183a0 [_,_])
 rw [h2]; rfl
theorem wt (xs : List Nat) (i : Nat) (hi : 0 < i) : Txt.slice (S' xs) (some (-(i : Int))) none = S' (xs.drop (xs.length - i)) := by
 rw [yQ]
 have h1 : clipN (some (-(i : Int))) 0 xs.length = xs.length - i := by unfold clipN; dsimp only; rw [if_pos (by exact (an 0x168049112183a0 [_]) hi)]; exact (an 0x30120422008742183a0 [_,_])
 have h2 : clipN none xs.length xs.length = xs.length := rfl
 rw [h1, h2, List.take_length]
theorem Xd (xs : List Nat) (i j : Nat) (hj : 0 < j) : Txt.slice (S' xs) (some (i : Int)) (some (-(j : Int))) = S' ((xs.take (xs.length - j)).drop i) := by
 rw [yQ]
 have h2 : clipN (some (-(j : Int))) xs.length xs.length = xs.length - j := by unfold clipN; dsimp only; rw [if_pos (by exact (an 0x168049112183a0 [_]) hj)]; exact (an 0x30120422008742183a0 [_,_])
 have h1 : clipN (some (i : Int)) 0 xs.length = min i xs.length := by unfold clipN; dsimp only; rw [if_neg (Int.not_lt.mpr (Int.natCast_nonneg _)), Int.toNat_natCast]
 rw [h1, h2]
 congr 1
 rcases Nat.le_total i xs.length with h | h
 · rw [Nat.min_eq_left h]
 · rw [Nat.min_eq_right h, List.drop_of_length_le (by rw [List.length_take]; exact (an 0x2900340090a0 [_,_])), List.drop_of_length_le (by rw [List.length_take]; exact (an 0x522402910340090a0 [_,_,_]) h)]
end
section
noncomputable abbrev gT (Lz : Addr) : Env := envOf "_law_told" (fdS (yq 24)) Lz 433 (.ref 432)
theorem Qv (P : Params) : (K P).lookup 433 = some bP := by kernel_rfl
theorem XR (P : Params) : codeIn (K P) (.ref 432) "_law_told" = true := by kernel_rfl
noncomputable def zv (xs : List Nat) (sz i : Nat) : List Nat := (xs.take (i + sz)).drop i
noncomputable def y9 (p : List Nat) : List Nat := p.drop 1
noncomputable def yS (p : List Nat) : List Nat := p.take (p.length - 1)
noncomputable def xl (p : List Nat) (G : List PN) : List PN := if p.length = 1 then Wb G (S' p) [] else Wb G (S' p) [S' (y9 p), S' (yS p)]
noncomputable def xV (xs : List Nat) (sz j : Nat) (G : List PN) : List PN := (List.range j).foldl (fun G i => xl (zv xs sz i) G) G
noncomputable def zo (xs : List Nat) (k : Nat) : List PN := (List.range k).foldl (fun G i => xV xs (xs.length - i) (i + 1) G) []
theorem xt {xs : List Nat} {sz i : Nat} (h : i + sz ≤ xs.length) : (zv xs sz i).length = sz := by
 unfold zv; rw [List.length_drop, List.length_take]; exact (an 0x522028500c420900344050a0 [_,_,_]) h
noncomputable def yF (c : Nat) (G : List PN) : Prop := G.length ≤ c ∧ ∀ n ∈ G, n.ss.length ≤ c
theorem yF.mono {c d : Nat} {G : List PN} (h : yF c G) (e : c ≤ d) : yF d G := ⟨by have := h.1; exact (an 0xa428852240290a0 [_,_,_]) e this, fun n hn => by have := h.2 n hn; exact (an 0xa428852240290a0 [_,_,_]) e this⟩
theorem yF.upd {c : Nat} {G : List PN} {x : Str} {f : PN → PN} (h : yF c G) (hf : ∀ n, (f n).ss.length ≤ n.ss.length + 1) : yF (c + 1) (yG G x f) := by
 refine ⟨by rw [XM]; have := h.1; exact (an 0xa428050182250a0 [_,_]) this, fun n hn => ?_⟩
 refine zc (List.mem_map.mp hn) fun n' hn' hq2 => ?_
 obtain rfl := hq2
 have := h.2 n' hn'
 split
 · have := hf n'; exact (an 0x290a21406089448050182250a0 [_,_,_]) ‹_› this
 · exact (an 0xa428050182250a0 [_,_]) this
theorem yF.ensure {c : Nat} {G : List PN} {x : Str} (h : yF c G) : yF (c + 1) (ensureP G x) :=
 ⟨by have := qX G x; have := h.1; exact (an 0x280c1128900a428850182250a0 [_,_,_]) ‹_› this, qw fun n hn => by have := h.2 n hn; exact (an 0xa428050182250a0 [_,_]) this⟩
theorem yF.fold {x : Str} : ∀ (ps : List Str) {c : Nat} {G : List PN}, yF c G → yF (c + 2 * ps.length) (ps.foldl (fun G p => vF G p x) G)
 | [], c, G, h => h
 | p :: ps, c, G, h => by
  rw [List.foldl_cons]
  have := yF.fold (x := x) ps (c := c + 1 + 1) (G := vF G p x) (h.ensure.upd fun n => by simp)
  exact this.mono (by rw [List.length_cons]; exact (an 0x5010a0608943084a002150c2120608903044a0 [_,_]))
theorem yF.add {c : Nat} {G : List PN} {x : Str} {ps : List Str} (h : yF c G) : yF (c + 2 + 2 * ps.length) (Wb G x ps) := by
 unfold Wb
 exact (yF.fold ps (c := c + 1 + 1) (h.ensure.upd fun n => by simp)).mono (by exact (an 0x5010a8610903084a002150c2120608903044a0 [_,_]))
theorem yF.one {c : Nat} {G : List PN} {p : List Nat} (h : yF c G) : yF (c + 6) (xl p G) := by
 unfold xl
 split
 · exact h.add.mono (by simp)
 · exact h.add.mono (by simp)
theorem yF.in_ (xs : List Nat) (sz : Nat) : ∀ (j : Nat) {c : Nat} {G : List PN}, yF c G → yF (c + 6 * j) (xV xs sz j G)
 | 0, c, G, h => h
 | j + 1, c, G, h => by
  unfold xV
  rw [List.range_succ, List.foldl_append]
  exact (yF.one (yF.in_ xs sz j h)).mono (by exact (an 0x2808503044a18c250018c2408543184a0 [_,_]))
theorem kT (xs : List Nat) (sz j : Nat) (G : List PN) : xV xs sz (j + 1) G = xl (zv xs sz j) (xV xs sz j G) := by
 unfold xV; rw [List.range_succ, List.foldl_append]; rfl
theorem xU (xs : List Nat) (k : Nat) : zo xs (k + 1) = xV xs (xs.length - k) (k + 1) (zo xs k) := by
 unfold zo; rw [List.range_succ, List.foldl_append]; rfl
theorem xD (xs : List Nat) : ∀ k : Nat, k ≤ 8 → yF (48 * k) (zo xs k)
 | 0, _ => ⟨Nat.le_refl _, fun n hn => by cases hn⟩
 | k + 1, h => by
  rw [xU]
  exact (yF.in_ xs _ (k + 1) (xD xs k (by exact (an 0x2a40903044a015204a0 [_]) h))).mono (by exact (an 0xa90240c1128050503044a0a1044810a0608941184854142089 [_]) h)
section
theorem YO {n k c : Int} {t u v : Tok} {Q : PV} (hc : c ≠ 0) (hp : Builtin.divisionGoesByPylong (k - n) c = false) (h : ∀ a t u v, H a = none → a ≠ L → Q (.ref a) m (put H a { cls := .type "range", dict := none, data := .fields #[.int n t, .int k u, .int c v], slots := #[] })) :
 W C A L (call (.type "range") [.int n t, .int k u, .int c v]) Q E m H := fun s S g => call_range_3 hc (by
 have p := S.push (o := { cls := .type "range", data := .fields #[.int n t, .int k u, .int c v] }) rfl
 exact ⟨m, _, p.1, g, rfl, h _ _ _ _ p.2.1 p.2.2⟩) (.inl hp)
theorem We {xs : List Nat} {t : Tok} {Q : PV} (X : Bd (K C.w.params) mg mb q loose C) (hroom : A.depth + 7 < recursionLimit) (hh : A.handled = none) (hz : xs.length ≤ 8)
 (h : ∀ H' Hs S dS N g, Upd (fun _ => none) H Hs H' → zs C.prog C.w Hs S dS N g none 0 0 → g.map (·.n) = zo xs xs.length → Q (.ref S) m H') :
 W C A L (call (.ref 433) [.str (S' xs) t]) Q E m H := by
 refine zF (binds := [("left", .str (S' xs) t)]) (Qf := fun v H' => ∃ S dS N g, v = .ref S ∧ zs C.prog C.w H' S dS N g none 0 0 ∧ g.map (·.n) = zo xs xs.length)
  (fun _ => none) X (Qv _) (XR _) (yu hroom) (fun s XX => zx XX (fun _ => by kernel_rfl)) ?_ (fun _ _ e => by cases e) (fun B' L' eB => ?_) (fun v Hf' H' hv u => ?_)
  (by kernel_rfl) (by kernel_rfl) (by kernel_rfl) ?_
 · intro y hy
   exact vD (by kernel_rfl) y hy
 · have X' := X.mono eB
   have m1 : (bl [("left", .str (S' xs) t)]) "left" = some (.str (S' xs) t) := by kernel_rfl
   generalize (bl [("left", .str (S' xs) t)]) = m0 at m1 ⊢
   have hh' : (A.deeper (gT L')).handled = none := hh
   have hlen : (S' xs).length = xs.length := by show xs.toArray.size = _; simp
   refine xp (env := gT L') (fun QQf hQQf => ?_)
   walk_at "r"
   with_reducible refine Yg X' (im _) (by kernel_rfl) ?_
   refine hV X' (by show A.depth + 1 + 2 < _; exact (an 0x2d0818e2500b420610903044a0 [_,_]) hroom) (fun H1 S dS N e1 nS nd nN SA => ?_)
   walk_at "r"
   refine kM hh' ?_ (fun _ => rfl)
   with_reducible refine zN X' (xn _) xo ?_
   walk_at "r"
   with_reducible refine zh X' (ju _) jv ?_
   walk_at "r"
   with_reducible refine yx (zA (by rw [hlen]; omega)) (fun _ => ?_)
   walk_at "r"
   rw [hlen]
   refine YO (by decide) (PyProof.noPylong_small (by omega)) (fun r _ _ _ hr hrL => ?_)
   refine (zE xs.length _ [] (fun k m H => m "left" = some (.str (S' xs) t) ∧ m "sorter" = some (.ref S) ∧ ∃ g, zs C.prog C.w H S dS N g none 0 0 ∧ g.map (·.n) = zo xs k)
    (zM zb (small_down (by omega) (by omega) (by omega) (by omega)) (by rw [rangeSize_downNat]; exact (an 0x15204a018810920e8038804243a0 [_,_]) hz hlen)) (zl (by walk_at "mp") (by walk_at "mp") (xa [] (yg (SA.keep (Ext.put_new hr)) rfl))) (by simp) (fun B2 k v m2 H2 eB2 hk hP hI => W.body fun QQb hQQb => ?_) (fun m2 H2 hI => ?_))
   · refine hdG fun gQ gZ => ?_
     refine zw hI fun i1 i2 zq => yW zq fun g zq => z5 zq fun SA2 hG => ?_
     try clear hI
     obtain ⟨tk, rfl⟩ := hP
     refine gZ ?_
     have X2 := X'.mono eB2
     rw [show ((xs.length : Int) + k * -1) = ((xs.length - k : Nat) : Int) from Jx (by exact (an 0xc42885a140290a0 [_,_,_]) hlen hk)]
     walk_at "r"
     refine kM hh' ?_ (fun _ => rfl)
     with_reducible refine zN X2 (xn _) xo ?_
     walk_at "r"
     with_reducible refine zh X2 (ju _) jv ?_
     walk_at "r"
     with_reducible refine yx (zA (by rw [hlen]; omega)) (fun _ => ?_)
     walk_at "r"
     rw [hlen, show ((xs.length : Int) - ((xs.length - k : Nat) : Int) + 1) = ((k + 1 : Nat) : Int) by exact (an 0x620442d021241c0c112840c1120838242803a0 [_,_,_]) hlen hk]
     refine jB (fun r2 _ _ _ hr2 hr2L => ?_)
     have hsz := xD xs k (by exact (an 0x5481284621442d0a015204a0 [_,_,_]) hz hlen hk)
     refine (zE (k + 1) _ [] (fun j m H => m "left" = some (.str (S' xs) t) ∧ m "sorter" = some (.ref S) ∧ (∃ u, m "size" = some (.int ((xs.length - k : Nat) : Int) u)) ∧ ∃ g, zs C.prog C.w H S dS N g none 0 0 ∧ g.map (·.n) = xV xs (xs.length - k) j (zo xs k))
      (zM zb (sm0 (by exact (an 0x15204a1188510b4280540a542f0903044a0 [_,_,_]) hz hlen hk)) sz0) (qs (by walk_at "mp") (by walk_at "mp") ⟨_, by walk_at "mp"⟩ (xa g (yg (SA2.keep (Ext.put_new hr2)) hG))) (by simp) (fun B3 j v m3 H3 eB3 hj hP3 hI3 => W.body fun QQb hQQb => ?_) (fun m3 H3 hI3 => ?_))
     · refine hdG fun gQ gZ => ?_
       refine xS hI3 fun j1 j2 hq2 zq => yW zq fun g3 zq => z5 zq fun SA3 hG3 => ?_
       try clear hI3
       obtain ⟨u3, j3⟩ := hq2
       obtain ⟨tk3, rfl⟩ := hP3
       refine gZ ?_
       have X3 := X2.mono eB3
       rw [show ((0 : Int) + j * 1) = (j : Int) by exact (an 0x90740042c1121d009 [_])]
       have hs3 := yF.in_ xs (xs.length - k) j hsz
       have hpl : (zv xs (xs.length - k) j).length = xs.length - k := xt (by exact (an 0x310a3168510b03044a2402908104890a0 [_,_,_,_]) hlen hk hj)
       walk_at "r"
       refine (zE _ _ _ _ rfl zS.i zS.i (zA (by rw [hlen]; exact (an 0x15204a0188108a917c4a0 [_,_]) hz hlen)) (fun _ => ?_))
       rw [show ((j : Int) + ((xs.length - k : Nat) : Int)) = ((j + (xs.length - k) : Nat) : Int) by exact (an 0x9070209121400438244843a0 [_,_,_]), qk]
       change W _ _ _ _ _ _ _ _
       walk_at "r"
       have hgl : g3.length ≤ 500 := by have := hs3.1; rw [← hG3, List.length_map] at this; exact (an 0xa902508c42885a1462c0c1128d20a021524612151d0822500aa93c4a0 [_,_,_,_,_]) hz hlen hk hj this
       have hss : ∀ d ∈ g3, d.n.ss.length ≤ 1000 := fun d hd => by have := hs3.2 d.n (by rw [← hG3]; exact List.mem_map.mpr (zd d hd rfl)); exact (an 0xa902508c42885a1462c0c1128d20a021524612151d0822500a917c4a0 [_,_,_,_,_]) hz hlen hk hj this
       refine z4 SA3.inst fun f I f1 f2 f3' f4 f5 => ?_
       refine zT (fun z => ?_) (fun z => ?_)
       · have hp1 : (zv xs (xs.length - k) j).length = 1 := by rw [hpl]; have := beq_iff_eq.mp z; exact (an 0x128224382428064112090a0 [_,_]) this
         walk_at "r"
         refine yC ?_ (by kernel_rfl) (by kernel_rfl)
         refine xN X3 ?_ _ rfl (by kernel_rfl) (by kernel_rfl)
         walk_at "r"
         refine (yn S dS cTS 367 _ 4 rfl I (f5 _ (by decide +kernel) (by decide +kernel) (by decide +kernel) (by decide +kernel)) (by kernel_rfl) (by kernel_rfl) (by kernel_rfl) (by kernel_rfl) ?_)
         walk_at "r"
         refine hO (pvs := []) (ps := []) X3 (by show A.depth + 1 + 5 < _; exact (an 0x2d0818e2500b420628903044a0 [_,_]) hroom) hh' (by kernel_rfl) Ext.rfl' SA3 .nil (by simp; exact (an 0x5549e2500a8f7c4a0 [_]) hgl) hss (fun H5 Hs5 g5 SA5 u5 hG5 => ?_)
         walk_at "r"
         refine ⟨by walk_at "mp", by walk_at "mp", ⟨_, by walk_at "mp"⟩, g5, SA5.keep u5.in_, ?_⟩
         rw [hG5, hG3, kT]
         unfold xl
         rw [if_pos hp1]; rfl
       · have hp1 : ¬ (zv xs (xs.length - k) j).length = 1 := by rw [hpl]; have z := beq_eq_false_iff_ne.mp z; exact (an 0x9c1121c121405864112090a0 [_,_]) z
         have hSl : (S' (zv xs (xs.length - k) j)).length = xs.length - k := by show (zv xs (xs.length - k) j).toArray.size = _; simp [hpl]
         walk_at "r"
         refine yC ?_ (by kernel_rfl) (by kernel_rfl)
         refine xN X3 ?_ _ rfl (by kernel_rfl) (by kernel_rfl)
         walk_at "r"
         refine (yn S dS cTS 367 _ 4 rfl I (f5 _ (by decide +kernel) (by decide +kernel) (by decide +kernel) (by decide +kernel)) (by kernel_rfl) (by kernel_rfl) (by kernel_rfl) (by kernel_rfl) ?_)
         walk_at "r"
         refine (zE _ _ (some ((1 : Nat) : Int)) _ rfl zS.i zS.n (zA (by unfold zv at hSl; rw [hSl]; exact (an 0x5481280620442d0211606089428c602428121619044a418090a04a2a45f12090a0 [_,_,_,_,_,_]) hz hlen hk hj hpl hp1 hSl)) (fun _ => ?_))
         rw [vV]
         walk_at "r"
         refine (zE _ _ _ (some (-((1 : Nat) : Int))) rfl zS.n zS.i (zA (by unfold zv at hSl; rw [hSl]; exact (an 0x5481280620442d0211606089428c602428121619044a418090a04a2a45f12090a0 [_,_,_,_,_,_]) hz hlen hk hj hpl hp1 hSl)) (fun _ => ?_))
         rw [jJ _ _ (by decide)]
         walk_at "r"
         refine hO (pvs := [_, _]) (ps := [_, _]) X3 (by show A.depth + 1 + 5 < _; exact (an 0x2d0818e2500b420628903044a0 [_,_]) hroom) hh' (by kernel_rfl) Ext.rfl' SA3 (.cons _ _ (.cons _ _ .nil)) (by simp; exact (an 0x5549e2500a8b7c4a0 [_]) hgl) hss (fun H5 Hs5 g5 SA5 u5 hG5 => ?_)
         walk_at "r"
         refine ⟨by walk_at "mp", by walk_at "mp", ⟨_, by walk_at "mp"⟩, g5, SA5.keep u5.in_, ?_⟩
         rw [hG5, hG3, kT]
         unfold xl
         rw [if_neg hp1]; rfl
     · refine hdG fun gQ gZ => ?_
       refine xS hI3 fun j1 j2 hq2 zq => yW zq fun g3 zq => z5 zq fun SA3 hG3 => ?_
       try clear hI3
       obtain ⟨u3, j3⟩ := hq2
       refine gZ ?_
       show W _ _ _ _ _ _ _ _
       walk_at "r"
       exact ⟨by walk_at "mp", by walk_at "mp", g3, SA3, by rw [hG3, xU]⟩
   · refine hdG fun gQ gZ => ?_
     refine zw hI fun i1 i2 zq => yW zq fun g zq => z5 zq fun SA2 hG => ?_
     refine gZ ?_
     try clear hI
     show W _ _ _ _ _ _ _ _
     walk_at "r"
     exact (Ky S dS N g (zl rfl SA2 hG))
 · refine KM hv fun S dS N g zq => zw zq fun hq4 a1 a2 => ?_
   try clear hv
   obtain rfl := hq4
   exact h H' Hf' S dS N g u a1 a2
 · have e : (fdS (yq 24)).names.all (fun x => x.2 != .cell) = true := by kernel_rfl
   intro x hx; have := List.all_eq_true.mp e x hx; exact bne_iff_ne.mp this
end
end
section
noncomputable def leS (a b : Str) : Bool := !ltCps b.cps.toList a.cps.toList
noncomputable def ji (l : List Str) : List Str := l.mergeSort leS
theorem wC (a b : Str) : leS a b = true ↔ a.cps.toList ≤ b.cps.toList := by
 unfold leS; rw [ltCps_eq, Bool.not_eq_true', decide_eq_false_iff_not]; exact List.not_lt
theorem qo (a b c : Str) (h : leS a b = true) (h' : leS b c = true) : leS a c = true := by
 rw [wC] at *; exact List.le_trans h h'
theorem jX (a b : Str) : (leS a b || leS b a) = true := by
 rw [Bool.or_eq_true, wC, wC]; exact List.le_total _ _
theorem JV {a b : Str} (h : a.cps.toList = b.cps.toList) : a = b := by
 cases a; cases b; congr 1; exact Array.toList_inj.mp h
theorem jk {a b : Str} (h : leS a b = true) (h' : leS b a = true) : a = b := by
 rw [wC] at *; exact JV (List.le_antisymm h h')
theorem jN : ∀ (p : Str) (l : List Str), risingS p l = true → (p :: l).Pairwise (fun a b => leS a b = true)
 | p, [], _ => List.pairwise_singleton _ _
 | p, x :: r, h => by
  have h : (leS p x && risingS x r) = true := h
  rw [Bool.and_eq_true] at h
  have ih := jN x r h.2
  refine List.pairwise_cons.mpr ⟨fun y hy => ?_, ih⟩
  rcases List.mem_cons.mp hy with rfl | hy
  · exact h.1
  · exact qo _ _ _ h.1 ((List.pairwise_cons.mp ih).1 y hy)
theorem ZM : ∀ l : List Str, sortedS l = true → l.Pairwise (fun a b => leS a b = true)
 | [], _ => .nil
 | x :: r, h => jN x r h
theorem w0 {l ss : List Str} (hp : l.Perm ss) (hs : sortedS l = true) : l = ji ss :=
 List.Perm.eq_of_pairwise (fun a b _ _ h h' => jk h h') (ZM l hs) (List.pairwise_mergeSort qo jX ss) (hp.trans (List.mergeSort_perm ss leS).symm)
theorem ZN {l l' : List Str} (h : l.Perm l') : ji l = ji l' :=
 List.Perm.eq_of_pairwise (fun a b _ _ h h' => jk h h') (List.pairwise_mergeSort qo jX l) (List.pairwise_mergeSort qo jX l') (((List.mergeSort_perm l leS).trans h).trans (List.mergeSort_perm l' leS).symm)
abbrev xm (l : List Str) : PyData := .list (l.map .str)
inductive yJ (H : HF) (x : Addr) : List Value → List (List Str) → Prop
 | nil : yJ H x [] []
 | cons {a : Addr} {ws : List Value} {k : Nat} {l : List Str} {vs : List Value} {ls : List (List Str)} (h : H a = some (ze ws k)) (s : StrsAre ws l) (n : a ≠ x) (r : yJ H x vs ls) : yJ H x (.ref a :: vs) (l :: ls)
theorem yJ.ext {H H' : HF} {x : Addr} (e : Ext H H') : ∀ {vs : List Value} {ls : List (List Str)}, yJ H x vs ls → yJ H' x vs ls
 | _, _, .nil => .nil
 | _, _, .cons h s n r => .cons (e _ _ h) s n (r.ext e)
theorem yJ.put {H : HF} {x : Addr} {o : Obj} : ∀ {vs : List Value} {ls : List (List Str)}, yJ H x vs ls → yJ (put H x o) x vs ls
 | _, _, .nil => .nil
 | _, _, .cons h s n r => .cons ((za n).trans h) s n r.put
theorem yJ.snoc {H : HF} {x a : Addr} {ws : List Value} {k : Nat} {l : List Str} (h : H a = some (ze ws k)) (s : StrsAre ws l) (n : a ≠ x) : ∀ {vs : List Value} {ls : List (List Str)}, yJ H x vs ls → yJ H x (vs ++ [.ref a]) (ls ++ [l])
 | _, _, .nil => .cons h s n .nil
 | _, _, .cons h' s' n' r => .cons h' s' n' (r.snoc h s n)
theorem yJ.length {H : HF} {x : Addr} : ∀ {vs : List Value} {ls : List (List Str)}, yJ H x vs ls → vs.length = ls.length
 | _, _, .nil => rfl
 | _, _, .cons h s n r => by rw [List.length_cons, List.length_cons, r.length]
theorem qI {H : HF} : ∀ {vs : List Value} {ss : List Str}, StrsAre vs ss → xT H vs (ss.map .str)
 | _, _, .nil => .nil
 | _, _, .cons x t r => .cons .str (qI r)
theorem yJ.rd {H : HF} {x : Addr} : ∀ {vs : List Value} {ls : List (List Str)}, yJ H x vs ls → xT H vs (ls.map xm)
 | _, _, .nil => .nil
 | _, _, .cons h s n r => .cons (.list h (qI s)) r.rd
theorem xK : ∀ l : List Str, (∀ s ∈ l, PyData.strOk s = true) → PyData.canLayAll0 (l.map .str) = true
 | [], _ => by simp [PyData.canLayAll0]
 | s :: r, h => by
  rw [List.map_cons]; unfold PyData.canLayAll0
  rw [xK r fun x hx => h x (.tail _ hx), Bool.and_true]
  unfold PyData.canLay0
  exact h s (.head _)
theorem kW (l : List Str) (h : ∀ s ∈ l, PyData.strOk s = true) : shaped (xm l) = true := by
 have h2 : PyData.depth (xm l) ≤ 64 := by simp only [PyData.depth]; rw [depthAll_strs']; exact (an 0x15021090304489 [])
 show (PyData.canLay0 (xm l) && decide (PyData.depth (xm l) ≤ 64)) = true
 rw [Bool.and_eq_true]
 exact ⟨by simp only [PyData.canLay0]; exact xK l h, decide_eq_true h2⟩
theorem jm : ∀ ls : List (List Str), (∀ l ∈ ls, ∀ s ∈ l, PyData.strOk s = true) → PyData.canLayAll0 (ls.map xm) = true
 | [], _ => by simp [PyData.canLayAll0]
 | l :: r, h => by
  rw [List.map_cons]; unfold PyData.canLayAll0
  rw [jm r fun x hx => h x (.tail _ hx), Bool.and_true]
  unfold PyData.canLay0
  exact xK l (h l (.head _))
theorem vg : ∀ ls : List (List Str), PyData.depthAll (ls.map xm) ≤ 1
 | [] => by simp [PyData.depthAll]
 | l :: r => by
  have := vg r
  rw [List.map_cons]; unfold PyData.depthAll PyData.depth
  rw [depthAll_strs']; exact (an 0xa822500a82242200304489 [_]) this
theorem jj (ls : List (List Str)) (h : ∀ l ∈ ls, ∀ s ∈ l, PyData.strOk s = true) : shaped (.list (ls.map xm)) = true := by
 have h1 := vg ls
 have h2 : PyData.depth (.list (ls.map xm)) ≤ 64 := by simp only [PyData.depth]; exact (an 0x15044a0150210903044a0 [_]) h1
 show (PyData.canLay0 (.list (ls.map xm)) && decide (PyData.depth (.list (ls.map xm)) ≤ 64)) = true
 rw [Bool.and_eq_true]
 exact ⟨by simp only [PyData.canLay0]; exact jm ls h, decide_eq_true h2⟩
theorem kB : ∀ a b : List Str, noMixAll (a.map .str) (b.map .str) = true
 | [], [] => by simp [noMixAll]
 | [], _ :: _ => by simp [noMixAll]
 | _ :: _, [] => by simp [noMixAll]
 | _ :: r, _ :: q => by simp [noMixAll, noMix, kB r q]
theorem jT : ∀ a b : List (List Str), noMixAll (a.map xm) (b.map xm) = true
 | [], [] => by simp [noMixAll]
 | [], _ :: _ => by simp [noMixAll]
 | _ :: _, [] => by simp [noMixAll]
 | _ :: r, _ :: q => by simp [noMixAll, noMix, jT r q, kB]
theorem wo (l : List Nat) (h : ∀ c ∈ l, c < 128) : PyData.strOk (S' l) = true := by
 show (l.toArray.all fun c => decide (c < 0x110000)) = true
 rw [List.all_toArray, List.all_eq_true]
 intro c hc
 have := h c hc
 exact decide_eq_true (by exact (an 0xb81104a0170204085044a0 [_]) this)
section
variable {C : Cx} {A : Around} {L : Addr} {E : PV} {m : Mp} {H : HF}
theorem Z9 {l : Addr} {vs : List Value} {k : Nat} {ys : List Str} {x : Str} {t : Tok} {Q : PV} (hl : H l = some (ze vs k)) (hi : StrsAre vs ys) (h : Q (.bool (!(ys.any (· == x)))) m H) : W C A L (compareOp .NotIn (.str x t) (.ref l)) Q E m H := fun s S g =>
 notin_list_strs (vs := vs) ⟨_, S.at_ _ _ hl, rfl, _, rfl⟩ hi ⟨m, H, S, g, rfl, h⟩
end
end
section
noncomputable abbrev gS (Lz : Addr) : Env := envOf "_law_due" (fdS (yq 26)) Lz 447 (.ref 446)
theorem VF (P : Params) : (K P).lookup 447 = some bN := by kernel_rfl
theorem Q2 (P : Params) : codeIn (K P) (.ref 446) "_law_due" = true := by kernel_rfl
theorem Yy (P : Params) : nsIn (K P) mainGlobals "sorted" = some none := by kernel_rfl
theorem YL : bootBuiltins "sorted" = some (.builtin "sorted") := by decide +kernel
noncomputable def qt (r p : List Nat) : Bool := Txt.contains (S' r) (S' p)
noncomputable def yX (xs r : List Nat) (sz : Nat) (ps : List (List Nat)) (i : Nat) : List (List Nat) :=
 if (!((ps.map S').any (· == S' (zv xs sz i))) && qt r (y9 (zv xs sz i)) && qt r (yS (zv xs sz i))) = true then ps ++ [zv xs sz i] else ps
noncomputable def dueP (xs r : List Nat) (sz j : Nat) : List (List Nat) := (List.range j).foldl (yX xs r sz) []
noncomputable def yN (xs r : List Nat) (k : Nat) : List (List Str) := (List.range k).foldl (fun D i => if dueP xs r (i + 1) (xs.length - i) = [] then D else D ++ [ji ((dueP xs r (i + 1) (xs.length - i)).map S')]) []
theorem ki (xs r : List Nat) (sz j : Nat) : dueP xs r sz (j + 1) = yX xs r sz (dueP xs r sz j) j := by
 unfold dueP; rw [List.range_succ, List.foldl_append]; rfl
theorem qd (xs r : List Nat) (k : Nat) : yN xs r (k + 1) = if dueP xs r (k + 1) (xs.length - k) = [] then yN xs r k else yN xs r k ++ [ji ((dueP xs r (k + 1) (xs.length - k)).map S')] := by
 unfold yN; rw [List.range_succ, List.foldl_append]; rfl
theorem Z0 {xs r : List Nat} {sz : Nat} {ps : List (List Nat)} {i : Nat} (h : ∀ p ∈ ps, ∀ c ∈ p, c ∈ xs) : ∀ p ∈ yX xs r sz ps i, ∀ c ∈ p, c ∈ xs := by
 intro p hp
 unfold yX at hp
 split at hp
 · rcases List.mem_append.mp hp with hp | hp
   · exact h p hp
   · rw [List.mem_singleton.mp hp]
     intro c hc
     exact List.mem_of_mem_take (List.mem_of_mem_drop hc)
 · exact h p hp
theorem YE (xs r : List Nat) (sz : Nat) : ∀ j, ∀ p ∈ dueP xs r sz j, ∀ c ∈ p, c ∈ xs
 | 0 => fun p hp => by cases hp
 | j + 1 => by rw [ki]; exact Z0 (YE xs r sz j)
theorem jz (xs r : List Nat) (sz : Nat) : ∀ j, (dueP xs r sz j).length ≤ j
 | 0 => Nat.le_refl _
 | j + 1 => by
  rw [ki]
  have := jz xs r sz j
  unfold yX
  split
  · rw [List.length_append]; simp; exact (an 0x52140290a0 [_,_]) this
  · exact (an 0xa428050182250a0 [_,_]) this
theorem v8 (xs r : List Nat) : ∀ k, (yN xs r k).length ≤ k
 | 0 => Nat.le_refl _
 | k + 1 => by
  rw [qd]
  have := v8 xs r k
  split
  · exact (an 0xa428050182250a0 [_,_]) this
  · rw [List.length_append]; simp; exact (an 0x52140290a0 [_,_]) this
section
theorem fc {xs r : List Nat} {t u : Tok} {Q : PV} (X : Bd (K C.w.params) mg mb q loose C) (hroom : A.depth + 7 < recursionLimit) (hh : A.handled = none) (hu : A.units + 100 < cLine) (hz : xs.length ≤ 8) (hr : r.length ≤ 100) (hc : ∀ c ∈ xs, c < 128)
 (h : ∀ H' D vs k, Ext H H' → H D = none → H' D = some (ze vs k) → yJ H' D vs (yN xs r xs.length) → Q (.ref D) m H') :
 W C A L (call (.ref 447) [.str (S' xs) t, .str (S' r) u]) Q E m H := by
 refine zF (binds := [("left", .str (S' xs) t), ("right", .str (S' r) u)]) (Qf := fun v H' => ∃ D vs k, v = .ref D ∧ H' D = some (ze vs k) ∧ yJ H' D vs (yN xs r xs.length))
  (fun _ => none) X (VF _) (Q2 _) (yu hroom) (fun s XX => zx XX (fun _ => by kernel_rfl)) ?_ (fun _ _ e => by cases e) (fun B' L' eB => ?_) (fun v Hf' H' hv u => ?_)
  (by kernel_rfl) (by kernel_rfl) (by kernel_rfl) ?_
 · intro y hy
   exact vD (by kernel_rfl) y hy
 · have X' := X.mono eB
   have m1 : (bl [("left", .str (S' xs) t), ("right", .str (S' r) u)]) "left" = some (.str (S' xs) t) := by kernel_rfl
   have m2 : (bl [("left", .str (S' xs) t), ("right", .str (S' r) u)]) "right" = some (.str (S' r) u) := by kernel_rfl
   generalize (bl [("left", .str (S' xs) t), ("right", .str (S' r) u)]) = m0 at m1 m2 ⊢
   have hh' : (A.deeper (gS L')).handled = none := hh
   have hlen : (S' xs).length = xs.length := by show xs.toArray.size = _; simp
   refine xp (env := gS L') (fun QQf hQQf => ?_)
   walk_at "r"
   refine zK (by decide +kernel) (fun D nD nDL => ?_)
   walk_at "r"
   refine kM hh' ?_ (fun _ => rfl)
   with_reducible refine zN X' (xn _) xo ?_
   walk_at "r"
   with_reducible refine zh X' (ju _) jv ?_
   walk_at "r"
   with_reducible refine yx (zA (by rw [hlen]; omega)) (fun _ => ?_)
   walk_at "r"
   rw [hlen]
   refine jA (fun rr _ _ _ hr' hrL => ?_)
   have hDr : D ≠ rr := fun z => by rw [← z, zb] at hr'; cases hr'
   refine (zE xs.length _ [] (fun k m H => m "left" = some (.str (S' xs) t) ∧ m "right" = some (.str (S' r) u) ∧ m "due" = some (.ref D) ∧ ∃ vs kk, H D = some (ze vs kk) ∧ yJ H D vs (yN xs r k))
    (zM zb (small_one (by omega) (by omega) (by omega) (by omega)) (by rw [rangeSize_one]; split <;> omega)) (qs (by walk_at "mp") (by walk_at "mp") (by walk_at "mp") (yL [] 0 (yg ((za hDr).trans zb) (.nil)))) (by simp) (fun B2 k v m2 H2 eB2 hk hP hI => W.body fun QQb hQQb => ?_) (fun m2 H2 hI => ?_))
   · refine hdG fun gQ gZ => ?_
     refine xS hI fun i1 i2 i3 zq => yE zq fun vs kk zq => z5 zq fun i4 i5 => ?_
     try clear hI
     obtain ⟨tk, rfl⟩ := hP
     refine gZ ?_
     have X2 := X'.mono eB2
     rw [show ((1 : Int) + k * 1) = ((k + 1 : Nat) : Int) by exact (an 0x90703044a002160890e82089 [_])]
     walk_at "r"
     refine zK (by decide +kernel) (fun pa nP nPL => ?_)
     walk_at "r"
     refine kM hh' ?_ (fun _ => rfl)
     with_reducible refine zN X2 (xn _) xo ?_
     walk_at "r"
     with_reducible refine zh X2 (ju _) jv ?_
     walk_at "r"
     with_reducible refine yx (zA (by rw [hlen]; omega)) (fun _ => ?_)
     walk_at "r"
     rw [hlen, show ((xs.length : Int) - ((k + 1 : Nat) : Int) + 1) = ((xs.length - k : Nat) : Int) by exact (an 0x620442d021241c1214006089041c0c112843a0 [_,_,_]) hlen hk]
     refine jB (fun r2 _ _ _ hr2 hr2L => ?_)
     have hpr : pa ≠ r2 := fun z => by rw [← z, zb] at hr2; cases hr2
     refine (zE (xs.length - k) _ [] (fun j m H => m "left" = some (.str (S' xs) t) ∧ m "right" = some (.str (S' r) u) ∧ m "due" = some (.ref D) ∧ m "parts" = some (.ref pa) ∧ (∃ u, m "size" = some (.int ((k + 1 : Nat) : Int) u)) ∧
      Ext H2 H ∧ ∃ ws kw, H pa = some (ze ws kw) ∧ StrsAre ws ((dueP xs r (k + 1) j).map S'))
      (zM zb (sm0 (by exact (an 0x2a4094031022168108a814a85e12090a0 [_,_,_]) hz hlen hk)) sz0) (Zm (by walk_at "mp") (by walk_at "mp") (by walk_at "mp") (by walk_at "mp") ⟨_, by walk_at "mp"⟩ ((Ext.put_new nP).trans (Ext.put_new hr2)) (yL [] 0 (yg ((za hpr).trans zb) (.nil)))) (by simp) (fun B3 j v m3 H3 eB3 hj hP3 hI3 => W.body fun QQb hQQb => ?_) (fun m3 H3 hI3 => ?_))
     · refine hdG fun gQ gZ => ?_
       refine vL hI3 fun j1 j2 j3 j4 hq4 j6 zq => yE zq fun ws kw zq => z5 zq fun j7 j8 => ?_
       try clear hI3
       obtain ⟨u3, j5⟩ := hq4
       obtain ⟨tk3, rfl⟩ := hP3
       refine gZ ?_
       have X3 := X2.mono eB3
       rw [show ((0 : Int) + j * 1) = (j : Int) by exact (an 0x90740042c1121d009 [_])]
       have hpl : (zv xs (k + 1) j).length = k + 1 := xt (by exact (an 0x31123168908b0485120148808182250a0 [_,_,_,_]) hlen hk hj)
       have hSl : (S' (zv xs (k + 1) j)).length = k + 1 := by show (zv xs (k + 1) j).toArray.size = _; simp [hpl]
       have hSl' : (S' (List.drop j (List.take (j + (k + 1)) xs))).length = k + 1 := hSl
       walk_at "r"
       refine (zE _ _ _ _ rfl zS.i zS.i (zA (by rw [hlen]; exact (an 0x15204a0188108a917c4a0 [_,_]) hz hlen)) (fun _ => ?_))
       rw [show ((j : Int) + ((k + 1 : Nat) : Int)) = ((j + (k + 1) : Nat) : Int) by exact (an 0x241c08182250a0021c0c112843a0 [_,_]), qk]
       change W _ _ _ _ _ _ _ _
       walk_at "r"
       refine Z9 j7 j8 ?_
       have hstep := ki xs r (k + 1) j
       have hmem := jz xs r (k + 1) j
       generalize dueP xs r (k + 1) j = ps at j8 hstep hmem ⊢
       have hwl : ws.length = ps.length := by rw [j8.length, List.length_map]
       have hskip : (!((ps.map S').any (· == S' (zv xs (k + 1) j))) && qt r (y9 (zv xs (k + 1) j)) && qt r (yS (zv xs (k + 1) j))) = false → yX xs r (k + 1) ps j = ps := fun e => by unfold yX; rw [e, if_neg (by decide)]
       have htake : (!((ps.map S').any (· == S' (zv xs (k + 1) j))) && qt r (y9 (zv xs (k + 1) j)) && qt r (yS (zv xs (k + 1) j))) = true → yX xs r (k + 1) ps j = ps ++ [zv xs (k + 1) j] := fun e => by unfold yX; rw [e, if_pos rfl]
       change W _ _ _ (truthy (Value.bool !((ps.map S').any fun x => x == S' (zv xs (k + 1) j)))) _ _ _ _
       walk_at "r"
       refine z6 (fun hc1 => ?_) (fun hc1 => ?_)
       · walk_at "r"
         refine (zE _ _ (some ((1 : Nat) : Int)) _ rfl zS.i zS.n (zA (by rw [hSl']; exact (an 0x15204a1188510b428060182250231806089409060182250251522f8903044a0 [_,_,_,_,_,_]) hz hlen hk hpl hSl hSl')) (fun _ => ?_))
         rw [vV]
         change W _ _ _ _ _ _ _ _
         walk_at "r"
         with_reducible refine K8 ?_
         walk_at "r"
         refine z6 (fun hc2 => ?_) (fun hc2 => ?_)
         · have hc2 : qt r (y9 (zv xs (k + 1) j)) = true := hc2
           walk_at "r"
           refine (zE _ _ _ (some (-((1 : Nat) : Int))) rfl zS.n zS.i (zA (by rw [hSl']; exact (an 0x15204a1188510b428060182250231806089409060182250251522f8903044a0 [_,_,_,_,_,_]) hz hlen hk hpl hSl hSl')) (fun _ => ?_))
           rw [jJ _ _ (by decide)]
           change W _ _ _ _ _ _ _ _
           walk_at "r"
           with_reducible refine K8 ?_
           walk_at "r"
           refine z6 (fun hc3 => ?_) (fun hc3 => ?_)
           · have hc3 : qt r (yS (zv xs (k + 1) j)) = true := hc3
             walk_at "r"
             with_reducible refine vt ?_
             walk_at "r"
             with_reducible refine zQ ?_
             with_reducible refine zC ?_
             walk_at "r"
             refine (zy ("list") ("list.append") PySem.F.plainAttrs_list slot_list_append PySem.F.type_list_append (.ref j7) ?_)
             walk_at "r"
             refine yB j7 (zX (by exact (an 0x5481284621442d0a316091a148300c1128d28c03044a34c300c1128d38a48a0628402a055830c4a0 [_,_,_,_,_,_,_,_,_]) hz hlen hk hj hpl hSl hSl' hmem hwl)) ⟨(fun _ => nofun), ?_⟩
             walk_at "r"
             refine ⟨by walk_at "mp", by walk_at "mp", by walk_at "mp", by walk_at "mp", ⟨_, by walk_at "mp"⟩, z9 j6 nP, _, _, zb, ?_⟩
             rw [hstep, htake (by rw [hc1, hc2, hc3]; rfl), List.map_append]
             exact yk j8
           · walk_at "r"
             refine ⟨by walk_at "mp", by walk_at "mp", by walk_at "mp", by walk_at "mp", ⟨_, by walk_at "mp"⟩, j6, _, _, j7, ?_⟩
             rw [hstep, hskip (by rw [hc1, hc2, show qt r (yS (zv xs (k + 1) j)) = false from hc3]; rfl)]; exact j8
         · walk_at "r"
           refine ⟨by walk_at "mp", by walk_at "mp", by walk_at "mp", by walk_at "mp", ⟨_, by walk_at "mp"⟩, j6, _, _, j7, ?_⟩
           rw [hstep, hskip (by rw [hc1, show qt r (y9 (zv xs (k + 1) j)) = false from hc2]; rfl)]; exact j8
       · walk_at "r"
         refine ⟨by walk_at "mp", by walk_at "mp", by walk_at "mp", by walk_at "mp", ⟨_, by walk_at "mp"⟩, j6, _, _, j7, ?_⟩
         rw [hstep, hskip (by rw [hc1]; rfl)]; exact j8
     · refine hdG fun gQ gZ => ?_
       refine vL hI3 fun j1 j2 j3 j4 hq4 j6 zq => yE zq fun ws kw zq => z5 zq fun j7 j8 => ?_
       try clear hI3
       obtain ⟨u3, j5⟩ := hq4
       refine gZ ?_
       show W _ _ _ _ _ _ _ _
       have hmem := YE xs r (k + 1) (xs.length - k)
       have hdl := jz xs r (k + 1) (xs.length - k)
       have hstep := qd xs r k
       have hal := v8 xs r k
       generalize dueP xs r (k + 1) (xs.length - k) = ps at j8 hmem hdl hstep
       have hwl : ws.length = ps.length := by rw [j8.length, List.length_map]
       have hvl : vs.length = (yN xs r k).length := i5.length
       have i4' := j6 _ _ i4
       have i5' := i5.ext j6
       walk_at "r"
       refine zK (by decide +kernel) (fun e0 ne0 ne0L => ?_)
       have hpe : pa ≠ e0 := fun z => by rw [← z, j7] at ne0; cases ne0
       have hDe : D ≠ e0 := fun z => by rw [← z, i4'] at ne0; cases ne0
       have hpD : pa ≠ D := fun z => by rw [z, i4] at nP; cases nP
       refine K4 (da := xm (ps.map S')) (db := .list []) (.list ((za hpe).trans j7) (qI j8)) (.list zb .nil) (kW _ fun s hs => ?_) (by decide +kernel) ?_ ?_ ?_
       · refine zc (List.mem_map.mp hs) fun p hp hq2 => ?_
         obtain rfl := hq2
         exact wo p fun c hcp => hc c (hmem p hp c hcp)
       · cases ps <;> rfl
       · show A.units + 3 + 64 < cLine
         exact (an 0xb420624312805a10302109030c4a0 [_,_]) hu
       have hsame : (!Spec.same (xm (ps.map S')) (.list [])) = !ps.isEmpty := by cases ps <;> rfl
       rw [hsame]
       walk_at "r"
       refine zT (fun z => ?_) (fun z => ?_)
       · have hne : ps ≠ [] := fun e => by rw [e] at z; cases z
         rw [if_neg hne] at hstep
         walk_at "r"
         with_reducible refine zQ ?_
         with_reducible refine zC ?_
         walk_at "r"
         refine (zy ("list") ("list.append") PySem.F.plainAttrs_list slot_list_append PySem.F.type_list_append (.ref ((za hDe).trans i4')) ?_)
         walk_at "r"
         with_reducible refine zh X2 (Yy _) YL ?_
         walk_at "r"
         refine Zx ((za hpe).trans j7) j8 (by exact (an 0xa902508c42885a146291a414091a14a312a0189130b81084a0 [_,_,_,_,_,_,_]) hz hlen hk hal hdl hwl hvl) (fun so ws' ss' k' nso nsoL hso hperm hsrt => ?_)
         walk_at "r"
         have hDs : D ≠ so := fun z => by rw [← z, za hDe, i4'] at nso; cases nso
         have i4'' := (za (o := ze ws' k') hDs).trans ((za (o := ze [] 0) hDe).trans i4')
         refine yB i4'' (zX (by exact (an 0x2a40942310a2168518a4690624402a055830c4a0 [_,_,_,_,_]) hz hlen hk hal hvl)) ⟨(fun _ => nofun), ?_⟩
         walk_at "r"
         refine ⟨by walk_at "mp", by walk_at "mp", by walk_at "mp", _, _, zb, ?_⟩
         rw [hstep, ← w0 hperm hsrt]
         exact ((i5'.ext (Ext.put_new ne0)).ext (Ext.put_new nso)).put.snoc ((za (Ne.symm hDs)).trans zb) hso (Ne.symm hDs)
       · have hne : ps = [] := by cases ps with | nil => rfl | cons a b => cases z
         rw [if_pos hne] at hstep
         walk_at "r"
         refine ⟨by walk_at "mp", by walk_at "mp", by walk_at "mp", _, _, (za hDe).trans i4', ?_⟩
         rw [hstep]
         exact i5'.ext (Ext.put_new ne0)
   · refine hdG fun gQ gZ => ?_
     refine xS hI fun i1 i2 i3 zq => yE zq fun vs kk zq => z5 zq fun i4 i5 => ?_
     refine gZ ?_
     try clear hI
     show W _ _ _ _ _ _ _ _
     walk_at "r"
     exact (jY D vs kk rfl i4 i5)
 · refine vK hv fun D vs k zq => zw zq fun hq3 a1 a2 => ?_
   try clear hv
   obtain rfl := hq3
   exact h H' D vs k u.ext0 (u.fresh _ rfl (by rw [a1]; simp)) (u.in_ _ _ a1) (a2.ext u.in_)
 · have e : (fdS (yq 26)).names.all (fun x => x.2 != .cell) = true := by kernel_rfl
   intro x hx; have := List.all_eq_true.mp e x hx; exact bne_iff_ne.mp this
end
end
section
noncomputable def atB (r w : List Nat) (i : Nat) : Bool := decide (i + w.length ≤ r.length) && ((r.drop i).take w.length == w)
noncomputable def qL (r w : List Nat) : Bool := (List.range (r.length + 1)).any (atB r w)
theorem kF {r w : List Nat} : qL r w = true ↔ ∃ i, atB r w i = true := by
 unfold qL
 rw [List.any_eq_true]
 constructor
 · rintro ⟨i, _, h⟩; exact ⟨i, h⟩
 · rintro ⟨i, h⟩
   refine (zd i (List.mem_range.mpr ?_) h)
   unfold atB at h
   rw [Bool.and_eq_true, decide_eq_true_eq] at h
   exact (an 0x29081448058182250a0 [_,_,_]) h.1
theorem zV (l : List Nat) : (S' l).cps.toList = l := rfl
theorem yD (l : List Nat) : (S' l).length = l.length := by show l.toArray.size = _; simp
theorem vN (a b : List Nat) : S' a ++ S' b = S' (a ++ b) := by
 show (⟨a.toArray ++ b.toArray⟩ : Str) = _
 congr 1; simp
theorem Ql {a b : List Nat} (h : S' a = S' b) : a = b := by have := congrArg (fun s : Str => s.cps.toList) h; exact this
theorem XI (x : Str) : S' x.cps.toList = x := by cases x; rfl
theorem wm (r w : List Nat) (i : Nat) : Builtin.Str.subAt (S' r) (S' w) i = ((r.drop i).take w.length == w) := by
 rw [StrLaws.subAt_eq]
 rw [yD]
theorem YC (r w : List Nat) : qt r w = qL r w := by
 rw [Bool.eq_iff_iff, kF]
 unfold qt Txt.contains
 rw [StrLaws.found_iff]
 constructor
 · rintro ⟨i, h1, h2⟩
   rw [yD, yD] at h1
   rw [wm] at h2
   refine ⟨i, ?_⟩
   unfold atB
   rw [h2, Bool.and_true]; exact decide_eq_true h1
 · rintro ⟨i, h⟩
   unfold atB at h
   rw [Bool.and_eq_true, decide_eq_true_eq] at h
   exact (zd i (by rw [yD, yD]; exact h.1) (by rw [wm]; exact h.2))
noncomputable def xW (p : List Nat) : Str := Zj (y8 (42 :: (p ++ [42])))
noncomputable def XH : List Nat := (Str.ofString "(?s:(?>.*?").cps.toList
noncomputable def XG : List Nat := (Str.ofString ").*)\\Z").cps.toList
noncomputable def zj (p : List Nat) : Bool := p.all kP
theorem kN : ∀ (p : List Nat) (acc : List (Option Nat)), zj p = true → p.foldl yj acc = acc ++ p.map some
 | [], acc, _ => by simp
 | c :: p, acc, h => by
  unfold zj at h
  rw [List.all_cons, Bool.and_eq_true] at h
  have h1 : 97 ≤ c ∧ c ≤ 122 := by have := h.1; unfold kP at this; simpa using this
  have hs : yj acc c = acc ++ [some c] := by unfold yj; rw [if_neg (by exact (an 0x17156a18940290418624b0c95044a0 [_]) h1), if_neg (by exact (an 0x17156a18940290418624b0cbf044a0 [_]) h1)]
  rw [List.foldl_cons, hs, kN p _ h.2, List.map_cons, List.append_assoc]; rfl
theorem vP {p : List Nat} (h : zj p = true) (hp : p ≠ []) : y8 (42 :: (p ++ [42])) = none :: (p.map some ++ [none]) := by
 unfold y8
 have h0 : yj [] 42 = [none] := rfl
 rw [List.foldl_cons, h0, List.foldl_append, kN p _ h]
 show yj ([none] ++ p.map some) 42 = _
 obtain ⟨a, b, rfl⟩ : ∃ a b, p = a ++ [b] := ⟨p.dropLast, p.getLast hp, (List.dropLast_concat_getLast hp).symm⟩
 have hl : ([none] ++ (a ++ [b]).map some).getLast? ≠ some none := by
  rw [List.map_append, ← List.append_assoc, List.map_singleton, List.getLast?_concat]; simp
 unfold yj
 rw [if_pos rfl, if_neg hl]; rfl
theorem Zi : ∀ p : List Nat, km (p.map fun c => kO (some c)) = S' p
 | [] => rfl
 | [c] => rfl
 | c :: d :: p => by
  have ih := Zi (d :: p)
  unfold km Txt.join at ih ⊢
  rw [StrLaws.glued_eq_join] at ih ⊢
  have : Str.join Str.empty (kO (some c) :: kO (some d) :: p.map fun c => kO (some c)) = kO (some c) ++ Str.empty ++ Str.join Str.empty (kO (some d) :: p.map fun c => kO (some c)) := rfl
  rw [List.map_cons, List.map_cons, this]
  rw [List.map_cons] at ih
  rw [ih]
  show S' [c] ++ S' [] ++ S' (d :: p) = _
  rw [vN, vN]; rfl
theorem vR : ∀ p : List Nat, (p.map some ++ [none]).takeWhile zD = p.map some
 | [] => rfl
 | c :: p => by rw [List.map_cons, List.cons_append, List.takeWhile_cons, if_pos (show zD (some c) = true from rfl), vR p]
theorem wa : ∀ p : List Nat, (p.map some ++ [none]).dropWhile zD = [none]
 | [] => rfl
 | c :: p => by rw [List.map_cons, List.cons_append, List.dropWhile_cons, if_pos (show zD (some c) = true from rfl), wa p]
theorem jG {p : List Nat} (h : zj p = true) (hp : p ≠ []) : xW p = S' (XH ++ p ++ XG) := by
 unfold xW
 rw [vP h hp]
 have hj : yi (none :: (p.map some ++ [none])) = [Str.empty ++ Str.ofString "(?>.*?" ++ S' p ++ Str.ofString ")", ".*"] := by
  unfold yi
  have e1 : (none :: (p.map some ++ [none])).takeWhile zD = [] := rfl
  have e2 : (none :: (p.map some ++ [none])).dropWhile zD = none :: (p.map some ++ [none]) := rfl
  rw [e1, e2]
  obtain ⟨c, p', rfl⟩ : ∃ c p', p = c :: p' := by cases p with | nil => exact absurd rfl hp | cons c p' => exact ⟨c, p', rfl⟩
  have e3 := vR (c :: p')
  have e4 := wa (c :: p')
  have e5 := Zi (c :: p')
  rw [List.map_cons, List.cons_append] at e3 e4
  rw [List.map_cons, List.cons_append]
  show [] ++ yb ((none :: some c :: (p'.map some ++ [none])).length + 1) (none :: some c :: (p'.map some ++ [none])) = _
  unfold yb
  simp only [e3, e4]
  have e6 : ((some c :: p'.map some).map kO) = (c :: p').map fun c => kO (some c) := by
   rw [List.map_cons, List.map_map, List.map_cons]; rfl
  rw [e6, e5]
  rfl
 unfold Zj
 rw [hj]
 have hc : km [Str.empty ++ Str.ofString "(?>.*?" ++ S' p ++ Str.ofString ")", ".*"] = S' ((Str.ofString "(?>.*?").cps.toList ++ p ++ (Str.ofString ")").cps.toList ++ (Str.ofString ".*").cps.toList) := by
  unfold km Txt.join
  rw [StrLaws.glued_eq_join]
  show (Str.empty ++ Str.ofString "(?>.*?" ++ S' p ++ Str.ofString ")") ++ Str.empty ++ Str.ofString ".*" = _
  rw [← XI (Str.ofString "(?>.*?"), ← XI (Str.ofString ")"), ← XI (Str.ofString ".*"), ← XI Str.empty]
  simp only [vN]
  have e0 : Str.empty.cps.toList = [] := rfl
  simp only [e0, List.nil_append, List.append_nil]
 rw [hc, ← XI (Str.ofString "(?s:"), ← XI (Str.ofString ")\\Z"), ← XI Str.empty]
 simp only [vN]
 congr 1
 have a1 : XH = Str.empty.cps.toList ++ (Str.ofString "(?s:").cps.toList ++ (Str.ofString "(?>.*?").cps.toList := by decide +kernel
 have a2 : XG = (Str.ofString ")").cps.toList ++ (Str.ofString ".*").cps.toList ++ (Str.ofString ")\\Z").cps.toList := by decide +kernel
 rw [a1, a2]
 simp only [zV, List.append_assoc]
theorem Kd : XH.length = 10 := by decide +kernel
theorem XV : XG.length = 6 := by decide +kernel
theorem w9 (r p : List Nat) (n : Nat) : (!(yK (S' r) (S' p) n).isEmpty) = (List.range n).any fun k => (r.take (k + p.length)).drop k == p := by
 have hs : ∀ k : Nat, (Txt.slice (S' r) (some (k : Int)) (some ((k : Int) + (S' p).length))).cps.toList = (r.take (k + p.length)).drop k := fun k => by
  rw [yD, show ((k : Int) + (p.length : Int)) = ((k + p.length : Nat) : Int) by exact (an 0x90702850010e843a0 [_,_]), qk]
 unfold yK
 rw [List.filter_map, Bool.eq_iff_iff, List.any_eq_true]
 constructor
 · intro h
   have h : ((List.range n).filter ((fun k : Int => (Txt.slice (S' r) (some k) (some (k + (S' p).length))).cps.toList == (S' p).cps.toList) ∘ fun (k : Nat) => (k : Int))) ≠ [] := by
    intro e; rw [e] at h; cases h
   obtain ⟨k, hk⟩ := List.exists_mem_of_ne_nil _ h
   rw [List.mem_filter] at hk
   refine (zd k hk.1 ?_)
   have := hk.2
   simp only [Function.comp] at this
   rw [hs] at this
   exact this
 · rintro ⟨k, hk, he⟩
   have : k ∈ (List.range n).filter ((fun k : Int => (Txt.slice (S' r) (some k) (some (k + (S' p).length))).cps.toList == (S' p).cps.toList) ∘ fun (k : Nat) => (k : Int)) := by
    rw [List.mem_filter]
    refine ⟨hk, ?_⟩
    simp only [Function.comp]
    rw [hs]
    exact he
   rw [Bool.not_eq_true']
   cases hq : ((List.range n).filter ((fun k : Int => (Txt.slice (S' r) (some k) (some (k + (S' p).length))).cps.toList == (S' p).cps.toList) ∘ fun (k : Nat) => (k : Int))) with
   | nil => rw [hq] at this; cases this
   | cons a b => rfl
theorem v9 (r : List Nat) (k n : Nat) : (r.take (k + n)).drop k = (r.drop k).take n := by
 rw [List.drop_take]; congr 1; exact (an 0x3108240050a0 [_,_])
theorem XZ (r p : List Nat) (hp : p ≠ []) : ((List.range r.length).any fun k => (r.take (k + p.length)).drop k == p) = qL r p := by
 have hl : 0 < p.length := List.length_pos_iff.mpr hp
 rw [Bool.eq_iff_iff, kF, List.any_eq_true]
 constructor
 · rintro ⟨k, hk, he⟩
   refine ⟨k, ?_⟩
   rw [v9] at he
   have hlen := congrArg List.length (beq_iff_eq.mp he)
   rw [List.length_take, List.length_drop] at hlen
   unfold atB
   rw [he, Bool.and_true]; exact decide_eq_true (by have := List.mem_range.mp hk; exact (an 0x310830481121168900a44050a0 [_,_,_]) hlen this)
 · rintro ⟨k, h⟩
   unfold atB at h
   rw [Bool.and_eq_true, decide_eq_true_eq] at h
   exact (zd k (List.mem_range.mpr (by exact (an 0x2d10914840a2402d0a0 [_,_,_]) hl h.1)) (by rw [v9]; exact h.2))
theorem jI {p r : List Nat} (h : zj p = true) (hp : p ≠ []) : takesB (xW p) (S' r) = qL r p := by
 rw [jG h hp]
 unfold takesB yv
 have lp := Kd
 have ls := XV
 have e1 : Txt.slice (S' (XH ++ p ++ XG)) none (some 10) = S' XH := by
  have := QA (XH ++ p ++ XG) 10
  rw [show ((10 : Nat) : Int) = 10 from rfl] at this
  rw [this]; refine congrArg S' ?_
  rw [List.append_assoc, List.take_append_of_le_length (by exact (an 0x19284a01482509 [_]) lp), List.take_of_length_le (by exact (an 0x19284a015284a0 [_]) lp)]
 have e2 : Txt.slice (S' (XH ++ p ++ XG)) (some (-6)) none = S' XG := by
  have := wt (XH ++ p ++ XG) 6 (by decide)
  rw [show (-((6 : Nat) : Int)) = -6 from rfl] at this
  rw [this]; refine congrArg S' ?_
  rw [List.length_append, ls, Nat.add_sub_cancel, List.drop_left]
 have e3 : Txt.slice (S' (XH ++ p ++ XG)) (some 10) (some (-6)) = S' p := by
  have := Xd (XH ++ p ++ XG) 10 6 (by decide)
  rw [show (-((6 : Nat) : Int)) = -6 from rfl, show ((10 : Nat) : Int) = 10 from rfl] at this
  rw [this]; refine congrArg S' ?_
  rw [List.length_append, ls, Nat.add_sub_cancel, List.take_left, ← lp, List.drop_left]
 rw [e1, e2, e3, zV, zV, w9, yD, XZ r p hp]
 simp [XH, XG]
theorem vQ {p : List Nat} (h : zj p = true) (hp : p ≠ []) : (xW p).length = 16 + p.length := by
 rw [jG h hp, yD, List.length_append, List.length_append, Kd, XV]; exact (an 0x180505012063090282509 [_])
end
section
noncomputable abbrev VE (Lz : Addr) : Env := envOf "_law_rounds" (fdS (yq 25)) Lz 440 (.ref 439)
theorem Xe (P : Params) : (K P).lookup 440 = some bO := by kernel_rfl
theorem ZP (P : Params) : codeIn (K P) (.ref 439) "_law_rounds" = true := by kernel_rfl
theorem Yz (P : Params) : nsIn (K P) mainGlobals "_law_takes" = some (some (.ref 426)) := by kernel_rfl
structure Sep (Hr Hs H : HF) : Prop where
 er : Ext Hr H
 es : Ext Hs H
 dj : ∀ a, Hr a ≠ none → Hs a = none
theorem Sep.new {Hr Hs H : HF} {a : Addr} {o : Obj} (S : Sep Hr Hs H) (n : H a = none) : Sep (put Hr a o) Hs (put H a o) :=
 ⟨Yu S.er, z9 S.es (zW S.es n), fun b hb => by
  by_cases q : b = a
  · subst q; exact zW S.es n
  · rw [za q] at hb; exact S.dj b hb⟩
theorem Sep.set {Hr Hs H : HF} {a : Addr} {o o' : Obj} (S : Sep Hr Hs H) (h : Hr a = some o) : Sep (put Hr a o') Hs (put H a o') :=
 ⟨Yu S.er, z9 S.es (S.dj a (by rw [h]; simp)), fun b hb => by
  by_cases q : b = a
  · subst q; exact S.dj _ (by rw [h]; simp)
  · rw [za q] at hb; exact S.dj b hb⟩
theorem Sep.aside {Hr Hs H : HF} {a : Addr} {o : Obj} (S : Sep Hr Hs H) (n : H a = none) : Sep Hr Hs (put H a o) :=
 ⟨S.er.trans (Ext.put_new n), S.es.trans (Ext.put_new n), S.dj⟩
theorem Sep.call {Hr Hs H Hs' H' : HF} (S : Sep Hr Hs H) (u : Upd Hs H Hs' H') : Sep Hr Hs' H' :=
 ⟨fun a o e => u.out a o (S.er a o e) (S.dj a (by rw [e]; simp)), u.in_, fun a ha => by
  cases q : Hs' a with
  | none => rfl
  | some o =>
   have h1 := u.fresh a (S.dj a ha) (by rw [q]; simp)
   exact absurd (zW S.er h1) ha⟩
theorem Sep.have_ {Hr Hs H : HF} {a : Addr} {o : Obj} (S : Sep Hr Hs H) (h : H a = some o) (n : Hs a = none) : Sep (put Hr a o) Hs H :=
 ⟨fun b ob e => by
  by_cases q : b = a
  · subst q; rw [zb] at e; cases e; exact h
  · rw [za q] at e; exact S.er b ob e, S.es, fun b hb => by
  by_cases q : b = a
  · subst q; exact n
  · rw [za q] at hb; exact S.dj b hb⟩
noncomputable def fitS (r : List Nat) (x : Str) : Bool := takesB (xW x.cps.toList) (S' r)
noncomputable def yY (r : List Nat) (st : List PN × List Str) (x : Str) : List PN × List Str := if fitS r x = true then doneP st x else st
noncomputable def wP (r : List Nat) (st : List PN × List Str) (j : Nat) : List PN × List Str := (st.2.take j).foldl (yY r) (ZQ st.1 st.2, [])
noncomputable def ql (r : List Nat) (st : List PN × List Str) : List PN × List Str := st.2.foldl (yY r) (ZQ st.1 st.2, [])
noncomputable def yd (r : List Nat) (G : List PN) : Nat → List PN × List Str
 | 0 => (G, vH G)
 | n + 1 => ql r (yd r G n)
theorem jM (r : List Nat) (G : List PN) (n : Nat) : yd r G (n + 1) = ql r (yd r G n) := rfl
theorem YA (r : List Nat) (st : List PN × List Str) : wP r st st.2.length = ql r st := by unfold wP ql; rw [List.take_length]
noncomputable def zZ (l : List Str) : List Str := l.map fun x => xW x.cps.toList
noncomputable def qO (r : List Nat) (l : List Str) : List Str := l.filter fun x => !fitS r x
noncomputable def KL (r : List Nat) (l : List Str) : List Str := l.filter (fitS r)
noncomputable def ym (r : List Nat) (G : List PN) (n : Nat) : List (List Str) := (List.range n).map fun k => ji (yd r G k).2
noncomputable def zH (r : List Nat) (G : List PN) (n : Nat) : List Str := (List.range n).flatMap fun k => qO r (yd r G k).2
noncomputable def zR (r : List Nat) (G : List PN) (n : Nat) : Nat := ((List.range n).map fun k => (yd r G k).2.length).sum
noncomputable def qu (r : List Nat) (G : List PN) (n : Nat) : Nat := ((List.range n).map fun k => (KL r (yd r G k).2).length).sum
structure xk (r : List Nat) (G : List PN) (n : Nat) : Prop where
 fin : (yd r G n).2 = []
 go : ∀ k, k < n → (yd r G k).2 ≠ []
 few : ∀ k, (yd r G k).2.length ≤ 60
 word : ∀ k, ∀ x ∈ (yd r G k).2, zj x.cps.toList = true ∧ x.cps.toList ≠ [] ∧ x.cps.toList.length ≤ 50 ∧ x ∈ G.map (·.name)
 out : ∀ k j x, (yd r G k).2[j]? = some x → xc (wP r (yd r G k) j).1 x = -1
theorem Kh (P : List Str → Prop) (xs : List Str) : ∀ G : List PN, (∀ n ∈ G, P n.ss) → ∀ n ∈ ZQ G xs, P n.ss := by
 induction xs with
 | nil => intro G h; exact h
 | cons x xs ih => intro G h; exact ih _ (ZJ (by intro _; rfl) P h)
theorem Zs (r : List Nat) (st : List PN × List Str) (x : Str) : (yY r st x).1.map (·.name) = st.1.map (·.name) := by
 unfold yY; split
 · exact ve st x
 · rfl
theorem jl (r : List Nat) (l : List Str) : ∀ st : List PN × List Str, (l.foldl (yY r) st).1.map (·.name) = st.1.map (·.name) := by
 induction l with
 | nil => intro st; rfl
 | cons s l ih => intro st; rw [List.foldl_cons, ih, Zs]
theorem Zo (r : List Nat) (P : List Str → Prop) (l : List Str) : ∀ st : List PN × List Str, (∀ n ∈ st.1, P n.ss) → ∀ n ∈ (l.foldl (yY r) st).1, P n.ss := by
 induction l with
 | nil => intro st h; exact h
 | cons s l ih =>
  intro st h; rw [List.foldl_cons]; refine ih _ ?_
  unfold yY; split
  · exact YG P st s h
  · exact h
theorem VK (l : List Str) : ∀ st : List PN × List Str, st.2.length ≤ (l.foldl vM st).2.length := by
 induction l with
 | nil => intro st; exact Nat.le_refl _
 | cons s l ih =>
  intro st; rw [List.foldl_cons]; refine Nat.le_trans ?_ (ih _)
  unfold vM; dsimp only; split
  · simp
  · exact Nat.le_refl _
theorem Q4 (st : List PN × List Str) (x : Str) : st.2.length ≤ (doneP st x).2.length := by
 unfold doneP
 have h := VK (wr st.1 x) (yG st.1 x fun n => { n with np := -2 }, st.2)
 generalize (wr st.1 x).foldl vM (yG st.1 x fun n => { n with np := -2 }, st.2) = z at h ⊢
 exact h
theorem KQ (r : List Nat) (st : List PN × List Str) (x : Str) : st.2.length ≤ (yY r st x).2.length := by
 unfold yY
 have h := Q4 st x
 generalize doneP st x = z at h ⊢
 generalize fitS r x = b
 cases b
 · exact Nat.le_refl _
 · exact h
theorem KD (r : List Nat) (l : List Str) : ∀ st : List PN × List Str, st.2.length ≤ (l.foldl (yY r) st).2.length := by
 induction l with
 | nil => intro st; exact Nat.le_refl _
 | cons s l ih => intro st; rw [List.foldl_cons]; exact Nat.le_trans (KQ r st s) (ih _)
theorem Vk (r : List Nat) (st : List PN × List Str) (j : Nat) : (wP r st j).2.length ≤ (ql r st).2.length := by
 unfold wP ql
 conv => rhs; rw [← List.take_append_drop j st.2, List.foldl_append]
 rw [List.take_append_drop]
 exact KD r _ _
theorem Ze {r : List Nat} {st : List PN × List Str} {j : Nat} {x : Str} (h : st.2[j]? = some x) : wP r st (j + 1) = yY r (wP r st j) x := by
 unfold wP
 rw [show st.2.take (j + 1) = st.2.take j ++ [x] by rw [List.take_add_one, h]; rfl, List.foldl_append, List.foldl_cons, List.foldl_nil]
theorem v0 (r : List Nat) (st : List PN × List Str) (j : Nat) : (wP r st j).1.map (·.name) = st.1.map (·.name) := by
 unfold wP; rw [jl, kA]
theorem vW (r : List Nat) (G : List PN) : ∀ n, (yd r G n).1.map (·.name) = G.map (·.name)
 | 0 => rfl
 | n + 1 => by
  show (ql r (yd r G n)).1.map (·.name) = _
  unfold ql; rw [jl, kA, vW r G n]
theorem X6 (r : List Nat) {G : List PN} (P : List Str → Prop) (h : ∀ n ∈ G, P n.ss) : ∀ n, ∀ x ∈ (yd r G n).1, P x.ss
 | 0 => h
 | n + 1 => Zo r P _ _ (Kh P _ _ (X6 r P h n))
theorem Vl (r : List Nat) (P : List Str → Prop) {st : List PN × List Str} (h : ∀ n ∈ st.1, P n.ss) (j : Nat) : ∀ n ∈ (wP r st j).1, P n.ss :=
 Zo r P _ _ (Kh P _ _ h)
theorem kx (n : Nat) (f : Nat → Nat) : ((List.range (n + 1)).map f).sum = ((List.range n).map f).sum + f n := by
 rw [List.range_succ, List.map_append, List.sum_append]; simp
theorem Xj {p : List Nat} (h : zj p = true) : (42 :: (p ++ [42])).all jR = true := by
 rw [List.all_cons, List.all_append]
 have : p.all jR = true := by
  rw [List.all_eq_true]
  intro c hc
  unfold jR
  rw [List.all_eq_true.mp h c hc, Bool.or_true]
 rw [this]; rfl
theorem yJ.at_ {H : HF} {x y : Addr} {o : Obj} : ∀ {vs : List Value} {ls : List (List Str)}, (∀ v ∈ vs, v ≠ .ref y) → yJ H x vs ls → yJ (Internal.put H y o) x vs ls
 | _, _, _, .nil => .nil
 | _, _, hv, .cons h s n r => .cons ((za fun z => hv _ (.head _) (by rw [z])).trans h) s n (r.at_ fun v hv' => hv v (.tail _ hv'))
theorem va (p : Str → Bool) (l : List Str) (x : Str) : (l ++ [x]).filter p = l.filter p ++ (if p x = true then [x] else []) := by
 rw [List.filter_append, List.filter_cons]; rfl
theorem v5 (r : List Nat) (l : List Str) (x : Str) : qO r (l ++ [x]) = qO r l ++ (if fitS r x = true then [] else [x]) := by
 unfold qO; rw [va]
 generalize fitS r x = b
 cases b <;> rfl
theorem Zr (r : List Nat) (l : List Str) (x : Str) : (KL r (l ++ [x])).length = (KL r l).length + (if fitS r x = true then 1 else 0) := by
 unfold KL; rw [va, List.length_append]
 generalize fitS r x = b
 cases b <;> rfl
theorem qj {l : List Str} {j : Nat} {x : Str} (h : l[j]? = some x) : l.take (j + 1) = l.take j ++ [x] := by rw [List.take_add_one, h]; rfl
theorem qP (r : List Nat) (G : List PN) (few : ∀ k, (yd r G k).2.length ≤ 60) : ∀ k, (zH r G k).length ≤ 60 * k
 | 0 => Nat.le_refl _
 | k + 1 => by
  have e : zH r G (k + 1) = zH r G k ++ qO r (yd r G k).2 := by unfold zH; rw [List.range_succ, List.flatMap_append]; simp
  have h1 := qP r G few k
  have h2 : (qO r (yd r G k).2).length ≤ 60 := Nat.le_trans (List.length_filter_le _ _) (few k)
  rw [e, List.length_append]; exact (an 0x141515c822500ab9044a114140c1128ae4112050a0 [_,_,_]) h1 h2
section
theorem vG (l : List Str) (h : ∀ s ∈ l, PyData.strOk s = true) : shaped (.tuple (l.map .str)) = true := by
 have h2 : PyData.depth (.tuple (l.map .str)) ≤ 64 := by simp only [PyData.depth]; rw [depthAll_strs']; exact (an 0x15021090304489 [])
 show (PyData.canLay0 (.tuple (l.map .str)) && decide (PyData.depth (.tuple (l.map .str)) ≤ 64)) = true
 rw [Bool.and_eq_true]
 exact ⟨by simp only [PyData.canLay0]; exact xK l h, decide_eq_true h2⟩
theorem kC {p : List Nat} (h : zj p = true) : ∀ c ∈ p, c < 128 := fun c hc => by
 have := List.all_eq_true.mp h c hc
 unfold kP at this
 rw [Bool.and_eq_true, decide_eq_true_eq, decide_eq_true_eq] at this
 exact (an 0x2e2ad431280520830c48b81104a0 [_]) this
theorem XO {x : Str} {t : Tok} {Q : PV} (X : Bd (K C.w.params) mg mb q loose C) (hroom : A.depth + 4 < recursionLimit) (hh : A.handled = none) (hl : zj x.cps.toList = true) (hz : x.cps.toList.length ≤ 50)
 (h : ∀ t, Q (.str (xW x.cps.toList) t) m H) : W C A L (call (.ref 275) [.str (Str.ofString "*" ++ x ++ Str.ofString "*") t] []) Q E m H := by
 have e : Str.ofString "*" ++ x ++ Str.ofString "*" = S' (42 :: (x.cps.toList ++ [42])) := by
  have a : Str.ofString "*" = S' [42] := by decide +kernel
  rw [a, ← XI x, vN, vN]; rfl
 rw [e]
 have hlen : (y8 (42 :: (x.cps.toList ++ [42]))).length ≤ 100 := by
  by_cases hp : x.cps.toList = []
  · rw [hp]; decide +kernel
  · rw [vP hl hp]; simp only [List.length_cons, List.length_append, List.length_map, List.length_nil]; exact (an 0x552822500a890c481822408182244a0 [_]) hz
 exact hX X hroom hh (Xj hl) (by simp only [List.length_cons, List.length_append, List.length_nil]; exact (an 0x552822500a890c481822408182244a0 [_]) hz) (ZL _) (fun i => Kt hlen i) (Xk hlen) h
theorem QE {S dS N : Addr} {Hs : HF} {g : List Nd} {r : List Nat} {u : Tok} {n : Nat} {env : Env} {outer : List Env} {Q : PV} (rank : Str → Nat) (X : Bd (K C.w.params) mg mb q loose C) (hroom : A.depth + 9 < recursionLimit) (hh : A.handled = none) (hu : A.units + 200 < cLine)
 (F : Frs C A L env outer) (hx : Ext Hs H) (SA : zs C.prog C.w Hs S dS N g none 0 0) (hgl : g.length ≤ 1000) (hmu : mu g [] (fun _ => false) ≤ 100000)
 (hcl : ∀ d ∈ g, ∀ s ∈ d.n.ss, (∃ d' ∈ g, d'.n.name = s) ∧ rank d.n.name < rank s) (hss : ∀ d ∈ g, d.n.ss.length ≤ 1000)
 (hr : r.length ≤ 100) (ok : xk r (g.map (·.n)) n) (hn : n ≤ 100)
 (h : ∀ H' Hf' Hs' g' R Ta Ro He vs k hvs hk, Upd Hs H Hf' H' → Ext Hf' H' → Ext Hs' H' → H' Ta = some (yp [.ref Ro, .ref He] 0) → H' Ro = some (ze vs k) → yJ H' Ro vs (ym r (g.map (·.n)) n) → H' He = some (ze hvs hk) → StrsAre hvs (zZ (zH r (g.map (·.n)) n)) →
  zs C.prog C.w Hs' S dS N g' (some (R, [])) (zR r (g.map (·.n)) n) (qu r (g.map (·.n)) n) → Q (.ref Ta) m H') :
 W C A L (call (.ref 440) [.ref S, .str (S' r) u]) Q E m H := by
 refine vo (ko (binds := [("sorter", .ref S), ("right", .str (S' r) u)]) (Qf := fun v H' => ∃ Hs' g' R Ta Ro He vs k hvs hk, v = .ref Ta ∧ Ext Hs' H' ∧ H' Ta = some (yp [.ref Ro, .ref He] 0) ∧ H' Ro = some (ze vs k) ∧ yJ H' Ro vs (ym r (g.map (·.n)) n) ∧ H' He = some (ze hvs hk) ∧ StrsAre hvs (zZ (zH r (g.map (·.n)) n)) ∧
  zs C.prog C.w Hs' S dS N g' (some (R, [])) (zR r (g.map (·.n)) n) (qu r (g.map (·.n)) n))
  Hs X (Xe _) (ZP _) (yu hroom) (fun s XX => zx XX (fun _ => by kernel_rfl)) ?_ hx (fun B' L' eB hL => ?_) (fun v Hf' H' hv u => ?_)
  (by kernel_rfl) (by kernel_rfl) (by kernel_rfl) ?_)
 · intro y hy
   exact vD (by kernel_rfl) y hy
 · have X' := X.mono eB
   have hkind : (fdS (yq 25)).kind = .function := by kernel_rfl
   have F' : Frs (C.at_ B') (A.deeper (VE L')) L' (VE L') (env :: outer) :=
    F.callee eB hL rfl (by show (fdS (yq 25)).kind ≠ .module; rw [hkind]; decide)
   have m1 : (bl [("sorter", .ref S), ("right", .str (S' r) u)]) "sorter" = some (.ref S) := by kernel_rfl
   have m2 : (bl [("sorter", .ref S), ("right", .str (S' r) u)]) "right" = some (.str (S' r) u) := by kernel_rfl
   generalize (bl [("sorter", .ref S), ("right", .str (S' r) u)]) = m0 at m1 m2 ⊢
   have hh' : (A.deeper (VE L')).handled = none := hh
   have hd' : (A.deeper (VE L')).depth = A.depth + 1 := rfl
   have hu' : (A.deeper (VE L')).units + 150 < cLine := by show A.units + 3 + 150 < _; exact (an 0xb420644612805a1035a209030c4a0 [_,_]) hu
   refine xp (env := VE L') (fun QQf hQQf => ?_)
   generalize A.deeper (VE L') = A' at F' hh' hd' hu' ⊢
   refine z4 SA.inst fun f I f1 f2 f3 f4 f5 => ?_
   refine yC ?_ (by kernel_rfl) (by kernel_rfl)
   refine kH X' ?_ _ rfl
   walk_at "r"
   refine (yn S dS cTS 372 _ 4 rfl I (f5 _ (by decide +kernel) (by decide +kernel) (by decide +kernel) (by decide +kernel)) (by kernel_rfl) (by kernel_rfl) (by kernel_rfl) (by kernel_rfl) ?_)
   refine ie rank X' (xG hroom hd') hh' F' Ext.rfl' SA hgl hmu hcl (fun H1 Hs1 R SA1 u1 => ?_)
   walk_at "r"
   have hG : ∀ k, (yd r (g.map (·.n)) k).1.map (·.name) = (g.map (·.n)).map (·.name) := vW r _
   refine zK (by decide +kernel) (fun Ro nRo _ => ?_)
   walk_at "r"
   refine zK (by decide +kernel) (fun He nHe _ => ?_)
   walk_at "r"
   have SP0 : Sep (fun _ => none) Hs1 H1 := ⟨(fun a o e => by cases e), u1.in_, fun a ha => absurd rfl ha⟩
   have SP1 := (SP0.new (o := ze [] 0) nRo).new (o := ze [] 0) nHe
   have hRH : Ro ≠ He := fun z => by rw [← z, zb] at nHe; cases nHe
   have hRo0 : put (put (fun _ => none) Ro (ze [] 0)) He (ze [] 0) Ro = some (ze [] 0) := (za hRH).trans zb
   have hHe0 : put (put (fun _ => none) Ro (ze [] 0)) He (ze [] 0) He = some (ze [] 0) := zb
   generalize put (put (fun _ => none) Ro (ze [] 0)) He (ze [] 0) = Hr1 at SP1 hRo0 hHe0
   generalize put (put H1 Ro (ze [] 0)) He (ze [] 0) = H2 at SP1 ⊢
   refine kH X' ?_ _ rfl
   walk_at "r"
   refine z4 SA1.inst fun fa Ia fa1 fa2 fa3 fa4 fa5 => ?_
   refine (yn S dS cTS 379 _ 4 rfl (Ia.ext SP1.es) (fa5 _ (by decide +kernel) (by decide +kernel) (by decide +kernel) (by decide +kernel)) (by kernel_rfl) (by kernel_rfl) (by kernel_rfl) (by kernel_rfl) ?_)
   have few0 := ok.few 0
   have word0 := ok.word 0
   refine gP X' (xG hroom hd') hh' SP1.es SA1 (by show (yd r (g.map (·.n)) 0).2.length ≤ _; exact (an 0x2ae411280550b1244a0 [_]) few0) (fun x hxx => SA1.graph.has (word0 x hxx).2.2.2) (fun H3 Hs3 g3 T vsT SA3 u3 hG3 hT hvT nT nT' => ?_)
   have SP3 := (SP1.call u3).have_ hT nT
   have nTr : Hr1 T = none := zW SP1.er nT'
   have hRT : Ro ≠ T := fun z => by rw [← z, hRo0] at nTr; cases nTr
   have hHT : He ≠ T := fun z => by rw [← z, hHe0] at nTr; cases nTr
   walk_at "r"
   refine y0 (fun fuel m H => ∃ k, fuel = n - k ∧ k ≤ n ∧ m "sorter" = some (.ref S) ∧ m "right" = some (.str (S' r) u) ∧ m "rounds" = some (.ref Ro) ∧ m "held" = some (.ref He) ∧
    ∃ T vsT Hr Hs gk vs kk hvs hk, m "handed" = some (.ref T) ∧ Sep Hr Hs H ∧ Hr T = some (yp vsT 0) ∧ StrsAre vsT (yd r (g.map (·.n)) k).2 ∧ Hr Ro = some (ze vs kk) ∧ yJ Hr Ro vs (ym r (g.map (·.n)) k) ∧
     Hr He = some (ze hvs hk) ∧ (∀ v ∈ vs, v ≠ Value.ref He) ∧ StrsAre hvs (zZ (zH r (g.map (·.n)) k)) ∧ zs C.prog C.w Hs S dS N gk (some (R, [])) (zR r (g.map (·.n)) (k + 1)) (qu r (g.map (·.n)) k) ∧
     gk.map (·.n) = ZQ (yd r (g.map (·.n)) k).1 (yd r (g.map (·.n)) k).2) n ?_ ?_
   · refine (xa 0 (Zm rfl (Nat.zero_le _) (by walk_at "mp") (by walk_at "mp") (by walk_at "mp") (by walk_at "mp") (eQ T vsT _ Hs3 g3 [] 0 [] 0 (aT (by walk_at "mp") SP3 zb hvT ((za hRT).trans hRo0) (.nil) ((za hHT).trans hHe0) (fun v z => by cases z) (.nil) ?_ hG3))))
     have e1 : zR r (g.map (·.n)) (0 + 1) = (vH (g.map (·.n))).length := by unfold zR; rw [kx]; simp [yd]
     rw [e1]
     rw [Int.zero_add] at SA3
     exact SA3
   · intro fuel m3 H3' hri
     refine hdG fun gQ gZ => ?_
     refine yW hri fun k zq => vL zq fun hq1 hkn i1 i2 i3 i4 zq => VC zq fun T vsT Hr Hs' gk vs kk hvs hk zq => be zq fun i5 SP hT hvT hRo hL2 hHe hne hhv SAk hGk => ?_
     refine gZ ?_
     try clear hri
     obtain rfl := hq1
     have hlen : vsT.length = (yd r (g.map (·.n)) k).2.length := hvT.length
     have fewk := ok.few k
     have wordk := ok.word k
     walk_at "r"
     refine yt (by decide +kernel) (fun te nte _ => ?_)
     have hTte : T ≠ te := fun z => by rw [← z, SP.er _ _ hT] at nte; cases nte
     have rb : Rd (put H3' te (yp [] 0)) (.ref te) (.tuple []) := .tuple zb .nil
     have ra : Rd (put H3' te (yp [] 0)) (.ref T) (.tuple ((yd r (g.map (·.n)) k).2.map .str)) := .tuple ((za hTte).trans (SP.er _ _ hT)) (qI hvT)
     refine K4 ra rb (vG _ fun s hs => ?_) (by decide +kernel) ?_ (by exact (an 0x5a1035a209402d08181084a0 [_,_]) hu') ?_
     · rw [← XI s]; exact wo _ (kC (wordk s hs).1)
     · cases (yd r (g.map (·.n)) k).2 <;> rfl
     have hsame : (!Spec.same (.tuple ((yd r (g.map (·.n)) k).2.map .str)) (.tuple [])) = !(yd r (g.map (·.n)) k).2.isEmpty := by cases (yd r (g.map (·.n)) k).2 <;> rfl
     rw [hsame]
     walk_at "r"
     have SPe := SP.aside (o := yp [] 0) nte
     refine qh (fun z => ?_) (fun z => ?_)
     · refine W.hide fun QQw hQQw => ?_
       have hne0 : (yd r (g.map (·.n)) k).2 ≠ [] := fun e => by rw [e] at z; cases z
       have hklt : k < n := by
        rcases Nat.lt_or_ge k n with q | q
        · exact q
        · exact absurd (by rw [show k = n by exact (an 0xa428072140310a0 [_,_]) hkn q]; exact ok.fin) hne0
       generalize put H3' te (yp [] 0) = H4 at SPe ⊢
       clear ra rb SP nte
       walk_at "r"
       have hvl : vs.length = k := by rw [hL2.length]; unfold ym; simp
       with_reducible refine zQ ?_
       with_reducible refine zC ?_
       walk_at "r"
       refine (zy ("list") ("list.append") PySem.F.plainAttrs_list slot_list_append PySem.F.type_list_append (.ref (SPe.er _ _ hRo)) ?_)
       walk_at "r"
       with_reducible refine zh X' (Yy _) YL ?_
       walk_at "r"
       refine wL (SPe.er _ _ hT) hvT (by exact (an 0xc428055c822508b81084a0 [_,_]) hlen fewk) (fun so ws' ss' k' nso _ hso hperm hsrt => ?_)
       walk_at "r"
       have SP5 := SPe.new (o := ze ws' k') nso
       have nsoR : Hr so = none := zW SPe.er nso
       have hRs : Ro ≠ so := fun z => by rw [← z, hRo] at nsoR; cases nsoR
       have hHs : He ≠ so := fun z => by rw [← z, hHe] at nsoR; cases nsoR
       have hTs : T ≠ so := fun z => by rw [← z, hT] at nsoR; cases nsoR
       have hTR : T ≠ Ro := xd hT hRo (by simp)
       have hTH : T ≠ He := xd hT hHe (by simp)
       have hRo5 : put Hr so (ze ws' k') Ro = some (ze vs kk) := (za hRs).trans hRo
       refine yB (SP5.er _ _ hRo5) (zX (by exact (an 0x544862508b4288622402a055830c4a0 [_,_,_]) hn hklt hvl)) ⟨(fun _ => nofun), ?_⟩
       have SP6 := SP5.set (o' := ze (vs ++ [.ref so]) (kk + 1)) hRo5
       have hL6 : yJ (put (put Hr so (ze ws' k')) Ro (ze (vs ++ [.ref so]) (kk + 1))) Ro (vs ++ [.ref so]) (ym r (g.map (·.n)) (k + 1)) := by
        have e : ym r (g.map (·.n)) (k + 1) = ym r (g.map (·.n)) k ++ [ji (yd r (g.map (·.n)) k).2] := by unfold ym; rw [List.range_succ, List.map_append]; rfl
        rw [e, ← w0 hperm hsrt]
        exact (hL2.ext (Ext.put_new nsoR)).put.snoc ((za (Ne.symm hRs)).trans zb) hso (Ne.symm hRs)
       have hne6 : ∀ v ∈ vs ++ [Value.ref so], v ≠ .ref He := fun v hv => by
        rcases List.mem_append.mp hv with hv | hv
        · exact hne v hv
        · rw [List.mem_singleton.mp hv]; intro z; cases z; exact hHs rfl
       have hT6 : put (put Hr so (ze ws' k')) Ro (ze (vs ++ [.ref so]) (kk + 1)) T = some (yp vsT 0) := (za hTR).trans ((za hTs).trans hT)
       have hHe6 : put (put Hr so (ze ws' k')) Ro (ze (vs ++ [.ref so]) (kk + 1)) He = some (ze hvs hk) := (za (Ne.symm hRH)).trans ((za hHs).trans hHe)
       have hRo6 : put (put Hr so (ze ws' k')) Ro (ze (vs ++ [.ref so]) (kk + 1)) Ro = some (ze (vs ++ [.ref so]) (kk + 1)) := zb
       generalize put (put Hr so (ze ws' k')) Ro (ze (vs ++ [.ref so]) (kk + 1)) = Hr6 at SP6 hL6 hT6 hHe6 hRo6
       generalize put (put H4 so (ze ws' k')) Ro (ze (vs ++ [.ref so]) (kk + 1)) = H6 at SP6 ⊢
       walk_at "r"
       refine kM hh' ?_ (fun _ => rfl)
       walk_at "r"
       refine (zE vsT.length _ [T] (fun j m H => m "sorter" = some (.ref S) ∧ m "right" = some (.str (S' r) u) ∧ m "rounds" = some (.ref Ro) ∧ m "held" = some (.ref He) ∧ m "handed" = some (.ref T) ∧ H T = some (yp vsT 0) ∧
        ∃ Hr Hs gj hvs hk, Sep Hr Hs H ∧ Hr T = some (yp vsT 0) ∧ Hr Ro = some (ze (vs ++ [.ref so]) (kk + 1)) ∧ yJ Hr Ro (vs ++ [.ref so]) (ym r (g.map (·.n)) (k + 1)) ∧ Hr He = some (ze hvs hk) ∧
         StrsAre hvs (zZ (zH r (g.map (·.n)) k ++ qO r ((yd r (g.map (·.n)) k).2.take j))) ∧ zs C.prog C.w Hs S dS N gj (some (R, (wP r (yd r (g.map (·.n)) k) j).2)) (zR r (g.map (·.n)) (k + 1)) ((qu r (g.map (·.n)) k + (KL r ((yd r (g.map (·.n)) k).2.take j)).length : Nat) : Int) ∧
         gj.map (·.n) = (wP r (yd r (g.map (·.n)) k) j).1)
        (xj (SP6.er _ _ hT6)) (Zm (by walk_at "mp") (by walk_at "mp") (by walk_at "mp") (by walk_at "mp") (by walk_at "mp") (SP6.er _ _ hT6) (qM Hr6 Hs' gk hvs hk (ZT SP6 hT6 hRo6 hL6 hHe6 ?_ SAk hGk))) (fun b hb => ?_) (fun B2 j v m7 H7 eB2 hj hP hI => W.body fun QQb hQQb => ?_) (fun m7 H7 hI => ?_))
       · rw [List.take_zero]; show StrsAre hvs (zZ (_ ++ [])); rw [List.append_nil]; exact hhv
       · obtain rfl := List.mem_singleton.mp hb
         exact .inr ⟨_, fun k m H z => z.2.2.2.2.2.1⟩
       · refine hdG fun gQ gZ => ?_
         refine vL hI fun j1 j2 j3 j4 j5 j6 zq => vJ zq fun Hr7 Hs7 gj hvs7 hk7 zq => ZZ zq fun SP7 hT7 hRo7 hL7 hHe7 hhv7 SA7 hG7 => ?_
         try clear hI
         refine zI (xb hvT hP) fun x tx hq2 hxj => ?_
         obtain rfl := hq2
         have X2 := X'.mono eB2
         refine xS (wordk x (List.mem_of_getElem? hxj)) fun wl wn wz win => ?_
         refine gZ ?_
         have hxlen : x.length ≤ 50 := by rw [← XI x, yD]; exact wz
         have hxs := qj hxj
         walk_at "r"
         with_reducible refine zJ X2 (ik _) (by kernel_rfl) ?_
         walk_at "r"
         refine jC (zX (by
          have : (Str.ofString "*").length = 1 := by decide +kernel
          exact (an 0x552822508c822500a81560c312050a0 [_,_]) hxlen this)) (fun _ => ?_)
         walk_at "r"
         refine jC (zX (by
          have : (Str.ofString "*").length = 1 := by decide +kernel
          have e : (Str.ofString "*" ++ x).length = (Str.ofString "*").length + x.length := by show (_ ++ _ : Array Nat).size = _; simp [Str.length]
          exact (an 0x2a94112886411284601448500a81560c312050a0 [_,_,_]) hxlen this e)) (fun _ => ?_)
         walk_at "r"
         refine XO X2 (by exact (an 0x5a103244a2180608944805a103104a0 [_,_,_]) hroom hd') hh' wl wz (fun tt => ?_)
         walk_at "r"
         with_reducible refine zJ X2 (Yz _) (by kernel_rfl) ?_
         walk_at "r"
         refine XU X2 (by exact (an 0x2d081922510c03044a2402d0a0 [_,_,_]) hroom hd') hh' (by exact (an 0x5a1035a209402d081890c4a0 [_,_]) hu') (by rw [vQ wl wn]; exact (an 0xaa5044a01522f890282809 [_]) wz) (by rw [yD]; exact (an 0x544862500a917c4a0 [_]) hr) ?_
         change W _ _ _ (truthy (Value.bool (fitS r x))) _ _ _ _
         generalize hfit : fitS r x = bb
         walk_at "r"
         have hmid := Ze (r := r) hxj
         refine zT (fun z0 => ?_) (fun z0 => ?_)
         · have z : fitS r x = true := hfit.trans z0
           walk_at "r"
           refine yC ?_ (by kernel_rfl) (by kernel_rfl)
           refine xN X2 ?_ _ rfl (by kernel_rfl) (by kernel_rfl)
           walk_at "r"
           refine z4 SA7.inst fun fb Ib fb1 fb2 fb3 fb4 fb5 => ?_
           refine (yn S dS cTS 400 _ 4 rfl (Ib.ext SP7.es) (fb5 _ (by decide +kernel) (by decide +kernel) (by decide +kernel) (by decide +kernel)) (by kernel_rfl) (by kernel_rfl) (by kernel_rfl) (by kernel_rfl) ?_)
           walk_at "r"
           have hnames : (gj.map (·.n)).map (·.name) = (g.map (·.n)).map (·.name) := by rw [hG7, v0, hG]
           refine iI (pvs := [_]) (ps := [x]) X2 (xG hroom hd') hh' (by kernel_rfl) SP7.es SA7 (.cons _ _ .nil) (by have h1 := Vk r (yd r (g.map (·.n)) k) j; have h2 := ok.few (k + 1); rw [jM] at h2; exact (an 0xa428055c822508a917c4a0 [_,_]) h1 h2) (by simp) ?_ ?_ ?_ (fun H8 Hs8 g8 SA8 u8 hG8 => ?_)
           · rw [hG7, v0, hG]
             refine Vl r (fun l => l.length ≤ 1000 ∧ ∀ s ∈ l, s ∈ (g.map (·.n)).map (·.name)) (X6 r (fun l => l.length ≤ 1000 ∧ ∀ s ∈ l, s ∈ (g.map (·.n)).map (·.name)) ?_ k) j
             intro nn hnn
             refine zc (List.mem_map.mp hnn) fun d hd hq2 => ?_
             obtain rfl := hq2
             refine ⟨hss d hd, fun s hs => ?_⟩
             refine hdG fun gQ gZ => ?_
             obtain ⟨⟨d', hd', hx'⟩, _⟩ := hcl d hd s hs
             refine gZ ?_
             exact List.mem_map.mpr (zd d'.n (List.mem_map.mpr (zd d' hd' rfl)) hx')
           · intro y hy
             rw [List.mem_singleton.mp hy, hnames]; exact win
           · intro i y hiy
             cases i with
             | zero =>
              have hyx : x = y := Option.some.inj hiy
              rw [← hyx, List.take_zero, List.foldl_nil, hG7]
              exact ok.out k j x hxj
             | succ i => simp at hiy
           walk_at "r"
           have SP8 := SP7.call u8
           have hfold : ([x].foldl doneP (gj.map (·.n), (wP r (yd r (g.map (·.n)) k) j).2)) = wP r (yd r (g.map (·.n)) k) (j + 1) := by
            rw [hmid, List.foldl_cons, List.foldl_nil, hG7]
            unfold yY
            rw [if_pos z]
           rw [hfold] at SA8 hG8
           refine ⟨by walk_at "mp", by walk_at "mp", by walk_at "mp", by walk_at "mp", by walk_at "mp", SP8.er _ _ hT7, Hr7, Hs8, g8, hvs7, hk7, SP8, hT7, hRo7, hL7, hHe7, ?_, ?_, hG8⟩
           · rw [hxs, v5, if_pos z, List.append_nil]; exact hhv7
           · rw [hxs, Zr, if_pos z]
             have e : (((qu r (g.map (·.n)) k + (KL r ((yd r (g.map (·.n)) k).2.take j)).length : Nat) : Int) + ([x].length : Nat)) = ((qu r (g.map (·.n)) k + ((KL r ((yd r (g.map (·.n)) k).2.take j)).length + 1) : Nat) : Int) := by
              simp only [List.length_cons, List.length_nil]; exact (an 0x9070206089428008703044890e050a0 [_,_])
             rw [← e]; exact SA8
         · have zf : fitS r x = false := hfit.trans z0
           have z' : ¬ (fitS r x = true) := fun q => by rw [zf] at q; cases q
           walk_at "r"
           with_reducible refine zQ ?_
           with_reducible refine zC ?_
           walk_at "r"
           refine (zy ("list") ("list.append") PySem.F.plainAttrs_list slot_list_append PySem.F.type_list_append (.ref (SP7.er _ _ hHe7)) ?_)
           walk_at "r"
           have hh7 : hvs7.length ≤ 10000 := by
            have a1 := hhv7.length
            unfold zZ at a1
            rw [List.length_map, List.length_append] at a1
            have a2 := qP r (g.map (·.n)) ok.few k
            have a3 : (qO r ((yd r (g.map (·.n)) k).2.take j)).length ≤ 60 := Nat.le_trans (List.length_filter_le _ _) (by rw [List.length_take]; exact (an 0x621442ae4112845a2402ae41120d0a0 [_,_,_]) hlen fewk hj)
            exact (an 0x544862508b428862246300a548805054572089482ae411294550b1244a0 [_,_,_,_,_,_]) hn hklt hvl a1 a2 a3
           refine yB (SP7.er _ _ hHe7) (zX (by exact (an 0xaa162489402a055830c4a0 [_]) hh7)) ⟨(fun _ => nofun), ?_⟩
           walk_at "r"
           have SP8 := SP7.set (o' := ze (hvs7 ++ [.str (xW x.cps.toList) tt]) (hk7 + 1)) hHe7
           refine ⟨by walk_at "mp", by walk_at "mp", by walk_at "mp", by walk_at "mp", by walk_at "mp", (za hTH).trans j6, _, Hs7, gj, _, _, SP8, (za hTH).trans hT7, (za hRH).trans hRo7, hL7.at_ hne6, zb, ?_, ?_, ?_⟩
           · rw [hxs, v5, if_neg z', ← List.append_assoc]
             unfold zZ at hhv7 ⊢
             rw [List.map_append]
             exact yk hhv7
           · rw [hxs, Zr, if_neg z', hmid]
             unfold yY
             rw [if_neg z']; exact SA7
           · rw [hmid]; unfold yY; rw [if_neg z']; exact hG7
       · refine hdG fun gQ gZ => ?_
         refine vL hI fun j1 j2 j3 j4 j5 j6 zq => vJ zq fun Hr7 Hs7 gj hvs7 hk7 zq => ZZ zq fun SP7 hT7 hRo7 hL7 hHe7 hhv7 SA7 hG7 => ?_
         refine gZ ?_
         try clear hI
         show W _ _ _ _ _ _ _ _
         have emid : wP r (yd r (g.map (·.n)) k) vsT.length = yd r (g.map (·.n)) (k + 1) := by
          rw [hlen, YA, jM]
         rw [emid] at SA7 hG7
         rw [hlen, List.take_length] at hhv7 SA7
         have few1 := ok.few (k + 1)
         have word1 := ok.word (k + 1)
         have hnames : (gj.map (·.n)).map (·.name) = (g.map (·.n)).map (·.name) := by rw [hG7, hG]
         walk_at "r"
         refine kH X' ?_ _ rfl
         walk_at "r"
         refine z4 SA7.inst fun fb Ib fb1 fb2 fb3 fb4 fb5 => ?_
         refine (yn S dS cTS 379 _ 4 rfl (Ib.ext SP7.es) (fb5 _ (by decide +kernel) (by decide +kernel) (by decide +kernel) (by decide +kernel)) (by kernel_rfl) (by kernel_rfl) (by kernel_rfl) (by kernel_rfl) ?_)
         refine gP X' (xG hroom hd') hh' SP7.es SA7 (by exact (an 0x2ae411280550b1244a0 [_]) few1) (fun x hxx => SA7.graph.has (by rw [hnames]; exact (word1 x hxx).2.2.2)) (fun H8 Hs8 g8 T8 vsT8 SA8 u8 hG8 hT8 hvT8 nT8 nT8' => ?_)
         have SP8 := (SP7.call u8).have_ hT8 nT8
         have nTr8 : Hr7 T8 = none := zW SP7.er nT8'
         have hRT8 : Ro ≠ T8 := fun z => by rw [← z, hRo7] at nTr8; cases nTr8
         have hHT8 : He ≠ T8 := fun z => by rw [← z, hHe7] at nTr8; cases nTr8
         walk_at "r"
         refine ⟨n - (k + 1), by exact (an 0x168108c4288582428010182250a0 [_,_,_]) hklt hvl, k + 1, rfl, by exact (an 0x168500c408852103044a0 [_,_,_]) hklt hvl, by walk_at "mp", by walk_at "mp", by walk_at "mp", by walk_at "mp", T8, vsT8, _, Hs8, g8, vs ++ [.ref so], kk + 1, hvs7, hk7, by walk_at "mp", SP8, zb, hvT8, (za hRT8).trans hRo7, hL7.ext (Ext.put_new nTr8), (za hHT8).trans hHe7, hne6, ?_, ?_, ?_⟩
         · have e : zH r (g.map (·.n)) (k + 1) = zH r (g.map (·.n)) k ++ qO r (yd r (g.map (·.n)) k).2 := by unfold zH; rw [List.range_succ, List.flatMap_append]; simp
           rw [e]; exact hhv7
         · have e1 : zR r (g.map (·.n)) (k + 1 + 1) = zR r (g.map (·.n)) (k + 1) + (yd r (g.map (·.n)) (k + 1)).2.length := by unfold zR; rw [kx]
           have e2 : qu r (g.map (·.n)) (k + 1) = qu r (g.map (·.n)) k + (KL r (yd r (g.map (·.n)) k).2).length := by unfold qu; rw [kx]
           rw [e1, e2, Int.natCast_add (zR r (g.map (·.n)) (k + 1))]
           exact SA8
         · rw [hG8, hG7]
     · have he0 : (yd r (g.map (·.n)) k).2 = [] := by
        cases q : (yd r (g.map (·.n)) k).2 with
        | nil => rfl
        | cons a b => rw [q] at z; cases z
       have hkn' : k = n := by
        rcases Nat.lt_or_ge k n with q | q
        · exact absurd he0 (ok.go k q)
        · exact (an 0xa428072140310a0 [_,_]) hkn q
       subst hkn'
       generalize put H3' te (yp [] 0) = H4 at SPe ⊢
       walk_at "r"
       refine yt (zX (by simp)) (fun Ta nTa _ => ?_)
       have e1 : zR r (g.map (·.n)) (k + 1) = zR r (g.map (·.n)) k := by unfold zR; rw [kx, he0]; rfl
       rw [e1] at SAk
       have ex := Ext.put_new (o := yp [.ref Ro, .ref He] 0) nTa
       walk_at "r"
       exact (aS Hs' gk R Ta Ro He vs kk hvs hk (ZT rfl (SPe.es.trans ex) zb (ex _ _ (SPe.er _ _ hRo)) ((hL2.ext SPe.er).ext ex) (ex _ _ (SPe.er _ _ hHe)) hhv SAk))
 · refine bd hv fun Hs' g' R Ta Ro He vs k hvs hk zq => ZZ zq fun hq10 a1 a2 a3 a4 a5 a6 a7 => ?_
   try clear hv
   obtain rfl := hq10
   exact h H' Hf' Hs' g' R Ta Ro He vs k hvs hk u u.in_ (a1.trans u.in_) (u.in_ _ _ a2) (u.in_ _ _ a3) (a4.ext u.in_) (u.in_ _ _ a5) a6 a7
 · have e : (fdS (yq 25)).names.all (fun x => x.2 != .cell) = true := by kernel_rfl
   intro x hx; have := List.all_eq_true.mp e x hx; exact bne_iff_ne.mp this
end
end
section
noncomputable abbrev iB (Lz : Addr) : Env := envOf "Match.__new__" (fdS (mAt 4 4)) Lz 99 (.ref 98)
abbrev cMT : Addr := 152
theorem Kp (P : Params) : (K P).lookup 152 = some V9 := by kernel_rfl
theorem aD (P : Params) : (K P).lookup 99 = some o74 := by kernel_rfl
theorem Vj (P : Params) : codeIn (K P) (.ref 98) "Match.__new__" = true := by kernel_rfl
theorem Jw (P : Params) : jt (K P) 152 99 153 where
 obj := (qM _ _ _ _ (.none) (qr (Kp P) (by kernel_rfl) (by kernel_rfl) (fun i => nofun) (by kernel_rfl) (by kernel_rfl)))
 call := by kernel_rfl
 typ := by kernel_rfl
 init := by kernel_rfl
 reads := by kernel_rfl
 new := by kernel_rfl
 rec_ := by kernel_rfl
 hand := by kernel_rfl
theorem aC (P : Params) : YX (K P) 152 where
 obj := (qM _ _ _ _ (.none) (qr (Kp P) (by kernel_rfl) (by kernel_rfl) (by kernel_rfl) (by kernel_rfl) (fun i => nofun)))
 typ := by kernel_rfl
theorem Vi (P : Params) : findIn (K P) (.ref 152) "__iter__" = some (some (.builtin "tuple.__iter__")) := by kernel_rfl
theorem aE (P : Params) : mroIn (K P) 152 (.type "tuple") = some true := by kernel_rfl
theorem eG (P : Params) : findCls (K P) (.type "tuple") (.type "type") "__new__" = some (.val (.builtin "tuple.__new__")) := by kernel_rfl
theorem Vh (P : Params) : nsIn (K P) mainGlobals "Match" = some (some (.ref 152)) := by kernel_rfl
section
theorem ir {x1 x2 x3 : Value} {Q : PV} (X : Bd (K C.w.params) mg mb q loose C) (hroom : A.depth + 3 < recursionLimit)
 (h : ∀ H' x dx, Ext H H' → H x = none → H' x = some (Jp 152 dx [x1, x2, x3]) → Q (.ref x) m H') :
 W C A L (call (.ref 152) [x1, x2, x3]) Q E m H := by
 refine K5 X (Jw _) ?_
 refine xP (binds := [("_cls", .ref 152), ("a", x1), ("b", x2), ("size", x3)]) (Qf := fun v H' => ∃ x dx, v = .ref x ∧ H' x = some (Jp 152 dx [x1, x2, x3]))
  (fun _ => none) X (aD _) (Vj _) (by show A.depth + 1 < _; exact (an 0x16840c312805a103044a0 [_,_]) hroom) (fun s _ => .of_eq (by kernel_rfl)) ?_ (fun b o e => by cases e) (fun B' L' eB => ?_) (fun v Hf' H' hv u => ?_)
  (by kernel_rfl) (by kernel_rfl) (by kernel_rfl) ?_
 · intro y hy
   exact vD (by kernel_rfl) y hy
 · have X' := X.mono eB
   have m1 : (bl [("_cls", .ref 152), ("a", x1), ("b", x2), ("size", x3)]) "_cls" = some (.ref 152) := by kernel_rfl
   have m2 : (bl [("_cls", .ref 152), ("a", x1), ("b", x2), ("size", x3)]) "a" = some x1 := by kernel_rfl
   have m3 : (bl [("_cls", .ref 152), ("a", x1), ("b", x2), ("size", x3)]) "b" = some x2 := by kernel_rfl
   have m4 : (bl [("_cls", .ref 152), ("a", x1), ("b", x2), ("size", x3)]) "size" = some x3 := by kernel_rfl
   generalize (bl [("_cls", .ref 152), ("a", x1), ("b", x2), ("size", x3)]) = m0 at m1 m2 m3 m4 ⊢
   refine yc (env := iB L') ?_
   walk_at "r"
   refine Xr X' (Tn := "tuple") (by kernel_rfl) (by kernel_rfl) (eG _) (by kernel_rfl) ?_ _ rfl (by kernel_rfl) (by kernel_rfl)
   refine vq X' (Km _) KW ?_
   refine ⟨rfl, ?_⟩
   walk_at "r"
   refine yt (zX (by simp)) (fun tt nt _ => ?_)
   walk_at "r"
   refine Xs X' (Jw _) (aC _) zb (zX (by simp)) (fun x dx nx _ => ?_)
   exact ⟨x, dx, rfl, zb⟩
 · refine zI hv fun x dx hq2 hx => ?_
   try clear hv
   obtain rfl := hq2
   exact (qN x _ rfl (u.in_ _ _ hx) rfl (h H' x dx u.ext0 (u.fresh _ rfl (by rw [hx]; simp)) (u.in_ _ _ hx)))
 · have e : (fdS (mAt 4 4)).names.all (fun x => x.2 != .cell) = true := by kernel_rfl
   intro x hx; have := List.all_eq_true.mp e x hx; exact bne_iff_ne.mp this
end
end
section
noncomputable abbrev iA (Lz : Addr) : Env := envOf "SequenceMatcher.set_seq1" (fdS (mAt 6 3)) Lz 191 (.ref 190)
noncomputable abbrev eY (Lz : Addr) : Env := envOf "SequenceMatcher.__chain_b" (fdS (mAt 6 5)) Lz 205 (.ref 204)
abbrev cSM : Addr := 259
theorem Wo (P : Params) : (K P).lookup 191 = some V6 := by kernel_rfl
theorem J8 (P : Params) : codeIn (K P) (.ref 190) "SequenceMatcher.set_seq1" = true := by kernel_rfl
theorem bo (P : Params) : (K P).lookup 205 = some Vc := by kernel_rfl
theorem VM (P : Params) : codeIn (K P) (.ref 204) "SequenceMatcher.__chain_b" = true := by kernel_rfl
theorem az (P : Params) : nsIn (K P) mainGlobals "enumerate" = some none := by kernel_rfl
theorem bu : bootBuiltins "enumerate" = some (.type "enumerate") := by decide +kernel
noncomputable def yO (ys : List Nat) (c : Nat) : List Nat := (List.range ys.length).filter fun i => ys[i]? == some c
structure yf (p : Program) (w : World) (H : HF) (d : Addr) (ys : List Nat) (kvs : List (Str × Value)) (Lo : Nat → Addr) : Prop where
 dict : zG (PySem.strKind p w) H d kvs
 has : ∀ c ∈ ys, valueAt kvs (S' [c]) = some (.ref (Lo c)) ∧ ∃ vs k, H (Lo c) = some (ze vs k) ∧ IntsAre vs ((yO ys c).map Int.ofNat)
 non : ∀ x, (∀ c ∈ ys, x ≠ S' [c]) → valueAt kvs x = none
 inj : ∀ c ∈ ys, ∀ c' ∈ ys, Lo c = Lo c' → c = c'
 len : kvs.length ≤ ys.length
theorem YZ {c c' : Nat} (h : S' [c] = S' [c']) : c = c' := by have := Ql h; simpa using this
theorem ky (ys : List Nat) (b c : Nat) : yO (ys ++ [b]) c = yO ys c ++ (if b = c then [ys.length] else []) := by
 unfold yO
 rw [List.length_append, List.length_singleton, List.range_succ, List.filter_append]
 congr 1
 · refine List.filter_congr fun i hi => ?_
   rw [List.getElem?_append_left (List.mem_range.mp hi)]
 · rw [List.filter_cons, List.filter_nil]
   have : (ys ++ [b])[ys.length]? = some b := by simp
   rw [this]
   by_cases h : b = c
   · rw [if_pos h, h]; simp
   · rw [if_neg h]; simp [h]
theorem vX {ys : List Nat} {c : Nat} (h : c ∉ ys) : yO ys c = [] := by
 unfold yO
 rw [List.filter_eq_nil_iff]
 intro i hi he
 exact h (List.mem_of_getElem? (beq_iff_eq.mp he))
theorem Zl {k : Int} {t : Tok} : ∀ {vs : List Value} {ns : List Int}, IntsAre vs ns → IntsAre (vs ++ [.int k t]) (ns ++ [k])
 | _, _, .nil => .cons _ _ .nil
 | _, _, .cons y t' h => .cons y t' (Zl h)
theorem wF : ∀ {vs : List Value} {ns : List Int}, IntsAre vs ns → vs.length = ns.length
 | _, _, .nil => rfl
 | _, _, .cons _ _ h => by rw [List.length_cons, List.length_cons, wF h]
theorem jP (ys : List Nat) (c : Nat) : (yO ys c).length ≤ ys.length := by
 have := List.length_filter_le (fun i => ys[i]? == some c) (List.range ys.length)
 rw [List.length_range] at this; exact this
section
variable {p : Program} {w : World} {H : HF} {d : Addr} {ys : List Nat} {kvs : List (Str × Value)} {Lo : Nat → Addr}
theorem yf.ext {H' : HF} (Ch : yf p w H d ys kvs Lo) (e : Ext H H') : yf p w H' d ys kvs Lo :=
 ⟨Ch.dict.ext e, fun c hc => let ⟨a, vs, k, b, i⟩ := Ch.has c hc; (ke a vs k (e _ _ b) i), Ch.non, Ch.inj, Ch.len⟩
theorem yf.old {b : Nat} {t : Tok} {vs : List Value} {k k' : Nat} (Ch : yf p w H d ys kvs Lo) (hb : b ∈ ys) (hl : H (Lo b) = some (ze vs k)) (hi : IntsAre vs ((yO ys b).map Int.ofNat)) :
 yf p w (put H (Lo b) (ze (vs ++ [.int ys.length t]) k')) d (ys ++ [b]) kvs Lo := by
 have hmem : ∀ c, c ∈ ys ++ [b] → c ∈ ys := fun c hc => by
  rcases List.mem_append.mp hc with h | h
  · exact h
  · rw [List.mem_singleton.mp h]; exact hb
 have hne : d ≠ Lo b := fun z => by
  refine zu Ch.dict.cls fun o ho hc _ => ?_
  rw [z, hl] at ho; cases ho; simp at hc
 refine ⟨Ch.dict.eq (za hne), fun c hc => ?_, fun x hx => Ch.non x fun c hc => hx c (List.mem_append_left _ hc), fun c hc c' hc' => Ch.inj c (hmem c hc) c' (hmem c' hc'), by rw [List.length_append]; have := Ch.len; exact (an 0x148500a02890a0 [_,_,_]) this⟩
 refine xz (Ch.has c (hmem c hc)) fun a vs' k2 h2 i2 => ?_
 refine ⟨a, ?_⟩
 by_cases e : b = c
 · subst e
   refine (zO _ _ zb ?_)
   rw [ky, if_pos rfl, List.map_append]
   exact Zl hi
 · refine (zO vs' k2 ((za fun z => e (Ch.inj c (hmem c hc) b hb z).symm).trans h2) ?_)
   rw [ky, if_neg e, List.append_nil]; exact i2
theorem yf.fresh {b l0 : Addr} {t : Tok} {o : Obj} {k' : Nat} (Ch : yf p w H d ys kvs Lo) (hb : b ∉ ys) (hl : H l0 = none) (D : zG (PySem.strKind p w) (put (put H l0 (ze [] 0)) d o) d (kvs ++ [(S' [b], .ref l0)])) :
 yf p w (put (put (put H l0 (ze [] 0)) d o) l0 (ze [.int ys.length t] k')) d (ys ++ [b]) (kvs ++ [(S' [b], .ref l0)]) (fun c => if c = b then l0 else Lo c) := by
 have hdl : d ≠ l0 := fun z => by refine zc Ch.dict.cls fun o ho _ => ?_; rw [z, hl] at ho; cases ho
 have hva : ∀ x, valueAt (kvs ++ [(S' [b], Value.ref l0)]) x = if x = S' [b] then (valueAt kvs x).or (some (.ref l0)) else valueAt kvs x := fun x => by
  unfold valueAt
  rw [List.find?_append]
  by_cases e : x = S' [b]
  · subst e
    rw [if_pos rfl]
    cases kvs.find? (fun kv => decide (kv.1 = S' [b])) <;> simp
  · rw [if_neg e]
    cases kvs.find? (fun kv => decide (kv.1 = x)) with
    | some y => rfl
    | none => simp [Ne.symm e]
 have hnb : valueAt kvs (S' [b]) = none := Ch.non _ fun c hc z => hb (YZ z ▸ hc)
 have hold : ∀ c ∈ ys, c ≠ b := fun c hc z => hb (z ▸ hc)
 have hLo : ∀ c ∈ ys, Lo c ≠ l0 := fun c hc z => by refine xz (Ch.has c hc) fun _ vs k h2 _ => ?_; rw [z, hl] at h2; cases h2
 refine ⟨D.eq (za hdl), fun c hc => ?_, fun x hx => ?_, fun c hc c' hc' e => ?_, by rw [List.length_append, List.length_append]; have := Ch.len; simp; exact (an 0x52140290a0 [_,_]) this⟩
 · rcases List.mem_append.mp hc with h | h
   · refine xz (Ch.has c h) fun a vs' k2 h2 i2 => ?_
     rw [hva, if_neg fun z => hold c h (YZ z)]
     rw [if_neg (hold c h)]
     refine (ke a vs' k2 ?_ ?_)
     · have hd : Lo c ≠ d := fun z => by
        refine zu Ch.dict.cls fun o ho hcl _ => ?_
        rw [← z, h2] at ho; cases ho; simp at hcl
       rw [za (hLo c h), za hd, za (hLo c h)]; exact h2
     · rw [ky, if_neg (Ne.symm (hold c h)), List.append_nil]; exact i2
   · have hcb := List.mem_singleton.mp h
     subst hcb
     rw [hva, if_pos rfl, hnb]
     rw [if_pos rfl]
     refine (ke rfl _ _ zb ?_)
     rw [ky, if_pos rfl, vX hb]
     exact .cons _ _ .nil
 · rw [hva, if_neg (hx b (List.mem_append_right _ (.head _)))]
   exact Ch.non x fun c hc => hx c (List.mem_append_left _ hc)
 · rcases List.mem_append.mp hc with h | h <;> rcases List.mem_append.mp hc' with h' | h'
   · rw [if_neg (hold c h), if_neg (hold c' h')] at e; exact Ch.inj c h c' h' e
   · rw [if_neg (hold c h), if_pos (List.mem_singleton.mp h')] at e; exact absurd e (hLo c h)
   · rw [if_neg (hold c' h'), if_pos (List.mem_singleton.mp h)] at e; exact absurd e.symm (hLo c' h')
   · rw [List.mem_singleton.mp h, List.mem_singleton.mp h']
end
section
theorem ib {S dS : Addr} {f : Mp} {n : Nat} {Hs : HF} {x : Str} {t : Tok} {Q : PV} (X : Bd (K C.w.params) mg mb q loose C) (hroom : A.depth + 2 < recursionLimit)
 (hx : Ext Hs H) (I : kS Hs S dS cSM f n) (fa : f "a" = some .none) (hn : n < 900)
 (h : ∀ H' Hs' f', kS Hs' S dS cSM f' (n + 2) → (∀ b, b ≠ dS → Hs' b = Hs b) → (∀ y : Str, y ≠ "a" → y ≠ "opcodes" → y ≠ "matching_blocks" → f' y = f y) → f' "a" = some (.str x t) → f' "opcodes" = some .none → f' "matching_blocks" = some .none → Upd Hs H Hs' H' → Q .none m H') :
 W C A L (call (.ref 191) [.ref S, .str x t]) Q E m H := by
 refine zF (binds := [("self", .ref S), ("a", .str x t)]) (Qf := fun v H' => v = .none ∧ ∃ f', kS H' S dS cSM f' (n + 2) ∧ (∀ b, b ≠ dS → H' b = Hs b) ∧ (∀ y : Str, y ≠ "a" → y ≠ "opcodes" → y ≠ "matching_blocks" → f' y = f y) ∧ f' "a" = some (.str x t) ∧ f' "opcodes" = some .none ∧ f' "matching_blocks" = some .none)
  Hs X (Wo _) (J8 _) (yu hroom) (fun s XX => zx XX (fun _ => by kernel_rfl)) ?_ hx (fun B' L' eB => ?_) (fun v Hf' H' hv u => ?_)
  (by kernel_rfl) (by kernel_rfl) (by kernel_rfl) ?_
 · intro y hy
   exact vD (by kernel_rfl) y hy
 · have X' := X.mono eB
   have m1 : (bl [("self", .ref S), ("a", .str x t)]) "self" = some (.ref S) := by kernel_rfl
   have m2 : (bl [("self", .ref S), ("a", .str x t)]) "a" = some (.str x t) := by kernel_rfl
   generalize (bl [("self", .ref S), ("a", .str x t)]) = m0 at m1 m2 ⊢
   refine xp (env := iA L') (fun QQf hQQf => ?_)
   walk_at "r"
   refine zr X' I fa ?_ (by kernel_rfl) (by kernel_rfl) (attr := none) (by kernel_rfl) (by kernel_rfl) (by rfl)
   walk_at "r"
   refine yl (by rfl) ?_
   walk_at "r"
   refine zT (fun z => ?_) (fun _ => ?_)
   · cases z
   walk_at "r"
   refine vn X' I (by exact (an 0x5c4b82500b917c4a0 [_]) hn) (by rw [fa]; rfl) (fun H1 I1 k1 => ?_) (by kernel_rfl) (by kernel_rfl) (by kernel_rfl) (by kernel_rfl)
   walk_at "r"
   refine zm ?_
   walk_at "r"
   refine qB ?_
   walk_at "r"
   refine zY X' I1 (by exact (an 0x5c4b82500b917c4a0 [_]) hn) (fun H2 I2 k2 => ?_) (by kernel_rfl) (by kernel_rfl) (by kernel_rfl) (by kernel_rfl)
   refine xh ?_
   walk_at "r"
   refine zY X' I2 (by exact (an 0xb89704a01722f8903044a0 [_]) hn) (fun H3 I3 k3 => ?_) (by kernel_rfl) (by kernel_rfl) (by kernel_rfl) (by kernel_rfl)
   walk_at "r"
   refine (yg rfl (xa _ (qr I3 (fun b hb => by rw [k3 b hb, k2 b hb, k1 b hb]) (fun y n1 n2 n3 => by rw [zk n2, zk n3, zk n1]) (by walk_at "mp") (by walk_at "mp") (by walk_at "mp"))))
 · refine hdG fun gQ gZ => ?_
   refine z5 hv fun hq0 zq => yW zq fun f' zq => kg zq fun a1 a2 a3 a4 a5 a6 => ?_
   refine gZ ?_
   try clear hv
   obtain rfl := hq0
   exact h H' Hf' f' a1 a2 a3 a4 a5 a6 u
 · have e : (fdS (mAt 6 3)).names.all (fun x => x.2 != .cell) = true := by kernel_rfl
   intro x hx; have := List.all_eq_true.mp e x hx; exact bne_iff_ne.mp this
theorem iJ {S dS : Addr} {f : Mp} {n : Nat} {Hs : HF} {ys : List Nat} {tb : Tok} {Q : PV} (X : Bd (K C.w.params) mg mb q loose C) (hroom : A.depth + 2 < recursionLimit) (hh : A.handled = none)
 (hx : Ext Hs H) (I : kS Hs S dS cSM f n) (fb : f "b" = some (.str (S' ys) tb)) (fj : f "isjunk" = some .none) (fa : f "autojunk" = some (.bool true)) (hn : n < 900) (hz : ys.length ≤ 100)
 (h : ∀ H' Hs' f' N J kvs Lo, kS Hs' S dS cSM f' (n + 3) → (∀ y : Str, y ≠ "b2j" → y ≠ "bjunk" → y ≠ "bpopular" → f' y = f y) → f' "b2j" = some (.ref N) → f' "bjunk" = some (.ref J) → yf C.prog C.w Hs' N ys kvs Lo → jw (PySem.strKind C.prog C.w) Hs' J (fun _ => false) 0 → Upd Hs H Hs' H' → Q .none m H') :
 W C A L (call (.ref 205) [.ref S]) Q E m H := by
 refine zF (binds := [("self", .ref S)]) (Qf := fun v H' => v = .none ∧ ∃ f' N J kvs Lo, kS H' S dS cSM f' (n + 3) ∧ (∀ y : Str, y ≠ "b2j" → y ≠ "bjunk" → y ≠ "bpopular" → f' y = f y) ∧ f' "b2j" = some (.ref N) ∧ f' "bjunk" = some (.ref J) ∧ yf C.prog C.w H' N ys kvs Lo ∧ jw (PySem.strKind C.prog C.w) H' J (fun _ => false) 0)
  Hs X (bo _) (VM _) (yu hroom) (fun s XX => zx XX (fun _ => by kernel_rfl)) ?_ hx (fun B' L' eB => ?_) (fun v Hf' H' hv u => ?_)
  (by kernel_rfl) (by kernel_rfl) (by kernel_rfl) ?_
 · intro y hy
   exact vD (by kernel_rfl) y hy
 · have X' := X.mono eB
   have m1 : (bl [("self", .ref S)]) "self" = some (.ref S) := by kernel_rfl
   generalize (bl [("self", .ref S)]) = m0 at m1 ⊢
   have hh' : (A.deeper (eY L')).handled = none := hh
   refine xp (env := eY L') (fun QQf hQQf => ?_)
   generalize A.deeper (eY L') = A' at hh' ⊢
   walk_at "r"
   refine zr X' I fb ?_ (by kernel_rfl) (by kernel_rfl) (attr := none) (by kernel_rfl) (by kernel_rfl) (by rfl)
   walk_at "r"
   refine zm ?_
   refine vx X' (a₀ := 205) (o₀ := Vc) (fun N nN nNL nNs => ?_) (by kernel_rfl) (by decide)
   have D0 : zG (PySem.strKind C.prog C.w) (put Hs N emptyDict) N [] := .new nNs
   have nNa : N ≠ S := fun z => by rw [z, I.obj] at nN; cases nN
   have nNd : N ≠ dS := fun z => by rw [z] at nN; refine zc I.dict fun o ho _ => ?_; rw [ho] at nN; cases nN
   have I0 := I.ext (Ext.put_new nN (o := emptyDict))
   refine qB ?_
   walk_at "r"
   refine zY X' I0 (by exact (an 0x5c4b82500b917c4a0 [_]) hn) (fun H2 I2 k2 => ?_) (by kernel_rfl) (by kernel_rfl) (by kernel_rfl) (by kernel_rfl)
   refine xh ?_
   walk_at "r"
   have D2 := D0.eq (k2 N nNd)
   have I2b : kS (dropA H2 N) S dS cSM (set f "b2j" (.ref N)) (n + 1) := ⟨(YF (Ne.symm nNa)).trans I2.obj, (let ⟨o, a, b⟩ := I2.dict; (zd o ((YF (Ne.symm nNd)).trans a) b)), fun _ _ => trivial⟩
   have eb2 : Ext (dropA H2 N) H2 := qx
   have nb2 : dropA H2 N N = none := by simp [dropA]
   generalize dropA H2 N = Hb at I2b eb2 nb2
   refine Qj hh' (by kernel_rfl) (by kernel_rfl) ?_ (fun _ => rfl)
   with_reducible refine zN X' (az _) bu ?_
   walk_at "r"
   refine Qa (fun e it oI ne nit eit _ _ oc od => ?_)
   refine (eT e it (S' ys) tb H2 oI (Kz rfl zb ((za (Ne.symm eit)).trans zb) oc od ?_ ne nit eit (xa (fun k m H => m "self" = some (.ref S) ∧ m "b2j" = some (.ref N) ∧ m "b" = some (.str (S' ys) tb) ∧ ∃ kvs Lo, yf C.prog C.w H N (ys.take k) kvs Lo ∧ Ext Hb H ∧ ∀ c ∈ ys.take k, Hb (Lo c) = none) (zl ?_ (fun B2 k c m3 H3 eB2 hk hI t u => W.body fun QQb hQQb => ?_) (fun m3 H3 hI => ?_)))))
   · exact (Ext.put_new nit).trans (Ext.put_new (by rw [za eit]; exact ne))
   · exact (qs (by walk_at "mp") (by walk_at "mp") (by walk_at "mp") (yL [] (fun _ => 0) (zl ⟨D2, (by simp), (fun x _ => rfl), (by simp), Nat.zero_le _⟩ eb2 (by simp))))
   · refine hdG fun gQ gZ => ?_
     refine xS hI fun i1 i2 i3 zq => yE zq fun kvs Lo zq => zw zq fun Ch ex hLo => ?_
     refine gZ ?_
     try clear hI
     have X2 := X'.mono eB2
     have hk' : ys[k]? = some c := by simpa using hk
     have hkl : k < ys.length := (List.getElem?_eq_some_iff.mp hk').1
     have htk : ys.take (k + 1) = ys.take k ++ [c] := by rw [List.take_add_one, hk']; rfl
     have hlk : (ys.take k).length = k := by rw [List.length_take]; exact (an 0x168500c400d0a0 [_,_]) hkl
     have hnN : Hb N = none := nb2
     refine zg ?_
     walk_at "r"
     refine zg ?_
     walk_at "r"
     refine z7 ?_
     walk_at "r"
     with_reducible refine zC ?_
     walk_at "r"
     refine (zy ("dict") ("dict.setdefault") PySem.F.plainAttrs_dict PySem.F.slot_dict_setdefault PySem.F.type_dict_setdefault Ch.dict.hasT ?_)
     walk_at "r"
     refine zK (by decide +kernel) (fun l0 nl0 _ => ?_)
     walk_at "r"
     have Ch1 := Ch.ext (Ext.put_new nl0 (o := ze [] 0))
     have ex1 := ex.trans (Ext.put_new nl0 (o := ze [] 0))
     have nb0 : Hb l0 = none := zW ex nl0
     refine Zy (C := (C.at_ B2)) Ch1.dict (wO (S' [c]) u) (zX (by have := Ch.len; exact (an 0xa890c4a1168510c448c523402a055830c4a0 [_,_,_,_]) hz hkl hlk this)) (fun v hv => ?_) (fun hv o D => ?_)
     · have hc : c ∈ ys.take k := by
        refine Classical.byContradiction fun hn => ?_
        rw [Ch.non (S' [c]) fun c' hc' z => hn (YZ z ▸ hc')] at hv
        cases hv
       refine xz (Ch1.has c hc) fun h1 vs kk h2 h3 => ?_
       rw [h1] at hv
       obtain rfl := Option.some.inj hv
       walk_at "r"
       with_reducible refine zQ ?_
       with_reducible refine zC ?_
       walk_at "r"
       refine (zy ("list") ("list.append") PySem.F.plainAttrs_list slot_list_append PySem.F.type_list_append (.ref h2) ?_)
       walk_at "r"
       refine yB h2 (zX (by have := wF h3; rw [List.length_map] at this; have := jP (ys.take k) c; exact (an 0x1512189422d0a2188918c4880523482a055830c4a0 [_,_,_,_,_]) hz hkl hlk ‹_› this)) ⟨(fun _ => nofun), ?_⟩
       walk_at "r"
       refine ⟨by walk_at "mp", by walk_at "mp", by walk_at "mp", kvs, Lo, ?_, z9 ex1 (hLo c hc), fun c' hc' => ?_⟩
       · have := Ch1.old (t := t) (k' := kk + 1) hc h2 h3
         rw [hlk] at this
         rw [htk]; exact this
       · rw [htk] at hc'
         rcases List.mem_append.mp hc' with q | q
         · exact hLo c' q
         · rw [List.mem_singleton.mp q]; exact hLo c hc
     · have hc : c ∉ ys.take k := fun hc => by rw [(Ch1.has c hc).1] at hv; cases hv
       have hNl : N ≠ l0 := fun z => by refine zc Ch.dict.cls fun o' ho' _ => ?_; rw [z, nl0] at ho'; cases ho'
       have hl0 : put (put H3 l0 (ze [] 0)) N o l0 = some (ze [] 0) := (za (Ne.symm hNl)).trans zb
       walk_at "r"
       with_reducible refine zQ ?_
       with_reducible refine zC ?_
       walk_at "r"
       refine (zy ("list") ("list.append") PySem.F.plainAttrs_list slot_list_append PySem.F.type_list_append (.ref hl0) ?_)
       walk_at "r"
       refine yB hl0 (zX (by simp)) ⟨(fun _ => nofun), ?_⟩
       walk_at "r"
       refine ⟨by walk_at "mp", by walk_at "mp", by walk_at "mp", kvs ++ [(S' [c], .ref l0)], (fun c' => if c' = c then l0 else Lo c'), ?_, z9 (z9 ex1 hnN) nb0, fun c' hc' => ?_⟩
       · have := Ch.fresh (t := t) (k' := 1) hc nl0 D
         rw [hlk] at this
         rw [htk]; exact this
       · dsimp only
         split
         · exact nb0
         · rename_i q
           rw [htk] at hc'
           rcases List.mem_append.mp hc' with q' | q'
           · exact hLo c' q'
           · exact absurd (List.mem_singleton.mp q') q
   · refine hdG fun gQ gZ => ?_
     refine xS hI fun i1 i2 i3 zq => yE zq fun kvs Lo zq => zw zq fun Ch ex hLo => ?_
     refine gZ ?_
     try clear hI
     rw [show (S' ys).cps.size = ys.length by simp, List.take_length] at Ch
     have I3 := I2b.ext ex
     have hNd : N ≠ dS := nNd
     have hlen : (S' ys).length = ys.length := yD ys
     show W _ _ _ _ _ _ _ _
     walk_at "r"
     refine zm ?_
     with_reducible refine xO X' (Ve _) VO ?_
     refine K3 (C := (C.at_ B')) (K := Str) (knd := PySem.strKind C.prog C.w) (fun J oJ nJ _ SJ => ?_)
     have eJ := Ext.put_new nJ (o := oJ)
     have Ch4 := Ch.ext eJ
     have I4 := I3.ext eJ
     refine qB ?_
     walk_at "r"
     refine zY X' I4 (by exact (an 0xb89704a01722f8903044a0 [_]) hn) (fun H5 I5 k5 => ?_) (by kernel_rfl) (by kernel_rfl) (by kernel_rfl) (by kernel_rfl)
     have hJd : J ≠ dS := fun z => by refine zc I3.dict fun o ho _ => ?_; rw [z, ho] at nJ; cases nJ
     have hLd : ∀ c ∈ ys, Lo c ≠ dS := fun c hc z => by
      refine hdG fun gQ gZ => ?_
      refine zc I4.dict fun o ho hq2 => ?_
      obtain ⟨es, kk, hoe, _⟩ := hq2
      refine xz (Ch4.has c hc) fun _ vs k h2 _ => ?_
      refine gZ ?_
      rw [z, ho] at h2
      obtain rfl := Option.some.inj h2
      have := congrArg Obj.cls hoe
      simp [dictOf] at this
     have Ch5 : yf C.prog C.w H5 N ys kvs Lo := ⟨Ch4.dict.eq (k5 N hNd), fun c hc => let ⟨a, vs, k, b, i⟩ := Ch4.has c hc; (ke a vs k ((k5 _ (hLd c hc)).trans b) i), Ch4.non, Ch4.inj, Ch4.len⟩
     have SJ5 := SJ.eq (k5 J hJd)
     refine xh ?_
     walk_at "r"
     refine zr X' I5 ((zk (by decide +kernel)).trans ((zk (by decide +kernel)).trans fj)) ?_ (by kernel_rfl) (by kernel_rfl) (attr := none) (by kernel_rfl) (by kernel_rfl) (by rfl)
     walk_at "r"
     refine Zv ?_
     refine zT (fun z => ?_) (fun _ => ?_)
     · cases z
     walk_at "r"
     refine zm ?_
     with_reducible refine xO X' (Ve _) VO ?_
     refine K3 (C := (C.at_ B')) (K := Str) (knd := PySem.strKind C.prog C.w) (fun J2 oJ2 nJ2 _ SJ2 => ?_)
     have eJ2 := Ext.put_new nJ2 (o := oJ2)
     have Ch6 := Ch5.ext eJ2
     have I6 := I5.ext eJ2
     have SJ6 := SJ5.ext eJ2
     refine qB ?_
     walk_at "r"
     refine zY X' I6 (by exact (an 0x1712e09402e45f120608903044a0 [_]) hn) (fun H7 I7 k7 => ?_) (by kernel_rfl) (by kernel_rfl) (by kernel_rfl) (by kernel_rfl)
     have Ch7 : yf C.prog C.w H7 N ys kvs Lo := ⟨Ch6.dict.eq (k7 N hNd), fun c hc => let ⟨a, vs, k, b, i⟩ := Ch6.has c hc; (ke a vs k ((k7 _ (hLd c hc)).trans b) i), Ch6.non, Ch6.inj, Ch6.len⟩
     have SJ7 := SJ6.eq (k7 J hJd)
     refine xh ?_
     walk_at "r"
     with_reducible refine zh X' (ju _) jv ?_
     walk_at "r"
     with_reducible refine yx (zA (by rw [hlen]; omega)) (fun _ => ?_)
     walk_at "r"
     refine zr X' I7 ((zk (by decide +kernel)).trans ((zk (by decide +kernel)).trans ((zk (by decide +kernel)).trans fa))) ?_ (by kernel_rfl) (by kernel_rfl) (attr := none) (by kernel_rfl) (by kernel_rfl) (by rfl)
     walk_at "r"
     with_reducible refine bC ?_
     walk_at "r"
     rw [hlen, decide_eq_false (by exact (an 0x2a24312806204258a488c243a0 [_,_]) hz hlen)]
     walk_at "r"
     exact (yg rfl (qM _ N J kvs Lo (qr I7 (fun y n1 n2 n3 => by rw [zk n3, zk n2, zk n1]) (by walk_at "mp") (by walk_at "mp") Ch7 SJ7)))
 · refine hdG fun gQ gZ => ?_
   refine z5 hv fun hq0 zq => vJ zq fun f' N J kvs Lo zq => kg zq fun a1 a2 a3 a4 a5 a6 => ?_
   refine gZ ?_
   try clear hv
   obtain rfl := hq0
   exact h H' Hf' f' N J kvs Lo a1 a2 a3 a4 a5 a6 u
 · have e : (fdS (mAt 6 5)).names.all (fun x => x.2 != .cell) = true := by kernel_rfl
   intro x hx; have := List.all_eq_true.mp e x hx; exact bne_iff_ne.mp this
end
end
section
noncomputable abbrev cH (Lz : Addr) : Env := envOf "SequenceMatcher.set_seq2" (fdS (mAt 6 4)) Lz 198 (.ref 197)
noncomputable abbrev cG (Lz : Addr) : Env := envOf "SequenceMatcher.set_seqs" (fdS (mAt 6 2)) Lz 184 (.ref 183)
theorem Wn (P : Params) : (K P).lookup 198 = some V5 := by kernel_rfl
theorem J7 (P : Params) : codeIn (K P) (.ref 197) "SequenceMatcher.set_seq2" = true := by kernel_rfl
theorem Wh (P : Params) : (K P).lookup 184 = some V7 := by kernel_rfl
theorem JX (P : Params) : codeIn (K P) (.ref 183) "SequenceMatcher.set_seqs" = true := by kernel_rfl
theorem Wi (P : Params) : (K P).lookup 177 = some V8 := by kernel_rfl
theorem JY (P : Params) : codeIn (K P) (.ref 176) "SequenceMatcher.__init__" = true := by kernel_rfl
theorem io (P : Params) : nsIn (K P) mainGlobals "SequenceMatcher" = some (some (.ref 259)) := by kernel_rfl
noncomputable def XY : List Str := ["set_seqs", "set_seq1", "set_seq2", "_SequenceMatcher__chain_b", "find_longest_match"]
noncomputable def smB : List Str := ["b", "matching_blocks", "opcodes", "fullbcount", "b2j", "bjunk", "bpopular"]
noncomputable def NoM (f : Mp) : Prop := ∀ y ∈ XY, f y = none
theorem NoM.set {f : Mp} (N : NoM f) {x : Str} {v : Value} (h : x ∉ XY) : NoM (Internal.set f x v) := fun y hy => by
 have hne : y ≠ x := fun z => h (z ▸ hy)
 exact (zk hne).trans (N y hy)
section
theorem ia {S dS : Addr} {f : Mp} {n : Nat} {Hs : HF} {ys : List Nat} {t : Tok} {Q : PV} (X : Bd (K C.w.params) mg mb q loose C) (hroom : A.depth + 4 < recursionLimit) (hh : A.handled = none)
 (hx : Ext Hs H) (I : kS Hs S dS cSM f n) (fb : f "b" = some .none) (fj : f "isjunk" = some .none) (fa : f "autojunk" = some (.bool true)) (hM : NoM f) (hn : n < 800) (hz : ys.length ≤ 100)
 (h : ∀ H' Hs' f' N J kvs Lo, kS Hs' S dS cSM f' (n + 6) → (∀ y : Str, y ∉ smB → f' y = f y) → f' "b" = some (.str (S' ys) t) → f' "b2j" = some (.ref N) → f' "bjunk" = some (.ref J) → yf C.prog C.w Hs' N ys kvs Lo → jw (PySem.strKind C.prog C.w) Hs' J (fun _ => false) 0 → Upd Hs H Hs' H' → Q .none m H') :
 W C A L (call (.ref 198) [.ref S, .str (S' ys) t]) Q E m H := by
 refine zF (binds := [("self", .ref S), ("b", .str (S' ys) t)]) (Qf := fun v H' => v = .none ∧ ∃ f' N J kvs Lo, kS H' S dS cSM f' (n + 6) ∧ (∀ y : Str, y ∉ smB → f' y = f y) ∧ f' "b" = some (.str (S' ys) t) ∧ f' "b2j" = some (.ref N) ∧ f' "bjunk" = some (.ref J) ∧ yf C.prog C.w H' N ys kvs Lo ∧ jw (PySem.strKind C.prog C.w) H' J (fun _ => false) 0)
  Hs X (Wn _) (J7 _) (yu hroom) (fun s XX => zx XX (fun _ => by kernel_rfl)) ?_ hx (fun B' L' eB => ?_) (fun v Hf' H' hv u => ?_)
  (by kernel_rfl) (by kernel_rfl) (by kernel_rfl) ?_
 · intro y hy
   exact vD (by kernel_rfl) y hy
 · have X' := X.mono eB
   have m1 : (bl [("self", .ref S), ("b", .str (S' ys) t)]) "self" = some (.ref S) := by kernel_rfl
   have m2 : (bl [("self", .ref S), ("b", .str (S' ys) t)]) "b" = some (.str (S' ys) t) := by kernel_rfl
   generalize (bl [("self", .ref S), ("b", .str (S' ys) t)]) = m0 at m1 m2 ⊢
   have hh' : (A.deeper (cH L')).handled = none := hh
   have hd' : (A.deeper (cH L')).depth = A.depth + 1 := rfl
   refine yc (env := cH L') ?_
   generalize A.deeper (cH L') = A' at hh' hd' ⊢
   walk_at "r"
   refine zr X' I fb ?_ (by kernel_rfl) (by kernel_rfl) (attr := none) (by kernel_rfl) (by kernel_rfl) (by rfl)
   walk_at "r"
   refine yl (by rfl) ?_
   walk_at "r"
   refine zT (fun z => ?_) (fun _ => ?_)
   · cases z
   walk_at "r"
   refine vn X' I (by exact (an 0x5c0b22500b917c4a0 [_]) hn) (by rw [fb]; rfl) (fun H1 I1 k1 => ?_) (by kernel_rfl) (by kernel_rfl) (by kernel_rfl) (by kernel_rfl)
   walk_at "r"
   refine zm ?_
   walk_at "r"
   refine qB ?_
   walk_at "r"
   refine zY X' I1 (by exact (an 0x5c0b22500b917c4a0 [_]) hn) (fun H2 I2 k2 => ?_) (by kernel_rfl) (by kernel_rfl) (by kernel_rfl) (by kernel_rfl)
   refine xh ?_
   walk_at "r"
   refine zY X' I2 (by exact (an 0xb81644a01722f8903044a0 [_]) hn) (fun H3 I3 k3 => ?_) (by kernel_rfl) (by kernel_rfl) (by kernel_rfl) (by kernel_rfl)
   walk_at "r"
   refine zY X' I3 (by exact (an 0x1702c89402e45f120608903044a0 [_]) hn) (fun H4 I4 k4 => ?_) (by kernel_rfl) (by kernel_rfl) (by kernel_rfl) (by kernel_rfl)
   walk_at "r"
   refine yC ?_ (by kernel_rfl) (by kernel_rfl)
   refine kH X' ?_ _ rfl
   walk_at "r"
   have hM4 : NoM (set (set (set (set f "b" (.str (S' ys) t)) "matching_blocks" .none) "opcodes" .none) "fullbcount" .none) := (((hM.set (by decide +kernel)).set (by decide +kernel)).set (by decide +kernel)).set (by decide +kernel)
   refine (yn S dS cSM 205 _ _ rfl I4 (hM4 _ (by decide +kernel)) (by kernel_rfl) (by kernel_rfl) (by kernel_rfl) (by kernel_rfl) ?_)
   refine iJ X' (xG hroom hd') hh' Ext.rfl' I4 (by walk_at "mp") ((zk (by decide +kernel)).trans ((zk (by decide +kernel)).trans ((zk (by decide +kernel)).trans ((zk (by decide +kernel)).trans fj)))) ((zk (by decide +kernel)).trans ((zk (by decide +kernel)).trans ((zk (by decide +kernel)).trans ((zk (by decide +kernel)).trans fa)))) (by exact (an 0x2e05912805c4b8240c1120608903044a0 [_]) hn) hz (fun H5 Hs5 f5 N J kvs Lo I5 g5 gN gJ Ch SJ u5 => ?_)
   walk_at "r"
   refine (yg rfl (qM f5 N J kvs Lo (Zm (I5.ext u5.in_) (fun y hy => ?_) ?_ gN gJ (Ch.ext u5.in_) (SJ.ext u5.in_))))
   · have hne : ∀ x ∈ smB, y ≠ x := fun x hx z => hy (z ▸ hx)
     rw [g5 y (hne _ (by decide +kernel)) (hne _ (by decide +kernel)) (hne _ (by decide +kernel)), zk (hne _ (by decide +kernel)), zk (hne _ (by decide +kernel)), zk (hne _ (by decide +kernel)), zk (hne _ (by decide +kernel))]
   · rw [g5 _ (by decide +kernel) (by decide +kernel) (by decide +kernel)]; walk_at "mp"
 · refine hdG fun gQ gZ => ?_
   refine z5 hv fun hq0 zq => vJ zq fun f' N J kvs Lo zq => vL zq fun a1 a2 a3 a4 a5 a6 a7 => ?_
   refine gZ ?_
   try clear hv
   obtain rfl := hq0
   exact h H' Hf' f' N J kvs Lo a1 a2 a3 a4 a5 a6 a7 u
 · have e : (fdS (mAt 6 4)).names.all (fun x => x.2 != .cell) = true := by kernel_rfl
   intro x hx; have := List.all_eq_true.mp e x hx; exact bne_iff_ne.mp this
structure wN (p : Program) (w : World) (H : HF) (S : Addr) (xs ys : List Nat) : Prop where
 of : ∃ dS f n ta tb N J kvs Lo, kS H S dS cSM f n ∧ NoM f ∧ f "a" = some (.str (S' xs) ta) ∧ f "b" = some (.str (S' ys) tb) ∧ f "b2j" = some (.ref N) ∧ f "bjunk" = some (.ref J) ∧ yf p w H N ys kvs Lo ∧ jw (PySem.strKind p w) H J (fun _ => false) 0
theorem wN.ext {p : Program} {w : World} {H H' : HF} {S : Addr} {xs ys : List Nat} (M : wN p w H S xs ys) (e : Ext H H') : wN p w H' S xs ys :=
 let ⟨dS, f, n, ta, tb, N, J, kvs, Lo, a1, a2, a3, a4, a5, a6, a7, a8⟩ := M.of; ⟨dS, f, n, ta, tb, N, J, kvs, Lo, a1.ext e, a2, a3, a4, a5, a6, a7.ext e, a8.ext e⟩
theorem hY {S dS : Addr} {f : Mp} {n : Nat} {Hs : HF} {xs ys : List Nat} {t u : Tok} {Q : PV} (X : Bd (K C.w.params) mg mb q loose C) (hroom : A.depth + 6 < recursionLimit) (hh : A.handled = none)
 (hx : Ext Hs H) (I : kS Hs S dS cSM f n) (fa : f "a" = some .none) (fb : f "b" = some .none) (fj : f "isjunk" = some .none) (fu : f "autojunk" = some (.bool true)) (hM : NoM f) (hn : n < 700) (hz : ys.length ≤ 100)
 (h : ∀ H' Hs', wN C.prog C.w Hs' S xs ys → Upd Hs H Hs' H' → Q .none m H') :
 W C A L (call (.ref 184) [.ref S, .str (S' xs) t, .str (S' ys) u]) Q E m H := by
 refine zF (binds := [("self", .ref S), ("a", .str (S' xs) t), ("b", .str (S' ys) u)]) (Qf := fun v H' => v = .none ∧ wN C.prog C.w H' S xs ys)
  Hs X (Wh _) (JX _) (yu hroom) (fun s XX => zx XX (fun _ => by kernel_rfl)) ?_ hx (fun B' L' eB => ?_) (fun v Hf' H' hv u => ?_)
  (by kernel_rfl) (by kernel_rfl) (by kernel_rfl) ?_
 · intro y hy
   exact vD (by kernel_rfl) y hy
 · have X' := X.mono eB
   have m1 : (bl [("self", .ref S), ("a", .str (S' xs) t), ("b", .str (S' ys) u)]) "self" = some (.ref S) := by kernel_rfl
   have m2 : (bl [("self", .ref S), ("a", .str (S' xs) t), ("b", .str (S' ys) u)]) "a" = some (.str (S' xs) t) := by kernel_rfl
   have m3 : (bl [("self", .ref S), ("a", .str (S' xs) t), ("b", .str (S' ys) u)]) "b" = some (.str (S' ys) u) := by kernel_rfl
   generalize (bl [("self", .ref S), ("a", .str (S' xs) t), ("b", .str (S' ys) u)]) = m0 at m1 m2 m3 ⊢
   have hh' : (A.deeper (cG L')).handled = none := hh
   have hd' : (A.deeper (cG L')).depth = A.depth + 1 := rfl
   refine yc (env := cG L') ?_
   generalize A.deeper (cG L') = A' at hh' hd' ⊢
   walk_at "r"
   refine yC ?_ (by kernel_rfl) (by kernel_rfl)
   refine xN X' ?_ _ rfl (by kernel_rfl) (by kernel_rfl)
   walk_at "r"
   refine (yn S dS cSM 191 _ _ rfl I (hM _ (by decide +kernel)) (by kernel_rfl) (by kernel_rfl) (by kernel_rfl) (by kernel_rfl) ?_)
   walk_at "r"
   refine ib X' (by exact (an 0x5a103184a2180608944805a103084a0 [_,_,_]) hroom hd') Ext.rfl' I fa (by exact (an 0x5dcaa2500b89704a0 [_]) hn) (fun H1 Hs1 f1 I1 k1 g1 gA gO gB u1 => ?_)
   have I1' := I1.ext u1.in_
   have hM1 : NoM f1 := fun y hy => by
    have hy' : y ≠ "a" ∧ y ≠ "opcodes" ∧ y ≠ "matching_blocks" := by
     refine (zl ?_ ?_ ?_) <;> (intro z; subst z; revert hy; decide +kernel)
    rw [g1 y hy'.1 hy'.2.1 hy'.2.2]; exact hM y hy
   walk_at "r"
   refine yC ?_ (by kernel_rfl) (by kernel_rfl)
   refine xN X' ?_ _ rfl (by kernel_rfl) (by kernel_rfl)
   walk_at "r"
   refine (yn S dS cSM 198 _ _ rfl I1' (hM1 _ (by decide +kernel)) (by kernel_rfl) (by kernel_rfl) (by kernel_rfl) (by kernel_rfl) ?_)
   walk_at "r"
   refine ia X' (xG hroom hd') hh' Ext.rfl' I1' (by rw [g1 _ (by decide +kernel) (by decide +kernel) (by decide +kernel)]; exact fb) (by rw [g1 _ (by decide +kernel) (by decide +kernel) (by decide +kernel)]; exact fj) (by rw [g1 _ (by decide +kernel) (by decide +kernel) (by decide +kernel)]; exact fu) hM1 (by exact (an 0xbb9544a01702c8903084a0 [_]) hn) hz (fun H2 Hs2 f2 N J kvs Lo I2 g2 gB2 gN gJ Ch SJ u2 => ?_)
   walk_at "r"
   refine ⟨rfl, ⟨dS, f2, _, t, u, N, J, kvs, Lo, I2.ext u2.in_, fun y hy => ?_, ?_, gB2, gN, gJ, Ch.ext u2.in_, SJ.ext u2.in_⟩⟩
   · rw [g2 y fun z => by revert hy z; revert y; decide +kernel]; exact hM1 y hy
   · rw [g2 _ (by decide +kernel)]; exact gA
 · obtain ⟨rfl, M⟩ := hv
   exact h H' Hf' M u
 · have e : (fdS (mAt 6 2)).names.all (fun x => x.2 != .cell) = true := by kernel_rfl
   intro x hx; have := List.all_eq_true.mp e x hx; exact bne_iff_ne.mp this
end
end
section
noncomputable abbrev cF (Lz : Addr) : Env := envOf "SequenceMatcher.__init__" (fdS (mAt 6 1)) Lz 177 (.ref 176)
section
theorem hZ {xs ys : List Nat} {t u : Tok} {Q : PV} (X : Bd (K C.w.params) mg mb q loose C) (hroom : A.depth + 9 < recursionLimit) (hh : A.handled = none) (hz : ys.length ≤ 100)
 (h : ∀ H' S, Ext H H' → H S = none → wN C.prog C.w H' S xs ys → Q (.ref S) m H') :
 W C A L (call (.ref 259) [.none, .str (S' xs) t, .str (S' ys) u]) Q E m H := by
 refine K6 X (by kernel_rfl) (fI := 177) (by kernel_rfl) (by kernel_rfl) (fun a dx ha hdx hadx haL hdL => ?_)
 refine xP (binds := [("self", .ref a), ("isjunk", .none), ("a", .str (S' xs) t), ("b", .str (S' ys) u), ("autojunk", .bool true)]) (Qf := fun v H' => v = .none ∧ wN C.prog C.w H' a xs ys)
  (put (put (fun _ => none) dx emptyDict) a (instObj cSM dx)) X (Wi _) (JY _) (by show A.depth + 1 < _; exact (an 0x16840c912805a103044a0 [_,_]) hroom) (fun s XX => zx XX (fun _ => by kernel_rfl)) ?_ (fun b o e => ?_) (fun B' L' eB => ?_) (fun v Hf' H' hv u => ?_)
  (by kernel_rfl) (by kernel_rfl) (by kernel_rfl) ?_
 · intro y hy
   exact vD (by kernel_rfl) y hy
 · by_cases q1 : b = a
   · subst q1; rw [zb] at e ⊢; exact e
   · rw [za q1] at e ⊢
     by_cases q2 : b = dx
     · subst q2; rw [zb] at e ⊢; exact e
     · rw [za q2] at e; cases e
 · have X' := X.mono eB
   have m1 : (bl [("self", .ref a), ("isjunk", .none), ("a", .str (S' xs) t), ("b", .str (S' ys) u), ("autojunk", .bool true)]) "self" = some (.ref a) := by kernel_rfl
   have m2 : (bl [("self", .ref a), ("isjunk", .none), ("a", .str (S' xs) t), ("b", .str (S' ys) u), ("autojunk", .bool true)]) "isjunk" = some .none := by kernel_rfl
   have m3 : (bl [("self", .ref a), ("isjunk", .none), ("a", .str (S' xs) t), ("b", .str (S' ys) u), ("autojunk", .bool true)]) "a" = some (.str (S' xs) t) := by kernel_rfl
   have m4 : (bl [("self", .ref a), ("isjunk", .none), ("a", .str (S' xs) t), ("b", .str (S' ys) u), ("autojunk", .bool true)]) "b" = some (.str (S' ys) u) := by kernel_rfl
   have m5 : (bl [("self", .ref a), ("isjunk", .none), ("a", .str (S' xs) t), ("b", .str (S' ys) u), ("autojunk", .bool true)]) "autojunk" = some (.bool true) := by kernel_rfl
   generalize (bl [("self", .ref a), ("isjunk", .none), ("a", .str (S' xs) t), ("b", .str (S' ys) u), ("autojunk", .bool true)]) = m0 at m1 m2 m3 m4 m5 ⊢
   have hh' : ((A.under (.builtin "type.__call__" ⟨.ref 259 :: [.none, .str (S' xs) t, .str (S' ys) u], []⟩)).deeper (cF L')).handled = none := hh
   have hd' : ((A.under (.builtin "type.__call__" ⟨.ref 259 :: [.none, .str (S' xs) t, .str (S' ys) u], []⟩)).deeper (cF L')).depth ≤ A.depth + 2 := by show A.depth + 1 + 1 ≤ _; exact (an 0x1406109400608903044a0 [_])
   refine yc (env := cF L') ?_
   generalize ((A.under (.builtin "type.__call__" ⟨.ref 259 :: [.none, .str (S' xs) t, .str (S' ys) u], []⟩)).deeper (cF L')) = A' at hh' hd' ⊢
   have I0 : kS (put (put (fun _ => none) dx emptyDict) a (instObj cSM dx)) a dx cSM (fun _ => none) 0 := ⟨zb, (zd _ ((za (Ne.symm hadx)).trans zb) (.nil)), fun _ _ => trivial⟩
   generalize put (put (fun _ => none) dx emptyDict) a (instObj cSM dx) = H0 at I0 ⊢
   walk_at "r"
   refine zY X' I0 (by decide) (fun H1 I1 k1 => ?_) (by kernel_rfl) (by kernel_rfl) (by kernel_rfl) (by kernel_rfl)
   walk_at "r"
   refine zm ?_
   walk_at "r"
   refine qB ?_
   walk_at "r"
   refine zY X' I1 (by decide) (fun H2 I2 k2 => ?_) (by kernel_rfl) (by kernel_rfl) (by kernel_rfl) (by kernel_rfl)
   refine xh ?_
   walk_at "r"
   refine zY X' I2 (by decide) (fun H3 I3 k3 => ?_) (by kernel_rfl) (by kernel_rfl) (by kernel_rfl) (by kernel_rfl)
   walk_at "r"
   refine zY X' I3 (by decide) (fun H4 I4 k4 => ?_) (by kernel_rfl) (by kernel_rfl) (by kernel_rfl) (by kernel_rfl)
   walk_at "r"
   have hM4 : NoM (set (set (set (set (fun _ => none) "isjunk" .none) "a" .none) "b" .none) "autojunk" (.bool true)) := (((NoM.set (f := fun _ => none) (fun _ _ => rfl) (by decide +kernel)).set (by decide +kernel)).set (by decide +kernel)).set (by decide +kernel)
   refine yC ?_ (by kernel_rfl) (by kernel_rfl)
   refine xN X' ?_ _ rfl (by kernel_rfl) (by kernel_rfl)
   walk_at "r"
   refine (yn a dx cSM 184 _ _ rfl I4 (hM4 _ (by decide +kernel)) (by kernel_rfl) (by kernel_rfl) (by kernel_rfl) (by kernel_rfl) ?_)
   walk_at "r"
   refine hY X' (by exact (an 0x5a103244a2140610944805a103184a0 [_,_,_]) hroom hd') hh' Ext.rfl' I4 (by walk_at "mp") (by walk_at "mp") (by walk_at "mp") (by walk_at "mp") hM4 (by decide) hz (fun H5 Hs5 M5 u5 => ?_)
   walk_at "r"
   exact ⟨rfl, M5.ext u5.in_⟩
 · obtain ⟨rfl, M⟩ := hv
   refine ⟨rfl, h H' a (fun b o e => ?_) ha (M.ext u.in_)⟩
   have b1 : b ≠ a := fun z => by rw [z, ha] at e; cases e
   have b2 : b ≠ dx := fun z => by rw [z, hdx] at e; cases e
   exact u.out b o (by rw [za b1, za b2]; exact e) (by rw [za b1, za b2])
 · have e : (fdS (mAt 6 1)).names.all (fun x => x.2 != .cell) = true := by kernel_rfl
   intro x hx; have := List.all_eq_true.mp e x hx; exact bne_iff_ne.mp this
end
end
section
structure FS where
 new : Int → Nat
 bi : Int
 bj : Int
 bk : Nat
noncomputable def yV (j2 : Int → Nat) (i : Nat) (st : FS) (j : Nat) : FS :=
 if st.bk < j2 ((j : Int) - 1) + 1 then ⟨fun x => if x = (j : Int) then j2 ((j : Int) - 1) + 1 else st.new x, (i : Int) - ((j2 ((j : Int) - 1) + 1 : Nat) : Int) + 1, (j : Int) - ((j2 ((j : Int) - 1) + 1 : Nat) : Int) + 1, j2 ((j : Int) - 1) + 1⟩
 else ⟨fun x => if x = (j : Int) then j2 ((j : Int) - 1) + 1 else st.new x, st.bi, st.bj, st.bk⟩
noncomputable def KK (xs ys : List Nat) (st : FS) (i : Nat) : FS := (yO ys (xs.getD i 0)).foldl (yV st.new i) ⟨fun _ => 0, st.bi, st.bj, st.bk⟩
noncomputable def zB (xs ys : List Nat) (lo : Nat) : Nat → FS
 | 0 => ⟨fun _ => 0, lo, 0, 0⟩
 | n + 1 => KK xs ys (zB xs ys lo n) (lo + n)
theorem qQ (xs ys : List Nat) (lo n : Nat) : zB xs ys lo (n + 1) = KK xs ys (zB xs ys lo n) (lo + n) := rfl
structure fF (xs ys : List Nat) (lo hi : Nat) (st : FS) (bi bj bk : Nat) : Prop where
 ei : st.bi = bi
 ej : st.bj = bj
 ek : st.bk = bk
 l : lo ≤ bi
 hi_ : bi + bk ≤ hi
 hj : bj + bk ≤ ys.length
 hx : hi ≤ xs.length
 left : lo < bi → 0 < bj → xs[bi - 1]? ≠ ys[bj - 1]?
 right : bi + bk < hi → bj + bk < ys.length → xs[bi + bk]? ≠ ys[bj + bk]?
theorem xY {ys : List Nat} {c j : Nat} : j ∈ yO ys c ↔ ys[j]? = some c := by
 unfold yO
 rw [List.mem_filter, List.mem_range]
 constructor
 · rintro ⟨_, h⟩; exact beq_iff_eq.mp h
 · intro h; exact ⟨(List.getElem?_eq_some_iff.mp h).1, beq_iff_eq.mpr h⟩
theorem w7 (ys : List Nat) (c : Nat) : (yO ys c).Pairwise (· < ·) := List.Pairwise.filter _ List.pairwise_lt_range
noncomputable def rE (xs ys : List Nat) (lo : Nat) : Nat → Nat → Nat
 | 0, _ => 0
 | _ + 1, 0 => 0
 | n + 1, J + 1 => if ys[J]? = some (xs.getD (lo + n) 0) then rE xs ys lo n J + 1 else 0
theorem Xn (F : Int → Nat) (i : Nat) (st : FS) (j : Nat) (x : Int) : (yV F i st j).new x = if x = (j : Int) then F ((j : Int) - 1) + 1 else st.new x := by
 unfold yV; split <;> rfl
theorem YD (F : Int → Nat) (i : Nat) (x : Int) : ∀ (l : List Nat) (st : FS), (l.foldl (yV F i) st).new x = if ∃ j ∈ l, x = ((j : Nat) : Int) then F (x - 1) + 1 else st.new x
 | [], st => by rw [List.foldl_nil, if_neg (by simp)]
 | j :: l, st => by
  rw [List.foldl_cons, YD F i x l, Xn]
  by_cases h1 : ∃ j ∈ l, x = ((j : Nat) : Int)
  · refine zc h1 fun k hk e => ?_
    try clear h1
    rw [if_pos ⟨k, hk, e⟩, if_pos ⟨k, List.mem_cons_of_mem _ hk, e⟩]
  · rw [if_neg h1]
    by_cases h2 : x = (j : Int)
    · rw [if_pos h2, if_pos ⟨j, List.mem_cons_self, h2⟩, h2]
    · rw [if_neg h2, if_neg]
      rintro ⟨k, hk, e⟩
      rcases List.mem_cons.mp hk with q | q
      · exact h2 (q ▸ e)
      · exact h1 (zd k q e)
theorem Zp (xs ys : List Nat) (lo : Nat) : ∀ n (J : Nat), (zB xs ys lo n).new ((J : Int) - 1) = rE xs ys lo n J
 | 0, J => by cases J <;> rfl
 | n + 1, J => by
  rw [qQ]
  unfold KK
  rw [YD]
  cases J with
  | zero =>
   rw [if_neg]
   · rfl
   · rintro ⟨j, _, e⟩; exact (an 0x120e80141121c499 [_]) e
  | succ J =>
   have e1 : ((J + 1 : Nat) : Int) - 1 = (J : Int) := by exact (an 0x483a0050448703044a0 [_])
   rw [e1, Zp xs ys lo n J]
   show _ = if ys[J]? = some (xs.getD (lo + n) 0) then rE xs ys lo n J + 1 else 0
   by_cases h : ys[J]? = some (xs.getD (lo + n) 0)
   · rw [if_pos h, if_pos ⟨J, xY.mpr h, rfl⟩]
   · rw [if_neg h, if_neg]
     rintro ⟨j, hj, e⟩
     have : J = j := by exact (an 0x241d08740310a0 [_,_]) e
     exact h (this ▸ xY.mp hj)
theorem Yt (xs ys : List Nat) (lo : Nat) : ∀ n J k, k ≤ rE xs ys lo n J → ∃ i j, i + k = n ∧ j + k = J ∧ ∀ d < k, ys[j + d]? = some (xs.getD (lo + i + d) 0)
 | n, J, 0, _ => (yT n J rfl rfl (fun d hd => absurd hd (Nat.not_lt_zero d)))
 | 0, J, k + 1, h => by
  have e : rE xs ys lo 0 J = 0 := by cases J <;> rfl
  rw [e] at h; exact absurd h (Nat.not_succ_le_zero k)
 | n + 1, 0, k + 1, h => absurd h (Nat.not_succ_le_zero k)
 | n + 1, J + 1, k + 1, h => by
  have e : rE xs ys lo (n + 1) (J + 1) = if ys[J]? = some (xs.getD (lo + n) 0) then rE xs ys lo n J + 1 else 0 := rfl
  rw [e] at h
  by_cases q : ys[J]? = some (xs.getD (lo + n) 0)
  · rw [if_pos q] at h
    refine yE (Yt xs ys lo n J k (Nat.le_of_succ_le_succ h)) fun i j zq => zw zq fun e1 e2 c => ?_
    refine (yT i j (congrArg (· + 1) e1) (congrArg (· + 1) e2) (fun d hd => ?_))
    rcases Nat.lt_or_ge d k with w | w
    · exact c d w
    · have hdk : d = k := Nat.le_antisymm (Nat.le_of_lt_succ hd) w
      subst hdk
      rw [e2, Nat.add_assoc, e1]; exact q
  · rw [if_neg q] at h; exact absurd h (Nat.not_succ_le_zero k)
theorem Kc (xs ys : List Nat) (lo : Nat) : ∀ (k i j : Nat), (∀ d < k, ys[j + d]? = some (xs.getD (lo + i + d) 0)) → k ≤ rE xs ys lo (i + k) (j + k)
 | 0, _, _, _ => Nat.zero_le _
 | k + 1, i, j, h => by
  have e : rE xs ys lo (i + k + 1) (j + k + 1) = if ys[j + k]? = some (xs.getD (lo + (i + k)) 0) then rE xs ys lo (i + k) (j + k) + 1 else 0 := rfl
  have q : ys[j + k]? = some (xs.getD (lo + (i + k)) 0) := by rw [← Nat.add_assoc]; exact h k (Nat.lt_succ_self k)
  show k + 1 ≤ rE xs ys lo (i + k + 1) (j + k + 1)
  rw [e, if_pos q]
  exact Nat.succ_le_succ (Kc xs ys lo k i j fun d hd => h d (Nat.lt_succ_of_lt hd))
structure XF (lo : Nat) (rn : Nat → Nat → Nat) (P : Nat → Nat → Prop) (st : FS) : Prop where
 non : st.bk = 0 → st.bi = lo ∧ st.bj = 0
 has : 0 < st.bk → ∃ ei ej : Nat, P ei ej ∧ rn ei ej = st.bk ∧ st.bi = (ei : Int) - st.bk + 1 ∧ st.bj = (ej : Int) - st.bk + 1 ∧ ∀ i j, P i j → rn i j = st.bk → ei < i ∨ (ei = i ∧ ej ≤ j)
 le : ∀ i j, P i j → rn i j ≤ st.bk
theorem XF.congr {lo : Nat} {rn : Nat → Nat → Nat} {P P' : Nat → Nat → Prop} {st : FS} (B : XF lo rn P st) (h : ∀ i j, P i j ↔ P' i j) : XF lo rn P' st :=
 ⟨B.non, fun z => let ⟨ei, ej, a, b, c, d, e⟩ := B.has z; (zy ei ej ((h _ _).mp a) b c d (fun i j p => e i j ((h _ _).mpr p))), fun i j p => B.le i j ((h _ _).mpr p)⟩
theorem XF.step {lo : Nat} {rn : Nat → Nat → Nat} {P : Nat → Nat → Prop} {st : FS} (B : XF lo rn P st) {F : Int → Nat} {i j : Nat} (hP : ∀ i' j', P i' j' → i' < i ∨ (i' = i ∧ j' < j)) (hr : rn i j = F ((j : Int) - 1) + 1) :
 XF lo rn (fun i' j' => P i' j' ∨ (i' = i ∧ j' = j)) (yV F i st j) := by
 unfold yV
 rw [← hr]
 split
 · rename_i h
   refine ⟨fun z => ?_, fun _ => (zy i j (.inr ⟨rfl, rfl⟩) rfl rfl rfl (fun i' j' p e => ?_)), fun i' j' p => ?_⟩
   · dsimp only at z; exact (ar 0xc03044a242304a12e484ad241d02c [_,_,_] [_,_]) hr z
   · rcases p with p | ⟨rfl, rfl⟩
     · have := B.le _ _ p; dsimp only at e; exact (an 0x60182252a4169130c489c5264e60b8a4688621402d0a0 [_,_,_,_,_,_,_,_]) hr h e this
     · exact .inr ⟨rfl, Nat.le_refl _⟩
   · rcases p with p | ⟨rfl, rfl⟩
     · have := B.le _ _ p; dsimp only; exact (an 0x300c1128908b428c52340290a0 [_,_,_,_]) hr h this
     · exact Nat.le_refl _
 · rename_i h
   refine ⟨B.non, fun z => ?_, fun i' j' p => ?_⟩
   · refine qc (B.has z) fun ei ej a b c d e => ?_
     refine (zy ei ej (.inl a) b c d (fun i' j' p q => ?_))
     rcases p with p | ⟨rfl, rfl⟩
     · exact e i' j' p q
     · rcases hP ei ej a with w | ⟨w1, w2⟩
       · exact .inl w
       · exact .inr ⟨w1, Nat.le_of_lt w2⟩
   · rcases p with p | ⟨rfl, rfl⟩
     · exact B.le _ _ p
     · dsimp only; exact (an 0xc03044a240585a042290a0 [_,_,_]) hr h
theorem XF.fold {lo : Nat} {rn : Nat → Nat → Nat} {F : Int → Nat} {i : Nat} : ∀ (l : List Nat) (P : Nat → Nat → Prop) (st : FS), XF lo rn P st → l.Pairwise (· < ·) → (∀ i' j', P i' j' → i' < i ∨ (i' = i ∧ ∀ j ∈ l, j' < j)) → (∀ j ∈ l, rn i j = F ((j : Int) - 1) + 1) →
 XF lo rn (fun i' j' => P i' j' ∨ (i' = i ∧ j' ∈ l)) (l.foldl (yV F i) st)
 | [], P, st, B, _, _, _ => B.congr fun i j => by simp
 | j :: l, P, st, B, hs, hP, hr => by
  rw [List.foldl_cons]
  rw [List.pairwise_cons] at hs
  have B1 := B.step (F := F) (i := i) (j := j) (fun i' j' p => (hP i' j' p).imp id fun ⟨a, b⟩ => ⟨a, b j List.mem_cons_self⟩) (hr j List.mem_cons_self)
  refine (XF.fold l _ _ B1 hs.2 (fun i' j' p => ?_) fun k hk => hr k (List.mem_cons_of_mem _ hk)).congr fun i' j' => ?_
  · rcases p with p | ⟨rfl, rfl⟩
    · exact (hP i' j' p).imp id fun ⟨a, b⟩ => ⟨a, fun k hk => b k (List.mem_cons_of_mem _ hk)⟩
    · exact .inr ⟨rfl, hs.1⟩
  · rw [List.mem_cons, or_assoc]
    constructor
    · rintro (a | ⟨a, b⟩ | ⟨a, b⟩)
      · exact .inl a
      · exact .inr ⟨a, .inl b⟩
      · exact .inr ⟨a, .inr b⟩
    · rintro (a | ⟨a, b | b⟩)
      · exact .inl a
      · exact .inr (.inl ⟨a, b⟩)
      · exact .inr (.inr ⟨a, b⟩)
noncomputable def KT (xs ys : List Nat) (lo n : Nat) (i j : Nat) : Prop := lo ≤ i ∧ i < lo + n ∧ ys[j]? = some (xs.getD i 0)
noncomputable def rnE (xs ys : List Nat) (lo : Nat) (i j : Nat) : Nat := rE xs ys lo (i + 1 - lo) (j + 1)
theorem Zq (xs ys : List Nat) (lo : Nat) : ∀ n, XF lo (rnE xs ys lo) (KT xs ys lo n) (zB xs ys lo n)
 | 0 => ⟨fun _ => ⟨rfl, rfl⟩, fun z => absurd z (by show ¬ 0 < 0; exact (an 0x2c2c489 [])), fun i j p => by have := p.1; have := p.2.1; exact (an 0x291a216044a246290a0 [_,_,_,_]) ‹_› this⟩
 | n + 1 => by
  have B := Zq xs ys lo n
  have B0 : XF lo (rnE xs ys lo) (KT xs ys lo n) ⟨fun _ => 0, (zB xs ys lo n).bi, (zB xs ys lo n).bj, (zB xs ys lo n).bk⟩ := ⟨B.non, B.has, B.le⟩
  rw [qQ]
  unfold KK
  refine (XF.fold (F := (zB xs ys lo n).new) (i := lo + n) (yO ys (xs.getD (lo + n) 0)) _ _ B0 (w7 _ _) (fun i' j' p => .inl p.2.1) fun j hj => ?_).congr fun i j => ?_
  · rw [Zp]
    unfold rnE
    rw [show lo + n + 1 - lo = n + 1 by exact (an 0xc03044a104800c112050a0 [_,_])]
    show (if ys[j]? = some (xs.getD (lo + n) 0) then rE xs ys lo n j + 1 else 0) = _
    rw [if_pos (xY.mp hj)]
  · unfold KT
    rw [xY]
    constructor
    · rintro (⟨a, b, c⟩ | ⟨a, b⟩)
      · exact (zl a (by exact (an 0xb02890a016040c112890a0 [_,_,_]) b) c)
      · subst a; exact (zl (by exact (an 0xa0285020 [_,_])) (by exact (an 0x58103044a140050a0 [_,_])) b)
    · rintro ⟨a, b, c⟩
      by_cases e : i = lo + n
      · subst e; exact .inr ⟨rfl, c⟩
      · exact .inl (zl a (by exact (an 0x2c08182251214058601448500b02890a0 [_,_,_]) b e) c)
noncomputable def blk (xs ys : List Nat) (i j k : Nat) : Prop := ∀ d < k, ys[j + d]? = xs[i + d]?
theorem ZV {xs : List Nat} {i : Nat} (h : i < xs.length) : xs[i]? = some (xs.getD i 0) := by
 rw [List.getD_eq_getElem?_getD, List.getElem?_eq_getElem h]; rfl
theorem Vz {xs ys : List Nat} {lo hi : Nat} (h1 : lo ≤ hi) (h2 : hi ≤ xs.length) : ∃ bi bj bk : Nat, fF xs ys lo hi (zB xs ys lo (hi - lo)) bi bj bk ∧ (bk = 0 → bi = lo ∧ bj = 0) ∧ blk xs ys bi bj bk ∧
 ∀ i j k, lo ≤ i → i + k ≤ hi → j + k ≤ ys.length → blk xs ys i j k → k ≤ bk ∧ (k = bk → 0 < k → bi < i ∨ (bi = i ∧ bj ≤ j)) := by
 have B := Zq xs ys lo (hi - lo)
 generalize hst : zB xs ys lo (hi - lo) = st at B ⊢
 have cell : ∀ i j k, lo ≤ i → i + (k + 1) ≤ hi → j + (k + 1) ≤ ys.length → blk xs ys i j (k + 1) → KT xs ys lo (hi - lo) (i + k) (j + k) ∧ k + 1 ≤ rnE xs ys lo (i + k) (j + k) := by
  intro i j k a b c d
  refine ⟨⟨by exact (an 0x148500a02890a0 [_,_,_]) a, by exact (an 0x148d10a46040c1128500b020912344050a0 [_,_,_,_]) h1 b, ?_⟩, ?_⟩
  · rw [← ZV (by exact (an 0x148918a46040c1128500b44050a0 [_,_,_,_]) h2 b)]; exact d k (Nat.lt_succ_self k)
  · obtain ⟨i0, rfl⟩ := Nat.exists_eq_add_of_le a
    unfold rnE
    rw [show lo + i0 + k + 1 - lo = i0 + (k + 1) by rw [Nat.add_assoc, Nat.add_assoc, Nat.add_sub_cancel_left]]
    refine Kc xs ys lo (k + 1) i0 j fun e he => ?_
    have := d e he
    rw [ZV (xs := xs) (i := lo + i0 + e) (by exact (an 0x523482920103044a5028500b03044a5442d18144050a0 [_,_,_,_,_,_]) h2 b he)] at this
    exact this
 have big : ∃ bi bj bk : Nat, st.bi = bi ∧ st.bj = bj ∧ st.bk = bk ∧ lo ≤ bi ∧ bi + bk ≤ hi ∧ bj + bk ≤ ys.length ∧ (bk = 0 → bi = lo ∧ bj = 0) ∧ blk xs ys bi bj bk ∧
  ∀ i j k, lo ≤ i → i + k ≤ hi → j + k ≤ ys.length → blk xs ys i j k → k ≤ bk ∧ (k = bk → 0 < k → bi < i ∨ (bi = i ∧ bj ≤ j)) := by
  by_cases z : st.bk = 0
  · obtain ⟨a, b⟩ := B.non z
    refine (qp lo 0 0 (QU a b z (Nat.le_refl _) h1 (Nat.zero_le _) (fun _ => ⟨rfl, rfl⟩) (fun d hd => absurd hd (Nat.not_lt_zero d)) (fun i j k e1 e2 e3 e4 => ?_)))
    cases k with
    | zero => exact ⟨Nat.le_refl _, fun _ q => absurd q (Nat.lt_irrefl 0)⟩
    | succ k =>
     obtain ⟨c1, c2⟩ := cell i j k e1 e2 e3 e4
     have := Nat.le_trans c2 (B.le _ _ c1)
     rw [z] at this; exact absurd this (Nat.not_succ_le_zero k)
  · refine hdG fun gQ gZ => ?_
    refine qc (B.has (Nat.pos_of_ne_zero z)) fun ei ej p r b1 b2 fst => ?_
    obtain ⟨p1, p2, p3⟩ := p
    obtain ⟨e0, rfl⟩ := Nat.exists_eq_add_of_le p1
    refine gZ ?_
    have hrn : rnE xs ys lo (lo + e0) ej = rE xs ys lo (e0 + 1) (ej + 1) := by
     unfold rnE; rw [show lo + e0 + 1 - lo = e0 + 1 by rw [Nat.add_assoc, Nat.add_sub_cancel_left]]
    rw [hrn] at r
    refine yE (Yt xs ys lo (e0 + 1) (ej + 1) st.bk (Nat.le_of_eq r.symm)) fun i0 j0 zq => zw zq fun s1 s2 s3 => ?_
    clear r hrn p1
    have ejl : ej < ys.length := (List.getElem?_eq_some_iff.mp p3).1
    clear p3
    have b1 : st.bi = ((lo + i0 : Nat) : Int) := by exact (ar 0x9018224107461c0a240b060182251014684907028502c [_,_,_,_] [_]) b1 s1
    have b2' : st.bj = (j0 : Int) := by exact (ar 0x9018224107441d0ac1806089480512318060894205120241d02c [_,_,_,_,_] [_]) b2 s1 s2
    have l1 : lo + i0 + st.bk ≤ hi := by exact (ar 0x291a02406089041d107029102c160412046800a440300c112900a2422918144050a0 [_,_,_,_,_] [_]) h1 ‹_› p2 s1
    have l2 : j0 + st.bk ≤ ys.length := by exact (an 0x180608948050a318060894a050a0168928a44050a0 [_,_,_,_,_,_]) s1 s2 ejl
    have hbk := Nat.le_refl st.bk
    have fst' : ∀ i j, KT xs ys lo (hi - lo) i j → rnE xs ys lo i j = st.bk → lo + i0 + st.bk < i + 1 ∨ (lo + i0 + st.bk = i + 1 ∧ j0 + st.bk ≤ j + 1) := fun i j c e => by
     have e3 : lo + i0 + st.bk = lo + e0 + 1 := by rw [Nat.add_assoc, s1, Nat.add_assoc]
     rw [e3, s2]
     exact (fst i j c e).imp Nat.succ_lt_succ fun ⟨a, b⟩ => ⟨congrArg (· + 1) a, Nat.succ_le_succ b⟩
    clear fst s1 s2 ejl p2
    refine (qp (lo + i0) j0 st.bk (QU b1 b2' rfl (Nat.le_add_right _ _) l1 l2 (fun q => ?_) (fun d hd => ?_) (fun i j k e1 e2 e3 e4 => ?_)))
    · exact absurd q z
    · rw [ZV (Nat.lt_of_lt_of_le (Nat.lt_of_lt_of_le (Nat.add_lt_add_left hd _) l1) h2)]; exact s3 d hd
    · cases k with
      | zero => exact ⟨Nat.zero_le _, fun _ q => absurd q (Nat.lt_irrefl 0)⟩
      | succ k =>
       obtain ⟨c1, c2⟩ := cell i j k e1 e2 e3 e4
       have c3 := B.le _ _ c1
       refine ⟨Nat.le_trans c2 c3, fun q _ => ?_⟩
       have fk := fst' _ _ c1 (Nat.le_antisymm c3 (q ▸ c2))
       rw [← q] at fk
       rcases fk with w | ⟨w1, w2⟩
       · exact .inl (by exact (ar 0x9018224107481c0a340b0907028502c1606089029510103044a5028500b44050a0 [_,_,_,_,_,_] [_]) ‹_› b1 w)
       · exact .inr ⟨by exact (ar 0x9018224107481c0a340b0907028502c1806089029510103044a5028500c44050a0 [_,_,_,_,_,_] [_]) ‹_› b1 w1, by exact (an 0x1406089028908103044a240290a0 [_,_,_]) w2⟩
 refine vK big fun bi bj bk zq => Q1 zq fun a1 a2 a3 a4 a5 a6 a7 a8 a9 => ?_
 try clear big
 refine (qp bi bj bk (qs ⟨a1, a2, a3, a4, a5, a6, h2, fun l1 l2 e => ?_, fun l1 l2 e => ?_⟩ a7 a8 a9))
 · have := (a9 (bi - 1) (bj - 1) (bk + 1) (by exact (an 0xb428050282250a0 [_,_]) l1) (by exact (an 0x2910142805a0462910103044a105044a0 [_,_,_,_]) a5 l1) (by exact (an 0x2910142805a0122910103044a105044a0 [_,_,_]) a6 l2) (fun d hd => by
    cases d with
    | zero => exact e.symm
    | succ d =>
     rw [show bj - 1 + (d + 1) = bj + d by exact (an 0x168048c028500103044a105044a0 [_,_]) l2, show bi - 1 + (d + 1) = bi + d by exact (an 0x168110c028500103044a105044a0 [_,_,_]) l1]
     exact a8 d (by exact (an 0x16060894206089402d0a0 [_,_]) hd))).1
   exact (an 0x290018225019 [_]) this
 · have := (a9 bi bj (bk + 1) a4 (by exact (an 0xb44050a0148808182250a0 [_,_,_]) l1) (by exact (an 0xb44050a0148808182250a0 [_,_,_]) l2) (fun d hd => by
    by_cases q : d = bk
    · subst q; exact e.symm
    · exact a8 d (by exact (an 0xb03044a14058621402d0a0 [_,_]) hd q))).1
   exact (an 0x290018225019 [_]) this
end
section
noncomputable abbrev cD (Lz : Addr) : Env := envOf "SequenceMatcher.find_longest_match" (fdS (mAt 6 6)) Lz 213 (.ref 212)
theorem KJ (P : Params) : (K P).lookup 213 = some Jt := by kernel_rfl
theorem Vy (P : Params) : codeIn (K P) (.ref 212) "SequenceMatcher.find_longest_match" = true := by kernel_rfl
noncomputable def vC (kvs : List (Int × Value)) (F : Int → Nat) : Prop := ∀ j, (valueAt kvs j = none ∧ F j = 0) ∨ ∃ t, valueAt kvs j = some (.int (F j) t)
theorem vC.get {kvs : List (Int × Value)} {F : Int → Nat} (I : vC kvs F) (j : Int) (t0 : Tok) : ∃ t, (valueAt kvs j).getD (.int 0 t0) = .int (F j) t := by
 rcases I j with ⟨a, b⟩ | ⟨t, a⟩
 · exact ⟨t0, by rw [a, b]; rfl⟩
 · exact ⟨t, by rw [a]; rfl⟩
theorem ye (kv : Int × Value) (kvs : List (Int × Value)) (x : Int) : valueAt (kv :: kvs) x = if kv.1 = x then some kv.2 else valueAt kvs x := by
 unfold valueAt
 rw [List.find?_cons]
 by_cases h : kv.1 = x
 · rw [if_pos h]; simp [h]
 · rw [if_neg h]; simp [h]
theorem ZI (kvs : List (Int × Value)) (k x : Int) (v : Value) : valueAt (kvs.map fun kv => if kv.1 = k then (kv.1, v) else kv) x = if x = k then (valueAt kvs k).map (fun _ => v) else valueAt kvs x := by
 induction kvs with
 | nil => simp [valueAt]
 | cons kv r ih =>
  rw [List.map_cons, ye, ye, ye, ih]
  by_cases h1 : kv.1 = k
  · by_cases h2 : x = k
    · subst h2; rw [if_pos h1, if_pos h1, if_pos h1, if_pos rfl]; rfl
    · have h3 : ¬ kv.1 = x := fun z => h2 (z.symm.trans h1)
      rw [if_pos h1, if_neg h3, if_neg h2, if_neg h3, if_neg h2]
  · rw [if_neg h1]
    by_cases h2 : x = k
    · subst h2; rw [if_neg h1, if_pos rfl, if_pos rfl]; rw [if_neg h1]
    · rw [if_neg h2, if_neg h2]
theorem wi (kvs : List (Int × Value)) (k x : Int) (v : Value) : valueAt (kvs ++ [(k, v)]) x = (valueAt kvs x).or (if k = x then some v else none) := by
 induction kvs with
 | nil => rw [List.nil_append, ye]; simp [valueAt]
 | cons kv r ih =>
  rw [List.cons_append, ye, ye, ih]
  by_cases h : kv.1 = x
  · rw [if_pos h, if_pos h]; rfl
  · rw [if_neg h, if_neg h]
theorem Z4 (kvs : List (Int × Value)) (k : Int) : kvs.any (fun kv => kv.1 = k) = (valueAt kvs k).isSome := by
 induction kvs with
 | nil => rfl
 | cons kv r ih =>
  rw [List.any_cons, ih, ye]
  by_cases h : kv.1 = k
  · rw [if_pos h]; simp [h]
  · rw [if_neg h]; simp [h]
theorem Y4 (kvs : List (Int × Value)) (k x : Int) (v : Value) : valueAt (stored kvs k v) x = if x = k then some v else valueAt kvs x := by
 unfold stored
 rw [Z4]
 cases h : valueAt kvs k with
 | some y =>
  rw [if_pos (by rfl), ZI, h]
  split <;> rfl
 | none =>
  rw [if_neg (by simp), wi]
  by_cases e : x = k
  · subst e; rw [h]; simp
  · rw [if_neg e, if_neg (Ne.symm e)]; cases valueAt kvs x <;> rfl
theorem vT (kvs : List (Int × Value)) (k : Int) (v : Value) : (stored kvs k v).length ≤ kvs.length + 1 := by
 unfold stored
 split
 · rw [List.length_map]; exact (an 0x5018225020 [_])
 · rw [List.length_append]; simp
theorem vC.st {kvs : List (Int × Value)} {F : Int → Nat} (I : vC kvs F) (j : Int) (n : Nat) (t : Tok) : vC (stored kvs j (.int n t)) (fun x => if x = j then n else F x) := fun x => by
 rw [Y4]
 by_cases e : x = j
 · subst e; rw [if_pos rfl]; exact .inr ⟨t, by simp⟩
 · rw [if_neg e]; dsimp only; rw [if_neg e]; exact I x
theorem gM {p : Program} {w : World} (x : Int) (t : Tok) : (PySem.intKind p w).is x (.int x t) = true := by
 show Value.isInt x (.int x t) = true
 simp [Value.isInt]
theorem jy : ∀ {vs : List Value} {ns : List Int} {i : Nat} {v : Value}, IntsAre vs ns → vs[i]? = some v → ∃ n t, v = .int n t ∧ ns[i]? = some n
 | _, _, 0, _, .cons n t _, h => (zO n t ((Option.some.inj h).symm) rfl)
 | _, _, i + 1, _, .cons n t a, h => jy (i := i) a h
noncomputable def KG : List Str := ["a", "b", "b2j", "isbjunk", "alo", "ahi", "blo", "bhi", "nothing"]
structure FN (xs ys : List Nat) (N q nl : Addr) (lo hi : Nat) (m : Mp) : Prop where
 a : ∃ t, m "a" = some (.str (S' xs) t)
 b : ∃ t, m "b" = some (.str (S' ys) t)
 b2j : m "b2j" = some (.ref N)
 isb : m "isbjunk" = some (.ref q)
 alo : ∃ t, m "alo" = some (.int lo t)
 ahi : ∃ t, m "ahi" = some (.int hi t)
 blo : ∃ t, m "blo" = some (.int 0 t)
 bhi : ∃ t, m "bhi" = some (.int ys.length t)
 nothing : m "nothing" = some (.ref nl)
theorem FN.set {xs ys : List Nat} {N q nl : Addr} {lo hi : Nat} {m : Mp} (F : FN xs ys N q nl lo hi m) {x : Str} {v : Value} (h : x ∉ KG) : FN xs ys N q nl lo hi (Internal.set m x v) := by
 have hne : ∀ y ∈ KG, y ≠ x := fun y hy z => h (z ▸ hy)
 refine hdG fun gQ gZ => ?_
 obtain ⟨⟨t1, a⟩, ⟨t2, b⟩, c, d, ⟨t3, e⟩, ⟨t4, f⟩, ⟨t5, g⟩, ⟨t6, i⟩, j⟩ := F
 refine gZ ?_
 exact ⟨⟨t1, (zk (hne _ (by decide +kernel))).trans a⟩, ⟨t2, (zk (hne _ (by decide +kernel))).trans b⟩, (zk (hne _ (by decide +kernel))).trans c, (zk (hne _ (by decide +kernel))).trans d, ⟨t3, (zk (hne _ (by decide +kernel))).trans e⟩, ⟨t4, (zk (hne _ (by decide +kernel))).trans f⟩, ⟨t5, (zk (hne _ (by decide +kernel))).trans g⟩, ⟨t6, (zk (hne _ (by decide +kernel))).trans i⟩, (zk (hne _ (by decide +kernel))).trans j⟩
structure BN (bi bj : Int) (bk : Nat) (m : Mp) : Prop where
 i : ∃ t, m "besti" = some (.int bi t)
 j : ∃ t, m "bestj" = some (.int bj t)
 k : ∃ t, m "bestsize" = some (.int bk t)
theorem BN.set {bi bj : Int} {bk : Nat} {m : Mp} (F : BN bi bj bk m) {x : Str} {v : Value} (h1 : "besti" ≠ x) (h2 : "bestj" ≠ x) (h3 : "bestsize" ≠ x) : BN bi bj bk (Internal.set m x v) :=
 let ⟨⟨t1, a⟩, ⟨t2, b⟩, ⟨t3, c⟩⟩ := F
 ⟨⟨t1, (zk h1).trans a⟩, ⟨t2, (zk h2).trans b⟩, ⟨t3, (zk h3).trans c⟩⟩
theorem BN.zero {xs ys : List Nat} {lo : Nat} {m : Mp} {t1 t2 t3 : Tok} (h1 : m "besti" = some (.int lo t1)) (h2 : m "bestj" = some (.int 0 t2)) (h3 : m "bestsize" = some (.int 0 t3)) : BN (zB xs ys lo 0).bi (zB xs ys lo 0).bj (zB xs ys lo 0).bk m :=
 ⟨⟨t1, h1⟩, ⟨t2, h2⟩, ⟨t3, h3⟩⟩
section
theorem iy {S : Addr} {xs ys : List Nat} {lo hi bi bj bk : Nat} {Hs : HF} {t1 t2 t3 t4 : Tok} {Q : PV} (X : Bd (K C.w.params) mg mb q loose C) (hroom : A.depth + 5 < recursionLimit) (hh : A.handled = none)
 (hx : Ext Hs H) (M : wN C.prog C.w Hs S xs ys) (hlo : lo ≤ hi) (hhi : hi ≤ xs.length) (hxl : xs.length ≤ 1000) (hz : ys.length ≤ 100) (ok : fF xs ys lo hi (zB xs ys lo (hi - lo)) bi bj bk)
 (h : ∀ H' x dx u1 u2 u3, Ext H H' → H x = none → H' x = some (Jp 152 dx [.int bi u1, .int bj u2, .int bk u3]) → Q (.ref x) m H') :
 W C A L (call (.ref 213) [.ref S, .int lo t1, .int hi t2, .int 0 t3, .int ys.length t4]) Q E m H := by
 refine zF (binds := [("self", .ref S), ("alo", .int lo t1), ("ahi", .int hi t2), ("blo", .int 0 t3), ("bhi", .int ys.length t4)]) (Qf := fun v H' => Ext Hs H' ∧ ∃ x dx u1 u2 u3, v = .ref x ∧ Hs x = none ∧ H' x = some (Jp 152 dx [.int bi u1, .int bj u2, .int bk u3]))
  Hs X (KJ _) (Vy _) (yu hroom) (fun s XX => zx XX (fun _ => by kernel_rfl)) ?_ hx (fun B' L' eB => ?_) (fun v Hf' H' hv u => ?_)
  (by kernel_rfl) (by kernel_rfl) (by kernel_rfl) ?_
 · intro y hy
   exact vD (by kernel_rfl) y hy
 · have X' := X.mono eB
   have m1 : (bl [("self", .ref S), ("alo", .int lo t1), ("ahi", .int hi t2), ("blo", .int 0 t3), ("bhi", .int ys.length t4)]) "self" = some (.ref S) := by kernel_rfl
   have m2 : (bl [("self", .ref S), ("alo", .int lo t1), ("ahi", .int hi t2), ("blo", .int 0 t3), ("bhi", .int ys.length t4)]) "alo" = some (.int lo t1) := by kernel_rfl
   have m3 : (bl [("self", .ref S), ("alo", .int lo t1), ("ahi", .int hi t2), ("blo", .int 0 t3), ("bhi", .int ys.length t4)]) "ahi" = some (.int hi t2) := by kernel_rfl
   have m4 : (bl [("self", .ref S), ("alo", .int lo t1), ("ahi", .int hi t2), ("blo", .int 0 t3), ("bhi", .int ys.length t4)]) "blo" = some (.int 0 t3) := by kernel_rfl
   have m5 : (bl [("self", .ref S), ("alo", .int lo t1), ("ahi", .int hi t2), ("blo", .int 0 t3), ("bhi", .int ys.length t4)]) "bhi" = some (.int ys.length t4) := by kernel_rfl
   generalize (bl [("self", .ref S), ("alo", .int lo t1), ("ahi", .int hi t2), ("blo", .int 0 t3), ("bhi", .int ys.length t4)]) = m0 at m1 m2 m3 m4 m5 ⊢
   have hh' : (A.deeper (cD L')).handled = none := hh
   have hd' : (A.deeper (cD L')).depth = A.depth + 1 := rfl
   refine VC M.of fun dS f n ta tb N J kvs Lo zq => ZZ zq fun I hM fa fb fN fJ Ch SJ => ?_
   refine xp (env := cD L') (fun QQf hQQf => ?_)
   generalize (A.deeper (cD L')) = A' at hh' hd' ⊢
   walk_at "r"
   refine zm ?_
   walk_at "r"
   refine zr X' I fa ?_ (by kernel_rfl) (by kernel_rfl) (attr := none) (by kernel_rfl) (by kernel_rfl) (by rfl)
   walk_at "r"
   refine zr X' I fb ?_ (by kernel_rfl) (by kernel_rfl) (attr := none) (by kernel_rfl) (by kernel_rfl) (by rfl)
   walk_at "r"
   refine zr X' I fN ?_ (by kernel_rfl) (by kernel_rfl) (attr := none) (by kernel_rfl) (by kernel_rfl) (by rfl)
   walk_at "r"
   refine vz ?_ (by kernel_rfl)
   walk_at "r"
   refine zr X' I fJ ?_ (by kernel_rfl) (by kernel_rfl) (attr := none) (by kernel_rfl) (by kernel_rfl) (by rfl)
   refine Ja (C := (C.at_ B')) SJ (fun iq nq nqL => ?_)
   walk_at "r"
   refine yt (zX (by simp)) (fun tt nt _ => ?_)
   refine xh ?_
   refine YU (x1 := 0) hh' zb (by kernel_rfl) (by kernel_rfl) ?_
   refine zg ?_
   walk_at "r"
   refine zg ?_
   walk_at "r"
   refine zg ?_
   walk_at "r"
   refine zg ?_
   walk_at "r"
   refine z7 ?_
   refine W.weak (Ext.put_new nt) ?_
   have eq0 : Ext Hs (put Hs iq (bmO "set.__contains__" (.ref J))) := Ext.put_new nq
   have hq0 : put Hs iq (bmO "set.__contains__" (.ref J)) iq = some (bmO "set.__contains__" (.ref J)) := zb
   generalize put Hs iq (bmO "set.__contains__" (.ref J)) = H1 at eq0 hq0 ⊢
   walk_at "r"
   refine yl (by rfl) ?_
   walk_at "r"
   refine zT (fun z => ?_) (fun _ => ?_)
   · cases z
   walk_at "r"
   refine yl (by rfl) ?_
   walk_at "r"
   refine zT (fun z => ?_) (fun _ => ?_)
   · cases z
   walk_at "r"
   with_reducible refine xi (names := ["besti", "bestj", "bestsize"]) hh' ?_ (by decide +kernel)
   walk_at "r"
   refine ⟨rfl, ?_⟩
   refine zg ?_
   walk_at "r"
   refine zg ?_
   walk_at "r"
   refine zg ?_
   walk_at "r"
   refine z7 ?_
   walk_at "r"
   refine vx X' (a₀ := 213) (o₀ := Jt) (fun d0 nd0 nd0L nd0s => ?_) (KJ _) (by decide)
   have D0 : zG (PySem.intKind C.prog C.w) (put H1 d0 emptyDict) d0 [] := .new nd0s
   walk_at "r"
   with_reducible refine zK (by decide +kernel) (fun nl nnl _ => ?_)
   have hx2 : Ext Hs (put (put H1 d0 emptyDict) nl (ze [] 0)) := (eq0.trans (Ext.put_new nd0)).trans (Ext.put_new nnl)
   have hq2 : put (put H1 d0 emptyDict) nl (ze [] 0) iq = some (bmO "set.__contains__" (.ref J)) := Ext.put_new nnl _ _ (Ext.put_new nd0 _ _ hq0)
   have hn2 : put (put H1 d0 emptyDict) nl (ze [] 0) nl = some (ze [] 0) := zb
   have D2 : zG (PySem.intKind C.prog C.w) (put (put H1 d0 emptyDict) nl (ze [] 0)) d0 [] := D0.ext (Ext.put_new nnl)
   generalize put (put H1 d0 emptyDict) nl (ze [] 0) = H2 at hx2 hq2 hn2 D2 ⊢
   walk_at "r"
   refine kM hh' ?_ (fun _ => rfl)
   with_reducible refine zN X' (xn _) xo ?_
   walk_at "r"
   refine jA (fun rr ra rb rc hrr _ => ?_)
   have hx3 : Ext H2 (put H2 rr { cls := .type "range", dict := none, data := .fields #[.int lo ra, .int hi rb, .int 1 rc], slots := #[] }) := Ext.put_new hrr
   refine (zE (hi - lo) _ [] (fun k m H => FN xs ys N iq nl lo hi m ∧ BN (zB xs ys lo k).bi (zB xs ys lo k).bj (zB xs ys lo k).bk m ∧ Ext H2 H ∧ ∃ d kvs, m "j2len" = some (.ref d) ∧ zG (PySem.intKind C.prog C.w) H d kvs ∧ vC kvs (zB xs ys lo k).new)
    (zM zb (smL (by exact (an 0x52140291211522f89442a052a1784a0 [_,_,_]) hlo hhi hxl) (by exact (an 0x290a01522f89422a052a1784a0 [_,_]) hhi hxl)) szL) (qs ⟨⟨_, by walk_at "mp"⟩, ⟨_, by walk_at "mp"⟩, by walk_at "mp", by walk_at "mp", ⟨_, by walk_at "mp"⟩, ⟨_, by walk_at "mp"⟩, ⟨_, by walk_at "mp"⟩, ⟨_, by walk_at "mp"⟩, by walk_at "mp"⟩ (BN.zero (by walk_at "mp") (by walk_at "mp") (by walk_at "mp")) hx3 (yL d0 [] (zl (by walk_at "mp") (D2.ext hx3) (fun j => .inl ⟨rfl, rfl⟩)))) (by simp) (fun B2 k v m3 H3 eB2 hk hP hI => W.body fun QQb hQQb => ?_) (fun m3 H3 hI => ?_))
   · refine hdG fun gQ gZ => ?_
     obtain ⟨tk, rfl⟩ := hP
     refine xS hI fun F3 B3 e3 zq => yE zq fun d kvs3 zq => zw zq fun hd3 D3 M3 => ?_
     try clear hI
     have X2 := X'.mono eB2
     obtain ⟨⟨ta3, n1⟩, ⟨tb3, n2⟩, n3, n4, ⟨tc3, n5⟩, ⟨td3, n6⟩, ⟨te3, n7⟩, ⟨tf3, n8⟩, n9⟩ := id F3
     refine gZ ?_
     have hkk : ((lo : Int) + (k : Int) * 1) = ((lo + k : Nat) : Int) := by exact (an 0x120e050a002160890e843a0 [_,_])
     rw [hkk]
     have hil : lo + k < xs.length := by exact (an 0x148d00a448c582408d08b44050a0 [_,_,_,_]) hlo hhi hk
     obtain ⟨c, hc⟩ : ∃ c, xs[lo + k]? = some c := ⟨_, List.getElem?_eq_getElem hil⟩
     have hcd : xs.getD (lo + k) 0 = c := by rw [List.getD_eq_getElem?_getD, hc]; rfl
     walk_at "r"
     refine Jg (C := (C.at_ B2)) D3 (fun gq ngq _ => ?_)
     have e4 := e3.trans (Ext.put_new (o := bmO "dict.get" (.ref d)) ngq)
     have hgq : put H3 gq (bmO "dict.get" (.ref d)) gq = some (bmO "dict.get" (.ref d)) := zb
     have D4 := D3.ext (Ext.put_new (o := bmO "dict.get" (.ref d)) ngq)
     generalize put H3 gq (bmO "dict.get" (.ref d)) = H4 at e4 hgq D4 ⊢
     walk_at "r"
     refine vx X2 (a₀ := 213) (o₀ := Jt) (fun d1 nd1 nd1L nd1s => ?_) (KJ _) (by decide)
     have D1 : zG (PySem.intKind C.prog C.w) (put H4 d1 emptyDict) d1 [] := .new nd1s
     have e5 := e4.trans (Ext.put_new (o := emptyDict) nd1)
     have hgq5 : put H4 d1 emptyDict gq = some (bmO "dict.get" (.ref d)) := Ext.put_new nd1 _ _ hgq
     have D5 := D4.ext (Ext.put_new (o := emptyDict) nd1)
     have nd2 : H2 d1 = none := zW e4 nd1
     have hdd : d ≠ d1 := fun z => by refine zc D4.cls fun o ho _ => ?_; rw [z, nd1] at ho; cases ho
     have hgd : gq ≠ d1 := fun z => by rw [z, nd1] at hgq; cases hgq
     generalize put H4 d1 emptyDict = H5 at e5 hgq5 D5 D1 ⊢
     walk_at "r"
     refine kM hh' ?_ (fun _ => rfl)
     with_reducible refine zC ?_
     walk_at "r"
     have Ch5 := (Ch.ext hx2).ext e5
     refine (zy ("dict") ("dict.get") PySem.F.plainAttrs_dict PySem.F.slot_dict_get PySem.F.type_dict_get Ch5.dict.hasT ?_)
     walk_at "r"
     refine z8.str (zU (by exact (an 0xa917c4a216880a1402a45f12050a0 [_,_,_]) hxl hil)) (by rw [yh hc]; rfl) (fun tc => ?_)
     rw [xQ hc]
     walk_at "r"
     refine Xw (C := (C.at_ B2)) (k := S' [c]) Ch5.dict (wO _ _) ?_
     have hget : ∃ l vs kk, (valueAt kvs (S' [c])).getD (.ref nl) = .ref l ∧ H2 l = some (ze vs kk) ∧ IntsAre vs ((yO ys c).map Int.ofNat) := by
      by_cases hcy : c ∈ ys
      · refine xz ((Ch.ext hx2).has c hcy) fun a1 vs kk a2 a3 => ?_
        exact (jY (Lo c) vs kk (by rw [a1]; rfl) a2 a3)
      · refine (jY nl [] 0 (by rw [Ch.non (S' [c]) fun c' hc' z => hcy (YZ z ▸ hc')]; rfl) hn2 ?_)
        rw [vX hcy]; exact .nil
     refine vK hget fun l vs kk zq => zw zq fun hgl hl2 hiv => ?_
     try clear hget
     rw [hgl]
     have hld : l ≠ d1 := fun z => by rw [z, nd2] at hl2; cases hl2
     have hvl : vs.length = (yO ys c).length := by have := wF hiv; rw [List.length_map] at this; exact this
     have hpl := jP ys c
     refine (zE vs.length _ [l] (fun q m H => FN xs ys N iq nl lo hi m ∧ BN (((yO ys c).take q).foldl (yV (zB xs ys lo k).new (lo + k)) ⟨fun _ => 0, (zB xs ys lo k).bi, (zB xs ys lo k).bj, (zB xs ys lo k).bk⟩).bi (((yO ys c).take q).foldl (yV (zB xs ys lo k).new (lo + k)) ⟨fun _ => 0, (zB xs ys lo k).bi, (zB xs ys lo k).bj, (zB xs ys lo k).bk⟩).bj (((yO ys c).take q).foldl (yV (zB xs ys lo k).new (lo + k)) ⟨fun _ => 0, (zB xs ys lo k).bi, (zB xs ys lo k).bj, (zB xs ys lo k).bk⟩).bk m ∧ Ext H2 H ∧
      H l = some (ze vs kk) ∧ (∃ t, m "i" = some (.int (lo + k : Nat) t)) ∧ m "j2lenget" = some (.ref gq) ∧ H gq = some (bmO "dict.get" (.ref d)) ∧ zG (PySem.intKind C.prog C.w) H d kvs3 ∧ m "newj2len" = some (.ref d1) ∧
      ∃ kvs, zG (PySem.intKind C.prog C.w) H d1 kvs ∧ vC kvs (((yO ys c).take q).foldl (yV (zB xs ys lo k).new (lo + k)) ⟨fun _ => 0, (zB xs ys lo k).bi, (zB xs ys lo k).bj, (zB xs ys lo k).bk⟩).new ∧ kvs.length ≤ q)
      (y7 (e5 _ _ hl2)) (Kz ?_ ?_ e5 (e5 _ _ hl2) ⟨_, by walk_at "mp"⟩ (by walk_at "mp") hgq5 D5 (by walk_at "mp") (xa [] (zl D1 (fun j => .inl ⟨rfl, rfl⟩) (Nat.le_refl _)))) (fun b hb => ?_) (fun B3' q v m6 H6 eB3 hq hP hI => W.body fun QQb hQQb => ?_) (fun m6 H6 hI => ?_))
     · exact ((F3.set (by decide +kernel)).set (by decide +kernel)).set (by decide +kernel)
     · exact ((B3.set (by decide +kernel) (by decide +kernel) (by decide +kernel)).set (by decide +kernel) (by decide +kernel) (by decide +kernel)).set (by decide +kernel) (by decide +kernel) (by decide +kernel)
     · obtain rfl := List.mem_singleton.mp hb
       exact .inr ⟨_, fun k m H z => z.2.2.2.1⟩
     · refine hdG fun gQ gZ => ?_
       refine VD hI fun F6 B6 e6 hl6 hq4 hg6 hgq6 D6 hn6 zq => yW zq fun kvs6 zq => zw zq fun Dn6 M6 hk6 => ?_
       try clear hI
       obtain ⟨ti6, hi6⟩ := hq4
       refine zI (jy hiv hP) fun n tn hq2 hnn => ?_
       refine gZ ?_
       obtain rfl := hq2
       rw [List.getElem?_map] at hnn
       refine zc (Option.map_eq_some_iff.mp hnn) fun j hj hq2 => ?_
       obtain rfl := hq2
       rw [show Int.ofNat j = (j : Int) from rfl]
       have X3 := X2.mono eB3
       have hjy : j < ys.length := (List.getElem?_eq_some_iff.mp (xY.mp (List.mem_of_getElem? hj))).1
       refine hdG fun gQ gZ => ?_
       obtain ⟨⟨p1, q1⟩, ⟨p2, q2⟩, q3, q4, ⟨p5, q5⟩, ⟨p6, q6⟩, ⟨p7, q7⟩, ⟨p8, q8⟩, q9⟩ := id F6
       refine gZ ?_
       have hstep := List.foldl_append (f := yV (zB xs ys lo k).new (lo + k)) (b := ⟨fun _ => 0, (zB xs ys lo k).bi, (zB xs ys lo k).bj, (zB xs ys lo k).bk⟩) (l := (yO ys c).take q) (l' := [j])
       rw [List.foldl_cons, List.foldl_nil] at hstep
       have htake : (yO ys c).take (q + 1) = (yO ys c).take q ++ [j] := by rw [List.take_add_one, hj]; rfl
       rw [← htake] at hstep
       generalize hst : ((yO ys c).take q).foldl (yV (zB xs ys lo k).new (lo + k)) ⟨fun _ => 0, (zB xs ys lo k).bi, (zB xs ys lo k).bj, (zB xs ys lo k).bk⟩ = st at B6 M6 hstep
       refine hdG fun gQ gZ => ?_
       obtain ⟨⟨r1, w1⟩, ⟨r2, w2⟩, ⟨r3, w3⟩⟩ := id B6
       refine gZ ?_
       show W _ _ _ _ _ _ _ _
       walk_at "r"
       rw [decide_eq_false (by simp)]
       show W _ _ _ _ _ _ _ _
       walk_at "r"
       with_reducible refine bC ?_
       walk_at "r"
       rw [decide_eq_false (by simp; exact (an 0x5a1402d0a0 [_,_]) hjy)]
       show W _ _ _ _ _ _ _ _
       walk_at "r"
       refine zm ?_
       walk_at "r"
       refine zp (q := gq) (bid := "dict.get") (self := .ref d) (by walk_at "mp") ?_
       walk_at "r"
       refine ⟨hgq6, ?_⟩
       refine Xy (C := (C.at_ B3')) (k := (j : Int) - 1) D6 hgq6 (gM _ _) ?_
       obtain ⟨tg, hg⟩ := M3.get ((j : Int) - 1) (by assumption)
       rw [hg]
       have hflS : yV (zB xs ys lo k).new (lo + k) st j = if st.bk < (zB xs ys lo k).new ((j : Int) - 1) + 1 then ⟨fun x => if x = (j : Int) then (zB xs ys lo k).new ((j : Int) - 1) + 1 else st.new x, ((lo + k : Nat) : Int) - (((zB xs ys lo k).new ((j : Int) - 1) + 1 : Nat) : Int) + 1, (j : Int) - (((zB xs ys lo k).new ((j : Int) - 1) + 1 : Nat) : Int) + 1, (zB xs ys lo k).new ((j : Int) - 1) + 1⟩
        else ⟨fun x => if x = (j : Int) then (zB xs ys lo k).new ((j : Int) - 1) + 1 else st.new x, st.bi, st.bj, st.bk⟩ := rfl
       rw [hflS] at hstep
       generalize (zB xs ys lo k).new ((j : Int) - 1) = kq at hstep ⊢
       walk_at "r"
       rw [show ((kq : Int) + 1) = ((kq + 1 : Nat) : Int) from rfl]
       refine qB ?_
       walk_at "r"
       refine xh ?_
       walk_at "r"
       with_reducible refine Qc ?_
       walk_at "r"
       refine jc (C := (C.at_ B3')) (k := (j : Int)) Dn6 (gM _ _) (zX (by have := jP ys c; exact (an 0x151218942311a2148518b4490524402a055830c4a0 [_,_,_,_,_]) hz hvl hpl hq hk6)) (fun o Dn7 => ?_)
       have e7 := z9 (o := o) e6 nd2
       have hl7 := (za (o := o) (H := H6) hld).trans hl6
       have hgq7 := (za (o := o) (H := H6) hgd).trans hgq6
       have D7 := D6.eq (za (o := o) (H := H6) hdd)
       generalize put H6 d1 o = H7 at Dn7 e7 hl7 hgq7 D7 ⊢
       show W _ _ _ _ _ _ _ _
       walk_at "r"
       refine zT (fun z => ?_) (fun z => ?_)
       · have z : st.bk < kq + 1 := by have := of_decide_eq_true z; exact (an 0xa87401c0c1128458182250a0 [_,_]) this
         rw [if_pos z] at hstep
         walk_at "r"
         with_reducible refine xi (names := ["besti", "bestj", "bestsize"]) hh' ?_ (by decide +kernel)
         walk_at "r"
         refine ⟨rfl, ?_⟩
         refine zg ?_
         walk_at "r"
         refine zg ?_
         walk_at "r"
         refine zg ?_
         walk_at "r"
         refine z7 ?_
         walk_at "r"
         dsimp only
         rw [hstep]
         dsimp only
         refine (Kz (((((F6.set (by decide +kernel)).set (by decide +kernel)).set (by decide +kernel)).set (by decide +kernel)).set (by decide +kernel)) ⟨⟨_, by walk_at "mp"⟩, ⟨_, by walk_at "mp"⟩, ⟨_, by walk_at "mp"⟩⟩ e7 hl7 ⟨_, by walk_at "mp"⟩ (by walk_at "mp") hgq7 D7 (by walk_at "mp") (xa _ (zl Dn7 (M6.st _ _ _) (Nat.le_trans (vT _ _ _) (by exact (an 0x148500a03044a103044a0 [_,_]) hk6)))))
       · have z : ¬ st.bk < kq + 1 := by have := of_decide_eq_false z; exact (an 0x2c543a00e06089425858182250a0 [_,_]) this
         rw [if_neg z] at hstep
         walk_at "r"
         dsimp only
         rw [hstep]
         dsimp only
         refine (Kz ((F6.set (by decide +kernel)).set (by decide +kernel)) ⟨⟨_, by walk_at "mp"⟩, ⟨_, by walk_at "mp"⟩, ⟨_, by walk_at "mp"⟩⟩ e7 hl7 ⟨_, by walk_at "mp"⟩ (by walk_at "mp") hgq7 D7 (by walk_at "mp") (xa _ (zl Dn7 (M6.st _ _ _) (Nat.le_trans (vT _ _ _) (by exact (an 0x148500a03044a103044a0 [_,_]) hk6)))))
     · refine hdG fun gQ gZ => ?_
       refine VD hI fun F6 B6 e6 hl6 hi6 hg6 hgq6 D6 hn6 zq => yW zq fun kvs6 zq => zw zq fun Dn6 M6 hk6 => ?_
       refine gZ ?_
       try clear hI
       show W _ _ _ _ _ _ _ _
       walk_at "r"
       have hrow : zB xs ys lo (k + 1) = ((yO ys c).take vs.length).foldl (yV (zB xs ys lo k).new (lo + k)) ⟨fun _ => 0, (zB xs ys lo k).bi, (zB xs ys lo k).bj, (zB xs ys lo k).bk⟩ := by
        rw [qQ]; unfold KK; rw [hcd, hvl, List.take_length]
       rw [← hrow] at B6 M6
       exact ⟨F6.set (by decide +kernel), B6.set (by decide +kernel) (by decide +kernel) (by decide +kernel), e6, d1, kvs6, xF, Dn6, M6⟩
   · refine hdG fun gQ gZ => ?_
     obtain ⟨F3, B3, e3, d, kvs3, hd3, D3, M3⟩ := hI
     obtain ⟨ei, ej, ek, ol, ohi, ohj, ohx, oleft, oright⟩ := ok
     refine gZ ?_
     rw [ei, ej, ek] at B3
     refine hdG fun gQ gZ => ?_
     obtain ⟨⟨ta3, n1⟩, ⟨tb3, n2⟩, n3, n4, ⟨tc3, n5⟩, ⟨td3, n6⟩, ⟨te3, n7⟩, ⟨tf3, n8⟩, n9⟩ := F3
     obtain ⟨⟨r1, w1⟩, ⟨r2, w2⟩, ⟨r3, w3⟩⟩ := B3
     refine gZ ?_
     have hq3 := e3 _ _ hq2
     have SJ3 := (SJ.ext hx2).ext e3
     have hx3' := hx2.trans e3
     clear hd3 D3 M3 kvs3
     show W _ _ _ _ _ _ _ _
     walk_at "r"
     refine y0 (fun n m H => m = m3 ∧ H = H3) 0 ⟨rfl, rfl⟩ (fun n m4 H4 hI4 => ?_)
     obtain ⟨rfl, rfl⟩ := hI4
     refine W.mono (Q := fun b m' H' => b = false ∧ m' = m4 ∧ H' = H4) (E := no) ?_ (fun b m' H' z => ?_) (fun _ _ _ z => z)
     · walk_at "r"
       refine z6 (fun z1 => ?_) (fun _ => (zl rfl rfl rfl))
       walk_at "r"
       refine z6 (fun z2 => ?_) (fun _ => (zl rfl rfl rfl))
       have z1 : lo < bi := Int.ofNat_lt.mp (of_decide_eq_true z1)
       have z2 : 0 < bj := Int.natCast_pos.mp (of_decide_eq_true z2)
       have h1 : bi - 1 < xs.length := by exact (an 0xa4288544862518c4a90522029500a46052a6168138b4c245a105044a0 [_,_,_,_,_,_,_,_]) hhi hz ek ohi ohj z1 z2
       have h2 : bj - 1 < ys.length := by exact (an 0xc4688521028d00b40245a105044a0 [_,_,_,_]) ek ohj z2
       have hc1 : xs[bi - 1]? = some xs[bi - 1] := List.getElem?_eq_getElem h1
       have hc2 : ys[bj - 1]? = some ys[bj - 1] := List.getElem?_eq_getElem h2
       generalize xs[bi - 1] = c1 at hc1
       generalize ys[bj - 1] = c2 at hc2
       have hcc : c1 ≠ c2 := fun z => oleft z1 z2 (by rw [hc1, hc2, z])
       walk_at "r"
       refine zp (q := iq) (bid := "set.__contains__") (self := .ref J) (by walk_at "mp") ?_
       walk_at "r"
       rw [show ((bj : Int) - 1) = ((bj - 1 : Nat) : Int) by exact (an 0xb40246a24248382822500282243a0 [_,_,_]) z2 hcc]
       refine z8.str (zU (by exact (an 0x2a24312845a105044a01522f8905044a0 [_,_]) hz h2)) (by rw [yh hc2]; rfl) (fun tc => ?_)
       rw [xQ hc2]
       walk_at "r"
       refine ⟨hq3, ?_⟩
       refine kI (C := (C.at_ B')) (k := S' [c2]) SJ3 hq3 (wO _ _) rfl ?_
       walk_at "r"
       refine z6 (fun _ => ?_) (fun z => absurd z (by decide))
       walk_at "r"
       rw [show ((bi : Int) - 1) = ((bi - 1 : Nat) : Int) by exact (an 0x168108b44246a44648382822500282243a0 [_,_,_,_,_]) z1 z2 hcc]
       refine z8.str (zU (by exact (an 0x2a45f12845a105044a01522f8905044a0 [_,_]) hxl h1)) (by rw [yh hc1]; rfl) (fun tc => ?_)
       rw [xQ hc1]
       walk_at "r"
       rw [show ((bj : Int) - 1) = ((bj - 1 : Nat) : Int) by exact (an 0xb40246a24248382822500282243a0 [_,_,_]) z2 hcc]
       refine z8.str (zU (by exact (an 0x2a24312845a105044a01522f8905044a0 [_,_]) hz h2)) (by rw [yh hc2]; rfl) (fun tc => ?_)
       rw [xQ hc2]
       walk_at "r"
       exact z6 (fun z => absurd (by simpa using z) hcc) (fun _ => (zl rfl rfl rfl))
     refine zw z fun hq0 hq1 hq2 => ?_
     try clear z
     obtain rfl := hq0
     obtain rfl := hq1
     obtain rfl := hq2
     show W _ _ _ _ _ _ _ _
     walk_at "r"
     refine y0 (fun n m H => m = m' ∧ H = H') 0 ⟨rfl, rfl⟩ (fun n m4 H4 hI4 => ?_)
     obtain ⟨rfl, rfl⟩ := hI4
     refine W.mono (Q := fun b m' H' => b = false ∧ m' = m4 ∧ H' = H4) (E := no) ?_ (fun b m' H' z => ?_) (fun _ _ _ z => z)
     · walk_at "r"
       refine z6 (fun z1 => ?_) (fun _ => (zl rfl rfl rfl))
       walk_at "r"
       refine z6 (fun z2 => ?_) (fun _ => (zl rfl rfl rfl))
       have z1 : bi + bk < hi := Int.ofNat_lt.mp (of_decide_eq_true z1)
       have z2 : bj + bk < ys.length := Int.ofNat_lt.mp (of_decide_eq_true z2)
       have h1 : bi + bk < xs.length := Nat.lt_of_lt_of_le z1 ohx
       have h2 : bj + bk < ys.length := z2
       have hc1 : xs[bi + bk]? = some xs[bi + bk] := List.getElem?_eq_getElem h1
       have hc2 : ys[bj + bk]? = some ys[bj + bk] := List.getElem?_eq_getElem h2
       generalize xs[bi + bk] = c1 at hc1
       generalize ys[bj + bk] = c2 at hc2
       have hcc : c1 ≠ c2 := fun z => oright z1 z2 (by rw [hc1, hc2, z])
       walk_at "r"
       refine zp (q := iq) (bid := "set.__contains__") (self := .ref J) (by walk_at "mp") ?_
       walk_at "r"
       rw [show ((bj : Int) + (bk : Int)) = ((bj + bk : Nat) : Int) from rfl]
       refine z8.str (zU (by exact (an 0xa890c4a216880a1402a45f12050a0 [_,_,_]) hz z2)) (by rw [yh hc2]; rfl) (fun tc => ?_)
       rw [xQ hc2]
       walk_at "r"
       refine ⟨hq3, ?_⟩
       refine kI (C := (C.at_ B')) (k := S' [c2]) SJ3 hq3 (wO _ _) rfl ?_
       walk_at "r"
       refine z6 (fun _ => ?_) (fun z => absurd z (by decide))
       walk_at "r"
       rw [show ((bi : Int) + (bk : Int)) = ((bi + bk : Nat) : Int) from rfl]
       refine z8.str (zU (by exact (an 0xa917c4a216880a1402a45f12050a0 [_,_,_]) hxl h1)) (by rw [yh hc1]; rfl) (fun tc => ?_)
       rw [xQ hc1]
       walk_at "r"
       rw [show ((bj : Int) + (bk : Int)) = ((bj + bk : Nat) : Int) from rfl]
       refine z8.str (zU (by exact (an 0xa890c4a216880a1402a45f12050a0 [_,_,_]) hz z2)) (by rw [yh hc2]; rfl) (fun tc => ?_)
       rw [xQ hc2]
       walk_at "r"
       exact z6 (fun z => absurd (by simpa using z) hcc) (fun _ => (zl rfl rfl rfl))
     refine zw z fun hq0 hq1 hq2 => ?_
     try clear z
     obtain rfl := hq0
     obtain rfl := hq1
     obtain rfl := hq2
     show W _ _ _ _ _ _ _ _
     walk_at "r"
     refine y0 (fun n m H => m = m' ∧ H = H') 0 ⟨rfl, rfl⟩ (fun n m4 H4 hI4 => ?_)
     obtain ⟨rfl, rfl⟩ := hI4
     refine W.mono (Q := fun b m' H' => b = false ∧ m' = m4 ∧ H' = H4) (E := no) ?_ (fun b m' H' z => ?_) (fun _ _ _ z => z)
     · walk_at "r"
       refine z6 (fun z1 => ?_) (fun _ => (zl rfl rfl rfl))
       walk_at "r"
       refine z6 (fun z2 => ?_) (fun _ => (zl rfl rfl rfl))
       have z1 : lo < bi := Int.ofNat_lt.mp (of_decide_eq_true z1)
       have z2 : 0 < bj := Int.natCast_pos.mp (of_decide_eq_true z2)
       have h1 : bi - 1 < xs.length := by exact (an 0xa4288544862518c4a90522029500a46052a6168138b4c245a105044a0 [_,_,_,_,_,_,_,_]) hhi hz ek ohi ohj z1 z2
       have h2 : bj - 1 < ys.length := by exact (an 0xc4688521028d00b40245a105044a0 [_,_,_,_]) ek ohj z2
       have hc1 : xs[bi - 1]? = some xs[bi - 1] := List.getElem?_eq_getElem h1
       have hc2 : ys[bj - 1]? = some ys[bj - 1] := List.getElem?_eq_getElem h2
       generalize xs[bi - 1] = c1 at hc1
       generalize ys[bj - 1] = c2 at hc2
       have hcc : c1 ≠ c2 := fun z => oleft z1 z2 (by rw [hc1, hc2, z])
       walk_at "r"
       refine zp (q := iq) (bid := "set.__contains__") (self := .ref J) (by walk_at "mp") ?_
       walk_at "r"
       rw [show ((bj : Int) - 1) = ((bj - 1 : Nat) : Int) by exact (an 0xb40246a24248382822500282243a0 [_,_,_]) z2 hcc]
       refine z8.str (zU (by exact (an 0x2a24312845a105044a01522f8905044a0 [_,_]) hz h2)) (by rw [yh hc2]; rfl) (fun tc => ?_)
       rw [xQ hc2]
       walk_at "r"
       refine ⟨hq3, ?_⟩
       refine kI (C := (C.at_ B')) (k := S' [c2]) SJ3 hq3 (wO _ _) rfl ?_
       walk_at "r"
       exact z6 (fun z => absurd z (by decide)) (fun _ => (zl rfl rfl rfl))
     refine zw z fun hq0 hq1 hq2 => ?_
     try clear z
     obtain rfl := hq0
     obtain rfl := hq1
     obtain rfl := hq2
     show W _ _ _ _ _ _ _ _
     walk_at "r"
     refine y0 (fun n m H => m = m' ∧ H = H') 0 ⟨rfl, rfl⟩ (fun n m4 H4 hI4 => ?_)
     obtain ⟨rfl, rfl⟩ := hI4
     refine W.mono (Q := fun b m' H' => b = false ∧ m' = m4 ∧ H' = H4) (E := no) ?_ (fun b m' H' z => ?_) (fun _ _ _ z => z)
     · walk_at "r"
       refine z6 (fun z1 => ?_) (fun _ => (zl rfl rfl rfl))
       walk_at "r"
       refine z6 (fun z2 => ?_) (fun _ => (zl rfl rfl rfl))
       have z1 : bi + bk < hi := Int.ofNat_lt.mp (of_decide_eq_true z1)
       have z2 : bj + bk < ys.length := Int.ofNat_lt.mp (of_decide_eq_true z2)
       have h1 : bi + bk < xs.length := Nat.lt_of_lt_of_le z1 ohx
       have h2 : bj + bk < ys.length := z2
       have hc1 : xs[bi + bk]? = some xs[bi + bk] := List.getElem?_eq_getElem h1
       have hc2 : ys[bj + bk]? = some ys[bj + bk] := List.getElem?_eq_getElem h2
       generalize xs[bi + bk] = c1 at hc1
       generalize ys[bj + bk] = c2 at hc2
       have hcc : c1 ≠ c2 := fun z => oright z1 z2 (by rw [hc1, hc2, z])
       walk_at "r"
       refine zp (q := iq) (bid := "set.__contains__") (self := .ref J) (by walk_at "mp") ?_
       walk_at "r"
       rw [show ((bj : Int) + (bk : Int)) = ((bj + bk : Nat) : Int) from rfl]
       refine z8.str (zU (by exact (an 0xa890c4a216880a1402a45f12050a0 [_,_,_]) hz z2)) (by rw [yh hc2]; rfl) (fun tc => ?_)
       rw [xQ hc2]
       walk_at "r"
       refine ⟨hq3, ?_⟩
       refine kI (C := (C.at_ B')) (k := S' [c2]) SJ3 hq3 (wO _ _) rfl ?_
       walk_at "r"
       exact z6 (fun z => absurd z (by decide)) (fun _ => (zl rfl rfl rfl))
     refine zw z fun hq0 hq1 hq2 => ?_
     try clear z
     obtain rfl := hq0
     obtain rfl := hq1
     obtain rfl := hq2
     show W _ _ _ _ _ _ _ _
     walk_at "r"
     refine zJ X' (Vh _) (by kernel_rfl) ?_
     walk_at "r"
     refine ir X' (by exact (an 0x5a103144a2180608944805a1030c4a0 [_,_,_]) hroom hd') (fun H9 x dx e9 hx9 hx9' => ?_)
     walk_at "r"
     refine (yg (hx3'.trans e9) (qM x dx _ _ _ (zl rfl (zW hx3' hx9) hx9')))
 · refine hdG fun gQ gZ => ?_
   refine z5 hv fun hE zq => vJ zq fun x dx u1 u2 u3 zq => zw zq fun hq6 hx0 hxx => ?_
   refine gZ ?_
   try clear hv
   obtain rfl := hq6
   refine h H' x dx u1 u2 u3 (fun b o e => ?_) (u.fresh _ hx0 (by rw [hxx]; simp)) (u.in_ _ _ hxx)
   cases q : Hs b with
   | none => exact u.out b o e q
   | some o' =>
    have := hx _ _ q
    rw [e] at this
    obtain rfl := Option.some.inj this
    exact u.in_ _ _ (hE _ _ q)
 · have e : (fdS (mAt 6 6)).names.all (fun x => x.2 != .cell) = true := by kernel_rfl
   intro x hx; have := List.all_eq_true.mp e x hx; exact bne_iff_ne.mp this
end
end
section
noncomputable abbrev KN (Lz : Addr) : Env := envOfC "_law_shared" (fdS (yq 27)) Lz 452 (.ref 451)
open Builtin.Str in
theorem Ki (s sub : Str) (hi : Nat) : ∀ (l : List Nat) (st : Array Nat × Nat), 1 ≤ st.fst.size → (forIn l st (StrLaws.occBody s sub hi 1)).run.fst = st.fst
 | [], st, h => rfl
 | a :: l, st, h => by
  rw [List.forIn_cons]
  unfold StrLaws.occBody
  rw [if_neg (by intro z; have := z.1.1.1; exact (an 0x29041125c524028d117148908b8225019 [_,_,_,_,_]) h z.1)]
  exact Ki s sub hi l st h
theorem Zb (s sub : Str) (hi : Nat) : ∀ (l : List Nat) (free : Nat), (∀ i ∈ l, free ≤ i) → ∀ (a b : List Nat) (j : Nat), l = a ++ j :: b → (∀ i ∈ a, ¬ (i + sub.length ≤ hi ∧ Builtin.Str.subAt s sub i = true)) → j + sub.length ≤ hi → Builtin.Str.subAt s sub j = true →
 (forIn l ((#[] : Array Nat), free) (StrLaws.occBody s sub hi 1)).run.fst = #[j]
 | l, free, hf, [], b, j, e, _, h1, h2 => by
  subst e
  rw [List.nil_append, List.forIn_cons]
  unfold StrLaws.occBody
  rw [if_pos ⟨⟨⟨by simp, hf j (by simp)⟩, h1⟩, h2⟩]
  exact Ki s sub hi b _ (by simp)
 | l, free, hf, x :: a, b, j, e, ha, h1, h2 => by
  subst e
  rw [List.cons_append, List.forIn_cons]
  unfold StrLaws.occBody
  rw [if_neg (by intro z; exact ha x List.mem_cons_self ⟨z.1.2, z.2⟩)]
  exact Zb s sub hi (a ++ j :: b) free (fun i hi' => hf i (List.mem_cons_of_mem _ hi')) a b j rfl (fun i hi' => ha i (List.mem_cons_of_mem _ hi')) h1 h2
theorem aY {r w : List Nat} {j : Nat} (h : atB r w j = true) (hm : ∀ i, i < j → atB r w i = false) : Txt.find (S' r) (S' w) = (j : Int) := by
 unfold atB at h
 rw [Bool.and_eq_true, decide_eq_true_eq] at h
 have e : Builtin.Str.occurrences (S' r) (S' w) 0 (S' r).length 1 = [j] := by
  rw [StrLaws.occ_eq]
  rw [Zb (S' r) (S' w) (S' r).length _ 0 (fun _ _ => Nat.zero_le _) (List.range' 0 j) (List.range' (j + 1) (r.length - j)) j ?_ (fun i hi z => ?_) (by rw [yD, yD]; exact h.1) (by rw [wm]; exact h.2)]
  · rw [yD]
    have : List.range' 0 (r.length + 1 - 0) = List.range' 0 j ++ List.range' (0 + j) (r.length + 1 - j) := by
     rw [List.range'_append_1]; congr 1; exact (an 0x14800a242300824206089408410903044a0 [_,_,_]) h.1
    rw [this, Nat.zero_add, show r.length + 1 - j = (r.length - j) + 1 by exact (an 0x520028908c0304482428012103044a0 [_,_,_]) h.1, List.range'_succ]
  · have hij : i < j := by have := List.mem_range'_1.mp hi; exact (an 0x2e2c0a11280520122d0a0 [_,_]) this
    have := hm i hij
    unfold atB at this
    rw [yD, yD, wm] at z
    rw [z.2, decide_eq_true z.1] at this
    cases this
 unfold Txt.find
 rw [e]
section
theorem bD {x y : Str} {t u : Tok} {Q : PV} (h : ∀ t, Q (.int (Txt.find x y) t) m H) : W C A L (call (.builtin "str.find") [.str x t, .str y u]) Q E m H := fun s S g =>
 call_gives PySem.F.slot_str_find (typeIs_str _ _ _) PySem.F.entry_str_find (PySem.F.args_str_find_2 _ _) (gives_str_find x y t u) ⟨m, H, S, g, rfl, h _⟩
end
noncomputable def Imp (a b : Prop) : Prop := a → b
noncomputable def kl (hts : List Str) (p : List Nat) : Bool := hts.all fun t => !takesB t (S' p)
structure YY (xs r : List Nat) (hts : List Str) (lo hi bi bj bk : Nat) : Prop where
 big : ∀ sz at_, bk < sz → lo ≤ at_ → at_ + sz ≤ hi → kl hts (zv xs sz at_) = false
 non : bk = 0 → bi = lo ∧ bj = 0
 l : lo ≤ bi
 h : bi + bk ≤ hi
 has : 0 < bk → kl hts (zv xs bk bi) = true ∧ Txt.find (S' r) (S' (zv xs bk bi)) = (bj : Int)
 fst : 0 < bk → ∀ at_, lo ≤ at_ → at_ < bi → kl hts (zv xs bk at_) = false
theorem JZ (P : Params) : (K P).lookup 452 = some bM := by kernel_rfl
theorem QB (P : Params) : codeIn (K P) (.ref 451) "_law_shared" = true := by kernel_rfl
section
theorem QC {xs r : List Nat} {hts : List Str} {hvs : List Value} {He : Addr} {hk lo hi bi bj bk : Nat} {t1 t2 t3 t4 : Tok} {Q : PV} (X : Bd (K C.w.params) mg mb q loose C) (hroom : A.depth + 3 < recursionLimit) (hh : A.handled = none) (hu : A.units + 200 < cLine)
 (hz : xs.length ≤ 100) (hr : r.length ≤ 100) (hhe : H He = some (ze hvs hk)) (hst : StrsAre hvs hts) (hok : ∀ t ∈ hts, PyData.strOk t = true ∧ t.length ≤ 1000) (hhl : hts.length ≤ 10000) (hlo : lo ≤ hi) (hhi : hi ≤ xs.length) (ok : YY xs r hts lo hi bi bj bk)
 (h : ∀ H' T u1 u2 u3, Ext H H' → H T = none → H' T = some (yp [.int bi u1, .int bj u2, .int bk u3] 0) → Q (.ref T) m H') :
 W C A L (call (.ref 452) [.str (S' xs) t1, .str (S' r) t2, .ref He, .int lo t3, .int hi t4]) Q E m H := by
 refine jp (binds := [("left", .str (S' xs) t1), ("right", .str (S' r) t2), ("held", .ref He), ("low", .int lo t3), ("high", .int hi t4)]) (Qf := fun v H' => ∃ T u1 u2 u3, v = .ref T ∧ H' T = some (yp [.int bi u1, .int bj u2, .int bk u3] 0) ∧ put (fun _ => none) He (ze hvs hk) T = none ∧ Ext (put (fun _ => none) He (ze hvs hk)) H')
  (put (fun _ => none) He (ze hvs hk)) X (JZ _) (QB _) (by exact (an 0xb4206189402d0a0 [_,_]) hroom) (by kernel_rfl) (fun L' => ?_) (fun b o e => ?_) (fun B' L' Hc eB eH hc => ?_) (fun v Hf' H' hv u => ?_)
  (by kernel_rfl) (by kernel_rfl) (by kernel_rfl)
 · intro z hz
   left
   have e : ([("left", .str (S' xs) t1), ("right", .str (S' r) t2), ("held", .ref He), ("low", .int lo t3), ("high", .int hi t4)] : List (Str × Value)).all (fun y => (fdS (yq 27)).names.lookup y.1 == some .local) = true := by kernel_rfl
   exact beq_iff_eq.mp (List.all_eq_true.mp e z hz)
 · by_cases q : b = He
   · subst q; rw [zb] at e; rw [hhe]; exact e
   · rw [za q] at e; cases e
 · have X' := X.mono eB
   refine zc (hc "part" (L' + 1) (by kernel_rfl)) fun o1 h1 d1 => ?_
   have hne : He ≠ L' + 1 := fun z => by
    have := eH He _ zb
    rw [z, h1] at this
    obtain rfl := Option.some.inj this
    cases d1
   have m1 : (bindL (KN L').kindOf [("left", .str (S' xs) t1), ("right", .str (S' r) t2), ("held", .ref He), ("low", .int lo t3), ("high", .int hi t4)] fun _ => none) "left" = some (.str (S' xs) t1) := by kernel_rfl
   have m2 : (bindL (KN L').kindOf [("left", .str (S' xs) t1), ("right", .str (S' r) t2), ("held", .ref He), ("low", .int lo t3), ("high", .int hi t4)] fun _ => none) "right" = some (.str (S' r) t2) := by kernel_rfl
   have m3 : (bindL (KN L').kindOf [("left", .str (S' xs) t1), ("right", .str (S' r) t2), ("held", .ref He), ("low", .int lo t3), ("high", .int hi t4)] fun _ => none) "held" = some (.ref He) := by kernel_rfl
   have m4 : (bindL (KN L').kindOf [("left", .str (S' xs) t1), ("right", .str (S' r) t2), ("held", .ref He), ("low", .int lo t3), ("high", .int hi t4)] fun _ => none) "low" = some (.int lo t3) := by kernel_rfl
   have m5 : (bindL (KN L').kindOf [("left", .str (S' xs) t1), ("right", .str (S' r) t2), ("held", .ref He), ("low", .int lo t3), ("high", .int hi t4)] fun _ => none) "high" = some (.int hi t4) := by kernel_rfl
   have hh' : (A.deeper (KN L')).handled = none := hh
   have hd' : (A.deeper (KN L')).depth = A.depth + 1 := rfl
   have hu' : (A.deeper (KN L')).units + 150 < cLine := by show A.units + 3 + 150 < cLine; exact (an 0xb420644612805a1035a209030c4a0 [_,_]) hu
   refine xp (env := KN L') (fun QQf hQQf => ?_)
   generalize (bindL (KN L').kindOf [("left", .str (S' xs) t1), ("right", .str (S' r) t2), ("held", .ref He), ("low", .int lo t3), ("high", .int hi t4)] fun _ => none) = m0 at m1 m2 m3 m4 m5 ⊢
   generalize A.deeper (KN L') = A' at hh' hd' hu' ⊢
   have hlen : (S' xs).length = xs.length := yD xs
   have hHe0 : Hc He = some (ze hvs hk) := eH _ _ zb
   refine kM hh' ?_ (fun _ => rfl)
   with_reducible refine zN X' (xn _) xo ?_
   walk_at "r"
   rw [show ((hi : Int) - (lo : Int)) = ((hi - lo : Nat) : Int) by exact (an 0xa408490704850020e843a0 [_,_]) hlo]
   refine YO (by decide) (PyProof.noPylong_small (by omega)) (fun rr _ _ _ hrr hrL => ?_)
   have hrc : L' + 1 ≠ rr := fun z => by rw [← z, h1] at hrr; cases hrr
   have hrh : He ≠ rr := fun z => by rw [← z, hHe0] at hrr; cases hrr
   refine (zE (hi - lo) _ [] (fun k m H => m "left" = some (.str (S' xs) t1) ∧ m "right" = some (.str (S' r) t2) ∧ m "held" = some (.ref He) ∧ m "low" = some (.int lo t3) ∧ m "high" = some (.int hi t4) ∧ bk + k ≤ hi - lo ∧ H He = some (ze hvs hk) ∧ ∃ o v, H (L' + 1) = some o ∧ o.data = .cell v)
    (zM zb (small_down (by omega) (by omega) (by omega) (by omega)) (by rw [rangeSize_downNat]; exact (an 0x14810920e090a00e201090e090a0 [_,_]) hlo)) (ZT m1 m2 m3 m4 m5 (by have := ok.l; have := ok.h; exact (an 0x52144291a214840a0462812242044a0 [_,_,_,_]) hlo ‹_› this) ((za hrh).trans hHe0) (yL o1 _ (yg ((za hrc).trans h1) d1))) (by simp) (fun B2 k v m2' H2 eB2 hkk hP hI => W.body fun QQb hQQb => ?_) (fun m2' H2 hI => ?_))
   · refine hdG fun gQ gZ => ?_
     obtain ⟨tk, rfl⟩ := hP
     refine ZZ hI fun i1 i2 i3 i4 i5 i6 i7 zq => yE zq fun oc vc zq => z5 zq fun i8 i9 => ?_
     refine gZ ?_
     try clear hI
     have X2 := X'.mono eB2
     rw [show ((hi - lo : Nat) : Int) + (k : Int) * -1 = ((hi - lo - k : Nat) : Int) from Jx (by exact (an 0x582448500a04890a0 [_,_,_]) hkk)]
     generalize hsz : hi - lo - k = sz
     have hs1 : lo + sz + k = hi := by exact (an 0x523402c12046886210488120463118144050a0 [_,_,_,_]) hlo hkk hsz
     have hs2 : bk ≤ sz := by exact (an 0x291a21409123029100c4209202448c62302900a144290a0 [_,_,_,_,_]) hlo i6 hsz hs1
     have hs3 : 1 ≤ sz := by exact (an 0x522422c121448c620048c121443110146050211482089 [_,_,_,_]) hlo hkk hsz hs1
     have hlk : bk + (k + 1) ≤ hi - lo ∨ sz = bk := by exact (an 0x522462812344050a018880a1029118a48805248224c0c4090502468808182250a0 [_,_,_,_,_]) hlo i6 hs1 hs2 hs3
     have hhi1 : (hi : Int) - (sz : Int) + 1 = ((hi - sz + 1 : Nat) : Int) := by exact (an 0x3100146050a2241c0c112090a003044820e843a0 [_,_,_,_]) hs1
     clear hsz hkk i6
     walk_at "r"
     refine kM hh' ?_ (fun _ => rfl)
     with_reducible refine zN X2 (xn _) xo ?_
     walk_at "r"
     rw [hhi1]
     clear hhi1
     refine jA (fun r2 ra rb rc hr2 hr2L => ?_)
     have hrc2 : L' + 1 ≠ r2 := fun z => by rw [← z, i8] at hr2; cases hr2
     have hrh2 : He ≠ r2 := fun z => by rw [← z, i7] at hr2; cases hr2
     refine (zE (hi - sz + 1 - lo) _ [] (fun j m H => m "left" = some (.str (S' xs) t1) ∧ m "right" = some (.str (S' r) t2) ∧ m "held" = some (.ref He) ∧ m "low" = some (.int lo t3) ∧ m "high" = some (.int hi t4) ∧ (∃ u, m "size" = some (.int sz u)) ∧ Imp (sz = bk) (lo + j ≤ bi) ∧ H He = some (ze hvs hk) ∧ ∃ o v, H (L' + 1) = some o ∧ o.data = .cell v)
      (zM zb (smL (by exact (an 0xa890c4a1148510c428c62202940a44029241122a052a1784a0 [_,_,_,_,_,_]) hz hhi hlen hs1 hs3) (by exact (an 0x544862510a448062246310014a050a414860891502950bc240c112090a0 [_,_,_,_,_,_]) hz hhi hlen hs1 hs3)) szL) (QU (by walk_at "mp") (by walk_at "mp") (by walk_at "mp") (by walk_at "mp") (by walk_at "mp") ⟨_, by walk_at "mp"⟩ (fun _ => ok.l) ((za hrh2).trans i7) (yL oc vc (yg ((za hrc2).trans i8) i9))) (by simp) (fun B3 j v m3 H3 eB3 hj hP3 hI3 => W.body fun QQb hQQb => ?_) (fun m3 H3 hI3 => ?_))
     · refine hdG fun gQ gZ => ?_
       obtain ⟨tj, rfl⟩ := hP3
       refine Q1 hI3 fun j1 j2 j3 j4 j5 hq5 j7 j8 zq => yE zq fun oj vj zq => z5 zq fun j9 j10 => ?_
       try clear hI3
       obtain ⟨uj, j6⟩ := hq5
       refine gZ ?_
       have X3 := X2.mono eB3
       rw [show ((lo : Int) + (j : Int) * 1) = ((lo + j : Nat) : Int) by exact (an 0x120e050a002160890e843a0 [_,_])]
       have hj1 : lo + j + sz ≤ hi := by clear hlk hs2; exact (an 0x188c0a4028900b04800c11209123422918144050a0 [_,_,_,_,_]) hs1 hj
       clear hj hlk hs1
       have hpl : (zv xs sz (lo + j)).length = sz := xt (by exact (an 0x148d20c469452402880a1402918144050a0 [_,_,_,_,_,_]) hhi hlen hj1)
       have hSl : (S' (zv xs sz (lo + j))).length = sz := by rw [yD, hpl]
       walk_at "w"
       walk_at "w"
       refine jr (c := L' + 1) (by kernel_rfl) ?_
       walk_at "r"
       refine (zE _ _ _ _ rfl zS.i zS.i (zA (by rw [hlen]; exact (an 0xa890c4a0188108a917c4a0 [_,_]) hz hlen)) (fun tp => ?_))
       rw [show ((lo + j : Nat) : Int) + (sz : Int) = ((lo + j + sz : Nat) : Int) by exact (an 0x90702880a140043a20e050a0 [_,_,_]), qk]
       refine (yT oj vj j9 j10 (fun o2 e2 => ?_))
       have e2 : o2.data = .cell (some (.str (S' (zv xs sz (lo + j))) tp)) := e2
       have k8 : put H3 (L' + 1) o2 He = some (ze hvs hk) := (za hne).trans j8
       have k9 : put H3 (L' + 1) o2 (L' + 1) = some o2 := zb
       generalize put H3 (L' + 1) o2 = H4 at k8 k9 ⊢
       generalize hp : zv xs sz (lo + j) = p at hpl hSl e2
       show W _ _ _ _ _ _ _ _
       walk_at "r"
       refine kJ (cl := [("part", L' + 1)]) hh' ?_ (by kernel_rfl) (by decide +kernel) (by kernel_rfl) (by decide +kernel) (by kernel_rfl) (fun _ => rfl)
       walk_at "r"
       refine ⟨hvs.length, _, [He], fun k ys H' => H' = H4 ∧ StrsAre ys ((hts.take k).filter fun t => takesB t (S' p)), (zX (by rw [hst.length]; exact (an 0xaa162489402a055830c4a0 [_]) hhl)), y7 k8, ⟨rfl, .nil⟩, fun b hb => ?_, ?_, ?_⟩
       · obtain rfl := List.mem_singleton.mp hb
         exact .inr ⟨_, fun k ys H z => z.1 ▸ k8⟩
       · intro B4 Lc k4 ys v mc H5 eB4 hk4 hys hP4 hmc hI4
         obtain ⟨rfl, hys'⟩ := hI4
         refine zI (xb hst hP4) fun x tx hq2 hxk => ?_
         obtain rfl := hq2
         have X4 := X3.mono eB4
         have htk : hts.take (k4 + 1) = hts.take k4 ++ [x] := by rw [List.take_add_one, hxk]; rfl
         have hokx := hok x (List.mem_of_getElem? hxk)
         with_reducible refine qe ?_
         walk_at "r"
         with_reducible refine zJ X4 (Yz _) (by kernel_rfl) ?_
         walk_at "r"
         with_reducible refine wg (c := L' + 1) (by kernel_rfl) k9 e2 ?_
         walk_at "r"
         refine XU X4 (by exact (an 0x2d081862510c03044a2402d0a0 [_,_,_]) hroom hd') hh' (by exact (an 0x5a1035a209402d081890c4a0 [_,_]) hu') hokx.2 (by exact (an 0xa890c4a1148510c428c52202980a54831327189900a917c4a0 [_,_,_,_,_,_,_,_]) hz hhi hlen hj1 hpl hSl) ?_
         have hstep : (hts.take (k4 + 1)).filter (fun t => takesB t (S' p)) = (hts.take k4).filter (fun t => takesB t (S' p)) ++ (if takesB x (S' p) = true then [x] else []) := by rw [htk]; exact va (fun t => takesB t (S' p)) _ _
         generalize takesB x (S' p) = bb at hstep ⊢
         with_reducible refine xM ?_
         cases bb with
         | true =>
          show W _ _ _ _ _ _ _ _
          walk_at "r"
          refine ⟨rfl, ?_⟩
          rw [hstep, if_pos rfl]
          exact yk hys'
         | false =>
          refine ⟨rfl, ?_⟩
          rw [hstep, if_neg (by decide), List.append_nil]
          exact hys'
       · intro ys H5 hI5 a ka ha haL
         obtain ⟨rfl, hys⟩ := hI5
         rw [hst.length, List.take_length] at hys
         walk_at "r"
         with_reducible refine zK (by decide +kernel) (fun e he heL => ?_)
         have hea : a ≠ e := fun q => by rw [← q, zb] at he; cases he
         have eHe : Ext H5 (put (put H5 a (ze ys ka)) e (ze [] 0)) := (Ext.put_new ha).trans (Ext.put_new he)
         have ra : Rd (put (put H5 a (ze ys ka)) e (ze [] 0)) (.ref a) (xm (hts.filter fun t => takesB t (S' p))) := .list ((za hea).trans zb) (qI hys)
         have rb : Rd (put (put H5 a (ze ys ka)) e (ze [] 0)) (.ref e) (.list []) := .list zb .nil
         have hclean : Spec.same (xm (hts.filter fun t => takesB t (S' p))) (.list []) = kl hts p := by
          have e1 : kl hts p = (hts.filter fun t => takesB t (S' p)).isEmpty := by
           unfold kl
           rw [Bool.eq_iff_iff, List.all_eq_true, List.isEmpty_iff, List.filter_eq_nil_iff]
           exact ⟨fun z t ht q => (by have := z t ht; rw [q] at this; cases this), fun z t ht => (by simpa using z t ht)⟩
          rw [e1]
          cases hts.filter fun t => takesB t (S' p) with
          | nil => decide +kernel
          | cons a b => rfl
         refine VW ra rb (kW _ fun s hs => (hok s (List.mem_filter.mp hs).1).1) (by decide +kernel) (kB _ []) (by exact (an 0x5a1035a209402d08181084a0 [_,_]) hu') ?_
         rw [hclean]
         generalize hcl : kl hts p = bb
         walk_at "r"
         refine zT (fun z => ?_) (fun z => ?_)
         · subst z
           refine W.weak eHe ?_
           have q1 : sz = bk := by
            rcases Nat.lt_or_ge bk sz with w | w
            · have := ok.big sz (lo + j) w (Nat.le_add_right _ _) hj1
              rw [hp, hcl] at this; cases this
            · exact Nat.le_antisymm w hs2
           have q2 : lo + j = bi := by
            rcases Nat.lt_or_ge (lo + j) bi with w | w
            · have := ok.fst (q1 ▸ hs3) (lo + j) (Nat.le_add_right _ _) w
              rw [← q1, hp, hcl] at this; cases this
            · exact Nat.le_antisymm (j7 q1) w
           have q3 := (ok.has (q1 ▸ hs3)).2
           rw [← q1, ← q2, hp] at q3
           walk_at "r"
           with_reducible refine zC ?_
           walk_at "r"
           refine (zy ("str") ("str.find") PySem.F.plainAttrs_str PySem.F.slot_str_find PySem.F.type_str_find (.str) ?_)
           walk_at "r"
           with_reducible refine wg (c := L' + 1) (by kernel_rfl) k9 e2 ?_
           walk_at "r"
           refine bD (fun tf => ?_)
           rw [q3]
           walk_at "r"
           refine yt (zX (by simp)) (fun T nT _ => ?_)
           have hTH : T ≠ He := fun q => by rw [q, k8] at nT; cases nT
           walk_at "r"
           refine (Ky T tj tf uj (qs rfl ?_ (za hTH) (fun b o q => ?_)))
           · rw [← q1, ← q2]; exact zb
           · by_cases qb : b = He
             · subst qb; rw [zb] at q; rw [za (Ne.symm hTH), ← q]; exact k8
             · rw [za qb] at q; cases q
         · subst z
           refine W.weak eHe ?_
           walk_at "r"
           refine ⟨by walk_at "mp", by walk_at "mp", by walk_at "mp", by walk_at "mp", by walk_at "mp", ⟨_, by walk_at "mp"⟩, fun q1 => ?_, k8, o2, _, k9, e2⟩
           have q2 := j7 q1
           rcases Nat.lt_or_ge (lo + j) bi with w | w
           · exact w
           · have q3 := (ok.has (q1 ▸ hs3)).1
             rw [← q1, show bi = lo + j from Nat.le_antisymm w q2, hp, hcl] at q3
             cases q3
     · refine hdG fun gQ gZ => ?_
       refine Q1 hI3 fun j1 j2 j3 j4 j5 hq5 j7 j8 zq => yE zq fun oj vj zq => z5 zq fun j9 j10 => ?_
       try clear hI3
       obtain ⟨uj, j6⟩ := hq5
       refine gZ ?_
       show W _ _ _ _ _ _ _ _
       walk_at "r"
       refine ⟨by walk_at "mp", by walk_at "mp", by walk_at "mp", by walk_at "mp", by walk_at "mp", ?_, j8, oj, vj, j9, j10⟩
       have := ok.l
       have := ok.h
       rcases hlk with w | w
       · exact w
       · have q := j7 w
         clear hs2 hs3
         exact absurd q (by exact (an 0x544862520a48846244a310814c05120148d00a42053a3189d10a460412003044824485016148c082400608904890a0 [_,_,_,_,_,_,_,_]) hz hhi hlen hs1 ‹_› this w q)
   · refine hdG fun gQ gZ => ?_
     refine ZZ hI fun i1 i2 i3 i4 i5 i6 i7 zq => yE zq fun oc vc zq => z5 zq fun i8 i9 => ?_
     try clear hI
     obtain ⟨n1, n2⟩ := ok.non (by exact (an 0x1409121020912140304a0 [_,_,_]) i6)
     refine gZ ?_
     show W _ _ _ _ _ _ _ _
     walk_at "r"
     refine yt (zX (by simp)) (fun T nT _ => ?_)
     have hTH : T ≠ He := fun q => by rw [q, i7] at nT; cases nT
     obtain rfl : bk = 0 := by exact (an 0x1409121020912140304a0 [_,_,_]) i6
     subst n1 n2
     walk_at "r"
     refine (Ky T _ _ _ (qs rfl zb (za hTH) (fun b o q => ?_)))
     · by_cases qb : b = He
       · subst qb; rw [zb] at q; rw [za (Ne.symm hTH), ← q]; exact i7
       · rw [za qb] at q; cases q
 · refine KM hv fun T u1 u2 u3 zq => xS zq fun hq4 hT hT0 hE => ?_
   try clear hv
   obtain rfl := hq4
   refine h H' T u1 u2 u3 (fun b o e => ?_) (u.fresh _ hT0 (by rw [hT]; simp)) (u.in_ _ _ hT)
   by_cases q : b = He
   · subst q
     rw [hhe] at e; obtain rfl := Option.some.inj e
     exact u.in_ _ _ (hE _ _ zb)
   · exact u.out b o e (za q)
end
end
section
noncomputable abbrev bf (Lz : Addr) : Env := envOf "_law_windows_are" (fdS (yq 28)) Lz 459 (.ref 458)
theorem JH (P : Params) : (K P).lookup 459 = some bL := by kernel_rfl
theorem Qq (P : Params) : codeIn (K P) (.ref 458) "_law_windows_are" = true := by kernel_rfl
theorem QI (P : Params) : nsIn (K P) mainGlobals "_law_shared" = some (some (.ref 452)) := by kernel_rfl
theorem jL (a b c : Int) : shaped (.tuple [.int a, .int b, .int c]) = true := by
 show (PyData.canLay0 (.tuple [.int a, .int b, .int c]) && decide (PyData.depth (.tuple [.int a, .int b, .int c]) ≤ 64)) = true
 rw [Bool.and_eq_true]
 exact ⟨by simp [PyData.canLay0, PyData.canLayAll0], decide_eq_true (by simp [PyData.depth, PyData.depthAll])⟩
theorem X8 (a b c : Int) : Spec.same (.tuple [.int a, .int b, .int c]) (.tuple [.int a, .int b, .int c]) = true := by
 simp [Spec.same, Spec.sameAll]
section
noncomputable def vi (xs ys : List Nat) (hts : List Str) : Prop := ∀ lo hi, lo < hi → hi ≤ xs.length → ∃ bi bj bk, fF xs ys lo hi (zB xs ys lo (hi - lo)) bi bj bk ∧ YY xs ys hts lo hi bi bj bk
theorem XJ {xs r : List Nat} {hts : List Str} {hvs : List Value} {He : Addr} {hk : Nat} {t1 t2 : Tok} {Q : PV} (X : Bd (K C.w.params) mg mb q loose C) (hroom : A.depth + 12 < recursionLimit) (hh : A.handled = none) (hu : A.units + 300 < cLine)
 (hz : xs.length ≤ 100) (hr : r.length ≤ 100) (hhe : H He = some (ze hvs hk)) (hst : StrsAre hvs hts) (hok : ∀ t ∈ hts, PyData.strOk t = true ∧ t.length ≤ 1000) (hhl : hts.length ≤ 10000) (ok : vi xs r hts)
 (h : Q (.bool true) m H) :
 W C A L (call (.ref 459) [.str (S' xs) t1, .str (S' r) t2, .ref He]) Q E m H := by
 refine W.drop (Qf := fun v => v = .bool true) ?_ (fun v e => by subst e; exact h)
 refine zF (binds := [("left", .str (S' xs) t1), ("right", .str (S' r) t2), ("held", .ref He)]) (Qf := fun v H' => v = .bool true ∧ Ext (put (fun _ => none) He (ze hvs hk)) H')
  (put (fun _ => none) He (ze hvs hk)) X (JH _) (Qq _) (yu hroom) (fun s XX => zx XX (fun _ => by kernel_rfl)) ?_ (fun b o e => ?_) (fun B' L' eB => ?_) (fun v Hf' H' hv u => (zl rfl (fun b o e => ?_) hv.1))
  (by kernel_rfl) (by kernel_rfl) (by kernel_rfl) ?_
 · intro y hy
   exact vD (by kernel_rfl) y hy
 · by_cases q : b = He
   · subst q; rw [zb] at e; rw [hhe]; exact e
   · rw [za q] at e; cases e
 · have X' := X.mono eB
   have m1 : (bl [("left", .str (S' xs) t1), ("right", .str (S' r) t2), ("held", .ref He)]) "left" = some (.str (S' xs) t1) := by kernel_rfl
   have m2 : (bl [("left", .str (S' xs) t1), ("right", .str (S' r) t2), ("held", .ref He)]) "right" = some (.str (S' r) t2) := by kernel_rfl
   have m3 : (bl [("left", .str (S' xs) t1), ("right", .str (S' r) t2), ("held", .ref He)]) "held" = some (.ref He) := by kernel_rfl
   generalize (bl [("left", .str (S' xs) t1), ("right", .str (S' r) t2), ("held", .ref He)]) = m0 at m1 m2 m3 ⊢
   have hh' : (A.deeper (bf L')).handled = none := hh
   have hd' : (A.deeper (bf L')).depth = A.depth + 1 := rfl
   have hu' : (A.deeper (bf L')).units + 250 < cLine := by show A.units + 3 + 250 < cLine; exact (an 0xb420664912805a1036a389030c4a0 [_,_]) hu
   refine yc (env := bf L') ?_
   generalize A.deeper (bf L') = A' at hh' hd' hu' ⊢
   have hlen : (S' xs).length = xs.length := yD xs
   have hrlen : (S' r).length = r.length := yD r
   have hHe0 : put (fun _ => none) He (ze hvs hk) He = some (ze hvs hk) := zb
   have eH0 : Ext (put (fun _ => none) He (ze hvs hk)) (put (fun _ => none) He (ze hvs hk)) := Ext.rfl'
   generalize hH0 : put (fun _ => none) He (ze hvs hk) = H0 at hHe0
   rw [hH0] at eH0
   walk_at "r"
   with_reducible refine zJ X' (io _) (by kernel_rfl) ?_
   walk_at "r"
   refine hZ X' (xG hroom hd') hh' hr (fun H1 S e1 nS M1 => ?_)
   walk_at "r"
   have hHe1 := e1 _ _ hHe0
   refine kM hh' ?_ (fun _ => rfl)
   with_reducible refine zN X' (xn _) xo ?_
   walk_at "r"
   with_reducible refine zh X' (ju _) jv ?_
   walk_at "r"
   with_reducible refine yx (zA (by rw [hlen]; omega)) (fun _ => ?_)
   walk_at "r"
   rw [hlen]
   refine jB (fun rr _ _ _ hrr hrL => ?_)
   refine (zE xs.length _ [] (fun k m H => m "left" = some (.str (S' xs) t1) ∧ m "right" = some (.str (S' r) t2) ∧ m "held" = some (.ref He) ∧ m "matcher" = some (.ref S) ∧ Ext H1 H)
    (zM zb (sm0 (by exact (an 0x2a2431280620422a052a1784a0 [_,_]) hz hlen)) sz0) (Xm (by walk_at "mp") (by walk_at "mp") (by walk_at "mp") (by walk_at "mp") (Ext.put_new hrr)) (by simp) (fun B2 k v m2' H2 eB2 hkk hP hI => W.body fun QQb hQQb => ?_) (fun m2' H2 hI => ?_))
   · obtain ⟨tk, rfl⟩ := hP
     refine vb hI fun i1 i2 i3 i4 i5 => ?_
     try clear hI
     have X2 := X'.mono eB2
     rw [show ((0 : Int) + (k : Int) * 1) = (k : Int) by exact (an 0x90740042c1121d009 [_])]
     walk_at "r"
     refine kM hh' ?_ (fun _ => rfl)
     with_reducible refine zN X2 (xn _) xo ?_
     walk_at "r"
     with_reducible refine zh X2 (ju _) jv ?_
     walk_at "r"
     with_reducible refine yx (zA (by rw [hlen]; omega)) (fun _ => ?_)
     walk_at "r"
     rw [hlen, show ((k : Int) + 1) = ((k + 1 : Nat) : Int) by exact (an 0x48381822500182243a0 [_]), show ((xs.length : Int) + 1) = ((xs.length + 1 : Nat) : Int) by exact (an 0x48381822500182243a0 [_])]
     refine jA (fun r2 ra rb rc hr2 hr2L => ?_)
     refine (zE (xs.length - k) _ [] (fun j m H => m "left" = some (.str (S' xs) t1) ∧ m "right" = some (.str (S' r) t2) ∧ m "held" = some (.ref He) ∧ m "matcher" = some (.ref S) ∧ (∃ u, m "low" = some (.int k u)) ∧ Ext H1 H)
      (zM zb (smL (by exact (an 0xa890c4a1188510b4280540a542f0903044a0 [_,_,_]) hz hlen hkk) (by exact (an 0x544862500c4084540a542f0903044a0 [_,_]) hz hlen)) (by rw [szL, Nat.add_sub_add_right])) (qr (by walk_at "mp") (by walk_at "mp") (by walk_at "mp") (by walk_at "mp") ⟨_, by walk_at "mp"⟩ (i5.trans (Ext.put_new hr2))) (by simp) (fun B3 j v m3' H3 eB3 hj hP3 hI3 => W.body fun QQb hQQb => ?_) (fun m3' H3 hI3 => ?_))
     · refine hdG fun gQ gZ => ?_
       obtain ⟨tj, rfl⟩ := hP3
       refine kg hI3 fun j1 j2 j3 j4 hq4 j6 => ?_
       try clear hI3
       obtain ⟨uk, j5⟩ := hq4
       refine gZ ?_
       have X3 := X2.mono eB3
       rw [show (((k + 1 : Nat) : Int) + (j : Int) * 1) = ((k + 1 + j : Nat) : Int) by exact (an 0x48381420608940042c1121d08703044a0 [_,_])]
       refine hdG fun gQ gZ => ?_
       refine vK (ok k (k + 1 + j) (by exact (an 0x16050818225020 [_,_])) (by exact (an 0x31123168900b048112114880a103044a0 [_,_,_,_]) hlen hkk hj)) fun bi bj bk zq => z5 zq fun fok sok => ?_
       have M3 : wN C.prog C.w H3 S xs r := M1.ext j6
       have hHe3 := j6 _ _ hHe1
       refine VC (id M3.of) fun dS f n ta tb N J kvs Lo zq => zw zq fun I hM _ => ?_
       refine gZ ?_
       walk_at "r"
       refine zm ?_
       refine xN X3 ?_ _ rfl (by kernel_rfl) (by kernel_rfl)
       walk_at "r"
       refine (yn S dS cSM 213 _ _ rfl I (hM _ (by decide +kernel)) (by kernel_rfl) (by kernel_rfl) (by kernel_rfl) (by kernel_rfl) ?_)
       walk_at "r"
       with_reducible refine zh X3 (ju _) jv ?_
       walk_at "r"
       with_reducible refine yx (zA (by rw [hrlen]; omega)) (fun _ => ?_)
       rw [hrlen]
       walk_at "r"
       refine iy X3 (xG hroom hd') hh' Ext.rfl' M3 (by exact (an 0x14050818225020 [_,_])) (by exact (an 0x31123168900b048112114880a103044a0 [_,_,_,_]) hlen hkk hj) (by exact (an 0xa890c4a0188108a917c4a0 [_,_]) hz hlen) hr fok (fun H4 x dx u1 u2 u3 e4 nx hx4 => ?_)
       refine xh ?_
       refine VX (x1 := 0) X3 hh' hx4 (Vi _) (aE _) (by kernel_rfl) (by kernel_rfl) ?_
       refine zg ?_
       walk_at "r"
       refine zg ?_
       walk_at "r"
       refine zg ?_
       walk_at "r"
       refine z7 ?_
       walk_at "r"
       refine yt (zX (by simp)) (fun T1 nT1 _ => ?_)
       walk_at "r"
       with_reducible refine zJ X3 (QI _) (by kernel_rfl) ?_
       walk_at "r"
       refine QC X3 (xG hroom hd') hh' (by exact (an 0x5a1036a389402d08191184a0 [_,_]) hu') hz hr (Ext.put_new nT1 _ _ (e4 _ _ hHe3)) hst hok hhl (by exact (an 0x14050818225020 [_,_])) (by exact (an 0x31123168900b048112114880a103044a0 [_,_,_,_]) hlen hkk hj) sok (fun H6 T2 v1 v2 v3 e6 nT2 hT2 => ?_)
       have hT1 := e6 _ _ (zb (H := H4) (a := T1) (o := yp [.int bi u1, .int bj u2, .int bk u3] 0))
       have ra : Rd H6 (.ref T1) (.tuple [.int bi, .int bj, .int bk]) := .tuple hT1 (.cons .int (.cons .int (.cons .int .nil)))
       have rb : Rd H6 (.ref T2) (.tuple [.int bi, .int bj, .int bk]) := .tuple hT2 (.cons .int (.cons .int (.cons .int .nil)))
       refine K4 ra rb (jL _ _ _) (jL _ _ _) (by rfl) (by exact (an 0x5a1036a389402d08181084a0 [_,_]) hu') ?_
       rw [X8]
       walk_at "r"
       refine zT (fun z => absurd z (by decide)) (fun _ => ?_)
       walk_at "r"
       exact ⟨by walk_at "mp", by walk_at "mp", by walk_at "mp", by walk_at "mp", ⟨_, by walk_at "mp"⟩, j6.trans (e4.trans ((Ext.put_new nT1).trans e6))⟩
     · refine kg hI3 fun j1 j2 j3 j4 hq4 j6 => ?_
       try clear hI3
       obtain ⟨uk, j5⟩ := hq4
       show W _ _ _ _ _ _ _ _
       walk_at "r"
       exact ⟨by walk_at "mp", by walk_at "mp", by walk_at "mp", by walk_at "mp", j6⟩
   · refine vb hI fun i1 i2 i3 i4 i5 => ?_
     try clear hI
     show W _ _ _ _ _ _ _ _
     walk_at "r"
     with_reducible refine JE ?_
     walk_at "r"
     exact ⟨rfl, e1.trans i5⟩
 · by_cases q : b = He
   · subst q
     rw [hhe] at e; obtain rfl := Option.some.inj e
     exact u.in_ _ _ (hv.2 _ _ zb)
   · exact u.out b o e (za q)
 · have e : (fdS (yq 28)).names.all (fun x => x.2 != .cell) = true := by kernel_rfl
   intro x hx; have := List.all_eq_true.mp e x hx; exact bne_iff_ne.mp this
end
end
section
section
variable {C : Cx} {A : Around} {L : Addr} {E : PV} {m : Mp} {H : HF} {env : Env}
theorem JD {a b : Int} {t u : Tok} {Q : PV} (hb : b ≠ 0) (h : ∀ t, Q (.int (a.fmod b) t) m H) : W C A L (binaryOp .Mod (.int a t) (.int b u)) Q E m H := fun s S g =>
 PyProof.Rows.mod_int' hb ⟨m, H, S, g, rfl, h _⟩
theorem jo {value st : Expr} {lower upper : Option Expr} {p pos : Pos} {Q : PV}
 (h : W C A L (eval value env) (fun o m H => W C A L (evalPart lower env) (fun vl m H => W C A L (evalPart upper env) (fun vu m H => W C A L (evalPart (some st) env) (fun vk m H =>
  ∃ (l : Addr) (its : List Value) (lo hi stp : Option Int), o = .ref l ∧ (∀ h, St C L m H h → h.IsList l its.toArray) ∧ IsPart vl lo ∧ IsPart vu hi ∧ IsPart vk stp ∧ stp ≠ some 0 ∧ its.length ≤ sizeLine ∧ ∀ a k', H a = none → a ≠ L → Q (.ref a) m (put H a (ze (slicePick its.toArray lo hi stp).toList k'))) E m H) E m H) E m H) E m H)
 (ht : ∀ o r, letTemporaryGo value o r = pure () := by intro _ _; rfl) :
 W C A L (eval (.Subscript value (.Slice lower upper (some st) p) pos) env) Q E m H := fun s S g =>
 wpAny_Subscript_Slice_step (T := "list") list_getitem_lookup (h.useQ S g rfl fun o m₁ H₁ s₁ S₁ g₁ e₁ z => wpAny_Slice (z.useQ S₁ g₁ e₁ fun vl m₂ H₂ s₂ S₂ g₂ e₂ z => z.useQ S₂ g₂ e₂ fun vu m₃ H₃ s₃ S₃ g₃ e₃ z => z.useQ S₃ g₃ e₃ fun vk m₄ H₄ s₄ S₄ g₄ e₄ z => by
  refine hdG fun gQ gZ => ?_
  obtain ⟨l, its, lo, hi, stp, rfl, hl, pl, pu, pk, h0, hz, hq⟩ := z
  refine gZ ?_
  have S5 : St C L m₄ H₄ (s₄.heap.push { cls := .type "slice", data := .fields #[vl, vu, vk] }) := S₄.keeps fun _ _ e => Heap.get?_push_of_some _ e
  have hl' : (s₄.heap.push { cls := .type "slice", data := .fields #[vl, vu, vk] }).IsList l its.toArray := hl _ S5
  refine ⟨Heap.IsList.typeIs (s := { s₄ with heap := s₄.heap.push { cls := .type "slice", data := .fields #[vl, vu, vk] } }) hl', ?_⟩
  refine wpAny_getItem_list_slice hl' (Heap.IsSliceOf.new ..) pl pu pk h0 ?_ (by simpa using hz)
  have p := S5.push (o := { cls := .type "list", data := .seq (slicePick its.toArray lo hi stp) }) rfl
  exact ⟨m₄, _, p.1, g₄, e₄, by have := hq _ 0 p.2.1 p.2.2; rw [show ze (slicePick its.toArray lo hi stp).toList 0 = ({ cls := .type "list", data := .seq (slicePick its.toArray lo hi stp) } : Obj) by simp] at this; exact this⟩)) ht
theorem wR {M : Model} {value e₁ e₂ : Expr} {op : Operator} {p pos : Pos} {s : Shared} {E : Value → Shared → Prop} {Q : Value → Shared → Prop}
 (h : wpAny M A (eval value env) (fun o s₁ => ∃ x t, o = .str x t ∧ wpAny M A (eval (.BinOp e₁ op e₂ p) env) (fun i s₂ => ItemOn M A E o i Q s₂) E s₁) E s)
 (ht : ∀ x t r, letTemporaryGo value (.str x t) r = pure ()) :
 wpAny M A (eval (.Subscript value (.BinOp e₁ op e₂ p) pos) env) Q E s := by
 rw [eval_Subscript]
 refine wpAny_bind (wpAny_mono h (fun o s₁ h₁ => ?_) fun _ _ x => x)
 refine zI h₁ fun x t hq2 h₁ => ?_
 obtain rfl := hq2
 refine wpAny_bind (wpAny_holding (wpAny_mono h₁ (fun i s₂ h₂ => wpAny_bind (wpAny_standAt ?_)) fun _ _ x => x))
 refine hdG fun gQ gZ => ?_
 obtain ⟨T, id, hl, hT, hg⟩ := h₂
 refine gZ ?_
 first
  | (refine wpAny_bind ?_; rw [getitemInPython_of_ne hT.not_modules]; refine wpAny_bind (wpAny_specialOf hT hl ?_))
  | refine wpAny_bind (wpAny_specialOf hT hl ?_)
 have fin : wpAny M A (operate [.str x t, i] (getItem (.str x t) i)) (fun r s₃ => wpAny M A (letTemporaryGo value (.str x t) r >>= fun _ => pure r) Q E s₃) E s₂ :=
  wpAny_operating (wpAny_mono hg (fun r s₃ h₃ => wpAny_bind (wpAny_of_eq (ht x t r) (wpAny_pure h₃))) fun _ _ x => x)
 first
  | exact wpAny_pure (wpAny_bind fin)
  | exact wpAny_bind (wpAny_pure (wpAny_bind fin))
  | exact wpAny_bind fin
theorem YV {value e₁ e₂ : Expr} {op : Operator} {p pos : Pos} {Q : PV} (h : W C A L (eval value env) (fun o m H => ∃ x t, o = .str x t ∧ W C A L (eval (.BinOp e₁ op e₂ p) env) (fun i m H => z8 C A L o i Q E m H) E m H) E m H)
 (ht : ∀ x t r, letTemporaryGo value (.str x t) r = pure () := by intro _ _ _; rfl) : W C A L (eval (.Subscript value (.BinOp e₁ op e₂ p) pos) env) Q E m H := fun s S g =>
 wR (h.useQ S g rfl fun o m' H' s' S' g' e z => let ⟨x, t, a, z⟩ := z; (zO x t a (z.useQ S' g' e fun i m' H' s' S' g' e z => z.on S' g' e))) ht
end
end
section
theorem QW (y : Str) : getP [] y = none := rfl
theorem yM (n : PN) (G : List PN) (y : Str) : getP (n :: G) y = if n.name = y then some n else getP G y := by
 unfold getP
 rw [List.find?_cons]
 by_cases h : n.name = y
 · rw [if_pos h]; simp [h]
 · rw [if_neg h]; simp [h]
theorem qi (n : PN) (G : List PN) (x : Str) (f : PN → PN) : yG (n :: G) x f = (if n.name = x then f n else n) :: yG G x f := rfl
theorem xy {f : PN → PN} (hf : ∀ n, (f n).name = n.name) (x y : Str) : ∀ G : List PN, getP (yG G x f) y = if y = x then (getP G x).map f else getP G y
 | [] => by split <;> rfl
 | n :: G => by
  rw [qi, yM, xy hf x y G, yM, yM]
  by_cases h1 : n.name = x
  · rw [if_pos h1, hf]
    by_cases h2 : y = x
    · subst h2; rw [if_pos h1, if_pos rfl, if_pos h1]; rfl
    · have h3 : ¬ n.name = y := fun z => h2 (z.symm.trans h1)
      rw [if_neg h3, if_neg h2, if_neg h2, if_neg h3]
  · rw [if_neg h1]
    by_cases h2 : y = x
    · subst h2; rw [if_neg h1, if_pos rfl, if_pos rfl, if_neg h1]
    · rw [if_neg h2, if_neg h2]
theorem QY (G : List PN) (n : PN) (y : Str) : getP (G ++ [n]) y = (getP G y).or (if n.name = y then some n else none) := by
 induction G with
 | nil => rw [List.nil_append, yM]; rfl
 | cons c r ih =>
  rw [List.cons_append, yM, yM, ih]
  split <;> rfl
theorem yI (G : List PN) (y : Str) : (getP G y).isSome = true ↔ y ∈ G.map (·.name) := by
 induction G with
 | nil => simp [QW]
 | cons c r ih =>
  rw [yM, List.map_cons, List.mem_cons]
  by_cases h : c.name = y
  · rw [if_pos h]; exact ⟨fun _ => .inl h.symm, fun _ => rfl⟩
  · rw [if_neg h, ih]; exact ⟨.inr, fun z => z.resolve_left fun e => h e.symm⟩
theorem Zn {G : List PN} {y : Str} {n : PN} (h : getP G y = some n) : n.name = y ∧ n ∈ G := by
 unfold getP at h
 exact ⟨by simpa using List.find?_some h, List.mem_of_find?_eq_some h⟩
theorem QX {G : List PN} (hn : (G.map (·.name)).Nodup) {n : PN} (h : n ∈ G) : getP G n.name = some n := by
 induction G with
 | nil => cases h
 | cons c r ih =>
  rw [List.map_cons, List.nodup_cons] at hn
  rw [yM]
  rcases List.mem_cons.mp h with q | q
  · rw [if_pos (by rw [q]), q]
  · rw [if_neg (fun z : c.name = n.name => hn.1 (List.mem_map.mpr (zd n q z.symm)))]; exact ih hn.2 q
noncomputable def owe (G : List PN) (Dn : Str → Bool) (w : Str) : Nat := (G.map fun u => if Dn u.name = true then 0 else u.ss.count w).sum
theorem Vb (Dn : Str → Bool) (w : Str) : owe [] Dn w = 0 := rfl
theorem kz (u : PN) (G : List PN) (Dn : Str → Bool) (w : Str) : owe (u :: G) Dn w = (if Dn u.name = true then 0 else u.ss.count w) + owe G Dn w := by
 unfold owe; rw [List.map_cons, List.sum_cons]
theorem jQ {Dn Dn' : Str → Bool} {w : Str} : ∀ {G : List PN}, (∀ u ∈ G, Dn u.name = Dn' u.name) → owe G Dn w = owe G Dn' w
 | [], _ => rfl
 | u :: G, h => by rw [kz, kz, h u List.mem_cons_self, jQ fun v hv => h v (List.mem_cons_of_mem _ hv)]
theorem QF {G : List PN} {Dn : Str → Bool} {w : Str} : owe G Dn w = 0 ↔ ∀ u ∈ G, Dn u.name = false → w ∉ u.ss := by
 induction G with
 | nil => simp [Vb]
 | cons u G ih =>
  rw [kz]
  constructor
  · intro h v hv hd
    rcases List.mem_cons.mp hv with q | q
    · subst q; rw [if_neg (by simp [hd])] at h
      exact List.count_eq_zero.mp (by exact (an 0x18240a140304a0 [_,_]) h)
    · exact ih.mp (by exact (an 0x18240a042304a0 [_,_]) h) v q hd
  · intro h
    have h1 := ih.mpr fun v hv => h v (List.mem_cons_of_mem _ hv)
    cases hd : Dn u.name with
    | true => rw [if_pos rfl]; exact (an 0x182500c1205009 [_]) h1
    | false => rw [if_neg (by decide)]; have := List.count_eq_zero.mpr (h u List.mem_cons_self hd); exact (an 0x304a1182500c12050a0 [_,_]) h1 this
abbrev YN (Dn : Str → Bool) (x : Str) : Str → Bool := fun u => Dn u || decide (u = x)
theorem Yx {Dn : Str → Bool} {w : Str} : ∀ {G : List PN} {u : PN}, (G.map (·.name)).Nodup → u ∈ G → Dn u.name = false → owe G Dn w = u.ss.count w + owe G (YN Dn u.name) w
 | [], _, _, h, _ => by cases h
 | c :: G, u, hn, h, hd => by
  rw [List.map_cons, List.nodup_cons] at hn
  rw [kz, kz]
  rcases List.mem_cons.mp h with q | q
  · subst q
    rw [if_neg (by simp [hd]), if_pos (by simp [YN])]
    rw [jQ (Dn := Dn) (Dn' := YN Dn u.name) fun v hv => by
     have : v.name ≠ u.name := fun z => hn.1 (z ▸ List.mem_map.mpr (zd v hv rfl))
     simp [YN, this]]
    exact (an 0xc020508940050a0 [_,_])
  · have : c.name ≠ u.name := fun z => hn.1 (z ▸ List.mem_map.mpr (zd u q rfl))
    have e : YN Dn u.name c.name = Dn c.name := by simp [YN, this]
    rw [e, Yx hn.2 q hd]
    exact (an 0x30081448108102890a0 [_,_,_])
structure RI (G0 : List PN) (P Dn : Str → Bool) (st : List PN × List Str) : Prop where
 nm : st.1.map (·.name) = G0.map (·.name)
 ss : ∀ u ∈ G0.map (·.name), wr st.1 u = wr G0 u
 a : ∀ w ∈ G0.map (·.name), P w = false → xc st.1 w = owe G0 Dn w
 b : ∀ w ∈ G0.map (·.name), P w = true → Dn w = false → xc st.1 w = -1
 c : ∀ w ∈ G0.map (·.name), P w = true → owe G0 Dn w = 0
 r : ∀ w, w ∈ st.2 ↔ w ∈ G0.map (·.name) ∧ P w = false ∧ owe G0 Dn w = 0
 nd : st.2.Nodup
 sub : ∀ w, Dn w = true → P w = true
theorem xI {f : PN → PN} (hf : ∀ n, (f n).name = n.name) {G : List PN} {x y : Str} : y ≠ x → xc (yG G x f) y = xc G y := fun h => by
 unfold xc; rw [xy hf, if_neg h]
theorem xH {f : PN → PN} (hf : ∀ n, (f n).name = n.name) {G : List PN} {x : Str} {n : PN} (h : getP G x = some n) : xc (yG G x f) x = (f n).np := by
 unfold xc; rw [xy hf, if_pos rfl, h]; rfl
theorem wq {f : PN → PN} (hf : ∀ n, (f n).name = n.name) (hs : ∀ n, (f n).ss = n.ss) {G : List PN} {x y : Str} : wr (yG G x f) y = wr G y := by
 unfold wr; rw [xy hf]
 by_cases h : y = x
 · subst h; rw [if_pos rfl]
   cases getP G y with
   | none => rfl
   | some n => exact hs n
 · rw [if_neg h]
structure RJ (G0 : List PN) (P Dn : Str → Bool) (l : List Str) (st : List PN × List Str) : Prop where
 nm : st.1.map (·.name) = G0.map (·.name)
 ss : ∀ u ∈ G0.map (·.name), wr st.1 u = wr G0 u
 a : ∀ w ∈ G0.map (·.name), P w = false → xc st.1 w = (l.count w + owe G0 Dn w : Nat)
 b : ∀ w ∈ G0.map (·.name), P w = true → Dn w = false → xc st.1 w = -1
 r : ∀ w, w ∈ st.2 ↔ w ∈ G0.map (·.name) ∧ P w = false ∧ l.count w + owe G0 Dn w = 0
 nd : st.2.Nodup
theorem RJ.step {G0 : List PN} {P Dn : Str → Bool} {s : Str} {l : List Str} {st : List PN × List Str} (J : RJ G0 P Dn (s :: l) st) (hs : s ∈ G0.map (·.name)) (hp : P s = false) : RJ G0 P Dn l (vM st s) := by
 have hf : ∀ n : PN, ({ n with np := n.np - 1 } : PN).name = n.name := fun _ => rfl
 obtain ⟨n, hn⟩ := Option.isSome_iff_exists.mp ((yI st.1 s).mpr (J.nm ▸ hs))
 have hnp : xc st.1 s = n.np := by unfold xc; rw [hn]; rfl
 have hc : (s :: l).count s = l.count s + 1 := List.count_cons_self
 have ha := J.a s hs hp
 rw [hc] at ha
 refine ⟨?_, fun u hu => ?_, fun w hw hpw => ?_, fun w hw hpw hd => ?_, fun w => ?_, ?_⟩
 · show (yG st.1 s _).map _ = _
   rw [yo _ _ _ hf]; exact J.nm
 · show wr (yG st.1 s _) u = _
   rw [wq hf (fun _ => rfl)]; exact J.ss u hu
 · show xc (yG st.1 s _) w = _
   by_cases e : w = s
   · subst e
     rw [xH hf hn]
     show n.np - 1 = _
     exact (ar 0x1258b490702840c112816920e050a005044ac [_,_] [_,_]) hnp ha
   · rw [xI hf e, J.a w hw hpw, List.count_cons_of_ne (Ne.symm e)]
 · show xc (yG st.1 s _) w = _
   have e : w ≠ s := fun z => by rw [z, hp] at hpw; cases hpw
   rw [xI hf e]; exact J.b w hw hpw hd
 · show w ∈ (if xc st.1 s - 1 = 0 then st.2 ++ [s] else st.2) ↔ _
   by_cases e : w = s
   · subst e
     split
     · rename_i z
       exact ⟨fun _ => (zl hs hp (by exact (ar 0x496ac241c0a103044a05848482822560c12050a0 [_,_] [_,_]) hnp ha z)), fun _ => List.mem_append_right _ List.mem_cons_self⟩
     · rename_i z
       refine ⟨fun q => ?_, fun q => ?_⟩
       · have := ((J.r w).mp q).2.2; omega
       · have := q.2.2; omega
   · have h1 : w ∈ (if xc st.1 s - 1 = 0 then st.2 ++ [s] else st.2) ↔ w ∈ st.2 := by
      split
      · rw [List.mem_append]; exact ⟨fun q => q.resolve_right fun z => e (List.mem_singleton.mp z), .inl⟩
      · exact Iff.rfl
     rw [h1, J.r w, List.count_cons_of_ne (Ne.symm e)]
 · show (if xc st.1 s - 1 = 0 then st.2 ++ [s] else st.2).Nodup
   split
   · rw [List.nodup_append]
     refine (zl J.nd (by simp) (fun x hx y hy => ?_))
     rw [List.mem_singleton.mp hy]
     intro z
     subst z
     have := ((J.r x).mp hx).2.2
     rw [hc] at this; exact (ar 0x496ac241c0a103044a05848482822560c12050818225019 [_,_] [_,_]) hnp ha ‹_› this
   · exact J.nd
theorem RJ.fold {G0 : List PN} {P Dn : Str → Bool} : ∀ {l : List Str} {st : List PN × List Str}, RJ G0 P Dn l st → (∀ s ∈ l, s ∈ G0.map (·.name) ∧ P s = false) → RJ G0 P Dn [] (l.foldl vM st)
 | [], st, J, _ => J
 | s :: l, st, J, h => by
  rw [List.foldl_cons]
  exact (J.step (h s List.mem_cons_self).1 (h s List.mem_cons_self).2).fold fun x hx => h x (List.mem_cons_of_mem _ hx)
theorem RI.done {G0 : List PN} {P Dn : Str → Bool} {st : List PN × List Str} {x : Str} (I : RI G0 P Dn st) (hn : (G0.map (·.name)).Nodup) (hc : ∀ u ∈ G0, ∀ s ∈ u.ss, s ∈ G0.map (·.name)) (hx : x ∈ G0.map (·.name)) (hp : P x = true) (hd : Dn x = false) :
 RI G0 P (YN Dn x) (doneP st x) := by
 have hf : ∀ n : PN, ({ n with np := -2 } : PN).name = n.name := fun _ => rfl
 obtain ⟨n0, hn0⟩ := Option.isSome_iff_exists.mp ((yI G0 x).mpr hx)
 obtain ⟨en, hmem⟩ := Zn hn0
 have hss : wr st.1 x = n0.ss := by rw [I.ss x hx]; unfold wr; rw [hn0]; rfl
 have hone : ∀ w, owe G0 Dn w = n0.ss.count w + owe G0 (YN Dn x) w := fun w => by
  have := Yx (Dn := Dn) (w := w) hn hmem (by rw [en]; exact hd)
  rw [en] at this; exact this
 have J : RJ G0 P (YN Dn x) n0.ss (yG st.1 x fun n => { n with np := -2 }, st.2) := by
  refine ⟨?_, fun u hu => ?_, fun w hw hpw => ?_, fun w hw hpw hdw => ?_, fun w => ?_, I.nd⟩
  · show (yG st.1 x _).map _ = _
    rw [yo _ _ _ hf]; exact I.nm
  · show wr (yG st.1 x _) u = _
    rw [wq hf (fun _ => rfl)]; exact I.ss u hu
  · show xc (yG st.1 x _) w = _
    have e : w ≠ x := fun z => by rw [z, hp] at hpw; cases hpw
    rw [xI hf e, I.a w hw hpw, hone w]
  · show xc (yG st.1 x _) w = _
    have e : w ≠ x := fun z => by subst z; simp [YN] at hdw
    rw [xI hf e]
    exact I.b w hw hpw (by simp [YN] at hdw; exact hdw.1)
  · rw [I.r w, hone w]
 have Z := J.fold fun s hs => by
  refine ⟨hc n0 hmem s hs, ?_⟩
  cases q : P s with
  | false => rfl
  | true =>
   have := I.c s (hc n0 hmem s hs) q
   rw [hone s] at this
   have : n0.ss.count s = 0 := by exact (an 0x18240a140304a0 [_,_]) this
   exact absurd hs (List.count_eq_zero.mp this)
 unfold doneP
 rw [hss]
 have z0 : ∀ w : Str, ([] : List Str).count w = 0 := fun _ => rfl
 refine ⟨Z.nm, Z.ss, fun w hw hpw => ?_, Z.b, fun w hw hpw => ?_, fun w => ?_, Z.nd, fun w hw => ?_⟩
 · rw [Z.a w hw hpw, z0, Nat.zero_add]
 · have := I.c w hw hpw; rw [hone w] at this; exact (an 0x18240a042304a0 [_,_]) this
 · rw [Z.r w, z0, Nat.zero_add]
 · simp [YN] at hw
   rcases hw with q | q
   · exact I.sub w q
   · rw [q]; exact hp
theorem RI.congr {G0 : List PN} {P Dn P' Dn' : Str → Bool} {st : List PN × List Str} (I : RI G0 P Dn st) (h1 : ∀ w ∈ G0.map (·.name), P w = P' w) (h2 : ∀ w ∈ G0.map (·.name), Dn w = Dn' w) (h3 : ∀ w, Dn' w = true → P' w = true) : RI G0 P' Dn' st := by
 have e : ∀ w, owe G0 Dn w = owe G0 Dn' w := fun w => jQ fun u hu => h2 _ (List.mem_map.mpr (zd u hu rfl))
 refine ⟨I.nm, I.ss, fun w hw hp => ?_, fun w hw hp hd => ?_, fun w hw hp => ?_, fun w => ?_, I.nd, h3⟩
 · rw [I.a w hw (by rw [h1 w hw]; exact hp), e]
 · exact I.b w hw (by rw [h1 w hw]; exact hp) (by rw [h2 w hw]; exact hd)
 · rw [← e]; exact I.c w hw (by rw [h1 w hw]; exact hp)
 · rw [I.r w, e]
   exact ⟨fun ⟨a, b, c⟩ => (zl a ((h1 w a).symm.trans b) c), fun ⟨a, b, c⟩ => (zl a ((h1 w a).trans b) c)⟩
theorem jS {w : Str} : ∀ (xs : List Str) (G : List PN), xc (ZQ G xs) w = if w ∈ xs ∧ w ∈ G.map (·.name) then -1 else xc G w
 | [], G => by rw [if_neg (by simp)]; rfl
 | x :: xs, G => by
  have hf : ∀ n : PN, ({ n with np := -1 } : PN).name = n.name := fun _ => rfl
  show xc (ZQ (yG G x _) xs) w = _
  rw [jS xs, yo _ _ _ hf]
  by_cases h : w ∈ G.map (·.name)
  · by_cases h1 : w ∈ xs
    · rw [if_pos ⟨h1, h⟩, if_pos ⟨List.mem_cons_of_mem _ h1, h⟩]
    · rw [if_neg fun z => h1 z.1]
      by_cases h2 : w = x
      · subst h2
        obtain ⟨n, hn⟩ := Option.isSome_iff_exists.mp ((yI G w).mpr h)
        rw [xH hf hn, if_pos ⟨List.mem_cons_self, h⟩]
      · rw [xI hf h2, if_neg]
        rintro ⟨z, _⟩
        rcases List.mem_cons.mp z with q | q
        · exact h2 q
        · exact h1 q
  · rw [if_neg fun z => h z.2, if_neg fun z => h z.2]
    by_cases h2 : w = x
    · subst h2
      unfold xc
      rw [xy hf, if_pos rfl]
      cases q : getP G w with
      | none => rfl
      | some n => exact absurd ((yI G w).mp (by rw [q]; rfl)) h
    · exact xI hf h2
theorem wY {w : Str} : ∀ (xs : List Str) (G : List PN), wr (ZQ G xs) w = wr G w
 | [], G => rfl
 | x :: xs, G => by
  show wr (ZQ (yG G x _) xs) w = _
  rw [wY xs, wq (f := fun n => { n with np := -1 }) (fun _ => rfl) (fun _ => rfl)]
theorem RI.out {G0 : List PN} {P Dn : Str → Bool} {st : List PN × List Str} (I : RI G0 P Dn st) : RI G0 (fun w => P w || st.2.contains w) Dn (ZQ st.1 st.2, []) := by
 refine ⟨?_, fun u hu => ?_, fun w hw hp => ?_, fun w hw hp hd => ?_, fun w hw hp => ?_, fun w => ?_, List.nodup_nil, fun w hw => ?_⟩
 · rw [kA]; exact I.nm
 · rw [wY]; exact I.ss u hu
 · simp only [Bool.or_eq_false_iff] at hp
   rw [jS, if_neg fun z => by simp at hp; exact hp.2 z.1]
   exact I.a w hw hp.1
 · rw [jS]
   split
   · rfl
   · rename_i z
     have hnot : w ∉ st.2 := fun q => z ⟨q, I.nm ▸ hw⟩
     simp only [Bool.or_eq_true] at hp
     rcases hp with q | q
     · exact I.b w hw q hd
     · exact absurd (List.contains_iff_mem.mp q) hnot
 · simp only [Bool.or_eq_true] at hp
   rcases hp with q | q
   · exact I.c w hw q
   · exact ((I.r w).mp (List.contains_iff_mem.mp q)).2.2
 · refine ⟨fun z => by simp at z, fun ⟨a, b, c⟩ => ?_⟩
   simp only [Bool.or_eq_false_iff] at b
   have := (I.r w).mpr (zl a b.1 c)
   have h2 := List.contains_iff_mem.mpr this
   rw [b.2] at h2; cases h2
 · rw [I.sub w hw]; rfl
theorem RI.mid {r : List Nat} {G0 : List PN} {P Dn : Str → Bool} {st : List PN × List Str} (I : RI G0 P Dn st) (hn : (G0.map (·.name)).Nodup) (hc : ∀ u ∈ G0, ∀ s ∈ u.ss, s ∈ G0.map (·.name)) : ∀ j, j ≤ st.2.length →
 RI G0 (fun w => P w || st.2.contains w) (fun w => Dn w || ((st.2.take j).contains w && fitS r w)) (wP r st j)
 | 0, _ => by
  refine (show RI G0 _ _ (wP r st 0) from I.out).congr (fun w _ => rfl) (fun w _ => by simp) fun w hw => ?_
  simp at hw
  have := I.out.sub w hw
  exact this
 | j + 1, hj => by
  have M := RI.mid (r := r) I hn hc j (by exact (an 0xa420608940290a0 [_,_]) hj)
  have hxj : st.2[j]? = some st.2[j] := List.getElem?_eq_getElem (by exact (an 0xa4206089402d0a0 [_,_]) hj)
  generalize st.2[j] = x at hxj
  rw [Ze hxj, qj hxj]
  have hxm : x ∈ st.2 := List.mem_of_getElem? hxj
  have hx1 := (I.r x).mp hxm
  have hnot : x ∉ st.2.take j := fun q => by
   have hnd := I.nd
   rw [← List.take_append_drop (j + 1) st.2, qj hxj, List.append_assoc, List.nodup_append] at hnd
   exact hnd.2.2 x q x (by simp) rfl
  have hdx : Dn x = false := by
   cases q : Dn x with
   | false => rfl
   | true => have := I.sub x q; rw [hx1.2.1] at this; cases this
  unfold yY
  split
  · rename_i hfit
    refine (M.done hn hc hx1.1 (by simp [hxm]) (by simp [hdx, hnot])).congr (fun w _ => rfl) (fun w _ => ?_) fun w hw => ?_
    · by_cases e : w = x
      · subst e; simp [YN, hfit]
      · simp [YN, e]
    · simp only [Bool.or_eq_true, Bool.and_eq_true] at hw ⊢
      rcases hw with q | q
      · exact .inl (I.sub w q)
      · right
        have := List.contains_iff_mem.mp q.1
        rcases List.mem_append.mp this with z | z
        · exact List.contains_iff_mem.mpr (List.mem_of_mem_take z)
        · rw [List.mem_singleton.mp z]; exact List.contains_iff_mem.mpr hxm
  · rename_i hfit
    have hfit : fitS r x = false := by simpa using hfit
    refine M.congr (fun w _ => rfl) (fun w _ => ?_) fun w hw => ?_
    · by_cases e : w = x
      · subst e; simp [hfit]
      · simp [e]
    · simp only [Bool.or_eq_true, Bool.and_eq_true] at hw ⊢
      rcases hw with q | q
      · exact .inl (I.sub w q)
      · right
        have := List.contains_iff_mem.mp q.1
        rcases List.mem_append.mp this with z | z
        · exact List.contains_iff_mem.mpr (List.mem_of_mem_take z)
        · rw [List.mem_singleton.mp z]; exact List.contains_iff_mem.mpr hxm
theorem RI.round {r : List Nat} {G0 : List PN} {P Dn : Str → Bool} {st : List PN × List Str} (I : RI G0 P Dn st) (hn : (G0.map (·.name)).Nodup) (hc : ∀ u ∈ G0, ∀ s ∈ u.ss, s ∈ G0.map (·.name)) :
 RI G0 (fun w => P w || st.2.contains w) (fun w => Dn w || (st.2.contains w && fitS r w)) (ql r st) := by
 have M := RI.mid (r := r) I hn hc st.2.length (Nat.le_refl _)
 rw [YA, List.take_length] at M
 exact M
theorem RI.start {G0 : List PN} (hn : (G0.map (·.name)).Nodup) (hb : ∀ w ∈ G0.map (·.name), xc G0 w = owe G0 (fun _ => false) w) : RI G0 (fun _ => false) (fun _ => false) (G0, vH G0) := by
 refine ⟨rfl, fun _ _ => rfl, fun w hw _ => hb w hw, (fun w _ h => absurd h (by decide)), (fun w _ h => absurd h (by decide)), fun w => ?_, ?_, (fun w h => absurd h (by decide))⟩
 · show w ∈ (G0.filter fun n => n.np == 0).map (·.name) ↔ _
   constructor
   · intro h
     refine zc (List.mem_map.mp h) fun n hn' e => ?_
     obtain ⟨h1, h2⟩ := List.mem_filter.mp hn'
     have hw : w ∈ G0.map (·.name) := List.mem_map.mpr (zd n h1 e)
     refine (zl hw rfl ?_)
     have := hb w hw
     unfold xc at this
     rw [← e, QX hn h1] at this
     have z : n.np = 0 := by simpa using h2
     have : n.np = (owe G0 (fun _ => false) n.name : Nat) := this
     rw [← e]; exact (ar 0x90958483a058304a0 [_] [_]) z this
   · rintro ⟨hw, _, h0⟩
     obtain ⟨n, hn1⟩ := Option.isSome_iff_exists.mp ((yI G0 w).mpr hw)
     obtain ⟨e, hm⟩ := Zn hn1
     have := hb w hw
     unfold xc at this
     rw [hn1, h0] at this
     have z : n.np = 0 := this
     exact List.mem_map.mpr (zd n (List.mem_filter.mpr ⟨hm, by rw [z]; rfl⟩) e)
 · exact (hn.sublist ((List.filter_sublist (l := G0)).map _))
end
section
theorem KZ {r w : List Nat} {i : Nat} : atB r w i = true ↔ ∃ a b, r = a ++ w ++ b ∧ a.length = i := by
 unfold atB
 rw [Bool.and_eq_true, decide_eq_true_eq, beq_iff_eq]
 constructor
 · rintro ⟨h1, h2⟩
   refine (zO (r.take i) ((r.drop i).drop w.length) ?_ (by rw [List.length_take]; exact (an 0x521028900c400d0a0 [_,_,_]) h1))
   have e : w ++ (r.drop i).drop w.length = r.drop i := by
    have := List.take_append_drop w.length (r.drop i)
    rw [h2] at this; exact this
   rw [List.append_assoc, e, List.take_append_drop]
 · intro hri
   refine zI hri fun a b hq2 hq3 => ?_
   try clear hri
   obtain rfl := hq2
   obtain rfl := hq3
   refine ⟨by simp, ?_⟩
   rw [List.append_assoc, List.drop_left, List.take_left]
theorem xw {r w : List Nat} : qL r w = true ↔ w <:+: r := by
 rw [kF]
 constructor
 · rintro ⟨i, h⟩
   refine zI (KZ.mp h) fun a b e _ => ?_
   exact ⟨a, b, e.symm⟩
 · rintro ⟨a, b, e⟩
   exact ⟨a.length, KZ.mpr (zO a b e.symm rfl)⟩
theorem qH (p : List Nat) : y9 p <:+: p := (List.drop_suffix 1 p).isInfix
theorem kG (p : List Nat) : yS p <:+: p := (List.take_prefix _ p).isInfix
theorem xr (p : List Nat) : (y9 p).length = p.length - 1 := by unfold y9; rw [List.length_drop]
theorem yR (p : List Nat) : (yS p).length = p.length - 1 := by unfold yS; rw [List.length_take]; exact (an 0x3014112801a005044a0 [_])
theorem kX (xs : List Nat) (sz i : Nat) : zv xs sz i <:+: xs := (List.drop_suffix _ _).isInfix.trans (List.take_prefix _ _).isInfix
theorem v4 {xs p : List Nat} (h : p <:+: xs) : ∃ i, i + p.length ≤ xs.length ∧ p = zv xs p.length i := by
 obtain ⟨a, b, rfl⟩ := h
 refine (zd a.length (by simp) ?_)
 unfold zv
 rw [List.append_assoc, show (a ++ (p ++ b)).take (a.length + p.length) = a ++ p by
  rw [← List.append_assoc, List.take_append_of_le_length (by simp)]
  rw [List.take_of_length_le (by simp)], List.drop_left]
noncomputable abbrev tot (G : List PN) (w : Str) : Nat := owe G (fun _ => false) w
theorem ku (u : PN) (G : List PN) (w : Str) : tot (u :: G) w = u.ss.count w + tot G w := by
 unfold tot; rw [kz, if_neg (by decide)]
theorem JL (G G' : List PN) (w : Str) : tot (G ++ G') w = tot G w + tot G' w := by
 induction G with
 | nil => rw [List.nil_append]; show _ = 0 + _; exact (an 0xc02804a0 [_])
 | cons u G ih => rw [List.cons_append, ku, ku, ih]; exact (an 0x300a2028500102890a0 [_,_,_])
theorem jh {f : PN → PN} (hf : ∀ n, (f n).ss = n.ss) (x w : Str) : ∀ G : List PN, tot (yG G x f) w = tot G w
 | [] => rfl
 | u :: G => by
  rw [qi, ku, ku, jh hf x w G]
  split
  · rw [hf]
  · rfl
theorem Yk {f : PN → PN} {x : Str} : ∀ {G : List PN}, x ∉ G.map (·.name) → yG G x f = G
 | [], _ => rfl
 | u :: G, h => by
  rw [List.map_cons, List.mem_cons] at h
  rw [qi, if_neg fun z => h (.inl z.symm), Yk fun z => h (.inr z)]
theorem jF {x y w : Str} : ∀ {G : List PN}, (G.map (·.name)).Nodup → x ∈ G.map (·.name) → tot (yG G x fun n => { n with ss := n.ss ++ [y] }) w = tot G w + if w = y then 1 else 0
 | [], _, h => by cases h
 | u :: G, hn, h => by
  rw [List.map_cons, List.nodup_cons] at hn
  rw [qi, ku, ku]
  by_cases e : u.name = x
  · rw [if_pos e, Yk (by rw [← e]; exact hn.1)]
    show (u.ss ++ [y]).count w + tot G w = _
    rw [List.count_append]
    by_cases q : w = y
    · subst q; rw [if_pos rfl]; simp; exact (an 0xc030448142800a103044a0 [_,_])
    · rw [if_neg q, List.count_cons_of_ne (Ne.symm q)]; simp
  · rw [if_neg e, jF hn.2 (by
     rw [List.map_cons, List.mem_cons] at h
     exact h.resolve_left fun z => e z.symm)]
    exact (an 0x300a2028500102890a0 [_,_,_])
theorem ww {f : PN → PN} (hf : ∀ n, (f n).name = n.name) (hp : ∀ n, (f n).np = n.np) (G : List PN) (x w : Str) : xc (yG G x f) w = xc G w := by
 unfold xc
 rw [xy hf]
 by_cases h : w = x
 · subst h; rw [if_pos rfl]
   cases getP G w with
   | none => rfl
   | some n => exact hp n
 · rw [if_neg h]
structure TI (xs : List Nat) (x : Str) (k : Nat) (G : List PN) : Prop where
 nd : (G.map (·.name)).Nodup
 bal : ∀ w, xc G w = (tot G w + (if w = x then k else 0) : Nat)
 wf : ∀ u ∈ G, ∃ p, u.name = S' p ∧ p ≠ [] ∧ p <:+: xs
 sc : ∀ u ∈ G, ∀ s ∈ u.ss, s ∈ G.map (·.name) ∧ ∃ p, s = S' p ∧ 2 ≤ p.length ∧ (u.name = S' (y9 p) ∨ u.name = S' (yS p))
noncomputable def jE (G G' : List PN) : Prop := ∀ u ∈ G, ∃ u' ∈ G', u'.name = u.name ∧ ∀ s ∈ u.ss, s ∈ u'.ss
theorem jE.rfl' {G : List PN} : jE G G := fun u hu => (zP u hu rfl (fun _ h => h))
theorem jE.trans {G G' G'' : List PN} (a : jE G G') (b : jE G' G'') : jE G G'' := fun u hu => by
 refine zu (a u hu) fun u' h1 e1 s1 => ?_
 refine zu (b u' h1) fun u'' h2 e2 s2 => ?_
 exact (zP u'' h2 (e2.trans e1) (fun s hs => s2 s (s1 s hs)))
theorem jE.names {G G' : List PN} (a : jE G G') {x : Str} (h : x ∈ G.map (·.name)) : x ∈ G'.map (·.name) := by
 refine zc (List.mem_map.mp h) fun u hu hq2 => ?_
 obtain rfl := hq2
 refine zu (a u hu) fun u' h1 e1 _ => ?_
 exact List.mem_map.mpr (zd u' h1 e1)
theorem jE.upd {f : PN → PN} (hf : ∀ n, (f n).name = n.name) (hs : ∀ n, ∀ s ∈ n.ss, s ∈ (f n).ss) (G : List PN) (x : Str) : jE G (yG G x f) := fun u hu => by
 refine (zP (if u.name = x then f u else u) (List.mem_map.mpr (zd u hu rfl)) ?_ ?_)
 · split
   · exact hf u
   · rfl
 · split
   · exact hs u
   · exact fun _ h => h
theorem v6 (G : List PN) (x : Str) : x ∈ (ensureP G x).map (·.name) := by
 unfold ensureP
 split
 · rename_i h
   refine zc (List.any_eq_true.mp h) fun n hn e => ?_
   exact List.mem_map.mpr (zd n hn (of_decide_eq_true e))
 · rw [List.map_append]; exact List.mem_append_right _ List.mem_cons_self
theorem qa (G : List PN) (x : Str) : jE G (ensureP G x) := by
 unfold ensureP
 split
 · exact .rfl'
 · exact fun u hu => (zP u (List.mem_append_left _ hu) rfl (fun _ h => h))
theorem TI.ensure {xs : List Nat} {x y : Str} {k : Nat} {G : List PN} (T : TI xs x k G) {p : List Nat} (hy : y = S' p) (hp : p ≠ []) (hi : p <:+: xs) : TI xs x k (ensureP G y) := by
 have hm := qa G y
 unfold ensureP at hm ⊢
 by_cases h : G.any (fun n => n.name = y) = true
 · rw [if_pos h]; exact T
 · rw [if_neg h] at hm ⊢
   have hny : y ∉ G.map (·.name) := fun z => by
    refine zc (List.mem_map.mp z) fun n hn e => ?_
    exact h (List.any_eq_true.mpr (zd n hn (decide_eq_true e)))
   refine ⟨?_, fun w => ?_, fun u hu => ?_, fun u hu s hs => ?_⟩
   · rw [List.map_append, List.nodup_append]
     exact (zl T.nd (by simp) (fun a ha b hb z => hny (by rw [List.map_singleton, List.mem_singleton] at hb; have e : a = y := z.trans hb; rw [← e]; exact ha)))
   · rw [JL]
     have e1 : tot [⟨y, 0, []⟩] w = 0 := rfl
     rw [e1, Nat.add_zero, ← T.bal w]
     unfold xc
     rw [QY]
     cases q : getP G w with
     | some n => rfl
     | none =>
      by_cases z : y = w
      · rw [if_pos z]; rfl
      · rw [if_neg z]; rfl
   · rcases List.mem_append.mp hu with q | q
     · exact T.wf u q
     · rw [List.mem_singleton.mp q]; exact (zP p hy hp hi)
   · rcases List.mem_append.mp hu with q | q
     · exact ⟨hm.names (T.sc u q s hs).1, (T.sc u q s hs).2⟩
     · rw [List.mem_singleton.mp q] at hs; cases hs
theorem TI.bump {xs : List Nat} {x0 x : Str} {k : Nat} {G : List PN} (T : TI xs x0 0 G) (hx : x ∈ G.map (·.name)) : TI xs x k (xL G x k) := by
 have hf : ∀ n : PN, ({ n with np := n.np + k } : PN).name = n.name := fun _ => rfl
 have hm : jE G (xL G x k) := jE.upd hf (fun _ _ h => h) G x
 have hnames : (xL G x k).map (·.name) = G.map (·.name) := yo _ _ _ hf
 refine ⟨by rw [hnames]; exact T.nd, fun w => ?_, fun u hu => ?_, fun u hu s hs => ?_⟩
 · have e : tot (xL G x k) w = tot G w := jh (f := fun n => { n with np := n.np + k }) (fun _ => rfl) _ _ _
   have hb := T.bal w
   rw [ite_self, Nat.add_zero] at hb
   rw [e]
   by_cases q : w = x
   · subst q
     obtain ⟨n, hn⟩ := Option.isSome_iff_exists.mp ((yI G w).mpr hx)
     have e1 : xc (xL G w k) w = n.np + k := xH hf hn
     have e2 : xc G w = n.np := by unfold xc; rw [hn]; rfl
     rw [e1, if_pos rfl]; exact (ar 0x483a15a310a224b16920e05021021d02c [_,_,_] [_,_]) hb e e2
   · have e1 : xc (xL G x k) w = xc G w := xI hf q
     rw [e1, if_neg q]; exact (ar 0x90740b0907022502c [_] [_]) hb
 · refine zc (List.mem_map.mp hu) fun v hv hq2 => ?_
   obtain rfl := hq2
   have := T.wf v hv
   split <;> exact this
 · refine zc (List.mem_map.mp hu) fun v hv hq2 => ?_
   obtain rfl := hq2
   have hs' : s ∈ v.ss := by split at hs <;> exact hs
   obtain ⟨a, b⟩ := T.sc v hv s hs'
   refine ⟨hm.names a, ?_⟩
   split <;> exact b
theorem TI.succ {xs : List Nat} {x y : Str} {k : Nat} {G : List PN} (T : TI xs x (k + 1) G) (hx : x ∈ G.map (·.name)) {p q : List Nat} (ex : x = S' p) (h2 : 2 ≤ p.length) (ey : y = S' q) (hq : q ≠ []) (hqi : q <:+: xs) (hor : q = y9 p ∨ q = yS p) :
 TI xs x k (vF G y x) ∧ jE G (vF G y x) ∧ ∃ u ∈ vF G y x, u.name = y ∧ x ∈ u.ss := by
 have T1 := T.ensure ey hq hqi
 have hm1 := qa G y
 have hy := v6 G y
 have hx1 := hm1.names hx
 have e0 : vF G y x = yG (ensureP G y) y fun n => { n with ss := n.ss ++ [x] } := rfl
 rw [e0]
 generalize ensureP G y = G1 at T1 hm1 hy hx1
 have hf : ∀ n : PN, ({ n with ss := n.ss ++ [x] } : PN).name = n.name := fun _ => rfl
 have hm2 : jE G1 (yG G1 y fun n => { n with ss := n.ss ++ [x] }) := jE.upd hf (fun _ _ h => List.mem_append_left _ h) G1 y
 refine (zl ⟨by rw [yo _ _ _ hf]; exact T1.nd, fun w => ?_, fun u hu => ?_, fun u hu s hs => ?_⟩ (hm1.trans hm2) ?_)
 · rw [ww hf (fun _ => rfl), T1.bal w, jF T1.nd hy]
   by_cases z : w = x
   · rw [if_pos z, if_pos z, if_pos z]; exact (an 0x483814206089401c08182250a0 [_,_])
   · rw [if_neg z, if_neg z, if_neg z]
 · refine zc (List.mem_map.mp hu) fun v hv hq2 => ?_
   obtain rfl := hq2
   have := T1.wf v hv
   split <;> exact this
 · refine zc (List.mem_map.mp hu) fun v hv hq2 => ?_
   obtain rfl := hq2
   by_cases e : v.name = y
   · rw [if_pos e] at hs ⊢
     rcases List.mem_append.mp hs with z | z
     · obtain ⟨a, b⟩ := T1.sc v hv s z
       exact ⟨hm2.names a, b⟩
     · rw [List.mem_singleton.mp z]
       refine (xx (hm2.names hx1) p ex h2 ?_)
       show v.name = _ ∨ v.name = _
       rw [e, ey]
       exact hor.imp (congrArg S') (congrArg S')
   · rw [if_neg e] at hs ⊢
     obtain ⟨a, b⟩ := T1.sc v hv s hs
     exact ⟨hm2.names a, b⟩
 · refine zc (List.mem_map.mp hy) fun v hv e => ?_
   refine (zP ({ v with ss := v.ss ++ [x] }) (List.mem_map.mpr (zd v hv (by rw [if_pos e]))) e (List.mem_append_right _ List.mem_cons_self))
noncomputable def JG (G : List PN) (p : List Nat) : Prop := S' p ∈ G.map (·.name) ∧ (2 ≤ p.length → (∃ u ∈ G, u.name = S' (y9 p) ∧ S' p ∈ u.ss) ∧ ∃ u ∈ G, u.name = S' (yS p) ∧ S' p ∈ u.ss)
theorem JG.mono {G G' : List PN} {p : List Nat} (t : JG G p) (m : jE G G') : JG G' p := by
 refine ⟨m.names t.1, fun h => ?_⟩
 refine hdG fun gQ gZ => ?_
 refine xA (t.2 h) fun hq0 v hv e' s' => ?_
 obtain ⟨u, hu, e, s⟩ := hq0
 refine zu (m u hu) fun u1 hu1 e1 s1 => ?_
 refine zu (m v hv) fun v1 hv1 e2 s2 => ?_
 refine gZ ?_
 exact (xx (zP u1 hu1 (e1.trans e) (s1 _ s)) v1 hv1 (e2.trans e') (s2 _ s'))
theorem Qu {xs : List Nat} {x0 : Str} {G : List PN} (T : TI xs x0 0 G) {p : List Nat} (hp : p ≠ []) (hi : p <:+: xs) : TI xs (S' p) 0 (xl p G) ∧ jE G (xl p G) ∧ JG (xl p G) p := by
 have T1 := T.ensure (y := S' p) rfl hp hi
 have hm1 := qa G (S' p)
 have hx1 := v6 G (S' p)
 unfold xl
 have hfb : ∀ k : Int, ∀ n : PN, ({ n with np := n.np + k } : PN).name = n.name := fun _ _ => rfl
 by_cases h1 : p.length = 1
 · rw [if_pos h1]
   show TI xs (S' p) 0 (xL (ensureP G (S' p)) (S' p) ((0 : Nat) : Int)) ∧ jE G (xL (ensureP G (S' p)) (S' p) ((0 : Nat) : Int)) ∧ JG (xL (ensureP G (S' p)) (S' p) ((0 : Nat) : Int)) p
   have hm2 : jE (ensureP G (S' p)) (xL (ensureP G (S' p)) (S' p) ((0 : Nat) : Int)) := jE.upd (hfb _) (fun _ _ h => h) _ _
   exact (zl (T1.bump hx1) (hm1.trans hm2) ⟨ hm2.names hx1, fun z => by omega⟩)
 · have hl : 2 ≤ p.length := by have : p.length ≠ 0 := fun z => hp (List.length_eq_zero_iff.mp z); exact (an 0x2c3208940344a01482109 [_]) h1 this
   rw [if_neg h1]
   show TI xs (S' p) 0 (vF (vF (xL (ensureP G (S' p)) (S' p) ((2 : Nat) : Int)) (S' (y9 p)) (S' p)) (S' (yS p)) (S' p)) ∧ _
   have hm2 : jE (ensureP G (S' p)) (xL (ensureP G (S' p)) (S' p) ((2 : Nat) : Int)) := jE.upd (hfb _) (fun _ _ h => h) _ _
   have T2 : TI xs (S' p) 2 (xL (ensureP G (S' p)) (S' p) ((2 : Nat) : Int)) := T1.bump hx1
   have ne1 : y9 p ≠ [] := fun z => by have := xr p; rw [z] at this; simp at this; exact (an 0x2904212301411280499 [_]) hl this
   have ne2 : yS p ≠ [] := fun z => by have := yR p; rw [z] at this; simp at this; exact (an 0x2904212301411280499 [_]) hl this
   refine hdG fun gQ gZ => ?_
   refine zw (T2.succ (hm2.names hx1) rfl hl rfl ne1 ((qH p).trans hi) (.inl rfl)) fun T3 m3 zq => yW zq fun u zq => zw zq fun hu e3 s3 => ?_
   refine zw (T3.succ (m3.names (hm2.names hx1)) rfl hl rfl ne2 ((kG p).trans hi) (.inr rfl)) fun T4 m4 zq => yW zq fun v zq => zw zq fun hv e4 s4 => ?_
   refine zu (m4 u hu) fun u' hu' e3' s3' => ?_
   refine gZ ?_
   exact (zl T4 (((hm1.trans hm2).trans m3).trans m4) ⟨ m4.names (m3.names (hm2.names hx1)), fun _ => (xx (zP u' hu' (e3'.trans e3) (s3' _ s3)) v hv e4 s4)⟩)
theorem XQ {xs : List Nat} {sz : Nat} (h1 : 1 ≤ sz) : ∀ (j : Nat) {x0 : Str} {G : List PN}, j + sz ≤ xs.length + 1 → TI xs x0 0 G → (∃ x1, TI xs x1 0 (xV xs sz j G)) ∧ jE G (xV xs sz j G) ∧ ∀ i < j, JG (xV xs sz j G) (zv xs sz i)
 | 0, x0, G, _, T => (zl ⟨x0, T⟩ (.rfl') (fun i hi => by omega))
 | j + 1, x0, G, hj, T => by
  refine zw (XQ h1 j (by exact (an 0x280c112880a103044a0140608944050a0 [_,_,_]) hj) T) fun hq0 m1 t1 => ?_
  obtain ⟨x1, T1⟩ := hq0
  rw [kT]
  have hl := xt (xs := xs) (sz := sz) (i := j) (by exact (an 0x14060894405081822500a44050a0 [_,_,_]) hj)
  refine zw (Qu T1 (p := zv xs sz j) (fun z => by rw [z] at hl; simp at hl; exact (an 0x14820891880499 [_]) h1 hl) (kX xs sz j)) fun T2 m2 t2 => ?_
  refine (zl ⟨_, T2⟩ (m1.trans m2) (fun i hi => ?_))
  by_cases e : i = j
  · subst e; exact t2
  · exact (t1 i (by exact (an 0xb03044a14058621402d0a0 [_,_]) hi e)).mono m2
theorem Yo (xs : List Nat) : ∀ k, k ≤ xs.length → (∃ x1, TI xs x1 0 (zo xs k)) ∧ ∀ i < k, ∀ j, j ≤ i → JG (zo xs k) (zv xs (xs.length - i) j)
 | 0, _ => ⟨⟨Str.empty, ⟨List.nodup_nil, fun w => by rw [ite_self]; rfl, (fun u hu => absurd hu (by simp [zo])), (fun u hu => absurd hu (by simp [zo]))⟩⟩, fun i hi => by omega⟩
 | k + 1, hk => by
  obtain ⟨⟨x1, T1⟩, t1⟩ := Yo xs k (by exact (an 0xa420608940290a0 [_,_]) hk)
  rw [xU]
  refine zw (XQ (xs := xs) (sz := xs.length - k) (by exact (an 0x14800c112845024282089 [_,_]) hk) (k + 1) (by exact (an 0x29081822500a03044a1020902103044a0 [_,_]) hk) T1) fun a m t => ?_
  refine ⟨a, fun i hi j hj => ?_⟩
  by_cases e : i = k
  · subst e; exact t j (by exact (an 0xa428058182250a0 [_,_]) hj)
  · exact (t1 i (by exact (an 0xb03044a14058621402d0a0 [_,_]) hi e) j hj).mono m
structure TG (xs : List Nat) (G : List PN) : Prop where
 nd : (G.map (·.name)).Nodup
 bal : ∀ w, xc G w = (tot G w : Nat)
 wf : ∀ x ∈ G.map (·.name), ∃ p, x = S' p ∧ p ≠ [] ∧ p <:+: xs
 sc : ∀ u ∈ G, ∀ s ∈ u.ss, s ∈ G.map (·.name) ∧ ∃ p, s = S' p ∧ 2 ≤ p.length ∧ (u.name = S' (y9 p) ∨ u.name = S' (yS p))
 told : ∀ p, p ≠ [] → p <:+: xs → JG G p
theorem Y8 (xs : List Nat) : TG xs (zo xs xs.length) := by
 obtain ⟨⟨x1, T⟩, t⟩ := Yo xs xs.length (Nat.le_refl _)
 refine ⟨T.nd, fun w => by have := T.bal w; rw [ite_self, Nat.add_zero] at this; exact this, fun x hx => ?_, T.sc, fun p hp hi => ?_⟩
 · refine zc (List.mem_map.mp hx) fun u hu hq2 => ?_
   obtain rfl := hq2
   exact T.wf u hu
 · refine zc (v4 hi) fun i h1 h2 => ?_
   have hl : p.length ≠ 0 := fun z => hp (List.length_eq_zero_iff.mp z)
   have := t (xs.length - p.length) (by exact (an 0xa40050a21a2508b40090a0 [_,_,_]) h1 hl) i (by exact (an 0x521028900a04890a0 [_,_,_]) h1)
   rw [show xs.length - (xs.length - p.length) = p.length by exact (an 0x14800a144310820485020 [_,_,_]) h1, ← h2] at this
   exact this
theorem TG.names {xs : List Nat} {G : List PN} (T : TG xs G) {p : List Nat} : S' p ∈ G.map (·.name) ↔ p ≠ [] ∧ p <:+: xs := by
 constructor
 · intro h
   refine zu (T.wf _ h) fun q e a b => ?_
   rw [Ql e]; exact ⟨a, b⟩
 · rintro ⟨a, b⟩; exact (T.told p a b).1
end
section
noncomputable def z3 (r p : List Nat) : Bool := qL r (y9 p) && qL r (yS p)
theorem wD {r p q : List Nat} (h : qL r p = true) (s : q <:+: p) : qL r q = true := xw.mpr (s.trans (xw.mp h))
theorem jx {r p : List Nat} (h : qL r p = true) : z3 r p = true := by
 unfold z3
 rw [wD h (qH p), wD h (kG p)]; rfl
theorem wE (r : List Nat) : qL r [] = true := xw.mpr List.nil_infix
theorem yH {xs p : List Nat} (h : zj xs = true) (s : p <:+: xs) : zj p = true :=
 List.all_eq_true.mpr fun c hc => List.all_eq_true.mp h c (s.subset hc)
theorem ZX {xs r p : List Nat} (h : zj xs = true) (hp : p ≠ []) (s : p <:+: xs) : fitS r (S' p) = qL r p := jI (yH h s) hp
noncomputable def Pk (r : List Nat) (k : Nat) (w : Str) : Bool := decide (w.cps.toList.length ≤ k) && z3 r w.cps.toList
noncomputable def Dk (r : List Nat) (k : Nat) (w : Str) : Bool := decide (w.cps.toList.length ≤ k) && qL r w.cps.toList
theorem Za {xs : List Nat} {G : List PN} (T : TG xs G) {p : List Nat} (hp : p ≠ []) (hi : p <:+: xs) (Dn : Str → Bool) : owe G Dn (S' p) = 0 ↔ p.length = 1 ∨ (Dn (S' (y9 p)) = true ∧ Dn (S' (yS p)) = true) := by
 have hl0 : p.length ≠ 0 := fun z => hp (List.length_eq_zero_iff.mp z)
 rw [QF]
 constructor
 · intro h
   by_cases h1 : p.length = 1
   · exact .inl h1
   · right
     refine hdG fun gQ gZ => ?_
     refine xA ((T.told p hp hi).2 (by exact (an 0x1a2501619044a01482109 [_]) hl0 h1)) fun hq0 v hv e' s' => ?_
     obtain ⟨u, hu, e, s⟩ := hq0
     refine gZ ?_
     refine ⟨?_, ?_⟩
     · cases q : Dn (S' (y9 p)) with
       | true => rfl
       | false => exact absurd s (h u hu (by rw [e]; exact q))
     · cases q : Dn (S' (yS p)) with
       | true => rfl
       | false => exact absurd s' (h v hv (by rw [e']; exact q))
 · intro h u hu hd hs
   refine xA (T.sc u hu _ hs) fun _ q e h2 hor => ?_
   have := Ql e
   subst this
   rcases h with h | ⟨a, b⟩
   · exact (an 0xa410848c8225019 [_]) h2 h
   · rcases hor with z | z
     · rw [z, a] at hd; cases hd
     · rw [z, b] at hd; cases hd
theorem jO {xs r : List Nat} {G : List PN} (T : TG xs G) {k : Nat} {st : List PN × List Str} (I : RI G (Pk r k) (Dk r k) st) (p : List Nat) : S' p ∈ st.2 ↔ (p ≠ [] ∧ p <:+: xs) ∧ p.length = k + 1 ∧ z3 r p = true := by
 rw [I.r, T.names]
 constructor
 · intro hri
   refine zw hri fun hq0 hP ho => ?_
   try clear hri
   obtain ⟨hp, hi⟩ := hq0
   refine ⟨⟨hp, hi⟩, ?_⟩
   have hl0 : p.length ≠ 0 := fun z => hp (List.length_eq_zero_iff.mp z)
   rw [Za T hp hi] at ho
   unfold Pk at hP
   rw [zV] at hP
   rcases ho with h | ⟨a, b⟩
   · have hpi : z3 r p = true := by
      unfold z3
      rw [show y9 p = [] from List.length_eq_zero_iff.mp (by rw [xr]; exact (an 0x641128060905044a0 [_]) h), show yS p = [] from List.length_eq_zero_iff.mp (by rw [yR]; exact (an 0x641128060905044a0 [_]) h), wE]; rfl
     rw [hpi, Bool.and_true, decide_eq_false_iff_not] at hP
     exact ⟨by exact (an 0xb0a4280641128060182250a0 [_,_]) hP h, hpi⟩
   · unfold Dk at a b
     rw [zV, Bool.and_eq_true, decide_eq_true_eq, xr] at a
     rw [zV, Bool.and_eq_true] at b
     have hpi : z3 r p = true := by unfold z3; rw [a.2, b.2]; rfl
     rw [hpi, Bool.and_true, decide_eq_false_iff_not] at hP
     exact ⟨by exact (an 0x2c290a01484141128060182250a0 [_,_]) hP a.1, hpi⟩
 · intro hri
   refine zw hri fun hq0 hl hpi => ?_
   try clear hri
   obtain ⟨hp, hi⟩ := hq0
   refine (zl ⟨hp, hi⟩ ?_ ?_)
   · unfold Pk
     rw [zV, decide_eq_false (by exact (an 0x60182250a02c290a0 [_,_]) hl)]; rfl
   · rw [Za T hp hi]
     right
     unfold z3 at hpi
     rw [Bool.and_eq_true] at hpi
     unfold Dk
     rw [zV, zV, hpi.1, hpi.2, xr, yR, decide_eq_true (by exact (an 0x1806089428052105044a0 [_,_]) hl)]
     exact ⟨rfl, rfl⟩
theorem Qz {xs r : List Nat} {G : List PN} (T : TG xs G) (hl : zj xs = true) : ∀ k, RI G (Pk r k) (Dk r k) (yd r G k)
 | 0 => by
  refine (RI.start T.nd fun w _ => T.bal w).congr (fun w hw => ?_) (fun w hw => ?_) fun w hw => ?_
  · refine zu (T.wf w hw) fun p hq1 hp _ => ?_
    obtain rfl := hq1
    have hl0 : p.length ≠ 0 := fun z => hp (List.length_eq_zero_iff.mp z)
    unfold Pk; rw [zV, decide_eq_false (by exact (an 0x344a02c284a0 [_]) hl0)]; rfl
  · refine zu (T.wf w hw) fun p hq1 hp _ => ?_
    obtain rfl := hq1
    have hl0 : p.length ≠ 0 := fun z => hp (List.length_eq_zero_iff.mp z)
    unfold Dk; rw [zV, decide_eq_false (by exact (an 0x344a02c284a0 [_]) hl0)]; rfl
  · unfold Dk at hw
    rw [Bool.and_eq_true] at hw
    unfold Pk; rw [hw.1, jx hw.2]; rfl
 | k + 1 => by
  have I := Qz (r := r) T hl k
  have R := I.round (r := r) T.nd fun u hu s hs => (T.sc u hu s hs).1
  rw [jM]
  refine R.congr (fun w hw => ?_) (fun w hw => ?_) fun w hw => ?_
  · refine zu (T.wf w hw) fun p hq1 hp hi => ?_
    obtain rfl := hq1
    rw [Bool.eq_iff_iff, Bool.or_eq_true, List.contains_iff_mem, jO T I]
    unfold Pk
    rw [zV, Bool.and_eq_true, Bool.and_eq_true, decide_eq_true_eq, decide_eq_true_eq]
    constructor
    · rintro (⟨a, b⟩ | ⟨_, a, b⟩)
      · exact ⟨by exact (an 0xa428050182250a0 [_,_]) a, b⟩
      · exact ⟨by exact (an 0x1806089428050182250a0 [_,_]) a, b⟩
    · rintro ⟨a, b⟩
      by_cases e : p.length ≤ k
      · exact .inl ⟨e, b⟩
      · exact .inr (zl ⟨hp, hi⟩ (by exact (an 0x14060894280b0a428060182250a0 [_,_]) a e) b)
  · refine zu (T.wf w hw) fun p hq1 hp hi => ?_
    obtain rfl := hq1
    rw [Bool.eq_iff_iff, Bool.or_eq_true, Bool.and_eq_true, List.contains_iff_mem, jO T I, ZX hl hp hi]
    unfold Dk
    rw [zV, Bool.and_eq_true, Bool.and_eq_true, decide_eq_true_eq, decide_eq_true_eq]
    constructor
    · rintro (⟨a, b⟩ | ⟨⟨_, a, _⟩, b⟩)
      · exact ⟨by exact (an 0xa428050182250a0 [_,_]) a, b⟩
      · exact ⟨by exact (an 0x1806089428050182250a0 [_,_]) a, b⟩
    · rintro ⟨a, b⟩
      by_cases e : p.length ≤ k
      · exact .inl ⟨e, b⟩
      · exact .inr ⟨(zl ⟨hp, hi⟩ (by exact (an 0x14060894280b0a428060182250a0 [_,_]) a e) (jx b)), b⟩
  · unfold Dk at hw
    rw [Bool.and_eq_true] at hw
    unfold Pk; rw [hw.1, jx hw.2]; rfl
section
variable {xs r : List Nat} {G : List PN}
theorem xX (T : TG xs G) (hl : zj xs = true) {k : Nat} {x : Str} : x ∈ (yd r G k).2 ↔ ∃ p, x = S' p ∧ (p ≠ [] ∧ p <:+: xs) ∧ p.length = k + 1 ∧ z3 r p = true := by
 have := jO T (Qz (r := r) T hl k) x.cps.toList
 rw [XI] at this
 constructor
 · intro h
   exact (zd _ ((XI x).symm) (this.mp h))
 · rintro ⟨p, rfl, h⟩
   exact this.mpr h
theorem X0 (T : TG xs G) (hl : zj xs = true) (k : Nat) : (yd r G k).2.Nodup := (Qz T hl k).nd
theorem wI (sz : Nat) : ∀ (j : Nat) (p : List Nat), p ∈ dueP xs r sz j ↔ ∃ i < j, p = zv xs sz i ∧ z3 r p = true
 | 0, p => ⟨fun h => (by cases h), fun ⟨i, hi, _⟩ => by omega⟩
 | j + 1, p => by
  rw [ki]
  unfold yX
  have hany : ((dueP xs r sz j).map S').any (· == S' (zv xs sz j)) = true ↔ zv xs sz j ∈ dueP xs r sz j := by
   rw [List.any_eq_true]
   constructor
   · rintro ⟨s, hs, e⟩
     refine zc (List.mem_map.mp hs) fun q hq hq2 => ?_
     obtain rfl := hq2
     rw [← Ql (beq_iff_eq.mp e)]; exact hq
   · intro h
     exact (zd _ (List.mem_map.mpr (zd _ h rfl)) (beq_iff_eq.mpr rfl))
  have ih := wI sz j
  have hpi : (qt r (y9 (zv xs sz j)) && qt r (yS (zv xs sz j))) = z3 r (zv xs sz j) := by unfold z3; rw [YC, YC]
  rw [Bool.and_assoc, hpi]
  by_cases hc : (!((dueP xs r sz j).map S').any (· == S' (zv xs sz j)) && z3 r (zv xs sz j)) = true
  · rw [if_pos hc, List.mem_append, ih, List.mem_singleton]
    rw [Bool.and_eq_true] at hc
    constructor
    · rintro (⟨i, a, b, c⟩ | e)
      · exact (zP i (by exact (an 0xb428058182250a0 [_,_]) a) b c)
      · subst e; exact (zP j (by exact (an 0x5818225020 [_])) rfl hc.2)
    · intro hri
      refine zu hri fun i a b c => ?_
      try clear hri
      by_cases e : i = j
      · subst e; exact .inr b
      · exact .inl (zP i (by exact (an 0xb03044a14058621402d0a0 [_,_]) a e) b c)
  · rw [if_neg hc, ih]
    constructor
    · rintro ⟨i, a, b, c⟩; exact (zP i (by exact (an 0xb428058182250a0 [_,_]) a) b c)
    · intro hri
      refine zu hri fun i a b c => ?_
      try clear hri
      by_cases e : i = j
      · subst e
        subst b
        have : ((dueP xs r sz i).map S').any (· == S' (zv xs sz i)) = true := by
         cases q : ((dueP xs r sz i).map S').any (· == S' (zv xs sz i)) with
         | true => rfl
         | false => exact absurd (by rw [q, c]; rfl) hc
        exact (ih _).mp (hany.mp this)
      · exact (zP i (by exact (an 0xb03044a14058621402d0a0 [_,_]) a e) b c)
theorem v7 (sz : Nat) : ∀ j, (dueP xs r sz j).Nodup
 | 0 => List.nodup_nil
 | j + 1 => by
  rw [ki]
  unfold yX
  have ih := v7 sz j
  split
  · rename_i hc
    rw [Bool.and_eq_true, Bool.and_eq_true] at hc
    rw [List.nodup_append]
    refine (zl ih (by simp) (fun a ha b hb z => ?_))
    rw [List.mem_singleton] at hb
    subst hb z
    have : ((dueP xs r sz j).map S').any (· == S' (zv xs sz j)) = true := List.any_eq_true.mpr (zd _ (List.mem_map.mpr (zd _ ha rfl)) (beq_iff_eq.mpr rfl))
    rw [this] at hc
    exact absurd hc.1.1 (by decide)
  · exact ih
theorem Zf : ∀ {l : List (List Nat)}, l.Nodup → (l.map S').Nodup
 | [], _ => List.nodup_nil
 | a :: l, h => by
  rw [List.nodup_cons] at h
  rw [List.map_cons, List.nodup_cons]
  refine ⟨fun z => ?_, Zf h.2⟩
  refine zc (List.mem_map.mp z) fun b hb e => ?_
  exact h.1 (Ql e ▸ hb)
theorem X5 (T : TG xs G) (hl : zj xs = true) {k : Nat} (hk : k ≤ xs.length) : ((dueP xs r (k + 1) (xs.length - k)).map S').Perm (yd r G k).2 := by
 rw [List.perm_ext_iff_of_nodup (Zf (v7 _ _)) (X0 T hl k)]
 intro x
 rw [xX T hl, List.mem_map]
 constructor
 · rintro ⟨p, hp, rfl⟩
   refine zu ((wI _ _ _).mp hp) fun i hi hq2 hpi => ?_
   obtain rfl := hq2
   have := xt (xs := xs) (sz := k + 1) (i := i) (by exact (an 0x148908b0485120148808182250a0 [_,_,_]) hk hi)
   exact (yU _ rfl ⟨fun z => by rw [z] at this; simp at this, kX _ _ _⟩ this hpi)
 · intro hri
   refine hdG fun gQ gZ => ?_
   refine yw hri fun p hq1 hq2 hlen hpi => ?_
   try clear hri
   obtain rfl := hq1
   obtain ⟨hp, hi⟩ := hq2
   refine zc (v4 hi) fun i h1 h2 => ?_
   refine gZ ?_
   refine (zd p ((wI _ _ _).mpr (zP i (by exact (an 0x290a21806089448c521028d00b04890a0 [_,_,_,_]) hk hlen h1) ?_ hpi)) rfl)
   rw [← hlen]; exact h2
theorem J0 (T : TG xs G) (hl : zj xs = true) {k : Nat} (hk : k ≤ xs.length) : (yd r G k).2.length ≤ xs.length - k := by
 rw [← (X5 (r := r) T hl hk).length_eq, List.length_map]
 exact jz _ _ _ _
theorem Yq (T : TG xs G) (hl : zj xs = true) {k : Nat} (hk : xs.length ≤ k) : (yd r G k).2 = [] := by
 rw [List.eq_nil_iff_forall_not_mem]
 intro x hx
 refine yw ((xX T hl).mp hx) fun p _ hq2 hlen _ => ?_
 obtain ⟨_, hi⟩ := hq2
 have := hi.length_le
 exact (an 0xa428060182250a21481119 [_,_,_]) hk hlen this
theorem Yr (T : TG xs G) (hl : zj xs = true) {k : Nat} (h : (yd r G k).2 = []) : ∀ j, k ≤ j → (yd r G j).2 = [] := by
 intro j hj
 induction j with
 | zero => rw [show (0 : Nat) = k by exact (an 0x5094031009 [_]) hj]; exact h
 | succ j ih =>
  by_cases e : k = j + 1
  · rw [← e]; exact h
  · have ih := ih (by exact (an 0x14060894280b0c03044a140290a0 [_,_]) hj e)
    rw [List.eq_nil_iff_forall_not_mem]
    intro x hx
    refine yw ((xX T hl).mp hx) fun p _ hq2 hlen hpi => ?_
    obtain ⟨hp, hi⟩ := hq2
    unfold z3 at hpi
    rw [Bool.and_eq_true] at hpi
    have : S' (yS p) ∈ (yd r G j).2 := (xX T hl).mpr (yU _ rfl ⟨fun z => by have := yR p; rw [z] at this; simp at this; exact (an 0x180608903044a140301411280499 [_,_]) hlen this, (kG p).trans hi⟩ (by rw [yR]; exact (an 0x60182240c1128500c03044a105044a0 [_,_]) hlen) (jx hpi.2))
    rw [ih] at this; cases this
theorem aM (p : Nat → Prop) (hd : ∀ n, p n ∨ ¬ p n) : ∀ N, p N → ∃ n ≤ N, p n ∧ ∀ k < n, ¬ p k
 | 0, h => (zP 0 (Nat.le_refl _) h (fun k hk => by omega))
 | N + 1, h => by
  rcases hd 0 with h0 | h0
  · exact (zP 0 (Nat.zero_le _) h0 (fun k hk => by omega))
  · refine zu (aM (fun m => p (m + 1)) (fun m => hd (m + 1)) N h) fun n a b c => ?_
    refine (zP (n + 1) (by exact (an 0x148500a03044a103044a0 [_,_]) a) b (fun k hk => ?_))
    cases k with
    | zero => exact h0
    | succ k => exact c k (by exact (an 0x16060894206089402d0a0 [_,_]) hk)
theorem X9 (T : TG xs G) (hl : zj xs = true) (hz : xs.length ≤ 50) : ∃ n ≤ xs.length, xk r G n := by
 refine zu (aM (fun n => (yd r G n).2 = []) (fun n => Classical.em _) xs.length (Yq T hl (Nat.le_refl _))) fun n h1 h2 h3 => ?_
 refine (zd n h1 ⟨ h2, h3, fun k => ?_, fun k x hx => ?_, fun k j x hx => ?_⟩)
 · by_cases e : k ≤ xs.length
   · have := J0 (r := r) T hl e; exact (an 0x552822508a4288502448500ab9044a0 [_,_,_]) hz e this
   · rw [Yq T hl (by exact (an 0x5852042290a0 [_,_]) e)]; simp
 · refine yw ((xX T hl).mp hx) fun p hq1 hq2 hlen hpi => ?_
   obtain rfl := hq1
   obtain ⟨hp, hi⟩ := hq2
   have := hi.length_le
   exact (qs (yH hl hi) hp (by rw [zV]; exact (an 0x2a94112846018225120148500aa5044a0 [_,_,_]) hz hlen this) (T.names.mpr ⟨hp, hi⟩))
 · have I := Qz (r := r) T hl k
   have hxm := List.mem_of_getElem? hx
   have hjl : j < (yd r G k).2.length := (List.getElem?_eq_some_iff.mp hx).1
   have M := I.mid (r := r) T.nd (fun u hu s hs => (T.sc u hu s hs).1) j (by exact (an 0x5a140290a0 [_,_]) hjl)
   have hxr := (I.r x).mp hxm
   refine M.b x hxr.1 (by simp [hxm]) ?_
   have hnot : x ∉ (yd r G k).2.take j := fun q => by
    have hnd := I.nd
    rw [← List.take_append_drop (j + 1) (yd r G k).2, qj hx, List.append_assoc, List.nodup_append] at hnd
    exact hnd.2.2 x q x (by simp) rfl
   have hD : Dk r k x = false := by
    cases q : Dk r k x with
    | false => rfl
    | true => have := I.sub x q; rw [hxr.2.1] at this; cases this
   simp [hD, hnot]
theorem Xf (T : TG xs G) (hl : zj xs = true) {n : Nat} (hn : n ≤ xs.length) (ok : xk r G n) : ym r G n = yN xs r xs.length := by
 have key : ∀ K, K ≤ xs.length → yN xs r K = (List.range (min K n)).map fun k => ji (yd r G k).2 := by
  intro K hK
  induction K with
  | zero => simp [yN]
  | succ K ih =>
   have hp := X5 (r := r) T hl (k := K) (by exact (an 0xa420608940290a0 [_,_]) hK)
   rw [qd, ih (by exact (an 0xa420608940290a0 [_,_]) hK)]
   by_cases e : K < n
   · have hne : dueP xs r (K + 1) (xs.length - K) ≠ [] := fun z => by
      rw [z] at hp
      exact ok.go K e (List.Perm.nil_eq hp).symm
     rw [if_neg hne, show min (K + 1) n = min K n + 1 by exact (an 0x168500c030448342801a103044a0 [_,_]) e, List.range_succ, List.map_append, show min K n = K by exact (an 0x168500c400d0a0 [_,_]) e]
     rw [ZN hp]; rfl
   · have hem : (yd r G K).2 = [] := Yr T hl ok.fin K (by exact (an 0x585a042290a0 [_,_]) e)
     rw [hem] at hp
     have : dueP xs r (K + 1) (xs.length - K) = [] := by
      cases q : dueP xs r (K + 1) (xs.length - K) with
      | nil => rfl
      | cons a b => rw [q] at hp; have := hp.length_eq; simp at this
     rw [if_pos this, show min (K + 1) n = min K n by exact (an 0xb0b428060342801a103044a0 [_,_]) e]
 rw [key _ (Nat.le_refl _), show min xs.length n = n by exact (an 0x148108c420d0a0 [_,_]) hn]; rfl
theorem wG (T : TG xs G) (hl : zj xs = true) {n : Nat} (ok : xk r G n) {x : Str} : x ∈ zH r G n ↔ ∃ p, x = S' p ∧ (p ≠ [] ∧ p <:+: xs) ∧ z3 r p = true ∧ qL r p = false := by
 unfold zH qO
 rw [List.mem_flatMap]
 constructor
 · rintro ⟨k, hk, hx⟩
   refine hdG fun gQ gZ => ?_
   obtain ⟨hx, hf⟩ := List.mem_filter.mp hx
   refine yw ((xX T hl).mp hx) fun p hq1 hq2 hlen hpi => ?_
   obtain rfl := hq1
   obtain ⟨hp, hi⟩ := hq2
   refine gZ ?_
   rw [ZX hl hp hi] at hf
   exact (yU p rfl ⟨hp, hi⟩ hpi (by simpa using hf))
 · intro hri
   refine yw hri fun p hq1 hq2 hpi hf => ?_
   try clear hri
   obtain rfl := hq1
   obtain ⟨hp, hi⟩ := hq2
   have hl0 : p.length ≠ 0 := fun z => hp (List.length_eq_zero_iff.mp z)
   have hm : S' p ∈ (yd r G (p.length - 1)).2 := (xX T hl).mpr (yU p rfl ⟨hp, hi⟩ (by exact (an 0x1a2500c03044828225020 [_]) hl0) hpi)
   refine (zd (p.length - 1) (List.mem_range.mpr ?_) (List.mem_filter.mpr ⟨hm, by rw [ZX hl hp hi, hf]; rfl⟩))
   rcases Nat.lt_or_ge (p.length - 1) n with w | w
   · exact w
   · rw [Yr T hl ok.fin _ w] at hm; cases hm
end
end
section
noncomputable abbrev cI (Lz : Addr) : Env := envOf "law" (fdS (yq 29)) Lz 464 (.ref 463)
noncomputable def ya (x : Int) : Nat := 97 + (x.fmod 3).toNat
noncomputable def leftL (ns : List Int) : List Nat := [97, 98] ++ (pickNums ns (some 1) (some 9) (some 2)).map ya
noncomputable def rightL (ns : List Int) : List Nat := [98, 97] ++ (pickNums ns (some 0) (some 9) (some 2)).map ya
theorem yr (x : Int) : 0 ≤ x.fmod 3 ∧ x.fmod 3 < 3 := by
 rw [Int.fmod_eq_emod_of_nonneg x (by decide)]; omega
theorem qn (x : Int) : ([97, 98, 99] : List Nat)[(x.fmod 3).toNat]? = some (ya x) := by
 obtain ⟨a, b⟩ := yr x
 unfold ya
 have : (x.fmod 3).toNat = 0 ∨ (x.fmod 3).toNat = 1 ∨ (x.fmod 3).toNat = 2 := by exact (ar 0x41609230c4ac3060642122160c822442c182442c [] [_]) a b
 rcases this with e | e | e <;> rw [e] <;> rfl
theorem qK : ∀ p : List Nat, km (p.map fun c => S' [c]) = S' p
 | [] => rfl
 | [c] => rfl
 | c :: d :: p => by
  have ih := qK (d :: p)
  unfold km Txt.join at ih ⊢
  rw [StrLaws.glued_eq_join] at ih ⊢
  have : Str.join Str.empty (S' [c] :: S' [d] :: p.map fun c => S' [c]) = S' [c] ++ Str.empty ++ Str.join Str.empty (S' [d] :: p.map fun c => S' [c]) := rfl
  rw [List.map_cons, List.map_cons, this]
  rw [List.map_cons] at ih
  rw [ih]
  show S' [c] ++ S' [] ++ S' (d :: p) = _
  rw [vN, vN]; rfl
theorem kU : ∀ {vs : List Value} {ss : List Str}, StrsAre vs ss → ∃ l : List (Str × Tok), vs = strValues l ∧ l.map (·.1) = ss
 | _, _, .nil => (zd [] rfl rfl)
 | _, _, .cons x t r => by
  refine zc (kU r) fun l a b => ?_
  exact (zd ((x, t) :: l) (by rw [a]; rfl) (by rw [← b]; rfl))
theorem hU : Str.ofString "abc" = S' [97, 98, 99] := by decide +kernel
theorem abS : Str.ofString "ab" = S' [97, 98] := by decide +kernel
theorem baS : Str.ofString "ba" = S' [98, 97] := by decide +kernel
theorem Vq (P : Params) : (K P).lookup 464 = some bK := by kernel_rfl
theorem QO (P : Params) : codeIn (K P) (.ref 463) "law" = true := by kernel_rfl
theorem Kn (P : Params) : nsIn (K P) mainGlobals "_law_rounds" = some (some (.ref 440)) := by kernel_rfl
theorem Vg (P : Params) : nsIn (K P) mainGlobals "_law_told" = some (some (.ref 433)) := by kernel_rfl
theorem ax (P : Params) : nsIn (K P) mainGlobals "_law_due" = some (some (.ref 447)) := by kernel_rfl
theorem Vf (P : Params) : nsIn (K P) mainGlobals "_law_windows_are" = some (some (.ref 459)) := by kernel_rfl
structure V0 (xs r : List Nat) (n : Nat) : Prop where
 len : xs.length ≤ 6
 rlen : r.length ≤ 100
 let_ : ∀ c ∈ xs, c < 128
 cl : ∀ u ∈ zo xs xs.length, ∀ s ∈ u.ss, (∃ u' ∈ zo xs xs.length, u'.name = s) ∧ u.name.length < s.length
 rok : xk r (zo xs xs.length) n
 hn : n ≤ 100
 rounds : ym r (zo xs xs.length) n = yN xs r xs.length
 dueS : ∀ l ∈ yN xs r xs.length, ∀ s ∈ l, PyData.strOk s = true
 act : decide ((qu r (zo xs xs.length) n : Int) < (zR r (zo xs xs.length) n : Nat)) = !(zH r (zo xs xs.length) n).isEmpty
 text : ∀ t ∈ zZ (zH r (zo xs xs.length) n), PyData.strOk t = true ∧ t.length ≤ 1000
 held : (zH r (zo xs xs.length) n).length ≤ 10000
 win : vi xs r (zZ (zH r (zo xs xs.length) n))
theorem eE (g : List Nd) (c : Nat) (h : ∀ d ∈ g, d.n.ss.length ≤ c) : mu g [] (fun _ => false) ≤ g.length * (2 + c) := by
 unfold mu uns
 simp only [List.map_nil, List.sum_nil, Nat.add_zero]
 induction g with
 | nil => simp
 | cons d r ih =>
  have h1 := h d List.mem_cons_self
  have h2 := ih fun e he => h e (List.mem_cons_of_mem _ he)
  rw [List.map_cons, List.sum_cons, List.length_cons, Nat.succ_mul]
  rw [if_neg (by decide)]
  exact (an 0x291a0148908a02051c212880a10282109 [_,_,_,_]) h1 h2
section
theorem QP {A' : Around} {L' a : Addr} {vs : List Value} {ns : List Int} {k n : Nat} {m0 : Mp} (X' : Bd (K C.w.params) mg mb q loose C) (hd : A'.depth + 29 < recursionLimit) (hh' : A'.handled = none) (hu' : A'.units + 450 < cLine)
 (F' : Frs C A' L' (cI L') []) (m1 : m0 "script" = some (.ref a))
 {ol : Obj} (hB : C.B a = some (false, ol)) (hcls : ol.cls = .type "list") (hdat : ol.data = .seq vs.toArray k) (hi : IntsAre vs ns) (hz : ns.length ≤ 63) (ok : V0 (leftL ns) (rightL ns) n) :
 W C A' (cI L').locals (execs (fdB (yq 29)) (cI L')) (fun fl _ _ => (match fl with | .ret v => v | _ => .none) = .bool true) (fun _ _ _ => False) m0 (fun _ => none) := by
 have hvl : vs.length ≤ 63 := by rw [hi.length]; exact hz
 refine yc (env := cI L') ?_
 generalize (fun _ => none : HF) = H0
 walk_at "r"
 with_reducible refine zC ?_
 walk_at "r"
 refine (zy ("str") ("str.join") PySem.F.plainAttrs_str PySem.F.slot_str_join PySem.F.type_str_join (.str) ?_)
 walk_at "r"
 refine kJ (cl := []) hh' ?_ (by kernel_rfl) (by decide +kernel) (by kernel_rfl) (by decide +kernel) (by kernel_rfl) (fun _ => rfl)
 refine jo ?_ (fun _ _ => rfl)
 walk_at "r"
 refine (qM a vs (some 1) (some 9) (some 2) (ZT rfl (fun h S => ⟨ol, S.kb _ _ hB, hcls, k, hdat⟩) (.int _ _) (.int _ _) (.int _ _) (by decide) (zX (by exact (an 0x157e089402a055830c4a0 [_]) hvl)) (fun sl kk nsl _ => ?_)))
 have hpk := hi.pick (some 1) (some 9) (some 2)
 have hpl := length_pickNums_le hi (some 1) (some 9) (some 2)
 generalize (slicePick vs.toArray (some 1) (some 9) (some 2)).toList = ws at hpk nsl ⊢
 generalize hpsl : pickNums ns (some 1) (some 9) (some 2) = psl at hpk hpl
 have hsl : put H0 sl (ze ws kk) sl = some (ze ws kk) := zb
 generalize put H0 sl (ze ws kk) = Hsl at hsl ⊢
 refine ⟨ws.length, _, [sl], fun j ys H' => H' = Hsl ∧ StrsAre ys ((psl.take j).map fun x => S' [ya x]), (zX (by rw [hpk.length]; exact (an 0x2afc11284521402a055830c4a0 [_,_]) hz hpl)), y7 hsl, ⟨rfl, .nil⟩, fun b hb => ?_, ?_, ?_⟩
 · obtain rfl := List.mem_singleton.mp hb
   exact .inr ⟨_, fun k ys H z => z.1 ▸ hsl⟩
 · intro B4 Lc k4 ys v mc H5 eB4 hk4 hys hP4 hmc hI4
   obtain ⟨rfl, hys'⟩ := hI4
   refine zI (jy hpk hP4) fun x tx hq2 hxk => ?_
   obtain rfl := hq2
   have X4 := X'.mono eB4
   have htk : psl.take (k4 + 1) = psl.take k4 ++ [x] := by rw [List.take_add_one, hxk]; rfl
   refine vm ?_
   show W _ _ _ _ _ _ _ _
   walk_at "r"
   refine YV ?_ (fun _ _ _ => rfl)
   walk_at "r"
   refine (zO _ _ rfl ?_)
   walk_at "r"
   refine JD (b := 3) (by decide) (fun _ => ?_)
   rw [hU]
   rw [show x.fmod 3 = (((x.fmod 3).toNat : Nat) : Int) by have := (yr x).1; exact (ar 0x20b04920e2162c [] [_]) this]
   refine z8.str (zU (by have := (yr x).2; exact (ar 0x8c312b0548be2442c [] [_]) this)) (by rw [yh (qn x)]; rfl) (fun tc => ?_)
   rw [xQ (qn x)]
   refine ⟨rfl, ?_⟩
   rw [htk, List.map_append]
   exact yk hys'
 intro ys H5 hI5 D kD nD nDL
 obtain ⟨rfl, hys⟩ := hI5
 rw [hpk.length, List.take_length] at hys
 walk_at "r"
 refine zc (kU hys) fun sv hq1 hsv => ?_
 obtain rfl := hq1
 have hem : Str.ofString "" = Str.empty := by decide +kernel
 refine YT zb (by rw [hem, hsv]; exact xf (by rw [List.length_map]; exact (an 0xabf044a1148500a99244a0 [_,_]) hz hpl) (fun t ht => by refine zc (List.mem_map.mp ht) fun x _ hq2 => ?_; obtain rfl := hq2; rw [yD]; simp)) (fun tj => ?_)
 have hjoin : Txt.join (Str.ofString "") (sv.map (·.1)) = S' (psl.map ya) := by
  rw [hem, hsv]
  have := qK (psl.map ya)
  rw [List.map_map] at this
  exact this
 rw [hjoin]
 refine W.weak (Ext.put_new nD) ?_
 walk_at "r"
 rw [abS]
 refine jC (zX (by rw [yD, yD, List.length_map]; simp; exact (an 0x55f822508a4280540ab061890282109 [_,_]) hz hpl)) (fun _ => ?_)
 rw [vN, ← hpsl]
 show W _ _ _ (execs _ _) _ _ _ _
 walk_at "r"
 with_reducible refine zC ?_
 walk_at "r"
 refine (zy ("str") ("str.join") PySem.F.plainAttrs_str PySem.F.slot_str_join PySem.F.type_str_join (.str) ?_)
 walk_at "r"
 refine kJ (cl := []) hh' ?_ (by kernel_rfl) (by decide +kernel) (by kernel_rfl) (by decide +kernel) (by kernel_rfl) (fun _ => rfl)
 refine jo ?_ (fun _ _ => rfl)
 walk_at "r"
 refine (qM a vs (some 0) (some 9) (some 2) (ZT rfl (fun h S => ⟨ol, S.kb _ _ hB, hcls, k, hdat⟩) (.int _ _) (.int _ _) (.int _ _) (by decide) (zX (by exact (an 0x157e089402a055830c4a0 [_]) hvl)) (fun sl kk nsl _ => ?_)))
 have hpk := hi.pick (some 0) (some 9) (some 2)
 have hpl := length_pickNums_le hi (some 0) (some 9) (some 2)
 generalize (slicePick vs.toArray (some 0) (some 9) (some 2)).toList = ws at hpk nsl ⊢
 generalize hpsr : pickNums ns (some 0) (some 9) (some 2) = psr at hpk hpl
 have hsl : put H5 sl (ze ws kk) sl = some (ze ws kk) := zb
 generalize put H5 sl (ze ws kk) = Hsr at hsl ⊢
 refine ⟨ws.length, _, [sl], fun j ys H' => H' = Hsr ∧ StrsAre ys ((psr.take j).map fun x => S' [ya x]), (zX (by rw [hpk.length]; exact (an 0x2afc11284521402a055830c4a0 [_,_]) hz hpl)), y7 hsl, ⟨rfl, .nil⟩, fun b hb => ?_, ?_, ?_⟩
 · obtain rfl := List.mem_singleton.mp hb
   exact .inr ⟨_, fun k ys H z => z.1 ▸ hsl⟩
 · intro B4 Lc k4 ys v mc H6 eB4 hk4 hys hP4 hmc hI4
   obtain ⟨rfl, hys'⟩ := hI4
   refine zI (jy hpk hP4) fun x tx hq2 hxk => ?_
   obtain rfl := hq2
   have X4 := X'.mono eB4
   have htk : psr.take (k4 + 1) = psr.take k4 ++ [x] := by rw [List.take_add_one, hxk]; rfl
   refine vm ?_
   show W _ _ _ _ _ _ _ _
   walk_at "r"
   refine YV ?_ (fun _ _ _ => rfl)
   walk_at "r"
   refine (zO _ _ rfl ?_)
   walk_at "r"
   refine JD (b := 3) (by decide) (fun _ => ?_)
   rw [hU]
   rw [show x.fmod 3 = (((x.fmod 3).toNat : Nat) : Int) by have := (yr x).1; exact (ar 0x20b04920e2162c [] [_]) this]
   refine z8.str (zU (by have := (yr x).2; exact (ar 0x8c312b0548be2442c [] [_]) this)) (by rw [yh (qn x)]; rfl) (fun tc => ?_)
   rw [xQ (qn x)]
   refine ⟨rfl, ?_⟩
   rw [htk, List.map_append]
   exact yk hys'
 intro ys H6 hI5 D kD nD nDL
 obtain ⟨rfl, hys⟩ := hI5
 rw [hpk.length, List.take_length] at hys
 walk_at "r"
 refine zc (kU hys) fun sv hq1 hsv => ?_
 obtain rfl := hq1
 have hem : Str.ofString "" = Str.empty := by decide +kernel
 refine YT zb (by rw [hem, hsv]; exact xf (by rw [List.length_map]; exact (an 0xabf044a1148500a99244a0 [_,_]) hz hpl) (fun t ht => by refine zc (List.mem_map.mp ht) fun x _ hq2 => ?_; obtain rfl := hq2; rw [yD]; simp)) (fun tj => ?_)
 have hjoin : Txt.join (Str.ofString "") (sv.map (·.1)) = S' (psr.map ya) := by
  rw [hem, hsv]
  have := qK (psr.map ya)
  rw [List.map_map] at this
  exact this
 rw [hjoin]
 refine W.weak (Ext.put_new nD) ?_
 walk_at "r"
 rw [baS]
 refine jC (zX (by rw [yD, yD, List.length_map]; simp; exact (an 0x55f822508a4280540ab061890282109 [_,_]) hz hpl)) (fun _ => ?_)
 rw [vN, ← hpsr]
 show W _ _ _ (execs _ _) _ _ _ _
 walk_at "r"
 rw [show S' ([97, 98] ++ (pickNums ns (some 1) (some 9) (some 2)).map ya) = S' (leftL ns) from rfl, show S' ([98, 97] ++ (pickNums ns (some 0) (some 9) (some 2)).map ya) = S' (rightL ns) from rfl]
 generalize leftL ns = xs at ok ⊢
 generalize rightL ns = r at ok ⊢
 clear hys hsl hpk hpl hjoin
 with_reducible refine zJ X' (Vg _) (by kernel_rfl) ?_
 walk_at "r"
 have hlen := ok.len
 refine We X' (Nat.lt_of_le_of_lt (Nat.add_le_add_left (by decide) _) hd) hh' (by exact (an 0x15184a015204a0 [_]) hlen) (fun H1 Hs S dS N g u1 SA hG => ?_)
 have hsm := xD xs xs.length (by exact (an 0x15184a015204a0 [_]) hlen)
 have hgl : g.length ≤ 288 := by have := hsm.1; rw [← hG, List.length_map] at this; exact (an 0x15184a114150d0822500a81244a0 [_,_]) hlen this
 have hgs : ∀ d ∈ g, d.n.ss.length ≤ 288 := fun d hd => by have := hsm.2 d.n (by rw [← hG]; exact List.mem_map.mpr (zd d hd rfl)); exact (an 0x15184a114150d0822500a81244a0 [_,_]) hlen this
 have hmu : mu g [] (fun _ => false) ≤ 100000 := Nat.le_trans (eE g 288 hgs) (by
  have : g.length * (2 + 288) ≤ 288 * (2 + 288) := Nat.mul_le_mul_right _ hgl
  omega)
 have hcl : ∀ d ∈ g, ∀ s ∈ d.n.ss, (∃ d' ∈ g, d'.n.name = s) ∧ d.n.name.length < s.length := fun d hd s hs => by
  refine hdG fun gQ gZ => ?_
  obtain ⟨⟨u', hu', e⟩, lt⟩ := ok.cl d.n (by rw [← hG]; exact List.mem_map.mpr (zd d hd rfl)) s hs
  refine gZ ?_
  rw [← hG] at hu'
  refine zc (List.mem_map.mp hu') fun d' hd' hq2 => ?_
  obtain rfl := hq2
  exact ⟨(zd d' hd' e), lt⟩
 have rok : xk r (g.map (·.n)) n := by rw [hG]; exact ok.rok
 walk_at "r"
 refine zm ?_
 with_reducible refine zJ X' (Kn _) (by kernel_rfl) ?_
 walk_at "r"
 refine QE (fun s => s.length) X' (Nat.lt_of_le_of_lt (Nat.add_le_add_left (by decide) _) hd) hh' (by exact (an 0x5a1030a709402d08191184a0 [_,_]) hu') F' u1.in_ SA (by exact (an 0x540922500a917c4a0 [_]) hgl) hmu hcl (fun d hd => Nat.le_trans (hgs d hd) (by exact (an 0x2a45f1302489 []))) ok.rlen rok ok.hn (fun H2 Hf2 Hs2 g2 R Ta Ro He vs2 k2 hvs hk2 u2 eF eS hTa hRo hL hHe hhv SA2 => ?_)
 rw [hG] at hL hhv SA2
 refine xh ?_
 refine YU (x1 := 0) hh' hTa (by kernel_rfl) (by kernel_rfl) ?_
 refine zg ?_
 walk_at "r"
 refine zg ?_
 walk_at "r"
 refine z7 ?_
 walk_at "r"
 refine kH X' ?_ _ rfl
 walk_at "r"
 refine z4 SA2.inst fun fb Ib fb1 fb2 fb3 fb4 fb5 => ?_
 refine (yn S dS cTS 386 _ 4 rfl (Ib.ext eS) (fb5 _ (by decide +kernel) (by decide +kernel) (by decide +kernel) (by decide +kernel)) (by kernel_rfl) (by kernel_rfl) (by kernel_rfl) (by kernel_rfl) ?_)
 refine iw X' (by exact (an 0x16840dd12805a1030c4a0 [_,_]) hd) eS SA2 (by simp) ?_
 rw [ok.act, show (!(zH r (zo xs xs.length) n).isEmpty || !([] : List Str).isEmpty) = !(zH r (zo xs xs.length) n).isEmpty by simp]
 walk_at "r"
 with_reducible refine Jk ?_
 walk_at "r"
 with_reducible refine zJ X' (ax _) (by kernel_rfl) ?_
 walk_at "r"
 refine fc X' (Nat.lt_of_le_of_lt (Nat.add_le_add_left (by decide) _) hd) hh' (by exact (an 0x5a1030a709402d081890c4a0 [_,_]) hu') (by exact (an 0x15184a015204a0 [_]) hlen) ok.rlen ok.let_ (fun H3 D vs3 k3 e3 nD hD hLD => ?_)
 rw [ok.rounds] at hL
 have ra : Rd H3 (.ref Ro) (.list ((yN xs r xs.length).map xm)) := .list (e3 _ _ hRo) (hL.ext e3).rd
 have rb : Rd H3 (.ref D) (.list ((yN xs r xs.length).map xm)) := .list hD hLD.rd
 refine VW ra rb (jj _ ok.dueS) (jj _ ok.dueS) (jT _ _) (by exact (an 0x5a1030a709402d08181084a0 [_,_]) hu') ?_
 rw [same_refl]
 walk_at "r"
 with_reducible refine Jk ?_
 walk_at "r"
 refine zK (by decide +kernel) (fun e ne _ => ?_)
 have e4 := Ext.put_new (o := ze [] 0) ne
 have rc : Rd (put H3 e (ze [] 0)) (.ref He) (xm (zZ (zH r (zo xs xs.length) n))) := .list (e4 _ _ (e3 _ _ hHe)) (qI hhv)
 have rd : Rd (put H3 e (ze [] 0)) (.ref e) (.list []) := .list zb .nil
 refine K4 rc rd (kW _ fun s hs => (ok.text s hs).1) (by decide +kernel) (kB _ []) (by exact (an 0x5a1030a709402d08181084a0 [_,_]) hu') ?_
 have hsame : (!Spec.same (xm (zZ (zH r (zo xs xs.length) n))) (.list [])) = !(zH r (zo xs xs.length) n).isEmpty := by
  unfold zZ
  cases zH r (zo xs xs.length) n with
  | nil => decide +kernel
  | cons a b => rfl
 rw [hsame]
 refine VW (da := .bool (!(zH r (zo xs xs.length) n).isEmpty)) (db := .bool (!(zH r (zo xs xs.length) n).isEmpty)) .bool .bool (by rfl) (by rfl) (by rfl) (by exact (an 0x5a1030a709402d08181084a0 [_,_]) hu') ?_
 rw [same_refl]
 walk_at "r"
 with_reducible refine JF ?_
 walk_at "r"
 with_reducible refine zJ X' (Vf _) (by kernel_rfl) ?_
 walk_at "r"
 refine XJ X' (Nat.lt_of_le_of_lt (Nat.add_le_add_left (by decide) _) hd) hh' (by exact (an 0x5a1030a709402d08199244a0 [_,_]) hu') (by exact (an 0xa8c2500a890c4a0 [_]) hlen) ok.rlen (e4 _ _ (e3 _ _ hHe)) hhv ok.text (by unfold zZ; rw [List.length_map]; exact ok.held) ok.win ?_
 rfl
end
end
section
section
variable {xs r : List Nat} {G : List PN}
theorem vY (r : List Nat) (G : List PN) : ∀ n, zR r G n = qu r G n + (zH r G n).length
 | 0 => rfl
 | n + 1 => by
  have ih := vY r G n
  have e1 : zR r G (n + 1) = zR r G n + (yd r G n).2.length := by unfold zR; rw [kx]
  have e2 : qu r G (n + 1) = qu r G n + (KL r (yd r G n).2).length := by unfold qu; rw [kx]
  have e3 : zH r G (n + 1) = zH r G n ++ qO r (yd r G n).2 := by unfold zH; rw [List.range_succ, List.flatMap_append]; simp
  have e4 : ∀ l : List Str, l.length = (KL r l).length + (qO r l).length := fun l => by
   unfold KL qO
   induction l with
   | nil => rfl
   | cons a l ih =>
    rw [List.filter_cons, List.filter_cons]
    cases fitS r a <;> simp <;> omega
  rw [e1, e2, e3, List.length_append, ih, e4 (yd r G n).2]
  exact (an 0x3008146840a240040a344050a0 [_,_,_,_])
theorem kY (r : List Nat) : ∀ (n : Nat) (q : List Nat), q.length ≤ n → qL r q = false → ∃ p, p ≠ [] ∧ p <:+: q ∧ z3 r p = true ∧ qL r p = false
 | 0, q, hq, h => by
  have : q = [] := List.length_eq_zero_iff.mp (by exact (an 0x50940304a0 [_]) hq)
  subst this
  rw [wE] at h; cases h
 | n + 1, q, hq, h => by
  have hne : q ≠ [] := fun z => by rw [z, wE] at h; cases h
  have hl0 : q.length ≠ 0 := fun z => hne (List.length_eq_zero_iff.mp z)
  cases h1 : qL r (y9 q) with
  | false =>
   refine yw (kY r n (y9 q) (by rw [xr]; exact (an 0x1406089428052105044a0 [_,_]) hq) h1) fun p a b c d => ?_
   exact (yU p a (b.trans (qH q)) c d)
  | true =>
   cases h2 : qL r (yS q) with
   | false =>
    refine yw (kY r n (yS q) (by rw [yR]; exact (an 0x1406089428052105044a0 [_,_]) hq) h2) fun p a b c d => ?_
    exact (yU p a (b.trans (kG q)) c d)
   | true => exact (yU q hne List.infix_rfl (by unfold z3; rw [h1, h2]; rfl) h)
theorem KS (T : TG xs G) (hl : zj xs = true) {n : Nat} (ok : xk r G n) {q : List Nat} (hq : q <:+: xs) : kl (zZ (zH r G n)) q = qL r q := by
 have hall : kl (zZ (zH r G n)) q = true ↔ ∀ p, (p ≠ [] ∧ p <:+: xs) → z3 r p = true → qL r p = false → qL q p = false := by
  unfold kl zZ
  rw [List.all_eq_true]
  constructor
  · intro h p hp h1 h2
    have := h (xW p) (List.mem_map.mpr (zd (S' p) ((wG T hl ok).mpr (yU p rfl hp h1 h2)) (by rw [zV])))
    rw [jI (yH hl hp.2) hp.1] at this
    simpa using this
  · intro h t ht
    refine zc (List.mem_map.mp ht) fun x hx hq2 => ?_
    obtain rfl := hq2
    refine yw ((wG T hl ok).mp hx) fun p hq1 hp h1 h2 => ?_
    obtain rfl := hq1
    rw [zV, jI (yH hl hp.2) hp.1, h p hp h1 h2]; rfl
 rw [Bool.eq_iff_iff, hall]
 constructor
 · intro h
   cases e : qL r q with
   | true => rfl
   | false =>
    refine yw (kY r q.length q (Nat.le_refl _) e) fun p a b c d => ?_
    have := h p ⟨a, b.trans hq⟩ c d
    rw [xw.mpr b] at this; cases this
 · intro h p hp h1 h2
   cases e : qL q p with
   | false => rfl
   | true => rw [wD h (xw.mp e)] at h2; cases h2
theorem wK {xs r : List Nat} {k i j : Nat} (hi : i + k ≤ xs.length) : atB r (zv xs k i) j = true ↔ j + k ≤ r.length ∧ blk xs r i j k := by
 have hl := xt hi
 have hp : ∀ d, (zv xs k i)[d]? = if d < k then xs[i + d]? else none := fun d => by
  unfold zv
  rw [List.getElem?_drop, List.getElem?_take]
  by_cases h : d < k
  · rw [if_pos h, if_pos (by exact (an 0xc448c5a2422c0a240050a0 [_,_,_,_]) hl h)]
  · rw [if_neg h, if_neg (by exact (an 0x311232c2d1212c2c0a240050a0 [_,_,_,_]) hl h)]
 have hr : ∀ d, ((r.drop j).take k)[d]? = if d < k then r[j + d]? else none := fun d => by
  rw [List.getElem?_take, List.getElem?_drop]
 unfold atB
 rw [hl, Bool.and_eq_true, decide_eq_true_eq, beq_iff_eq]
 constructor
 · rintro ⟨a, b⟩
   refine ⟨a, fun d hd => ?_⟩
   have : ((r.drop j).take k)[d]? = (zv xs k i)[d]? := by rw [b]
   rw [hp, hr, if_pos hd, if_pos hd] at this
   exact this
 · rintro ⟨a, b⟩
   refine ⟨a, List.ext_getElem? fun d => ?_⟩
   rw [hp, hr]
   by_cases h : d < k
   · rw [if_pos h, if_pos h]; exact b d h
   · rw [if_neg h, if_neg h]
theorem Y3 (T : TG xs G) (hl : zj xs = true) {n : Nat} (ok : xk r G n) : vi xs r (zZ (zH r G n)) := by
 intro lo hi h1 h2
 refine vK (Vz (xs := xs) (ys := r) (lo := lo) (hi := hi) (by exact (an 0x5a140290a0 [_,_]) h1) h2) fun bi bj bk zq => xS zq fun fok h0 hb best => ?_
 refine (qp bi bj bk (yg fok ?_))
 have hcl : ∀ sz at_, kl (zZ (zH r G n)) (zv xs sz at_) = qL r (zv xs sz at_) := fun sz at_ => KS T hl ok (kX _ _ _)
 have l1 := fok.l
 have l2 := fok.hi_
 have l3 := fok.hj
 refine ⟨fun sz at_ a b c => ?_, h0, l1, l2, fun a => ?_, fun a at_ b c => ?_⟩
 · rw [hcl]
   cases e : qL r (zv xs sz at_) with
   | false => rfl
   | true =>
    obtain ⟨j, hj⟩ := kF.mp e
    obtain ⟨d1, d2⟩ := (wK (by exact (an 0xa448c523028500a44050a0 [_,_,_,_]) h2 c)).mp hj
    have := (best at_ j sz b c d1 d2).1
    omega
 · have hat : atB r (zv xs bk bi) bj = true := (wK (by exact (an 0xa448c523028500a44050a0 [_,_,_,_]) h2 l2)).mpr ⟨l3, hb⟩
   refine ⟨by rw [hcl]; exact kF.mpr ⟨bj, hat⟩, aY hat fun i hi' => ?_⟩
   cases e : atB r (zv xs bk bi) i with
   | false => rfl
   | true =>
    obtain ⟨d1, d2⟩ := (wK (by exact (an 0xa448c523028500a44050a0 [_,_,_,_]) h2 l2)).mp e
    rcases (best bi i bk l1 l2 d1 d2).2 rfl a with w | ⟨_, w⟩
    · omega
    · omega
 · rw [hcl]
   cases e : qL r (zv xs bk at_) with
   | false => rfl
   | true =>
    obtain ⟨j, hj⟩ := kF.mp e
    obtain ⟨d1, d2⟩ := (wK (by exact (an 0x148918a46050a4169100a44050a0 [_,_,_,_,_]) h2 l2 c)).mp hj
    rcases (best at_ j bk b (by exact (an 0xa44050a3168d00a44050a0 [_,_,_,_]) l2 c) d1 d2).2 rfl a with w | ⟨w, _⟩
    · omega
    · omega
theorem JS {p : List Nat} (h : zj p = true) (hp : p ≠ []) (hz : p.length ≤ 100) : PyData.strOk (xW p) = true ∧ (xW p).length ≤ 1000 := by
 refine ⟨?_, by rw [vQ h hp]; exact (an 0xa890c4a01522f890282809 [_]) hz⟩
 rw [jG h hp]
 refine wo _ fun c hc => ?_
 rcases List.mem_append.mp hc with q | q
 · rcases List.mem_append.mp q with q | q
   · have : XH.all (fun c => decide (c < 128)) = true := by decide +kernel
     exact of_decide_eq_true (List.all_eq_true.mp this c q)
   · exact kC h c q
 · have : XG.all (fun c => decide (c < 128)) = true := by decide +kernel
   exact of_decide_eq_true (List.all_eq_true.mp this c q)
theorem aN (hl : zj xs = true) (hz : xs.length ≤ 6) (hr : r.length ≤ 100) : ∃ n, V0 xs r n := by
 have T := Y8 xs
 refine zc (X9 (r := r) T hl (by exact (an 0xa8c2500aa5044a0 [_]) hz)) fun n hn ok => ?_
 have hrd := Xf T hl hn ok
 have hheld : (zH r (zo xs xs.length) n).length ≤ 10000 := by have := qP r (zo xs xs.length) ok.few n; exact (an 0x15184a1148510a0a8ae411280550b1244a0 [_,_,_]) hz hn this
 have hmem : ∀ k, ∀ x ∈ (yd r (zo xs xs.length) k).2, ∃ p, x = S' p ∧ p ≠ [] ∧ zj p = true ∧ p.length ≤ 100 := fun k x hx => by
  refine yw ((xX T hl).mp hx) fun p hq1 hq2 hlen hpi => ?_
  obtain rfl := hq1
  obtain ⟨hp, hi⟩ := hq2
  have := hi.length_le
  exact (yU p rfl hp (yH hl hi) (by exact (an 0x54612846018225120148500a890c4a0 [_,_,_]) hz hlen this))
 refine ⟨n, hz, hr, kC hl, fun u hu s hs => ?_, ok, by exact (an 0x15184a1148500a890c4a0 [_,_]) hz hn, hrd, ?_, ?_, fun t ht => ?_, hheld, Y3 T hl ok⟩
 · refine xA (T.sc u hu s hs) fun h1 p hq2 h2 hor => ?_
   obtain rfl := hq2
   refine zc (List.mem_map.mp h1) fun u' hu' e => ?_
   refine ⟨(zd u' hu' e), ?_⟩
   have e1 : (S' p).length = p.length := yD p
   rcases hor with z | z
   · have e2 : u.name.length = p.length - 1 := by rw [z, yD, xr]
     exact (an 0x148a109188908c05044a2402d0a0 [_,_,_]) h2 e1 e2
   · have e2 : u.name.length = p.length - 1 := by rw [z, yD, yR]
     exact (an 0x148a109188908c05044a2402d0a0 [_,_,_]) h2 e1 e2
 · rw [← hrd]
   intro l hlm s hs
   unfold ym at hlm
   refine zc (List.mem_map.mp hlm) fun k _ hq2 => ?_
   obtain rfl := hq2
   have hs' : s ∈ (yd r (zo xs xs.length) k).2 := (List.mergeSort_perm _ _).mem_iff.mp hs
   refine yw (hmem k s hs') fun p hq1 hp hlp _ => ?_
   obtain rfl := hq1
   exact wo p (kC hlp)
 · have := vY r (zo xs xs.length) n
   rw [this]
   cases zH r (zo xs xs.length) n with
   | nil => simp
   | cons a b =>
    rw [decide_eq_true (by simp; exact (an 0x4408182243a10e803a0 [_,_]))]; rfl
 · unfold zZ at ht
   refine hdG fun gQ gZ => ?_
   refine zc (List.mem_map.mp ht) fun x hx hq2 => ?_
   obtain rfl := hq2
   refine yw ((wG T hl ok).mp hx) fun p hq1 hq2 _ _ => ?_
   obtain rfl := hq1
   obtain ⟨hp, hi⟩ := hq2
   refine gZ ?_
   have := hi.length_le
   rw [zV]
   exact JS (yH hl hi) hp (by exact (an 0x15184a1148500a890c4a0 [_,_]) hz this)
theorem Yw (ns : List Int) (lo : Int) (h : lo = 0 ∨ lo = 1) : (pickNums ns (some lo) (some 9) (some 2)).length ≤ 4 + (if lo = 0 then 1 else 0) := by
 unfold pickNums
 refine Nat.le_trans (List.length_filterMap_le _ _) ?_
 have e : sliceBounds (some lo) (some 9) (some 2) ns.length = ((max 0 (min lo (ns.length : Int)), max 0 (min 9 (ns.length : Int)), 2) : Int × Int × Int) := by
  rcases h with rfl | rfl <;> rfl
 rw [e]
 unfold sliceRange
 rw [List.length_map, List.length_range]
 dsimp only
 rcases h with rfl | rfl
 · split <;> split <;> simp <;> first | exact KB (by omega) | omega
 · split <;> split <;> simp <;> first | exact KB (by omega) | omega
theorem Zg (l : List Int) : zj (l.map ya) = true := by
 refine List.all_eq_true.mpr fun c hc => ?_
 refine zc (List.mem_map.mp hc) fun x _ hq2 => ?_
 obtain rfl := hq2
 obtain ⟨a, b⟩ := yr x
 unfold kP ya
 rw [Bool.and_eq_true, decide_eq_true_eq, decide_eq_true_eq]
 exact (ar 0x20b04918625617156a1890221641862450110b20c31306189 [] [_]) a b
theorem aO (ns : List Int) : ∃ n, V0 (leftL ns) (rightL ns) n := by
 refine aN ?_ ?_ ?_
 · unfold leftL zj
   rw [List.all_append]
   have := Zg (pickNums ns (some 1) (some 9) (some 2))
   unfold zj at this
   rw [this, Bool.and_true]; decide
 · unfold leftL
   have := Yw ns 1 (.inr rfl)
   rw [List.length_append, List.length_map]
   simp at this ⊢; exact (an 0x2a209402a3090282109 [_]) this
 · unfold rightL
   have := Yw ns 0 (.inl rfl)
   rw [List.length_append, List.length_map]
   simp at this ⊢; exact (an 0x15144a015121890282109 [_]) this
end
end
section
section
variable {prog : Program} {w : World} {A : Around}
theorem Xp {K : Frag} {mg mb : Mp} {q : Program} {loose : List Str} {oc : Value} {od : Option Addr} {osl : Array (Option Value)} {name qual : Str} {params : Arguments} {body : List Stmt} {scope : Scope} {dV kV doc pm cdv ct : Value} {an : Option Addr}
 {f : Addr} {vs : List Value} {kw : List (Str × Value)} {binds : List (Str × Value)} {s : Shared} {Qf : Value → Prop} {R : Value → Shared → Prop} {Er : Value → Shared → Prop}
 (X : K.In s.heap) (T : TopRead q loose mg mb s.heap) (ho : K.lookup f = some ⟨oc, od, .func (fnOf name qual params body scope dV kV doc pm an cdv ct), osl⟩) (hcd : codeIn K cdv qual = true) (hroom : A.depth < recursionLimit) (g : s.gens = #[])
 (hbind : BindsTo s (fnOf name qual params body scope dV kV doc pm an cdv ct) ⟨vs, kw⟩ binds) (hloc : ∀ y ∈ binds, scope.names.lookup y.1 = some .local)
 (h : ∀ L', W ⟨prog, w, fun b => (s.heap.get? b).map fun o => (false, o)⟩ (A.deeper (envOf qual scope L' f cdv)) (envOf qual scope L' f cdv).locals (execs body (envOf qual scope L' f cdv)) (fun fl _ _ => Qf (match fl with | .ret v => v | _ => .none)) (fun _ _ _ => False) (bl binds) (fun _ => none))
 (k : ∀ v s', Qf v → (∀ b o, s.heap.get? b = some o → s'.heap.get? b = some o) → s'.gens = #[] → s'.os = s.os → R v s')
 (hco : scope.isCoroutine = false := by kernel_rfl) (hgen : scope.isGenerator = false := by kernel_rfl) (hk : scope.kind = .function := by kernel_rfl) (hcell : ∀ x ∈ scope.names, x.2 ≠ .cell := by decide +kernel) :
 wpAny (model prog w) A (call (.ref f) vs kw) R Er s := by
 refine wpAny_call (codeAny_call_def (fd := fnOf name qual params body scope dV kV doc pm an cdv ct) (body := body) (binds := binds) hroom (X _ _ ho) rfl T.nolimit (codeRec_of X hcd) rfl hbind hcell hloc (fun h₀ hns hkeep => ?_) hco hgen hk)
 have S₀ : St ⟨prog, w, fun b => (s.heap.get? b).map fun o => (false, o)⟩ s.heap.objs.size (bl binds) (fun _ => none) h₀ := by
  refine ⟨hns, fun a o e => (by cases e), rfl, fun b p e => ?_, fun a o e => (by cases e), ?_⟩
  · refine zc (Option.map_eq_some_iff.mp e) fun o ho' hq2 => ?_
    obtain rfl := hq2
    exact hkeep _ _ ho'
  · show Option.map _ (s.heap.get? s.heap.objs.size) = none
    rw [zt]; rfl
 refine wpAny_mono (h s.heap.objs.size { s with heap := h₀, toks := s.toks + binds.length } S₀ g) (fun fl s' q => ?_) fun e s' q => ?_
 · refine hdG fun gQ gZ => ?_
   obtain ⟨m', Hf', S', g', eo, q⟩ := q
   refine gZ ?_
   exact k _ s' q (fun b o e => S'.kb b (false, o) (by show Option.map _ (s.heap.get? b) = _; rw [e]; rfl)) g' eo
 · refine hdG fun gQ gZ => ?_
   obtain ⟨m', Hf', S', g', eo, q⟩ := q
   refine gZ ?_
   exact q.elim
end
theorem n_law (P : Params) : nsIn (K P) mainGlobals "law" = some (some (.ref 464)) := by kernel_rfl
theorem law_meets {w : World} {A : Around} {s : Shared} {mg mb : Mp} {q : Program} {loose : List Str} {prog : Program} {a : Addr} {vs : List Value} {ns : List Int} {R : Value → Shared → Prop} {Er : Value → Shared → Prop} (X : (K w.params).In s.heap) (T : TopRead q loose mg mb s.heap)
 (hroom : A.depth + 31 < recursionLimit) (hh : A.handled = none) (hu : A.units + 500 < cLine) (hA : A.frames = some []) (g : s.gens = #[]) (hL : s.heap.IsList a vs.toArray) (hi : IntsAre vs ns) (hz : ns.length ≤ 63)
 (k : ∀ s', (∀ b o, s.heap.get? b = some o → s'.heap.get? b = some o) → s'.gens = #[] → s'.os = s.os → R (.bool true) s') :
 wpAny (model prog w) A (call (.ref 464) [.ref a]) R Er s := by
 refine hdG fun gQ gZ => ?_
 obtain ⟨n, ok⟩ := aO ns
 obtain ⟨ol, hol, hcls, kk, hdat⟩ := hL
 refine gZ ?_
 have hB : ((s.heap.get? a).map fun o => ((false : Bool), o)) = some (false, ol) := by rw [hol]; rfl
 have XB : Bd (K w.params) mg mb q loose ⟨prog, w, fun b => (s.heap.get? b).map fun o => ((false : Bool), o)⟩ := by
  have hk : ∀ h : Heap, (∀ b p, ((s.heap.get? b).map fun o => ((false : Bool), o)) = some p → Up p.1 p.2 (h.get? b)) → ∀ b o, s.heap.get? b = some o → h.get? b = some o := fun h hb b o e => hb b (false, o) (by rw [e]; rfl)
  exact ⟨fun h hb => X.keeps (hk h hb), fun h hb => T.keeps (hk h hb)⟩
 refine Xp (binds := [("script", .ref a)]) (Qf := fun v => v = .bool true) X T (Vq _) (QO _) (by exact (an 0xb4206f89402d0a0 [_,_]) hroom) g (zx X (fun _ => by kernel_rfl)) ?_ (fun L' => ?_) (fun v s' e h1 h2 h3 => e ▸ k s' h1 h2 h3) (by kernel_rfl) (by kernel_rfl) (by kernel_rfl) ?_
 · intro y hy
   exact vD (by kernel_rfl) y hy
 · have hkind : (fdS (yq 29)).kind = .function := by kernel_rfl
   exact QP (C := ⟨prog, w, fun b => (s.heap.get? b).map fun o => ((false : Bool), o)⟩) XB (by show A.depth + 1 + 29 < _; exact (an 0x2d081be2500b4206e8903044a0 [_,_]) hroom) hh (by show A.units + 3 + 450 < _; exact (an 0xb4206a4f12805a1030a709030c4a0 [_,_]) hu)
    ⟨Around.frames_deeper hA, rfl, by show (fdS (yq 29)).kind ≠ .module; rw [hkind]; decide, fun e he => nomatch he⟩ (by kernel_rfl) hB hcls hdat hi hz ok
 · have e : (fdS (yq 29)).names.all (fun x => x.2 != .cell) = true := by kernel_rfl
   intro x hx; have := List.all_eq_true.mp e x hx; exact bne_iff_ne.mp this
theorem law_good {cl : Str → Option Addr} {mean : ExcName → Option Value} {args : List WData} {s₁ s' : Shared} (k1 : ∀ b o, s₁.heap.get? b = some o → s'.heap.get? b = some o) (k2 : s'.gens = #[]) (k3 : s'.os = s₁.os) :
 GoodWG PySem.Challenge.rw_in0177_02.row.claim cl mean args s₁ (.ok (.ret (.bool true))) s' := by
 refine ⟨.inl (qp _ (ofPy (.bool true)) [] (Xm rfl (fun c => ?_) ?_ ?_ (fun _ => ⟨.nil, by simp⟩))), .of_keep k1, k3, .of_eq k2⟩
 · rfl
 · exact .bool true
 · show (WShape.has [] (ofPy (PyData.bool true)) WShape.bool && WTm.holds [] (WTm.res.eq (WTm.lit (WData.bool true))) { args := args, res := some (ofPy (PyData.bool true)), after := args }) = true
   kernel_rfl
end
end Mine.Internal
open PySem PySem.W PyProof.Rows
theorem PySem.Challenge.cw_in0177_02_holds : PySem.Challenge.rw_in0177_02.Holds := by
 w_on
 refine holds_law Mine.Internal.rw_said fun said => ?_
 refine holds_open (q := Mine.Internal.qv) (loose := Mine.Internal.looseL) (Xt := Mine.Internal.Xt0) (XP := XL Mine.Internal.qv []) (Yf := Hook.obs Mine.Internal.KH) (Ya := Hook.val Mine.Internal.KH) (YP := Hook.says Mine.Internal.KH) (N := 9796) Mine.Internal.left (Hook.of Mine.Internal.KH) (Hook.keeps Mine.Internal.KH) (fun s e => xl_of s (Bool.and_eq_true_iff.mp e).1) XL.keeps (by rfl) (by rfl) (by rfl) (fun s e => recFacts_of (Bool.and_eq_true_iff.mp e).2) (by rfl) (by assumption) (by decide +kernel) ⟨rfl, rfl, rfl, rfl, rfl, by decide +kernel⟩ ?hw ?hc
 case hw => w_witness2
 intro w s₀ s₁ mg mb G Y fa o pm cd doc dV kV ho hd hcd hD hmg hg args vals as hpre hlay hrd hwl hlo
 have KX := kIn_of Y
 refine Ground.open G ?_
 intro T B D TE TW
 wrow_args hpre hlay hrd hwl hlo
 clear hD hcd hd ho B D TE TW
 rename_i ns hs hlay0 hL1 hr1 hl2 as4 as3 a vs as0 hL ra w1 r0 hI hr hc1 hc2
 clear hs hlay0 hL1 hr1 hl2 ra w1 r0 hr
 have TR := topRead_of T
 clear T
 have h2 : mg (Str.ofString "law") = some (.ref fa) := hmg
 clear hmg
 have h1 : mg (Str.ofString "law") = some (.ref 464) := mg_of KX TR.g (Mine.Internal.n_law w.params)
 have e : fa = 464 := Value.ref.inj (Option.some.inj (h2.symm.trans h1))
 clear h1 h2
 subst e
 have hz : ns.length ≤ 63 := by omega
 exact Mine.Internal.law_meets KX TR (by decide) rfl (by decide) rfl hg hL hI hz (fun s' k1 k2 k3 => Mine.Internal.law_good k1 k2 k3)
