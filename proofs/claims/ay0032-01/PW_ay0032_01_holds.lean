import PyProof.Rows.All
import Wide.All
import OpenK.AllK
import Wide.FinOn
import PySem.Challenge.RW_ay0032_01
set_option Elab.async false
set_option rowWalk.seconds 0
set_option compiler.extract_closed false
set_option linter.all false
section
open PySem PySem.W PyProof.Rows
namespace Mine
theorem left_boot {p q : Program} {loose : List Str} {Xt : Shared → Bool} {α : Type} {Yf : Shared → α} {Ya : World → α} {N : Nat} {g0 : Bool} {H₀ : Params → Heap} {gs₀ : Array GenState} {d₀ : Drawn} {k₀ : Nat}
    (ho : ∀ w : World, (fencedOpening treeTable p w N).map (fun s => (s.heap, s.gens, s.drawn, s.toks)) = some (H₀ w.params, gs₀, d₀, k₀))
    (hr : ∀ (w : World) (os : OsState), (topFrom treeTable p w N ⟨H₀ w.params, gs₀, d₀, k₀, os⟩).map (fun s => (openSeen q loose (importedModules p.main.body) Xt g0 s, Yf s)) = some (openGood q loose, Ya w)) : LeftO p q loose Xt Yf Ya N g0 := fun w => by
  obtain ⟨⟨h, gs, d, k, os⟩, e, e'⟩ := Option.map_eq_some_iff.mp (ho w)
  obtain ⟨rfl, rfl, rfl, rfl⟩ : h = H₀ w.params ∧ gs = gs₀ ∧ d = d₀ ∧ k = k₀ := by simpa using e'
  unfold openEnds
  rw [e]
  exact hr w os
def keepAt (body : List Stmt) (is : List Nat) : List Stmt := is.filterMap fun i => body[i]?
def vw : Program := { PySem.Challenge.pw_ay0032_01 with main := { PySem.Challenge.pw_ay0032_01.main with body := keepAt PySem.Challenge.pw_ay0032_01.main.body [0, 2, 3, 5, 6, 7, 8, 9, 10, 11] } }
set_option maxRecDepth 100000
theorem said0 : OpenLaw.wellSaid PySem.Challenge.rw_ay0032_01 = true := by
  unfold OpenLaw.wellSaid
  rw [PySem.W.Fast.te17960256430627541270, PySem.W.Fast.te2368527892694137696, PySem.W.Fast.te10501279942588096481, PySem.W.Fast.te8179353310426384613, PySem.W.Fast.te8326940854005059898, PySem.W.Fast.te797321630700447069, PySem.W.Fast.te9572597257264208301, PySem.W.Fast.te9558739934217749035, PySem.W.Fast.te16286561074155671207, PySem.W.Fast.te6984425678791042302, PySem.W.Fast.te17095254045102204799, PySem.W.Fast.te12879404354523853263, PySem.W.Fast.te482687673346738481, PySem.W.Fast.te17119622794617984870, PySem.W.Fast.te10792542408131684335, PySem.W.Fast.te7723801398212525404]
  kernel_rfl
abbrev loose0 : List Str := [PySem.Str.ofString "Rectangle"]
abbrev xt0 : Shared → Bool := fun s => xlAt Mine.vw [] s && recOk (RowW.records PySem.Challenge.rw_ay0032_01.row.toRowW) s
theorem head0 (H : Hook) {d : DefRec} {kwd : List (Str × Expr)} (k1 : OpenRow.wellSaid PySem.Challenge.rw_ay0032_01.row = true)
    (left : LeftO PySem.Challenge.pw_ay0032_01 Mine.vw loose0 xt0 (Hook.obs H) (Hook.val H) 3736)
    (hdef : defOf Mine.vw PySem.Challenge.rw_ay0032_01.row.name = some (d, kwd)) (hp : PySem.Challenge.pw_ay0032_01.theDef PySem.Challenge.rw_ay0032_01.row.name = some (d.params, d.body, d.scope)) (hk : kwWritten? d.params.kwonlyargs d.params.kw_defaults = some kwd)
    (hw : PySem.Challenge.rw_ay0032_01.row.toRowW.promised)
    (call : WalkO Mine.vw loose0 (XL Mine.vw []) (Hook.says H) PySem.Challenge.rw_ay0032_01.row.toRowW d kwd fun f vs => PySem.call f vs) : PySem.Challenge.rw_ay0032_01.row.Holds :=
  holds_open (q := Mine.vw) (loose := loose0) (Xt := xt0) (XP := XL Mine.vw []) (Yf := Hook.obs H) (Ya := Hook.val H) (YP := Hook.says H) (N := 3736) left (Hook.of H) (Hook.keeps H) (fun s e => xl_of s (Bool.and_eq_true_iff.mp e).1) XL.keeps hdef hp hk (fun s e => recFacts_of (Bool.and_eq_true_iff.mp e).2) rfl k1 (by decide +kernel) ⟨rfl, rfl, rfl, rfl, rfl, by decide +kernel⟩ hw call
set_option compiler.extract_closed false
set_option hygiene false in
local macro_rules | `(tactic| o_law) => `(tactic| refine holds_law Mine.said0 fun said => ?_)
set_option hygiene false in
local macro_rules | `(tactic| o_head $H:term) => `(tactic| (refine head0 $H said ?hl (by rfl) (by rfl) (by rfl) ?hw ?hc; case hl => (refine left_boot (boot_open rfl rfl (fun _ => rfl)) ?_; intro w os; unfold topFrom; rw [PySem.W.Fast.te14082659384304107361, PySem.W.Fast.te8920871248978507458, PySem.W.Fast.te5923862056798008813, PySem.W.Fast.te14364793385576792824, PySem.W.Fast.te4187177175401517315]; kernel_rfl)))
set_option maxHeartbeats 0 in
open_top hd for PySem.Challenge.rw_ay0032_01
end Mine
end
section
namespace Mine
/-- the area of two rectangles, less that of what they share, against the box around them: the gap is a sum of two products -/
theorem gap_eq (w1 w2 ix h1 h2 iy : Int) : (w1 + w2 - ix) * (h1 + h2 - iy) - (w1 * h1 + w2 * h2 - ix * iy) = (w1 - ix) * (h2 - iy) + (w2 - ix) * (h1 - iy) := by
  grind
theorem zero_sum {a b : Int} (ha : 0 ≤ a) (hb : 0 ≤ b) (h : a + b = 0) : a = 0 ∧ b = 0 := by omega
theorem zero_mul {a b : Int} (h : a * b = 0) : a = 0 ∨ b = 0 := Int.mul_eq_zero.mp h
def JoinQ (x1 y1 w1 h1 x2 y2 w2 h2 : Int) : Prop := (x1 ≤ x2 ∧ y1 ≤ y2 ∧ x2 + w2 ≤ x1 + w1 ∧ y2 + h2 ≤ y1 + h1) ∨ (x2 ≤ x1 ∧ y2 ≤ y1 ∧ x1 + w1 ≤ x2 + w2 ∧ y1 + h1 ≤ y2 + h2) ∨ ((y1 ≤ y2 + h2 ∧ y2 ≤ y1 + h1 ∧ x1 ≤ x2 + w2 ∧ x2 ≤ x1 + w1) ∧ ((x1 = x2 ∧ w1 = w2) ∨ (y1 = y2 ∧ h1 = h2)))
theorem min_max_sum (a b : Int) : min a b + max a b = a + b := by
  rcases Int.le_total a b with h | h
  · rw [Int.min_eq_left h, Int.max_eq_right h]
  · rw [Int.min_eq_right h, Int.max_eq_left h, Int.add_comm]
theorem isect_le {p v q u : Int} : min (p + v) (q + u) - max p q ≤ v ∧ min (p + v) (q + u) - max p q ≤ u := by
  have a1 := Int.min_le_left (p + v) (q + u)
  have a2 := Int.min_le_right (p + v) (q + u)
  have a3 := Int.le_max_left p q
  have a4 := Int.le_max_right p q
  constructor <;> omega
theorem isect_hull {p v q u : Int} : max (p + v) (q + u) - min p q = v + u - (min (p + v) (q + u) - max p q) := by
  have a1 := min_max_sum (p + v) (q + u)
  have a2 := min_max_sum p q
  generalize min (p + v) (q + u) = A at *
  generalize max p q = B at *
  generalize max (p + v) (q + u) = C at *
  generalize min p q = E at *
  omega
theorem isect_fst {p v q u : Int} : v - (min (p + v) (q + u) - max p q) = 0 ↔ q ≤ p ∧ p + v ≤ q + u := by
  constructor
  · intro h; constructor <;> omega
  · rintro ⟨a, b⟩
    rw [Int.max_eq_left a, Int.min_eq_left b]
    omega
theorem isect_snd {p v q u : Int} : u - (min (p + v) (q + u) - max p q) = 0 ↔ p ≤ q ∧ q + u ≤ p + v := by
  constructor
  · intro h; constructor <;> omega
  · rintro ⟨a, b⟩
    rw [Int.max_eq_right a, Int.min_eq_right b]
    omega
theorem same_iff {p v q u : Int} : (p = q ∧ v = u) ↔ (q ≤ p ∧ p + v ≤ q + u) ∧ p ≤ q ∧ q + u ≤ p + v := by
  constructor
  · rintro ⟨rfl, rfl⟩
    exact ⟨⟨Int.le_refl _, Int.le_refl _⟩, Int.le_refl _, Int.le_refl _⟩
  · rintro ⟨⟨a, b⟩, c, d⟩
    constructor <;> omega
theorem join_alg {A1 A2 B1 B2 T : Prop} (t : T) : (A2 ∧ B2 ∨ A1 ∧ B1 ∨ T ∧ ((A1 ∧ A2) ∨ (B1 ∧ B2))) ↔ ((A1 ∨ B2) ∧ (A2 ∨ B1)) := by
  constructor
  · rintro (⟨a, b⟩ | ⟨a, b⟩ | ⟨_, ⟨a, b⟩ | ⟨a, b⟩⟩)
    · exact ⟨.inr b, .inl a⟩
    · exact ⟨.inl a, .inr b⟩
    · exact ⟨.inl a, .inl b⟩
    · exact ⟨.inr b, .inr a⟩
  · rintro ⟨a | a, b | b⟩
    · exact .inr (.inr ⟨t, .inl ⟨a, b⟩⟩)
    · exact .inr (.inl ⟨a, b⟩)
    · exact .inl ⟨b, a⟩
    · exact .inr (.inr ⟨t, .inr ⟨b, a⟩⟩)
theorem joinQ_iff {x1 y1 w1 h1 x2 y2 w2 h2 : Int} : JoinQ x1 y1 w1 h1 x2 y2 w2 h2 ↔
    ((x1 ≤ x2 ∧ x2 + w2 ≤ x1 + w1) ∧ (y1 ≤ y2 ∧ y2 + h2 ≤ y1 + h1) ∨ (x2 ≤ x1 ∧ x1 + w1 ≤ x2 + w2) ∧ (y2 ≤ y1 ∧ y1 + h1 ≤ y2 + h2) ∨
      (y1 ≤ y2 + h2 ∧ y2 ≤ y1 + h1 ∧ x1 ≤ x2 + w2 ∧ x2 ≤ x1 + w1) ∧ (((x2 ≤ x1 ∧ x1 + w1 ≤ x2 + w2) ∧ (x1 ≤ x2 ∧ x2 + w2 ≤ x1 + w1)) ∨ ((y2 ≤ y1 ∧ y1 + h1 ≤ y2 + h2) ∧ (y1 ≤ y2 ∧ y2 + h2 ≤ y1 + h1)))) := by
  unfold JoinQ
  rw [same_iff, same_iff]
  constructor
  · rintro (⟨a, b, c, d⟩ | ⟨a, b, c, d⟩ | h)
    · exact .inl ⟨⟨a, c⟩, b, d⟩
    · exact .inr (.inl ⟨⟨a, c⟩, b, d⟩)
    · exact .inr (.inr h)
  · rintro (⟨⟨a, c⟩, b, d⟩ | ⟨⟨a, c⟩, b, d⟩ | h)
    · exact .inl ⟨a, b, c, d⟩
    · exact .inr (.inl ⟨a, b, c, d⟩)
    · exact .inr (.inr h)
theorem area_gap {w1 w2 ix h1 h2 iy : Int} (a1 : ix ≤ w1) (a2 : ix ≤ w2) (b1 : iy ≤ h1) (b2 : iy ≤ h2) :
    w1 * h1 + w2 * h2 - ix * iy = (w1 + w2 - ix) * (h1 + h2 - iy) ↔ (w1 - ix = 0 ∨ h2 - iy = 0) ∧ (w2 - ix = 0 ∨ h1 - iy = 0) := by
  have g := gap_eq w1 w2 ix h1 h2 iy
  have p1 := Int.mul_nonneg (Int.sub_nonneg.mpr a1) (Int.sub_nonneg.mpr b2)
  have p2 := Int.mul_nonneg (Int.sub_nonneg.mpr a2) (Int.sub_nonneg.mpr b1)
  rw [← Int.mul_eq_zero, ← Int.mul_eq_zero]
  generalize (w1 - ix) * (h2 - iy) = P at *
  generalize (w2 - ix) * (h1 - iy) = Q at *
  generalize (w1 + w2 - ix) * (h1 + h2 - iy) = R at *
  generalize w1 * h1 + w2 * h2 - ix * iy = S at *
  constructor
  · intro e; constructor <;> omega
  · rintro ⟨e, f⟩; omega
theorem area_some {x1 y1 w1 h1 x2 y2 w2 h2 : Int} (hw1 : 1 ≤ w1) (hh1 : 1 ≤ h1) (hw2 : 1 ≤ w2) (hh2 : 1 ≤ h2)
    (ov : y1 < y2 + h2 ∧ y2 < y1 + h1 ∧ x1 < x2 + w2 ∧ x2 < x1 + w1) :
    JoinQ x1 y1 w1 h1 x2 y2 w2 h2 ↔ w1 * h1 + w2 * h2 - (min (x1 + w1) (x2 + w2) - max x1 x2) * (min (y1 + h1) (y2 + h2) - max y1 y2) = (max (x1 + w1) (x2 + w2) - min x1 x2) * (max (y1 + h1) (y2 + h2) - min y1 y2) := by
  rw [isect_hull, isect_hull, area_gap isect_le.1 isect_le.2 isect_le.1 isect_le.2, isect_fst, isect_snd, isect_fst, isect_snd, joinQ_iff]
  exact join_alg ⟨Int.le_of_lt ov.1, Int.le_of_lt ov.2.1, Int.le_of_lt ov.2.2.1, Int.le_of_lt ov.2.2.2⟩
theorem gap_zero {v1 v2 d g1 g2 e1 e2 : Int} (hv1 : 1 ≤ v1) (hv2 : 1 ≤ v2) (hg1 : 1 ≤ g1) (hd : 0 ≤ d) (he1 : 0 ≤ e1) (he2 : 0 ≤ e2) (h : g1 + e1 = g2 + e2) :
    v1 * g1 + v2 * g2 = (v1 + v2 + d) * (g1 + e1) ↔ d = 0 ∧ e1 = 0 ∧ e2 = 0 := by
  have s : (v1 + v2 + d) * (g1 + e1) = v1 * g1 + v2 * g2 + (d * (g1 + e1) + v1 * e1 + v2 * e2) := by
    rw [Int.add_mul, Int.add_mul, Int.mul_add v1, h, Int.mul_add v2]
    omega
  have n1 := Int.mul_nonneg hd (show 0 ≤ g1 + e1 by omega)
  have n2 := Int.mul_nonneg (show 0 ≤ v1 by omega) he1
  have n3 := Int.mul_nonneg (show 0 ≤ v2 by omega) he2
  rw [s]
  constructor
  · intro e
    have z1 : d * (g1 + e1) = 0 := by omega
    have z2 : v1 * e1 = 0 := by omega
    have z3 : v2 * e2 = 0 := by omega
    refine ⟨?_, ?_, ?_⟩
    · rcases zero_mul z1 with u | u <;> omega
    · rcases zero_mul z2 with u | u <;> omega
    · rcases zero_mul z3 with u | u <;> omega
  · rintro ⟨rfl, rfl, rfl⟩
    simp
theorem gap_out {p v q u : Int} (hv : 1 ≤ v) (hu : 1 ≤ u) (h : q + u ≤ p ∨ p + v ≤ q) : ∃ d, 0 ≤ d ∧ max (p + v) (q + u) - min p q = v + u + d ∧ (d = 0 ↔ p ≤ q + u ∧ q ≤ p + v) := by
  rcases h with h | h
  · exact ⟨p - (q + u), by omega, by rw [Int.max_eq_left (by omega), Int.min_eq_right (by omega)]; omega, by constructor <;> intro k <;> (try constructor) <;> omega⟩
  · exact ⟨q - (p + v), by omega, by rw [Int.max_eq_right (by omega), Int.min_eq_left (by omega)]; omega, by constructor <;> intro k <;> (try constructor) <;> omega⟩
theorem gap_hull {q g r k : Int} : ∃ e f, 0 ≤ e ∧ 0 ≤ f ∧ max (q + g) (r + k) - min q r = g + e ∧ max (q + g) (r + k) - min q r = k + f ∧ (e = 0 ∧ f = 0 ↔ q = r ∧ g = k) :=
  ⟨k - (min (q + g) (r + k) - max q r), g - (min (q + g) (r + k) - max q r), Int.sub_nonneg.mpr isect_le.2, Int.sub_nonneg.mpr isect_le.1, by rw [isect_hull]; omega, by rw [isect_hull]; omega, by rw [isect_snd, isect_fst, same_iff (p := q)]; exact And.comm⟩
theorem area_out {p1 v1 q1 g1 p2 v2 q2 g2 : Int} (hv1 : 1 ≤ v1) (hg1 : 1 ≤ g1) (hv2 : 1 ≤ v2) (ho : p2 + v2 ≤ p1 ∨ p1 + v1 ≤ p2) :
    ((q1 = q2 ∧ g1 = g2) ∧ p1 ≤ p2 + v2 ∧ p2 ≤ p1 + v1) ↔ v1 * g1 + v2 * g2 = (max (p1 + v1) (p2 + v2) - min p1 p2) * (max (q1 + g1) (q2 + g2) - min q1 q2) := by
  obtain ⟨d, hd, eW, hd0⟩ := gap_out hv1 hv2 ho
  obtain ⟨e, f, he, hf, e1, e2, h0⟩ := gap_hull (q := q1) (g := g1) (r := q2) (k := g2)
  rw [eW, e1, gap_zero hv1 hv2 hg1 hd he hf (e1.symm.trans e2), hd0, h0]
  exact And.comm
theorem join_out {x1 y1 w1 h1 x2 y2 w2 h2 : Int} (hw1 : 1 ≤ w1) (hw2 : 1 ≤ w2) (hh1 : 1 ≤ h1) (hx : x2 + w2 ≤ x1 ∨ x1 + w1 ≤ x2) :
    JoinQ x1 y1 w1 h1 x2 y2 w2 h2 ↔ (y1 = y2 ∧ h1 = h2) ∧ x1 ≤ x2 + w2 ∧ x2 ≤ x1 + w1 := by
  unfold JoinQ
  constructor
  · rintro (⟨a, _, b, _⟩ | ⟨a, _, b, _⟩ | ⟨⟨_, _, t⟩, ⟨a, b⟩ | h⟩)
    · exfalso; omega
    · exfalso; omega
    · exfalso; omega
    · exact ⟨h, t⟩
  · rintro ⟨⟨rfl, rfl⟩, t⟩
    exact .inr (.inr ⟨⟨by omega, by omega, t⟩, .inr ⟨rfl, rfl⟩⟩)
theorem joinQ_swap {x1 y1 w1 h1 x2 y2 w2 h2 : Int} (h : JoinQ x1 y1 w1 h1 x2 y2 w2 h2) : JoinQ y1 x1 h1 w1 y2 x2 h2 w2 := by
  rcases h with ⟨a, b, c, d⟩ | ⟨a, b, c, d⟩ | ⟨⟨a, b, c, d⟩, h⟩
  · exact .inl ⟨b, a, d, c⟩
  · exact .inr (.inl ⟨b, a, d, c⟩)
  · exact .inr (.inr ⟨⟨c, d, a, b⟩, h.symm⟩)
theorem area_none {x1 y1 w1 h1 x2 y2 w2 h2 : Int} (hw1 : 1 ≤ w1) (hh1 : 1 ≤ h1) (hw2 : 1 ≤ w2) (hh2 : 1 ≤ h2)
    (ov : ¬ (y1 < y2 + h2 ∧ y2 < y1 + h1 ∧ x1 < x2 + w2 ∧ x2 < x1 + w1)) :
    JoinQ x1 y1 w1 h1 x2 y2 w2 h2 ↔ w1 * h1 + w2 * h2 - 0 = (max (x1 + w1) (x2 + w2) - min x1 x2) * (max (y1 + h1) (y2 + h2) - min y1 y2) := by
  rw [Int.sub_zero]
  by_cases hx : x2 + w2 ≤ x1 ∨ x1 + w1 ≤ x2
  · rw [join_out hw1 hw2 hh1 hx, area_out hw1 hh1 hw2 hx]
  · have hy : y2 + h2 ≤ y1 ∨ y1 + h1 ≤ y2 := by omega
    rw [Int.mul_comm w1, Int.mul_comm w2, Int.mul_comm (max (x1 + w1) (x2 + w2) - min x1 x2), ← area_out hh1 hw1 hh2 hy, ← join_out hh1 hh2 hw1 hy]
    exact ⟨joinQ_swap, joinQ_swap⟩
theorem cont_one {p v q u : Int} : (p ≤ q ∧ q + u ≤ p + v) ↔ (max p q = q ∧ min (p + v) (q + u) - max p q = u) := by
  rw [← isect_snd]
  constructor
  · intro h; constructor <;> omega
  · rintro ⟨_, h⟩; omega
theorem cont_some {x1 y1 w1 h1 x2 y2 w2 h2 : Int} (hw1 : 1 ≤ w1) (hh1 : 1 ≤ h1) (hw2 : 1 ≤ w2) (hh2 : 1 ≤ h2)
    (ov : y1 < y2 + h2 ∧ y2 < y1 + h1 ∧ x1 < x2 + w2 ∧ x2 < x1 + w1) :
    decide (y1 ≤ y2 ∧ x1 ≤ x2 ∧ y2 + h2 ≤ y1 + h1 ∧ x2 + w2 ≤ x1 + w1) = (max x1 x2 == x2 && (max y1 y2 == y2 && (min (x1 + w1) (x2 + w2) - max x1 x2 == w2 && min (y1 + h1) (y2 + h2) - max y1 y2 == h2))) := by
  rw [Bool.eq_iff_iff]
  simp only [decide_eq_true_eq, Bool.and_eq_true, beq_iff_eq]
  have a := cont_one (p := x1) (v := w1) (q := x2) (u := w2)
  have b := cont_one (p := y1) (v := h1) (q := y2) (u := h2)
  constructor
  · rintro ⟨c, d, e, f⟩
    exact ⟨(a.mp ⟨d, f⟩).1, (b.mp ⟨c, e⟩).1, (a.mp ⟨d, f⟩).2, (b.mp ⟨c, e⟩).2⟩
  · rintro ⟨c, d, e, f⟩
    exact ⟨(b.mpr ⟨d, f⟩).1, (a.mpr ⟨c, e⟩).1, (b.mpr ⟨d, f⟩).2, (a.mpr ⟨c, e⟩).2⟩
theorem cont_none {x1 y1 w1 h1 x2 y2 w2 h2 : Int} (hw1 : 1 ≤ w1) (hh1 : 1 ≤ h1) (hw2 : 1 ≤ w2) (hh2 : 1 ≤ h2)
    (ov : ¬ (y1 < y2 + h2 ∧ y2 < y1 + h1 ∧ x1 < x2 + w2 ∧ x2 < x1 + w1)) :
    decide (y1 ≤ y2 ∧ x1 ≤ x2 ∧ y2 + h2 ≤ y1 + h1 ∧ x2 + w2 ≤ x1 + w1) = false := by
  rw [decide_eq_false_iff_not]
  rintro ⟨a, b, c, d⟩
  exact ov ⟨by omega, by omega, by omega, by omega⟩
end Mine
end
section
open PySem PySem.W PySem.Calls PyProof.Rows PySem.Spec
set_option maxRecDepth 100000
set_option linter.unusedVariables false
namespace Mine
section
variable {prog : Program} {w : World} {A : Around} {E : Value → Shared → Prop} {s : Shared} {h₀ : Heap} {L : Addr} {news : List (Addr × Obj)} {a b : Value} {d e : Dat} {Q : Value → Shared → Prop}
theorem dat_shaped {d : Dat} (h : kqdOk 8 d = true) : SeqAt.shaped (kqdP d) = true := by
  have l := kqd_lay 8 d h
  unfold SeqAt.shaped
  rw [l.1, Bool.true_and]
  exact decide_eq_true (Nat.le_trans l.2 (by decide))
open Classical in
theorem dat_eqv {d e : Dat} (hd : kqdOk 8 d = true) (he : kqdOk 8 e = true) : PyData.eqv (kqdP d) (kqdP e) = decide (d = e) := by
  have q := kqd_eqv 8 d e 8 hd he
  by_cases h : d = e
  · rw [decide_eq_true h]; exact q.mpr h
  · rw [decide_eq_false h]; exact Bool.eq_false_iff.mpr fun x => h (q.mp x)
open Classical in
/-- == of two data of any depth below eight, None and tuples too -/
theorem dat_eq (N : News h₀ L s.heap news) (Da : DatIn news a d) (Db : DatIn news b e) (hd : kqdOk 8 d = true) (he : kqdOk 8 e = true) (hu : A.units + 64 < cLine)
    (h : Q (.bool (decide (d = e))) s) : wpAny (model prog w) A (compareOp .Eq a b) Q E s := by
  obtain ⟨as, ra⟩ := kqd_in N 8 Da hd
  obtain ⟨bs, rb⟩ := kqd_in N 8 Db he
  exact eq_dataH ra rb (dat_shaped hd) (dat_shaped he) hu (by rw [dat_eqv hd he]; exact h)
open Classical in
theorem dat_ne (N : News h₀ L s.heap news) (Da : DatIn news a d) (Db : DatIn news b e) (hd : kqdOk 8 d = true) (he : kqdOk 8 e = true) (hu : A.units + 64 < cLine)
    (h : Q (.bool (!decide (d = e))) s) : wpAny (model prog w) A (compareOp .NotEq a b) Q E s := by
  obtain ⟨as, ra⟩ := kqd_in N 8 Da hd
  obtain ⟨bs, rb⟩ := kqd_in N 8 Db he
  exact ne_dataH ra rb (dat_shaped hd) (dat_shaped he) hu (by rw [dat_eqv hd he]; exact h)
open Classical in
theorem dat_eq_none_tuple {ds : List Dat} (N : News h₀ L s.heap news) (Db : DatIn news b (.tuple ds)) (he : kqdOk 8 (.tuple ds) = true) (hu : A.units + 64 < cLine)
    (h : Q (.bool false) s) : wpAny (model prog w) A (compareOp .Eq .none b) Q E s :=
  dat_eq N DatIn.none Db rfl he hu (by rw [decide_eq_false (by intro h; cases h)]; exact h)
end
end Mine
end
namespace Mine
theorem offC1 : True := by
  w_top off
  trivial
theorem anewC1 : (1 : Nat) = 1 := by walk1
end Mine
section
open PySem PySem.W PySem.Calls PyProof.Rows
set_option maxRecDepth 100000
set_option linter.unusedVariables false
namespace Mine
theorem fill1 : (fun (_ : OpenLaw × (Params → Frag)) => True) (PySem.Challenge.rw_ay0032_01, Mine.hd.heap_1) := by
  k_fill
  trivial

abbrev rdict (P : Params) (k1 k2 k3 k4 k5 : Tok) (w h x y : Value) : Obj := dictOf [⟨PyData.keyHash P "width", .str "width" k1, w⟩, ⟨PyData.keyHash P "height", .str "height" k2, h⟩, ⟨PyData.keyHash P "x", .str "x" k3, x⟩, ⟨PyData.keyHash P "y", .str "y" k4, y⟩, ⟨PyData.keyHash P "rid", .str "rid" k5, .none⟩] 5

def fnAt (K : Frag) (f : Addr) : Option FuncData := match K.lookup f with
  | some ⟨_, _, .func fd, _⟩ => some fd
  | _ => none
theorem min_if (a b : Int) : min a b = if b < a then b else a := by
  rcases Int.lt_or_le b a with h | h
  · rw [if_pos h, Int.min_eq_right (Int.le_of_lt h)]
  · rw [if_neg (Int.not_lt.mpr h), Int.min_eq_left h]
theorem max_if (a b : Int) : max a b = if b > a then b else a := by
  rcases Int.lt_or_le a b with h | h
  · rw [if_pos h, Int.max_eq_right (Int.le_of_lt h)]
  · rw [if_neg (Int.not_lt.mpr h), Int.max_eq_left h]
theorem allLt_ne {d : Addr} : ∀ {l : List (Addr × Obj)}, AllLt d l → ∀ p ∈ l, p.1 ≠ d
  | [], _ => fun _ h => (nomatch h)
  | _ :: _, h => fun p hp => by
    rcases List.mem_cons.mp hp with rfl | hp
    · exact Nat.ne_of_lt h.1
    · exact allLt_ne h.2 p hp

local macro_rules | `(tactic| k_room) => `(tactic| ktr_room)
local macro_rules | `(tactic| k_units) => `(tactic| ktr_units)
local macro_rules | `(tactic| k_all) => `(tactic| exact allLt_ne (by assumption))
local macro_rules | `(tactic| k_mem) => `(tactic| assumption)
section
variable {prog : Program} {w : World} {p : Program} {loose : List Str} {mean : ExcName → Option Value} {mg mb : Str → Option Value} {dp un : Nat} {gd : Option (List Code)} {env : Env} {outer : List Env} {A₀ : Around} {base h₀ : Heap} {L : Addr} {m : Str → Option Value} {news : List (Addr × Obj)} {s : Shared} {Q E : Value → Shared → Prop}
set_option maxHeartbeats 4000000 in
theorem contains_c (B : Below A₀ base outer h₀) (F : Fr h₀ L s.heap m) (X : (Mine.hd.heap_1 w.params).In h₀) (N : News h₀ L s.heap news) (T : Top p loose mean mg mb h₀) (hf : env.frame = some L) (hk : env.scope.kind = .function) (hdp : dp + 20 < recursionLimit) (hun : un + 100 < cLine)
    {a da : Addr} {k1 k2 k3 k4 k5 kw kh kx ky : Tok} {x1 y1 w1 h1 : Int} {b db : Addr} {l1 l2 l3 l4 l5 lw lh lx ly : Tok} {x2 y2 w2 h2 : Int}
    (ma : (a, instObj 203 da) ∈ news) (mda : (da, rdict w.params k1 k2 k3 k4 k5 (.int w1 kw) (.int h1 kh) (.int x1 kx) (.int y1 ky)) ∈ news)
    (mb : (b, instObj 203 db) ∈ news) (mdb : (db, rdict w.params l1 l2 l3 l4 l5 (.int w2 lw) (.int h2 lh) (.int x2 lx) (.int y2 ly)) ∈ news)
    (hret : ∀ (t : Tok) h' tk', Fr h₀ L h' m → News h₀ L h' news → Q (.bool (decide (y1 ≤ y2 ∧ x1 ≤ x2 ∧ y2 + h2 ≤ y1 + h1 ∧ x2 + w2 ≤ x1 + w1))) { s with heap := h', toks := tk' }) :
    wpAny (model prog w) { handled := none, depth := dp, frames := some (env :: outer), guards := gd, units := un } (call (.ref 177) [.ref a, .ref b]) Q E s := by
  refine wpAny_call ?_
  refine' code_def B F X N T rfl hf hk ?k6 ?k7 ?k8 ?k9 ?kB ?_ ?c2 ?c3 ?c4 ?c5
  case k6 => k_is
  case k7 => k_is
  case k8 => ktr_room
  case k9 => first | exact BindsTo.of_eq rfl | exact binds_K (by k_in) rfl (by k_is) rfl rfl rfl
  case c5 => decide
  case kB => exact locs rfl
  case c2 => exact rfl
  case c3 => exact rfl
  case c4 => exact rfl
  intro g' L' h' FG' F' N' B' X' T'
  (try dsimp only)
  (try k_fold)
  k_steps
  all_goals (refine cb_retB hret ?_ (by assumption) (by assumption))
  all_goals clear hret
  all_goals cb_eq

set_option maxHeartbeats 4000000 in
theorem bottom_p (B : Below A₀ base outer h₀) (F : Fr h₀ L s.heap m) (X : (Mine.hd.heap_1 w.params).In h₀) (N : News h₀ L s.heap news) (T : Top p loose mean mg mb h₀) (hf : env.frame = some L) (hk : env.scope.kind = .function) (hdp : dp + 5 < recursionLimit) (hun : un + 40 < cLine) {expr : Bool}
    {a da : Addr} {k1 k2 k3 k4 k5 kw kh kx ky : Tok} {x1 y1 w1 h1 : Int}
    (ma : (a, instObj 203 da) ∈ news) (mda : (da, rdict w.params k1 k2 k3 k4 k5 (.int w1 kw) (.int h1 kh) (.int x1 kx) (.int y1 ky)) ∈ news)
    (hret : ∀ h' tk', Fr h₀ L h' m → News h₀ L h' news → Q (.int y1 ky) { s with heap := h', toks := tk' }) :
    wpAny (model prog w) { handled := none, depth := dp, frames := some (env :: outer), guards := gd, units := un } (getAttr (.ref a) "bottom" expr) Q E s := by
  refine' get_prop F X ?p3 ?p4 ?p5 ?p6 ?p7 ?p8 ?p9 ?_
  case p3 => k_inst
  case p4 => k_is
  case p5 => k_is
  case p6 => k_is
  case p7 => k_is
  case p8 => k_is
  case p9 => k_is
  refine' code_def B F X N T rfl hf hk ?k6 ?k7 ?k8 ?k9 ?kB ?_ ?c2 ?c3 ?c4 ?c5
  case k6 => k_is
  case k7 => k_is
  case k8 => ktr_room
  case k9 => first | exact BindsTo.of_eq rfl | exact binds_K (by k_in) rfl (by k_is) rfl rfl rfl
  case c5 => decide
  case kB => exact locs rfl
  case c2 => exact rfl
  case c3 => exact rfl
  case c4 => exact rfl
  intro g' L' h' FG' F' N' B' X' T'
  (try dsimp only)
  (try k_fold)
  k_steps
  all_goals exact hret _ _ (by assumption) (by assumption)
set_option maxHeartbeats 4000000 in
theorem left_p (B : Below A₀ base outer h₀) (F : Fr h₀ L s.heap m) (X : (Mine.hd.heap_1 w.params).In h₀) (N : News h₀ L s.heap news) (T : Top p loose mean mg mb h₀) (hf : env.frame = some L) (hk : env.scope.kind = .function) (hdp : dp + 5 < recursionLimit) (hun : un + 40 < cLine) {expr : Bool}
    {a da : Addr} {k1 k2 k3 k4 k5 kw kh kx ky : Tok} {x1 y1 w1 h1 : Int}
    (ma : (a, instObj 203 da) ∈ news) (mda : (da, rdict w.params k1 k2 k3 k4 k5 (.int w1 kw) (.int h1 kh) (.int x1 kx) (.int y1 ky)) ∈ news)
    (hret : ∀ h' tk', Fr h₀ L h' m → News h₀ L h' news → Q (.int x1 kx) { s with heap := h', toks := tk' }) :
    wpAny (model prog w) { handled := none, depth := dp, frames := some (env :: outer), guards := gd, units := un } (getAttr (.ref a) "left" expr) Q E s := by
  refine' get_prop F X ?p3 ?p4 ?p5 ?p6 ?p7 ?p8 ?p9 ?_
  case p3 => k_inst
  case p4 => k_is
  case p5 => k_is
  case p6 => k_is
  case p7 => k_is
  case p8 => k_is
  case p9 => k_is
  refine' code_def B F X N T rfl hf hk ?k6 ?k7 ?k8 ?k9 ?kB ?_ ?c2 ?c3 ?c4 ?c5
  case k6 => k_is
  case k7 => k_is
  case k8 => ktr_room
  case k9 => first | exact BindsTo.of_eq rfl | exact binds_K (by k_in) rfl (by k_is) rfl rfl rfl
  case c5 => decide
  case kB => exact locs rfl
  case c2 => exact rfl
  case c3 => exact rfl
  case c4 => exact rfl
  intro g' L' h' FG' F' N' B' X' T'
  (try dsimp only)
  (try k_fold)
  k_steps
  all_goals exact hret _ _ (by assumption) (by assumption)
set_option maxHeartbeats 4000000 in
theorem top_p (B : Below A₀ base outer h₀) (F : Fr h₀ L s.heap m) (X : (Mine.hd.heap_1 w.params).In h₀) (N : News h₀ L s.heap news) (T : Top p loose mean mg mb h₀) (hf : env.frame = some L) (hk : env.scope.kind = .function) (hdp : dp + 5 < recursionLimit) (hun : un + 40 < cLine) {expr : Bool}
    {a da : Addr} {k1 k2 k3 k4 k5 kw kh kx ky : Tok} {x1 y1 w1 h1 : Int}
    (ma : (a, instObj 203 da) ∈ news) (mda : (da, rdict w.params k1 k2 k3 k4 k5 (.int w1 kw) (.int h1 kh) (.int x1 kx) (.int y1 ky)) ∈ news)
    (hret : ∀ (t : Tok) h' tk', Fr h₀ L h' m → News h₀ L h' news → Q (.int (y1 + h1) t) { s with heap := h', toks := tk' }) :
    wpAny (model prog w) { handled := none, depth := dp, frames := some (env :: outer), guards := gd, units := un } (getAttr (.ref a) "top" expr) Q E s := by
  refine' get_prop F X ?p3 ?p4 ?p5 ?p6 ?p7 ?p8 ?p9 ?_
  case p3 => k_inst
  case p4 => k_is
  case p5 => k_is
  case p6 => k_is
  case p7 => k_is
  case p8 => k_is
  case p9 => k_is
  refine' code_def B F X N T rfl hf hk ?k6 ?k7 ?k8 ?k9 ?kB ?_ ?c2 ?c3 ?c4 ?c5
  case k6 => k_is
  case k7 => k_is
  case k8 => ktr_room
  case k9 => first | exact BindsTo.of_eq rfl | exact binds_K (by k_in) rfl (by k_is) rfl rfl rfl
  case c5 => decide
  case kB => exact locs rfl
  case c2 => exact rfl
  case c3 => exact rfl
  case c4 => exact rfl
  intro g' L' h' FG' F' N' B' X' T'
  (try dsimp only)
  (try k_fold)
  k_steps
  all_goals exact hret _ _ _ (by assumption) (by assumption)
set_option maxHeartbeats 4000000 in
theorem right_p (B : Below A₀ base outer h₀) (F : Fr h₀ L s.heap m) (X : (Mine.hd.heap_1 w.params).In h₀) (N : News h₀ L s.heap news) (T : Top p loose mean mg mb h₀) (hf : env.frame = some L) (hk : env.scope.kind = .function) (hdp : dp + 5 < recursionLimit) (hun : un + 40 < cLine) {expr : Bool}
    {a da : Addr} {k1 k2 k3 k4 k5 kw kh kx ky : Tok} {x1 y1 w1 h1 : Int}
    (ma : (a, instObj 203 da) ∈ news) (mda : (da, rdict w.params k1 k2 k3 k4 k5 (.int w1 kw) (.int h1 kh) (.int x1 kx) (.int y1 ky)) ∈ news)
    (hret : ∀ (t : Tok) h' tk', Fr h₀ L h' m → News h₀ L h' news → Q (.int (x1 + w1) t) { s with heap := h', toks := tk' }) :
    wpAny (model prog w) { handled := none, depth := dp, frames := some (env :: outer), guards := gd, units := un } (getAttr (.ref a) "right" expr) Q E s := by
  refine' get_prop F X ?p3 ?p4 ?p5 ?p6 ?p7 ?p8 ?p9 ?_
  case p3 => k_inst
  case p4 => k_is
  case p5 => k_is
  case p6 => k_is
  case p7 => k_is
  case p8 => k_is
  case p9 => k_is
  refine' code_def B F X N T rfl hf hk ?k6 ?k7 ?k8 ?k9 ?kB ?_ ?c2 ?c3 ?c4 ?c5
  case k6 => k_is
  case k7 => k_is
  case k8 => ktr_room
  case k9 => first | exact BindsTo.of_eq rfl | exact binds_K (by k_in) rfl (by k_is) rfl rfl rfl
  case c5 => decide
  case kB => exact locs rfl
  case c2 => exact rfl
  case c3 => exact rfl
  case c4 => exact rfl
  intro g' L' h' FG' F' N' B' X' T'
  (try dsimp only)
  (try k_fold)
  k_steps
  all_goals exact hret _ _ _ (by assumption) (by assumption)
set_option maxHeartbeats 4000000 in
theorem intersects_g (B : Below A₀ base outer h₀) (F : Fr h₀ L s.heap m) (X : (Mine.hd.heap_1 w.params).In h₀) (N : News h₀ L s.heap news) (T : Top p loose mean mg mb h₀) (hf : env.frame = some L) (hk : env.scope.kind = .function) (hdp : dp + 20 < recursionLimit) (hun : un + 100 < cLine) {args : Args}
    {e : Bool} {a da : Addr} {k1 k2 k3 k4 k5 kw kh kx ky : Tok} {x1 y1 w1 h1 : Int} {b db : Addr} {l1 l2 l3 l4 l5 lw lh lx ly : Tok} {x2 y2 w2 h2 : Int}
    (ma : (a, instObj 203 da) ∈ news) (mda : (da, rdict w.params k1 k2 k3 k4 k5 (.int w1 kw) (.int h1 kh) (.int x1 kx) (.int y1 ky)) ∈ news)
    (mb : (b, instObj 203 db) ∈ news) (mdb : (db, rdict w.params l1 l2 l3 l4 l5 (.int w2 lw) (.int h2 lh) (.int x2 lx) (.int y2 ly)) ∈ news)
    (hb : ∀ fd, fnAt (Mine.hd.heap_1 w.params) 185 = some fd → BindsTo s fd args [("self", .ref a), ("rect", .ref b), ("edges", .bool e)])
    (hret : ∀ (t : Tok) h' tk', Fr h₀ L h' m → News h₀ L h' news → Q (.bool (if e = true then decide (y1 ≤ y2 + h2 ∧ y2 ≤ y1 + h1 ∧ x1 ≤ x2 + w2 ∧ x2 ≤ x1 + w1) else decide (y1 < y2 + h2 ∧ y2 < y1 + h1 ∧ x1 < x2 + w2 ∧ x2 < x1 + w1))) { s with heap := h', toks := tk' }) :
    codeAny (model prog w) { handled := none, depth := dp, frames := some (env :: outer), guards := gd, units := un } (.call (.ref 185) args) (fun r s' => match r with | .ok (.ret v) => Q v s' | .ok _ => False | .error e => E e s') s := by
  refine' code_def (binds := [("self", .ref a), ("rect", .ref b), ("edges", .bool e)]) B F X N T rfl hf hk ?k6 ?k7 ?k8 ?k9 ?kB ?_ ?c2 ?c3 ?c4 ?c5
  case k6 => k_is
  case k7 => k_is
  case k8 => ktr_room
  case k9 => exact hb _ rfl
  case c5 => decide
  case kB => exact locs rfl
  case c2 => exact rfl
  case c3 => exact rfl
  case c4 => exact rfl
  intro g' L' h' FG' F' N' B' X' T'
  (try dsimp only)
  (try k_fold)
  (repeat' (first | (k_unfold; (try dsimp only)) | (k_end; wrow_close) | ((with_reducible show wpAny _ _ (getAttr (Value.ref _) (PySem.Str.ofString "right") _) _ _ _); k_dflt (refine' right_p (by k_asm) (by k_asm) (by k_asm) (by k_asm) (by k_asm) (by exact rfl) (by exact rfl) (by ktr_room) (by ktr_units) (by k_mem) (by k_mem) ?_; k_whole); intro t9 h9 tk9 F9 N9; (try k_fold); (try k_sweep)) | ((with_reducible show wpAny _ _ (getAttr (Value.ref _) (PySem.Str.ofString "top") _) _ _ _); k_dflt (refine' top_p (by k_asm) (by k_asm) (by k_asm) (by k_asm) (by k_asm) (by exact rfl) (by exact rfl) (by ktr_room) (by ktr_units) (by k_mem) (by k_mem) ?_; k_whole); intro t9 h9 tk9 F9 N9; (try k_fold); (try k_sweep)) | ((with_reducible show wpAny _ _ (getAttr (Value.ref _) (PySem.Str.ofString "left") _) _ _ _); k_dflt (refine' left_p (by k_asm) (by k_asm) (by k_asm) (by k_asm) (by k_asm) (by exact rfl) (by exact rfl) (by ktr_room) (by ktr_units) (by k_mem) (by k_mem) ?_; k_whole); intro h9 tk9 F9 N9; (try k_fold); (try k_sweep)) | ((with_reducible show wpAny _ _ (getAttr (Value.ref _) (PySem.Str.ofString "bottom") _) _ _ _); k_dflt (refine' bottom_p (by k_asm) (by k_asm) (by k_asm) (by k_asm) (by k_asm) (by exact rfl) (by exact rfl) (by ktr_room) (by ktr_units) (by k_mem) (by k_mem) ?_; k_whole); intro h9 tk9 F9 N9; (try k_fold); (try k_sweep)) | walk1 | (dsimp only; walk1) | (leave1; walk_say "STEP leave1"; try dsimp only) | fail "no step"))
  all_goals (refine cb_retB hret ?_ (by assumption) (by assumption))
  all_goals clear hret
  all_goals cb_eq
theorem intersects_c (B : Below A₀ base outer h₀) (F : Fr h₀ L s.heap m) (X : (Mine.hd.heap_1 w.params).In h₀) (N : News h₀ L s.heap news) (T : Top p loose mean mg mb h₀) (hf : env.frame = some L) (hk : env.scope.kind = .function) (hdp : dp + 20 < recursionLimit) (hun : un + 100 < cLine)
    {e : Bool} {a da : Addr} {k1 k2 k3 k4 k5 kw kh kx ky : Tok} {x1 y1 w1 h1 : Int} {b db : Addr} {l1 l2 l3 l4 l5 lw lh lx ly : Tok} {x2 y2 w2 h2 : Int}
    (ma : (a, instObj 203 da) ∈ news) (mda : (da, rdict w.params k1 k2 k3 k4 k5 (.int w1 kw) (.int h1 kh) (.int x1 kx) (.int y1 ky)) ∈ news)
    (mb : (b, instObj 203 db) ∈ news) (mdb : (db, rdict w.params l1 l2 l3 l4 l5 (.int w2 lw) (.int h2 lh) (.int x2 lx) (.int y2 ly)) ∈ news)
    (hret : ∀ (t : Tok) h' tk', Fr h₀ L h' m → News h₀ L h' news → Q (.bool (if e = true then decide (y1 ≤ y2 + h2 ∧ y2 ≤ y1 + h1 ∧ x1 ≤ x2 + w2 ∧ x2 ≤ x1 + w1) else decide (y1 < y2 + h2 ∧ y2 < y1 + h1 ∧ x1 < x2 + w2 ∧ x2 < x1 + w1))) { s with heap := h', toks := tk' }) :
    wpAny (model prog w) { handled := none, depth := dp, frames := some (env :: outer), guards := gd, units := un } (call (.ref 185) [.ref a, .ref b, .bool e]) Q E s :=
  wpAny_call (intersects_g B F X N T hf hk hdp hun ma mda mb mdb (fun fd he => by obtain rfl := Option.some.inj he; exact binds_K (by k_in) rfl (by k_is) rfl rfl (by kernel_rfl)) hret)
theorem intersects_k (B : Below A₀ base outer h₀) (F : Fr h₀ L s.heap m) (X : (Mine.hd.heap_1 w.params).In h₀) (N : News h₀ L s.heap news) (T : Top p loose mean mg mb h₀) (hf : env.frame = some L) (hk : env.scope.kind = .function) (hdp : dp + 20 < recursionLimit) (hun : un + 100 < cLine)
    {e : Bool} {a da : Addr} {k1 k2 k3 k4 k5 kw kh kx ky : Tok} {x1 y1 w1 h1 : Int} {b db : Addr} {l1 l2 l3 l4 l5 lw lh lx ly : Tok} {x2 y2 w2 h2 : Int}
    (ma : (a, instObj 203 da) ∈ news) (mda : (da, rdict w.params k1 k2 k3 k4 k5 (.int w1 kw) (.int h1 kh) (.int x1 kx) (.int y1 ky)) ∈ news)
    (mb : (b, instObj 203 db) ∈ news) (mdb : (db, rdict w.params l1 l2 l3 l4 l5 (.int w2 lw) (.int h2 lh) (.int x2 lx) (.int y2 ly)) ∈ news)
    (hret : ∀ (t : Tok) h' tk', Fr h₀ L h' m → News h₀ L h' news → Q (.bool (if e = true then decide (y1 ≤ y2 + h2 ∧ y2 ≤ y1 + h1 ∧ x1 ≤ x2 + w2 ∧ x2 ≤ x1 + w1) else decide (y1 < y2 + h2 ∧ y2 < y1 + h1 ∧ x1 < x2 + w2 ∧ x2 < x1 + w1))) { s with heap := h', toks := tk' }) :
    wpAny (model prog w) { handled := none, depth := dp, frames := some (env :: outer), guards := gd, units := un } (call (.ref 185) [.ref a, .ref b] [("edges", .bool e)]) Q E s :=
  wpAny_call (intersects_g B F X N T hf hk hdp hun ma mda mb mdb (fun fd he => by obtain rfl := Option.some.inj he; exact binds_K (by k_in) rfl (by k_is) rfl rfl (by kernel_rfl)) hret)
set_option maxHeartbeats 4000000 in
theorem area_c (B : Below A₀ base outer h₀) (F : Fr h₀ L s.heap m) (X : (Mine.hd.heap_1 w.params).In h₀) (N : News h₀ L s.heap news) (T : Top p loose mean mg mb h₀) (hf : env.frame = some L) (hk : env.scope.kind = .function) (hdp : dp + 20 < recursionLimit) (hun : un + 100 < cLine)
    {a da : Addr} {k1 k2 k3 k4 k5 kw kh kx ky : Tok} {x1 y1 w1 h1 : Int}
    (ma : (a, instObj 203 da) ∈ news) (mda : (da, rdict w.params k1 k2 k3 k4 k5 (.int w1 kw) (.int h1 kh) (.int x1 kx) (.int y1 ky)) ∈ news) (hm : IntMulOk w1 h1)
    (hret : ∀ (t : Tok) h' tk', Fr h₀ L h' m → News h₀ L h' news → Q (.int (w1 * h1) t) { s with heap := h', toks := tk' }) :
    wpAny (model prog w) { handled := none, depth := dp, frames := some (env :: outer), guards := gd, units := un } (call (.ref 163) [.ref a]) Q E s := by
  refine wpAny_call ?_
  refine' code_def B F X N T rfl hf hk ?k6 ?k7 ?k8 ?k9 ?kB ?_ ?c2 ?c3 ?c4 ?c5
  case k6 => k_is
  case k7 => k_is
  case k8 => ktr_room
  case k9 => first | exact BindsTo.of_eq rfl | exact binds_K (by k_in) rfl (by k_is) rfl rfl rfl
  case c5 => decide
  case kB => exact locs rfl
  case c2 => exact rfl
  case c3 => exact rfl
  case c4 => exact rfl
  intro g' L' h' FG' F' N' B' X' T'
  (try dsimp only)
  (try k_fold)
  (repeat' (first | (k_unfold; (try dsimp only)) | (k_end; wrow_close) | ((with_reducible show wpAny _ _ (getAttr (Value.ref _) (PySem.Str.ofString "right") _) _ _ _); k_dflt (refine' right_p (by k_asm) (by k_asm) (by k_asm) (by k_asm) (by k_asm) (by exact rfl) (by exact rfl) (by ktr_room) (by ktr_units) (by k_mem) (by k_mem) ?_; k_whole); intro t9 h9 tk9 F9 N9; (try k_fold); (try k_sweep)) | ((with_reducible show wpAny _ _ (getAttr (Value.ref _) (PySem.Str.ofString "top") _) _ _ _); k_dflt (refine' top_p (by k_asm) (by k_asm) (by k_asm) (by k_asm) (by k_asm) (by exact rfl) (by exact rfl) (by ktr_room) (by ktr_units) (by k_mem) (by k_mem) ?_; k_whole); intro t9 h9 tk9 F9 N9; (try k_fold); (try k_sweep)) | ((with_reducible show wpAny _ _ (getAttr (Value.ref _) (PySem.Str.ofString "left") _) _ _ _); k_dflt (refine' left_p (by k_asm) (by k_asm) (by k_asm) (by k_asm) (by k_asm) (by exact rfl) (by exact rfl) (by ktr_room) (by ktr_units) (by k_mem) (by k_mem) ?_; k_whole); intro h9 tk9 F9 N9; (try k_fold); (try k_sweep)) | ((with_reducible show wpAny _ _ (getAttr (Value.ref _) (PySem.Str.ofString "bottom") _) _ _ _); k_dflt (refine' bottom_p (by k_asm) (by k_asm) (by k_asm) (by k_asm) (by k_asm) (by exact rfl) (by exact rfl) (by ktr_room) (by ktr_units) (by k_mem) (by k_mem) ?_; k_whole); intro h9 tk9 F9 N9; (try k_fold); (try k_sweep)) | walk1 | (dsimp only; walk1) | (leave1; walk_say "STEP leave1"; try dsimp only) | fail "no step"))
  all_goals (refine cb_retI hret ?_ (by assumption) (by assumption))
  all_goals clear hret
  all_goals cb_eq

end
end Mine
end
namespace Mine
theorem offC2 : True := by
  w_top off
  trivial
theorem anewC2 : (1 : Nat) = 1 := by walk1
end Mine
section
open PySem PySem.W PySem.Calls PyProof.Rows
set_option maxRecDepth 100000
set_option linter.unusedVariables false
namespace Mine
theorem fill2 : (fun (_ : OpenLaw × (Params → Frag)) => True) (PySem.Challenge.rw_ay0032_01, Mine.hd.heap_1) := by
  k_fill
  trivial
local macro_rules | `(tactic| k_room) => `(tactic| ktr_room)
local macro_rules | `(tactic| k_units) => `(tactic| ktr_units)
local macro_rules | `(tactic| k_all) => `(tactic| exact allLt_ne (by assumption))
local macro_rules | `(tactic| k_mem) => `(tactic| assumption)
section
variable {prog : Program} {w : World} {p : Program} {loose : List Str} {mean : ExcName → Option Value} {mg mb : Str → Option Value} {dp un : Nat} {gd : Option (List Code)} {env : Env} {outer : List Env} {A₀ : Around} {base h₀ : Heap} {L : Addr} {m : Str → Option Value} {news : List (Addr × Obj)} {s : Shared} {Q E : Value → Shared → Prop}
set_option maxHeartbeats 4000000 in
theorem new_r (B : Below A₀ base outer h₀) (F : Fr h₀ L s.heap m) (X : (Mine.hd.heap_1 w.params).In h₀) (N : News h₀ L s.heap news) (T : Top p loose mean mg mb h₀) (hf : env.frame = some L) (hk : env.scope.kind = .function) (hdp : dp + 10 < recursionLimit) (hun : un + 60 < cLine) {x1 y1 w1 h1 : Int} {r1 r2 r3 r4 : Tok} (hw : 0 ≤ w1) (hh : 0 ≤ h1)
    (hret : ∀ (a d : Addr) (k1 k2 k3 k4 k5 kw kh kx ky : Tok) h' tk', Fr h₀ L h' m → News h₀ L h' ((a, instObj 203 d) :: (d, rdict w.params k1 k2 k3 k4 k5 (.int (w1) kw) (.int (h1) kh) (.int (x1) kx) (.int (y1) ky)) :: news) → (∀ p ∈ news, p.1 < d) → @LT.lt Nat _ d a → Q (.ref a) { s with heap := h', toks := tk' }) :
    wpAny (model prog w) { handled := none, depth := dp, frames := some (env :: outer), guards := gd, units := un } (call (.ref 203) [.int x1 r1, .int y1 r2, .int w1 r3, .int h1 r4]) Q E s := by
  refine' call_cls F X N ?p4 ?p5 ?p6 ?_
  case p4 => k_is
  case p5 => k_is
  case p6 => k_is
  intro x' d' hz F1 N1 l1 l2
  (try k_lt l1)
  (try k_lt2 l2)
  refine' code_def B F1 X N1 T rfl hf hk ?k6 ?k7 ?k8 ?k9 ?kB ?_ ?c2 ?c3 ?c4 ?c5
  case k6 => k_is
  case k7 => k_is
  case k8 => ktr_room
  case k9 => first | exact BindsTo.of_eq rfl | exact binds_K (by k_in) rfl (by k_is) rfl rfl rfl
  case c5 => decide
  case kB => exact locs rfl
  case c2 => exact rfl
  case c3 => exact rfl
  case c4 => exact rfl
  intro g' L' h' FG' F' N' B' X' T'
  (try dsimp only)
  (try k_fold)
  k_steps
  all_goals (refine' hret _ _ _ _ _ _ _ _ _ _ _ _ _ ?e1 ?e2 ?e3 ?e4; (case e1 => assumption); (case e2 => assumption); (case e3 => assumption); (case e4 => assumption))
theorem openc_le {e : Bool} {x1 y1 w1 h1 x2 y2 w2 h2 : Int} (h : (if e = true then decide (y1 ≤ y2 + h2 ∧ y2 ≤ y1 + h1 ∧ x1 ≤ x2 + w2 ∧ x2 ≤ x1 + w1) else decide (y1 < y2 + h2 ∧ y2 < y1 + h1 ∧ x1 < x2 + w2 ∧ x2 < x1 + w1)) = true) : y1 ≤ y2 + h2 ∧ y2 ≤ y1 + h1 ∧ x1 ≤ x2 + w2 ∧ x2 ≤ x1 + w1 := by
  cases e
  · have h := of_decide_eq_true h
    exact ⟨Int.le_of_lt h.1, Int.le_of_lt h.2.1, Int.le_of_lt h.2.2.1, Int.le_of_lt h.2.2.2⟩
  · exact of_decide_eq_true h
set_option maxHeartbeats 4000000 in
theorem box_c (B : Below A₀ base outer h₀) (F : Fr h₀ L s.heap m) (X : (Mine.hd.heap_1 w.params).In h₀) (N : News h₀ L s.heap news) (T : Top p loose mean mg mb h₀) (hf : env.frame = some L) (hk : env.scope.kind = .function) (hdp : dp + 20 < recursionLimit) (hun : un + 100 < cLine)
    {t : Addr} {r1 r2 r3 r4 : Tok} {rn : Nat} {x1 y1 w1 h1 : Int}
    (mt : (t, ({ cls := .type "tuple", data := .seq #[.int x1 r1, .int y1 r2, .int w1 r3, .int h1 r4] rn } : Obj)) ∈ news) (hw : 0 ≤ w1) (hh : 0 ≤ h1)
    (hret : ∀ (a d : Addr) (k1 k2 k3 k4 k5 kw kh kx ky : Tok) h' tk', Fr h₀ L h' m → News h₀ L h' ((a, instObj 203 d) :: (d, rdict w.params k1 k2 k3 k4 k5 (.int (w1) kw) (.int (h1) kh) (.int (x1) kx) (.int (y1) ky)) :: news) → (∀ p ∈ news, p.1 < d) → @LT.lt Nat _ d a → Q (.ref a) { s with heap := h', toks := tk' }) :
    wpAny (model prog w) { handled := none, depth := dp, frames := some (env :: outer), guards := gd, units := un } (call (.ref 214) [.ref t]) Q E s := by
  refine wpAny_call ?_
  refine' code_def B F X N T rfl hf hk ?k6 ?k7 ?k8 ?k9 ?kB ?_ ?c2 ?c3 ?c4 ?c5
  case k6 => k_is
  case k7 => k_is
  case k8 => ktr_room
  case k9 => first | exact BindsTo.of_eq rfl | exact binds_K (by k_in) rfl (by k_is) rfl rfl rfl
  case c5 => decide
  case kB => exact locs rfl
  case c2 => exact rfl
  case c3 => exact rfl
  case c4 => exact rfl
  intro g' L' h' FG' F' N' B' X' T'
  (try dsimp only)
  (try k_fold)
  (repeat' (first | (k_unfold; (try dsimp only)) | (k_end; wrow_close) | ((with_reducible show wpAny _ _ (call (Value.ref 203) _ _) _ _ _); (k_dflt (refine' new_r (by k_asm) (by k_asm) (by k_asm) (by k_asm) (by k_asm) (by exact rfl) (by exact rfl) (by ktr_room) (by ktr_units) (by (first | assumption | omega)) (by (first | assumption | omega)) ?_; k_whole; intro a9 d9 k91 k92 k93 k94 k95 kw9 kh9 kx9 ky9 h9 tk9 F9 N9 l91 l92; (try k_lt l91); (try k_lt2 l92); (try dsimp only); (try k_fold); (try k_sweep)))) | walk1 | (dsimp only; walk1) | (leave1; walk_say "STEP leave1"; try dsimp only) | fail "no step"))
  all_goals (refine' hret _ _ _ _ _ _ _ _ _ _ _ _ _ ?e1 ?e2 ?e3 ?e4; (case e1 => assumption); (case e2 => assumption); (case e3 => assumption); (case e4 => assumption))

theorem max_two_M {A : Around} {a b : Int} {t u : Tok} (hh : A.handled = none) (F : Fr h₀ L s.heap m) (N : News h₀ L s.heap news)
    (h : ∀ (t' : Tok) h' tk, Fr h₀ L h' m → News h₀ L h' news → Q (.int (max a b) t') { s with heap := h', toks := tk }) :
    wpAny (model prog w) A (call (.builtin "max") [.int a t, .int b u]) Q E s :=
  max_two_N hh F N fun h' tk F' N' => by rw [← max_if]; exact h _ h' tk F' N'
theorem min_two_M {A : Around} {a b : Int} {t u : Tok} (hh : A.handled = none) (F : Fr h₀ L s.heap m) (N : News h₀ L s.heap news)
    (h : ∀ (t' : Tok) h' tk, Fr h₀ L h' m → News h₀ L h' news → Q (.int (min a b) t') { s with heap := h', toks := tk }) :
    wpAny (model prog w) A (call (.builtin "min") [.int a t, .int b u]) Q E s :=
  min_two_N hh F N fun h' tk F' N' => by rw [← min_if]; exact h _ h' tk F' N'
set_option maxHeartbeats 4000000 in
theorem intersection_g (B : Below A₀ base outer h₀) (F : Fr h₀ L s.heap m) (X : (Mine.hd.heap_1 w.params).In h₀) (N : News h₀ L s.heap news) (T : Top p loose mean mg mb h₀) (hf : env.frame = some L) (hk : env.scope.kind = .function) (hdp : dp + 40 < recursionLimit) (hun : un + 300 < cLine) {args : Args}
    {e c : Bool} {a da : Addr} {k1 k2 k3 k4 k5 kw kh kx ky : Tok} {x1 y1 w1 h1 : Int} {b db : Addr} {l1 l2 l3 l4 l5 lw lh lx ly : Tok} {x2 y2 w2 h2 : Int}
    (ma : (a, instObj 203 da) ∈ news) (mda : (da, rdict w.params k1 k2 k3 k4 k5 (.int w1 kw) (.int h1 kh) (.int x1 kx) (.int y1 ky)) ∈ news)
    (mb : (b, instObj 203 db) ∈ news) (mdb : (db, rdict w.params l1 l2 l3 l4 l5 (.int w2 lw) (.int h2 lh) (.int x2 lx) (.int y2 ly)) ∈ news) (hw1 : 0 ≤ w1) (hh1 : 0 ≤ h1) (hw2 : 0 ≤ w2) (hh2 : 0 ≤ h2)
    (hc : (if e = true then decide (y1 ≤ y2 + h2 ∧ y2 ≤ y1 + h1 ∧ x1 ≤ x2 + w2 ∧ x2 ≤ x1 + w1) else decide (y1 < y2 + h2 ∧ y2 < y1 + h1 ∧ x1 < x2 + w2 ∧ x2 < x1 + w1)) = c) (hle : c = true → y1 ≤ y2 + h2 ∧ y2 ≤ y1 + h1 ∧ x1 ≤ x2 + w2 ∧ x2 ≤ x1 + w1)
    (hnone : c = false → ∀ h' tk', Fr h₀ L h' m → News h₀ L h' news → Q .none { s with heap := h', toks := tk' })
    (hb : ∀ fd, fnAt (Mine.hd.heap_1 w.params) 193 = some fd → BindsTo s fd args [("self", .ref a), ("rect", .ref b), ("edges", .bool e)])
    (hret : c = true → ∀ (a d : Addr) (k1 k2 k3 k4 k5 kw kh kx ky : Tok) h' tk', Fr h₀ L h' m → News h₀ L h' ((a, instObj 203 d) :: (d, rdict w.params k1 k2 k3 k4 k5 (.int (min (x1 + w1) (x2 + w2) - max x1 x2) kw) (.int (min (y1 + h1) (y2 + h2) - max y1 y2) kh) (.int (max x1 x2) kx) (.int (max y1 y2) ky)) :: news) → (∀ p ∈ news, p.1 < d) → @LT.lt Nat _ d a → Q (.ref a) { s with heap := h', toks := tk' }) :
    codeAny (model prog w) { handled := none, depth := dp, frames := some (env :: outer), guards := gd, units := un } (.call (.ref 193) args) (fun r s' => match r with | .ok (.ret v) => Q v s' | .ok _ => False | .error e => E e s') s := by
  refine' code_def (binds := [("self", .ref a), ("rect", .ref b), ("edges", .bool e)]) B F X N T rfl hf hk ?k6 ?k7 ?k8 ?k9 ?kB ?_ ?c2 ?c3 ?c4 ?c5
  case k6 => k_is
  case k7 => k_is
  case k8 => ktr_room
  case k9 => exact hb _ rfl
  case c5 => decide
  case kB => exact locs rfl
  case c2 => exact rfl
  case c3 => exact rfl
  case c4 => exact rfl
  intro g' L' h' FG' F' N' B' X' T'
  (try dsimp only)
  (try k_fold)
  cases c
  · (repeat' (first | (k_unfold; (try dsimp only)) | (k_end; wrow_close) | ((with_reducible show wpAny _ _ (getAttr (Value.ref _) (PySem.Str.ofString "right") _) _ _ _); k_dflt (refine' right_p (by k_asm) (by k_asm) (by k_asm) (by k_asm) (by k_asm) (by exact rfl) (by exact rfl) (by ktr_room) (by ktr_units) (by k_mem) (by k_mem) ?_; k_whole); intro t9 h9 tk9 F9 N9; (try k_fold); (try k_sweep)) | ((with_reducible show wpAny _ _ (getAttr (Value.ref _) (PySem.Str.ofString "top") _) _ _ _); k_dflt (refine' top_p (by k_asm) (by k_asm) (by k_asm) (by k_asm) (by k_asm) (by exact rfl) (by exact rfl) (by ktr_room) (by ktr_units) (by k_mem) (by k_mem) ?_; k_whole); intro t9 h9 tk9 F9 N9; (try k_fold); (try k_sweep)) | ((with_reducible show wpAny _ _ (getAttr (Value.ref _) (PySem.Str.ofString "left") _) _ _ _); k_dflt (refine' left_p (by k_asm) (by k_asm) (by k_asm) (by k_asm) (by k_asm) (by exact rfl) (by exact rfl) (by ktr_room) (by ktr_units) (by k_mem) (by k_mem) ?_; k_whole); intro h9 tk9 F9 N9; (try k_fold); (try k_sweep)) | ((with_reducible show wpAny _ _ (getAttr (Value.ref _) (PySem.Str.ofString "bottom") _) _ _ _); k_dflt (refine' bottom_p (by k_asm) (by k_asm) (by k_asm) (by k_asm) (by k_asm) (by exact rfl) (by exact rfl) (by ktr_room) (by ktr_units) (by k_mem) (by k_mem) ?_; k_whole); intro h9 tk9 F9 N9; (try k_fold); (try k_sweep)) | ((with_reducible show wpAny _ _ (call (Value.ref 185) _ _) _ _ _); (k_dflt (refine' intersects_k (by k_asm) (by k_asm) (by k_asm) (by k_asm) (by k_asm) (by exact rfl) (by exact rfl) (by ktr_room) (by ktr_units) (by k_mem) (by k_mem) (by k_mem) (by k_mem) ?_; k_whole; intro t9 h9 tk9 F9 N9; (try rw [hc]); (try k_fold); (try k_sweep)))) | ((with_reducible show wpAny _ _ (call (Value.builtin "min") [Value.int _ _, Value.int _ _]) _ _ _); k_dflt (refine' min_two_M (by exact rfl) (by k_asm) (by k_asm) ?_); intro t9 h9 tk9 F9 N9; (try k_sweep)) | ((with_reducible show wpAny _ _ (call (Value.builtin "max") [Value.int _ _, Value.int _ _]) _ _ _); k_dflt (refine' max_two_M (by exact rfl) (by k_asm) (by k_asm) ?_); intro t9 h9 tk9 F9 N9; (try k_sweep)) | ((with_reducible show wpAny _ _ (call (Value.ref 203) _ _) _ _ _); (k_dflt (refine' new_r (by k_asm) (by k_asm) (by k_asm) (by k_asm) (by k_asm) (by exact rfl) (by exact rfl) (by ktr_room) (by ktr_units) (by (first | assumption | omega)) (by (first | assumption | omega)) ?_; k_whole; intro a9 d9 k91 k92 k93 k94 k95 kw9 kh9 kx9 ky9 h9 tk9 F9 N9 l91 l92; (try k_lt l91); (try k_lt2 l92); (try dsimp only); (try k_fold); (try k_sweep)))) | walk1 | (dsimp only; walk1) | (leave1; walk_say "STEP leave1"; try dsimp only) | fail "no step"))
    all_goals (refine' hnone rfl _ _ ?e1 ?e2; (case e1 => assumption); (case e2 => assumption))
  · obtain ⟨i1, i2, i3, i4⟩ := hle rfl
    (repeat' (first | (k_unfold; (try dsimp only)) | (k_end; wrow_close) | ((with_reducible show wpAny _ _ (getAttr (Value.ref _) (PySem.Str.ofString "right") _) _ _ _); k_dflt (refine' right_p (by k_asm) (by k_asm) (by k_asm) (by k_asm) (by k_asm) (by exact rfl) (by exact rfl) (by ktr_room) (by ktr_units) (by k_mem) (by k_mem) ?_; k_whole); intro t9 h9 tk9 F9 N9; (try k_fold); (try k_sweep)) | ((with_reducible show wpAny _ _ (getAttr (Value.ref _) (PySem.Str.ofString "top") _) _ _ _); k_dflt (refine' top_p (by k_asm) (by k_asm) (by k_asm) (by k_asm) (by k_asm) (by exact rfl) (by exact rfl) (by ktr_room) (by ktr_units) (by k_mem) (by k_mem) ?_; k_whole); intro t9 h9 tk9 F9 N9; (try k_fold); (try k_sweep)) | ((with_reducible show wpAny _ _ (getAttr (Value.ref _) (PySem.Str.ofString "left") _) _ _ _); k_dflt (refine' left_p (by k_asm) (by k_asm) (by k_asm) (by k_asm) (by k_asm) (by exact rfl) (by exact rfl) (by ktr_room) (by ktr_units) (by k_mem) (by k_mem) ?_; k_whole); intro h9 tk9 F9 N9; (try k_fold); (try k_sweep)) | ((with_reducible show wpAny _ _ (getAttr (Value.ref _) (PySem.Str.ofString "bottom") _) _ _ _); k_dflt (refine' bottom_p (by k_asm) (by k_asm) (by k_asm) (by k_asm) (by k_asm) (by exact rfl) (by exact rfl) (by ktr_room) (by ktr_units) (by k_mem) (by k_mem) ?_; k_whole); intro h9 tk9 F9 N9; (try k_fold); (try k_sweep)) | ((with_reducible show wpAny _ _ (call (Value.ref 185) _ _) _ _ _); (k_dflt (refine' intersects_k (by k_asm) (by k_asm) (by k_asm) (by k_asm) (by k_asm) (by exact rfl) (by exact rfl) (by ktr_room) (by ktr_units) (by k_mem) (by k_mem) (by k_mem) (by k_mem) ?_; k_whole; intro t9 h9 tk9 F9 N9; (try rw [hc]); (try k_fold); (try k_sweep)))) | ((with_reducible show wpAny _ _ (call (Value.builtin "min") [Value.int _ _, Value.int _ _]) _ _ _); k_dflt (refine' min_two_M (by exact rfl) (by k_asm) (by k_asm) ?_); intro t9 h9 tk9 F9 N9; (try k_sweep)) | ((with_reducible show wpAny _ _ (call (Value.builtin "max") [Value.int _ _, Value.int _ _]) _ _ _); k_dflt (refine' max_two_M (by exact rfl) (by k_asm) (by k_asm) ?_); intro t9 h9 tk9 F9 N9; (try k_sweep)) | ((with_reducible show wpAny _ _ (call (Value.ref 203) _ _) _ _ _); (k_dflt (refine' new_r (by k_asm) (by k_asm) (by k_asm) (by k_asm) (by k_asm) (by exact rfl) (by exact rfl) (by ktr_room) (by ktr_units) (by (first | assumption | omega)) (by (first | assumption | omega)) ?_; k_whole; intro a9 d9 k91 k92 k93 k94 k95 kw9 kh9 kx9 ky9 h9 tk9 F9 N9 l91 l92; (try k_lt l91); (try k_lt2 l92); (try dsimp only); (try k_fold); (try k_sweep)))) | walk1 | (dsimp only; walk1) | (leave1; walk_say "STEP leave1"; try dsimp only) | fail "no step"))
    all_goals (refine' hret rfl _ _ _ _ _ _ _ _ _ _ _ _ _ ?e1 ?e2 ?e3 ?e4; (case e1 => assumption); (case e2 => assumption); (case e3 => assumption); (case e4 => assumption))
theorem intersection_c (B : Below A₀ base outer h₀) (F : Fr h₀ L s.heap m) (X : (Mine.hd.heap_1 w.params).In h₀) (N : News h₀ L s.heap news) (T : Top p loose mean mg mb h₀) (hf : env.frame = some L) (hk : env.scope.kind = .function) (hdp : dp + 40 < recursionLimit) (hun : un + 300 < cLine)
    {e : Bool} {a da : Addr} {k1 k2 k3 k4 k5 kw kh kx ky : Tok} {x1 y1 w1 h1 : Int} {b db : Addr} {l1 l2 l3 l4 l5 lw lh lx ly : Tok} {x2 y2 w2 h2 : Int}
    (ma : (a, instObj 203 da) ∈ news) (mda : (da, rdict w.params k1 k2 k3 k4 k5 (.int w1 kw) (.int h1 kh) (.int x1 kx) (.int y1 ky)) ∈ news)
    (mb : (b, instObj 203 db) ∈ news) (mdb : (db, rdict w.params l1 l2 l3 l4 l5 (.int w2 lw) (.int h2 lh) (.int x2 lx) (.int y2 ly)) ∈ news) (hw1 : 0 ≤ w1) (hh1 : 0 ≤ h1) (hw2 : 0 ≤ w2) (hh2 : 0 ≤ h2)
    (hnone : (if e = true then decide (y1 ≤ y2 + h2 ∧ y2 ≤ y1 + h1 ∧ x1 ≤ x2 + w2 ∧ x2 ≤ x1 + w1) else decide (y1 < y2 + h2 ∧ y2 < y1 + h1 ∧ x1 < x2 + w2 ∧ x2 < x1 + w1)) = false → ∀ h' tk', Fr h₀ L h' m → News h₀ L h' news → Q .none { s with heap := h', toks := tk' })
    (hret : (if e = true then decide (y1 ≤ y2 + h2 ∧ y2 ≤ y1 + h1 ∧ x1 ≤ x2 + w2 ∧ x2 ≤ x1 + w1) else decide (y1 < y2 + h2 ∧ y2 < y1 + h1 ∧ x1 < x2 + w2 ∧ x2 < x1 + w1)) = true → ∀ (a d : Addr) (k1 k2 k3 k4 k5 kw kh kx ky : Tok) h' tk', Fr h₀ L h' m → News h₀ L h' ((a, instObj 203 d) :: (d, rdict w.params k1 k2 k3 k4 k5 (.int (min (x1 + w1) (x2 + w2) - max x1 x2) kw) (.int (min (y1 + h1) (y2 + h2) - max y1 y2) kh) (.int (max x1 x2) kx) (.int (max y1 y2) ky)) :: news) → (∀ p ∈ news, p.1 < d) → @LT.lt Nat _ d a → Q (.ref a) { s with heap := h', toks := tk' }) :
    wpAny (model prog w) { handled := none, depth := dp, frames := some (env :: outer), guards := gd, units := un } (call (.ref 193) [.ref a, .ref b, .bool e]) Q E s :=
  wpAny_call (intersection_g B F X N T hf hk hdp hun ma mda mb mdb hw1 hh1 hw2 hh2 rfl openc_le hnone (fun fd he => by obtain rfl := Option.some.inj he; exact binds_K (by k_in) rfl (by k_is) rfl rfl (by kernel_rfl)) hret)
theorem intersection_d (B : Below A₀ base outer h₀) (F : Fr h₀ L s.heap m) (X : (Mine.hd.heap_1 w.params).In h₀) (N : News h₀ L s.heap news) (T : Top p loose mean mg mb h₀) (hf : env.frame = some L) (hk : env.scope.kind = .function) (hdp : dp + 40 < recursionLimit) (hun : un + 300 < cLine)
    {a da : Addr} {k1 k2 k3 k4 k5 kw kh kx ky : Tok} {x1 y1 w1 h1 : Int} {b db : Addr} {l1 l2 l3 l4 l5 lw lh lx ly : Tok} {x2 y2 w2 h2 : Int}
    (ma : (a, instObj 203 da) ∈ news) (mda : (da, rdict w.params k1 k2 k3 k4 k5 (.int w1 kw) (.int h1 kh) (.int x1 kx) (.int y1 ky)) ∈ news)
    (mb : (b, instObj 203 db) ∈ news) (mdb : (db, rdict w.params l1 l2 l3 l4 l5 (.int w2 lw) (.int h2 lh) (.int x2 lx) (.int y2 ly)) ∈ news) (hw1 : 0 ≤ w1) (hh1 : 0 ≤ h1) (hw2 : 0 ≤ w2) (hh2 : 0 ≤ h2)
    (hnone : ¬ (y1 < y2 + h2 ∧ y2 < y1 + h1 ∧ x1 < x2 + w2 ∧ x2 < x1 + w1) → ∀ h' tk', Fr h₀ L h' m → News h₀ L h' news → Q .none { s with heap := h', toks := tk' })
    (hret : (y1 < y2 + h2 ∧ y2 < y1 + h1 ∧ x1 < x2 + w2 ∧ x2 < x1 + w1) → ∀ (a d : Addr) (k1 k2 k3 k4 k5 kw kh kx ky : Tok) h' tk', Fr h₀ L h' m → News h₀ L h' ((a, instObj 203 d) :: (d, rdict w.params k1 k2 k3 k4 k5 (.int (min (x1 + w1) (x2 + w2) - max x1 x2) kw) (.int (min (y1 + h1) (y2 + h2) - max y1 y2) kh) (.int (max x1 x2) kx) (.int (max y1 y2) ky)) :: news) → (∀ p ∈ news, p.1 < d) → @LT.lt Nat _ d a → Q (.ref a) { s with heap := h', toks := tk' }) :
    wpAny (model prog w) { handled := none, depth := dp, frames := some (env :: outer), guards := gd, units := un } (call (.ref 193) [.ref a, .ref b]) Q E s :=
  wpAny_call (intersection_g B F X N T hf hk hdp hun ma mda mb mdb hw1 hh1 hw2 hh2 (e := false) (c := decide (y1 < y2 + h2 ∧ y2 < y1 + h1 ∧ x1 < x2 + w2 ∧ x2 < x1 + w1)) rfl (openc_le (e := false)) (fun h => hnone (of_decide_eq_false h)) (fun fd he => by obtain rfl := Option.some.inj he; exact binds_K (by k_in) rfl (by k_is) rfl rfl (by kernel_rfl)) (fun h => hret (of_decide_eq_true h)))
end
end Mine
end
namespace Mine
theorem offC3 : True := by
  w_top off
  trivial
theorem anewC3 : (1 : Nat) = 1 := by walk1
end Mine
section
open PySem PySem.W PySem.Calls PyProof.Rows
set_option maxRecDepth 100000
set_option linter.unusedVariables false
namespace Mine
theorem fill3 : (fun (_ : OpenLaw × (Params → Frag)) => True) (PySem.Challenge.rw_ay0032_01, Mine.hd.heap_1) := by
  k_fill
  trivial
local macro_rules | `(tactic| k_room) => `(tactic| ktr_room)
local macro_rules | `(tactic| k_units) => `(tactic| ktr_units)
local macro_rules | `(tactic| k_all) => `(tactic| exact allLt_ne (by assumption))
local macro_rules | `(tactic| k_mem) => `(tactic| assumption)

theorem upd_app {d : Addr} {o o' : Obj} : ∀ {pre post : List (Addr × Obj)}, (∀ p ∈ pre, p.1 ≠ d) → (∀ p ∈ post, p.1 ≠ d) → Upd d o o' (pre ++ (d, o) :: post) (pre ++ (d, o') :: post)
  | [], _, _, h => Upd.head h
  | q :: r, _, h, k => Upd.tail (h q (.head _)) (upd_app (fun p hp => h p (.tail _ hp)) k)
theorem mem_skip {x y : Addr × Obj} {pre post : List (Addr × Obj)} (h : x ∈ pre ++ post) : x ∈ pre ++ y :: post := by
  rcases List.mem_append.mp h with h | h
  · exact List.mem_append_left _ h
  · exact List.mem_append_right _ (.tail _ h)
theorem mem_mid {y : Addr × Obj} {pre post : List (Addr × Obj)} : y ∈ pre ++ y :: post := List.mem_append_right _ (.head _)
section
variable {prog : Program} {w : World} {p : Program} {loose : List Str} {mean : ExcName → Option Value} {mg mb : Str → Option Value} {dp un : Nat} {gd : Option (List Code)} {env : Env} {outer : List Env} {A₀ : Around} {base h₀ : Heap} {L : Addr} {m : Str → Option Value} {news : List (Addr × Obj)} {s : Shared} {Q E : Value → Shared → Prop}
set_option maxHeartbeats 4000000 in
theorem told_none_c (B : Below A₀ base outer h₀) (F : Fr h₀ L s.heap m) (X : (Mine.hd.heap_1 w.params).In h₀) (N : News h₀ L s.heap news) (T : Top p loose mean mg mb h₀) (hf : env.frame = some L) (hk : env.scope.kind = .function) (hdp : dp + 20 < recursionLimit) (hun : un + 100 < cLine)
    (hret : ∀ h' tk', Fr h₀ L h' m → News h₀ L h' news → Q .none { s with heap := h', toks := tk' }) :
    wpAny (model prog w) { handled := none, depth := dp, frames := some (env :: outer), guards := gd, units := un } (call (.ref 221) [.none]) Q E s := by
  refine wpAny_call ?_
  refine' code_def B F X N T rfl hf hk ?k6 ?k7 ?k8 ?k9 ?kB ?_ ?c2 ?c3 ?c4 ?c5
  case k6 => k_is
  case k7 => k_is
  case k8 => ktr_room
  case k9 => first | exact BindsTo.of_eq rfl | exact binds_K (by k_in) rfl (by k_is) rfl rfl rfl
  case c5 => decide
  case kB => exact locs rfl
  case c2 => exact rfl
  case c3 => exact rfl
  case c4 => exact rfl
  intro g' L' h' FG' F' N' B' X' T'
  (try dsimp only)
  (try k_fold)
  k_steps
  all_goals (exact hret _ _ (by assumption) (by assumption))
set_option maxHeartbeats 4000000 in
theorem told_c (B : Below A₀ base outer h₀) (F : Fr h₀ L s.heap m) (X : (Mine.hd.heap_1 w.params).In h₀) (N : News h₀ L s.heap news) (T : Top p loose mean mg mb h₀) (hf : env.frame = some L) (hk : env.scope.kind = .function) (hdp : dp + 20 < recursionLimit) (hun : un + 100 < cLine)
    {a da : Addr} {k1 k2 k3 k4 k5 kw kh kx ky : Tok} {x1 y1 w1 h1 : Int}
    (ma : (a, instObj 203 da) ∈ news) (mda : (da, rdict w.params k1 k2 k3 k4 k5 (.int w1 kw) (.int h1 kh) (.int x1 kx) (.int y1 ky)) ∈ news)
    (hret : ∀ (t : Addr) (t1 t2 t3 t4 : Tok) h' tk', Fr h₀ L h' m → News h₀ L h' ((t, ({ cls := .type "tuple", data := .seq #[.int x1 t1, .int y1 t2, .int w1 t3, .int h1 t4] 0 } : Obj)) :: news) → (∀ p ∈ news, p.1 < t) → Q (.ref t) { s with heap := h', toks := tk' }) :
    wpAny (model prog w) { handled := none, depth := dp, frames := some (env :: outer), guards := gd, units := un } (call (.ref 221) [.ref a]) Q E s := by
  refine wpAny_call ?_
  refine' code_def B F X N T rfl hf hk ?k6 ?k7 ?k8 ?k9 ?kB ?_ ?c2 ?c3 ?c4 ?c5
  case k6 => k_is
  case k7 => k_is
  case k8 => ktr_room
  case k9 => first | exact BindsTo.of_eq rfl | exact binds_K (by k_in) rfl (by k_is) rfl rfl rfl
  case c5 => decide
  case kB => exact locs rfl
  case c2 => exact rfl
  case c3 => exact rfl
  case c4 => exact rfl
  intro g' L' h' FG' F' N' B' X' T'
  (try dsimp only)
  (try k_fold)
  k_steps
  all_goals (refine' hret _ _ _ _ _ _ _ ?e1 ?e2 ?e3; (case e1 => assumption); (case e2 => assumption); (case e3 => assumption))

local macro_rules | `(tactic| k_upd) => `(tactic| exact upd_app (by assumption) (by assumption))
local macro_rules | `(tactic| k_mem) => `(tactic| first | exact mem_mid | exact mem_skip (by assumption))
set_option maxHeartbeats 4000000 in
theorem join_c {pre post : List (Addr × Obj)} {a da : Addr} {k1 k2 k3 k4 k5 kw kh kx ky : Tok} {x1 y1 w1 h1 : Int} {b db : Addr} {l1 l2 l3 l4 l5 lw lh lx ly : Tok} {x2 y2 w2 h2 : Int}
    (B : Below A₀ base outer h₀) (F : Fr h₀ L s.heap m) (X : (Mine.hd.heap_1 w.params).In h₀) (N : News h₀ L s.heap (pre ++ (da, rdict w.params k1 k2 k3 k4 k5 (.int w1 kw) (.int h1 kh) (.int x1 kx) (.int y1 ky)) :: post)) (T : Top p loose mean mg mb h₀) (hf : env.frame = some L) (hk : env.scope.kind = .function) (hdp : dp + 40 < recursionLimit) (hun : un + 300 < cLine)
    (ma : (a, instObj 203 da) ∈ pre ++ post) (mb : (b, instObj 203 db) ∈ pre ++ post) (mdb : (db, rdict w.params l1 l2 l3 l4 l5 (.int w2 lw) (.int h2 lh) (.int x2 lx) (.int y2 ly)) ∈ pre ++ post)
    (o1 : ∀ p ∈ pre, p.1 ≠ da) (o2 : ∀ p ∈ post, p.1 ≠ da)
    (hw1 : 0 ≤ w1) (hh1 : 0 ≤ h1) (hw2 : 0 ≤ w2) (hh2 : 0 ≤ h2)
    (hT : JoinQ x1 y1 w1 h1 x2 y2 w2 h2 → ∀ (x y v u : Int), x = min x1 x2 → y = min y1 y2 → v = max (x1 + w1) (x2 + w2) - min x1 x2 → u = max (y1 + h1) (y2 + h2) - min y1 y2 → ∀ (tv tu tx ty : Tok) h' tk', Fr h₀ L h' m → News h₀ L h' (pre ++ (da, rdict w.params k1 k2 k3 k4 k5 (.int v tv) (.int u tu) (.int x tx) (.int y ty)) :: post) → Q (.bool true) { s with heap := h', toks := tk' })
    (hF : ¬ JoinQ x1 y1 w1 h1 x2 y2 w2 h2 → ∀ h' tk', Fr h₀ L h' m → News h₀ L h' (pre ++ (da, rdict w.params k1 k2 k3 k4 k5 (.int w1 kw) (.int h1 kh) (.int x1 kx) (.int y1 ky)) :: post) → Q (.bool false) { s with heap := h', toks := tk' }) :
    wpAny (model prog w) { handled := none, depth := dp, frames := some (env :: outer), guards := gd, units := un } (call (.ref 200) [.ref a, .ref b]) Q E s := by
  refine wpAny_call ?_
  refine' code_def B F X N T rfl hf hk ?k6 ?k7 ?k8 ?k9 ?kB ?_ ?c2 ?c3 ?c4 ?c5
  case k6 => k_is
  case k7 => k_is
  case k8 => ktr_room
  case k9 => first | exact BindsTo.of_eq rfl | exact binds_K (by k_in) rfl (by k_is) rfl rfl rfl
  case c5 => decide
  case kB => exact locs rfl
  case c2 => exact rfl
  case c3 => exact rfl
  case c4 => exact rfl
  intro g' L' h' FG' F' N' B' X' T'
  (try dsimp only)
  (try k_fold)
  (repeat' (first | (k_unfold; (try dsimp only)) | (k_end; wrow_close) | ((with_reducible show wpAny _ _ (call (Value.builtin "min") [Value.int _ _, Value.int _ _]) _ _ _); k_dflt (refine' min_two_M (by exact rfl) (by k_asm) (by k_asm) ?_); intro t9 h9 tk9 F9 N9; (try k_sweep)) | ((with_reducible show wpAny _ _ (call (Value.builtin "max") [Value.int _ _, Value.int _ _]) _ _ _); k_dflt (refine' max_two_M (by exact rfl) (by k_asm) (by k_asm) ?_); intro t9 h9 tk9 F9 N9; (try k_sweep)) | ((with_reducible show wpAny _ _ (getAttr (Value.ref _) (PySem.Str.ofString "right") _) _ _ _); k_dflt (refine' right_p (by k_asm) (by k_asm) (by k_asm) (by k_asm) (by k_asm) (by exact rfl) (by exact rfl) (by ktr_room) (by ktr_units) (by k_mem) (by k_mem) ?_; k_whole); intro t9 h9 tk9 F9 N9; (try k_fold); (try k_sweep)) | ((with_reducible show wpAny _ _ (getAttr (Value.ref _) (PySem.Str.ofString "top") _) _ _ _); k_dflt (refine' top_p (by k_asm) (by k_asm) (by k_asm) (by k_asm) (by k_asm) (by exact rfl) (by exact rfl) (by ktr_room) (by ktr_units) (by k_mem) (by k_mem) ?_; k_whole); intro t9 h9 tk9 F9 N9; (try k_fold); (try k_sweep)) | ((with_reducible show wpAny _ _ (getAttr (Value.ref _) (PySem.Str.ofString "left") _) _ _ _); k_dflt (refine' left_p (by k_asm) (by k_asm) (by k_asm) (by k_asm) (by k_asm) (by exact rfl) (by exact rfl) (by ktr_room) (by ktr_units) (by k_mem) (by k_mem) ?_; k_whole); intro h9 tk9 F9 N9; (try k_fold); (try k_sweep)) | ((with_reducible show wpAny _ _ (getAttr (Value.ref _) (PySem.Str.ofString "bottom") _) _ _ _); k_dflt (refine' bottom_p (by k_asm) (by k_asm) (by k_asm) (by k_asm) (by k_asm) (by exact rfl) (by exact rfl) (by ktr_room) (by ktr_units) (by k_mem) (by k_mem) ?_; k_whole); intro h9 tk9 F9 N9; (try k_fold); (try k_sweep)) | ((with_reducible show wpAny _ _ (call (Value.ref 185) _ _) _ _ _); (k_dflt (refine' intersects_k (by k_asm) (by k_asm) (by k_asm) (by k_asm) (by k_asm) (by exact rfl) (by exact rfl) (by ktr_room) (by ktr_units) (by k_mem) (by k_mem) (by k_mem) (by k_mem) ?_; k_whole; intro t9 h9 tk9 F9 N9; (try simp only [if_true, Bool.false_eq_true, if_false]); (try k_fold); (try k_sweep)))) | ((with_reducible show wpAny _ _ (call (Value.ref 177) _ _) _ _ _); (k_dflt (refine' contains_c (by k_asm) (by k_asm) (by k_asm) (by k_asm) (by k_asm) (by exact rfl) (by exact rfl) (by ktr_room) (by ktr_units) (by k_mem) (by k_mem) (by k_mem) (by k_mem) ?_; k_whole; intro t9 h9 tk9 F9 N9; (try simp only [if_true, Bool.false_eq_true, if_false]); (try k_fold); (try k_sweep)))) | walk1 | (dsimp only; walk1) | (leave1; walk_say "STEP leave1"; try dsimp only) | fail "no step"))
  all_goals (first
    | (refine' hT ?_ _ _ _ _ ?_ ?_ ?_ ?_ _ _ _ _ _ _ (by assumption) (by assumption); all_goals (clear hT hF; (try unfold JoinQ); (try simp only [decide_eq_true_eq, decide_eq_false_iff_not] at *); first | done | omega))
    | (refine' hF ?_ _ _ (by assumption) (by assumption); (clear hT hF; (try unfold JoinQ); (try simp only [decide_eq_true_eq, decide_eq_false_iff_not] at *); first | done | omega)))
theorem mem_off {x y : Addr × Obj} {pre post : List (Addr × Obj)} (h : x ∈ pre ++ y :: post) (hn : x ≠ y) : x ∈ pre ++ post := by
  rcases List.mem_append.mp h with h | h
  · exact List.mem_append_left _ h
  · rcases List.mem_cons.mp h with h | h
    · exact absurd h hn
    · exact List.mem_append_right _ h
theorem join_u {g : Obj → List (Addr × Obj)} {a da : Addr} {k1 k2 k3 k4 k5 kw kh kx ky : Tok} {x1 y1 w1 h1 : Int} {b db : Addr} {l1 l2 l3 l4 l5 lw lh lx ly : Tok} {x2 y2 w2 h2 : Int}
    (B : Below A₀ base outer h₀) (F : Fr h₀ L s.heap m) (X : (Mine.hd.heap_1 w.params).In h₀) (N : News h₀ L s.heap news) (T : Top p loose mean mg mb h₀) (hf : env.frame = some L) (hk : env.scope.kind = .function) (hdp : dp + 40 < recursionLimit) (hun : un + 300 < cLine)
    (ma : (a, instObj 203 da) ∈ news) (mb : (b, instObj 203 db) ∈ news) (mdb : (db, rdict w.params l1 l2 l3 l4 l5 (.int w2 lw) (.int h2 lh) (.int x2 lx) (.int y2 ly)) ∈ news)
    (U : UpdF da (rdict w.params k1 k2 k3 k4 k5 (.int w1 kw) (.int h1 kh) (.int x1 kx) (.int y1 ky)) news g) (hne : db ≠ da)
    (hw1 : 0 ≤ w1) (hh1 : 0 ≤ h1) (hw2 : 0 ≤ w2) (hh2 : 0 ≤ h2)
    (hT : JoinQ x1 y1 w1 h1 x2 y2 w2 h2 → ∀ (x y v u : Int), x = min x1 x2 → y = min y1 y2 → v = max (x1 + w1) (x2 + w2) - min x1 x2 → u = max (y1 + h1) (y2 + h2) - min y1 y2 → ∀ (tv tu tx ty : Tok) h' tk', Fr h₀ L h' m → News h₀ L h' (g (rdict w.params k1 k2 k3 k4 k5 (.int v tv) (.int u tu) (.int x tx) (.int y ty))) → Q (.bool true) { s with heap := h', toks := tk' })
    (hF : ¬ JoinQ x1 y1 w1 h1 x2 y2 w2 h2 → ∀ h' tk', Fr h₀ L h' m → News h₀ L h' news → Q (.bool false) { s with heap := h', toks := tk' }) :
    wpAny (model prog w) { handled := none, depth := dp, frames := some (env :: outer), guards := gd, units := un } (call (.ref 200) [.ref a, .ref b]) Q E s := by
  obtain ⟨pre, post, rfl, hg, o1, o2⟩ := U.split
  refine join_c B F X N T hf hk hdp hun (mem_off ma (fun e => ?_)) (mem_off mb (fun e => ?_)) (mem_off mdb (fun e => hne (congrArg Prod.fst e))) o1 o2 hw1 hh1 hw2 hh2 (fun j x y v u e1 e2 e3 e4 tv tu tx ty h' tk' F' N' => hT j x y v u e1 e2 e3 e4 tv tu tx ty h' tk' F' ?_) hF
  · exact absurd (congrArg (fun q => q.2.cls) e) (by simp)
  · exact absurd (congrArg (fun q => q.2.cls) e) (by simp)
  · rw [hg]; exact N'
end
end Mine
end
namespace Mine
theorem offC4 : True := by
  w_top off
  trivial
theorem anewC4 : (1 : Nat) = 1 := by walk1
end Mine
section
open PySem PySem.W PySem.Calls PyProof.Rows
set_option maxRecDepth 100000
set_option linter.unusedVariables false
namespace Mine
theorem fill4 : (fun (_ : OpenLaw × (Params → Frag)) => True) (PySem.Challenge.rw_ay0032_01, Mine.hd.heap_1) := by
  k_fill
  trivial
local macro_rules | `(tactic| k_room) => `(tactic| ktr_room)
local macro_rules | `(tactic| k_units) => `(tactic| ktr_units)
local macro_rules | `(tactic| k_all) => `(tactic| exact allLt_ne (by assumption))
local macro_rules | `(tactic| k_mem) => `(tactic| assumption)
section
variable {prog : Program} {w : World} {p : Program} {loose : List Str} {mean : ExcName → Option Value} {mg mb : Str → Option Value} {dp un : Nat} {gd : Option (List Code)} {env : Env} {outer : List Env} {A₀ : Around} {base h₀ : Heap} {L : Addr} {m : Str → Option Value} {news : List (Addr × Obj)} {s : Shared} {Q E : Value → Shared → Prop}
structure Mulable (M : Int) : Prop where
  ok : ∀ {a b : Int}, -M ≤ a → a ≤ M → -M ≤ b → b ≤ M → IntMulOk a b
theorem rng_one {M D p v q u : Int} (hMD : 6 * D ≤ M) (h1 : -D ≤ p) (h2 : p ≤ D) (h3 : 1 ≤ v) (h4 : v ≤ D) (h5 : -D ≤ q) (h6 : q ≤ D) (h7 : 1 ≤ u) (h8 : u ≤ D) :
    (-M ≤ min (p + v) (q + u) - max p q ∧ min (p + v) (q + u) - max p q ≤ M) ∧ -M ≤ max (p + v) (q + u) - min p q ∧ max (p + v) (q + u) - min p q ≤ M := by
  have a1 := Int.min_le_left (p + v) (q + u)
  have a2 : p ≤ max p q := Int.le_max_left _ _
  have a3 : max p q ≤ D := Int.max_le.mpr ⟨h2, h6⟩
  have a4 : -D ≤ min (p + v) (q + u) := Int.le_min.mpr ⟨by omega, by omega⟩
  have a5 : max (p + v) (q + u) ≤ 2 * D := Int.max_le.mpr ⟨by omega, by omega⟩
  have a6 : -D ≤ min p q := Int.le_min.mpr ⟨h1, h5⟩
  have a7 := Int.le_max_left (p + v) (q + u)
  have a8 := Int.min_le_left p q
  generalize min (p + v) (q + u) = A at *
  generalize max p q = B at *
  generalize max (p + v) (q + u) = C at *
  generalize min p q = E at *
  refine ⟨⟨?_, ?_⟩, ?_, ?_⟩ <;> omega
local macro_rules | `(tactic| mul_fits) => `(tactic| exact Mulable.ok (by assumption) (by first | assumption | l_fact) (by first | assumption | l_fact) (by first | assumption | l_fact) (by first | assumption | l_fact))
set_option maxHeartbeats 16000000 in
theorem pair_c (B : Below A₀ base outer h₀) (F : Fr h₀ L s.heap m) (X : (Mine.hd.heap_1 w.params).In h₀) (N : News h₀ L s.heap news) (T : Top p loose mean mg mb h₀) (hf : env.frame = some L) (hk : env.scope.kind = .function) (hdp : dp + 60 < recursionLimit) (hun : un + 500 < cLine)
    {M D : Int} {t : Addr} {r1 r2 r3 r4 : Tok} {rn : Nat} {x1 y1 w1 h1 : Int} {u : Addr} {q1 q2 q3 q4 : Tok} {qn : Nat} {x2 y2 w2 h2 : Int} (hM : Mulable M) (hMD : 6 * D ≤ M)
    (mt : (t, ({ cls := .type "tuple", data := .seq #[.int x1 r1, .int y1 r2, .int w1 r3, .int h1 r4] rn } : Obj)) ∈ news) (mu : (u, ({ cls := .type "tuple", data := .seq #[.int x2 q1, .int y2 q2, .int w2 q3, .int h2 q4] qn } : Obj)) ∈ news)
    (bx1 : -D ≤ x1 ∧ x1 ≤ D) (by1 : -D ≤ y1 ∧ y1 ≤ D) (bw1 : 1 ≤ w1 ∧ w1 ≤ D) (bh1 : 1 ≤ h1 ∧ h1 ≤ D) (bx2 : -D ≤ x2 ∧ x2 ≤ D) (by2 : -D ≤ y2 ∧ y2 ≤ D) (bw2 : 1 ≤ w2 ∧ w2 ≤ D) (bh2 : 1 ≤ h2 ∧ h2 ≤ D)
    (hret : ∀ h' tk', Fr h₀ L h' m → News h₀ L h' news → Q (.bool true) { s with heap := h', toks := tk' }) :
    wpAny (model prog w) { handled := none, depth := dp, frames := some (env :: outer), guards := gd, units := un } (call (.ref 245) [.ref t, .ref u]) Q E s := by
  have ⟨e1, e2⟩ := bx1
  have ⟨e3, e4⟩ := by1
  have ⟨e5, e6⟩ := bw1
  have ⟨e7, e8⟩ := bh1
  have ⟨f1, f2⟩ := bx2
  have ⟨f3, f4⟩ := by2
  have ⟨f5, f6⟩ := bw2
  have ⟨f7, f8⟩ := bh2
  clear bx1 by1 bw1 bh1 bx2 by2 bw2 bh2
  have z1 : 0 ≤ w1 := by omega
  have z2 : 0 ≤ h1 := by omega
  have z3 : 0 ≤ w2 := by omega
  have z4 : 0 ≤ h2 := by omega
  have m0 : -M ≤ 0 := by omega
  have m1 : -M ≤ w1 := Int.le_trans m0 z1
  have m2 : w1 ≤ M := by omega
  have m3 : -M ≤ h1 := Int.le_trans m0 z2
  have m4 : h1 ≤ M := by omega
  have m5 : -M ≤ w2 := Int.le_trans m0 z3
  have m6 : w2 ≤ M := by omega
  have m7 : -M ≤ h2 := Int.le_trans m0 z4
  have m8 : h2 ≤ M := by omega
  have ⟨⟨i1, i2⟩, i3, i4⟩ := rng_one hMD e1 e2 e5 e6 f1 f2 f5 f6
  have ⟨⟨j1, j2⟩, j3, j4⟩ := rng_one hMD e3 e4 e7 e8 f3 f4 f7 f8
  refine wpAny_call ?_
  refine' code_def B F X N T rfl hf hk ?k6 ?k7 ?k8 ?k9 ?kB ?_ ?c2 ?c3 ?c4 ?c5
  case k6 => k_is
  case k7 => k_is
  case k8 => ktr_room
  case k9 => first | exact BindsTo.of_eq rfl | exact binds_K (by k_in) rfl (by k_is) rfl rfl rfl
  case c5 => decide
  case kB => exact locs rfl
  case c2 => exact rfl
  case c3 => exact rfl
  case c4 => exact rfl
  intro g' L' h' FG' F' N' B' X' T'
  (try dsimp only)
  (try k_fold)
  (repeat' (first | (k_unfold; (try dsimp only)) | (k_end; wrow_close) | ((with_reducible show wpAny _ _ (call (Value.ref 200) _ _) _ _ _); (k_dflt (refine' join_u (by k_asm) (by k_asm) (by k_asm) (by k_asm) (by k_asm) (by exact rfl) (by exact rfl) (by ktr_room) (by ktr_units) (by k_mem) (by k_mem) (by k_mem) (by k_updF) (by k_ne) (by (first | assumption | l_fact)) (by (first | assumption | l_fact)) (by (first | assumption | l_fact)) (by (first | assumption | l_fact)) ?_ ?_; all_goals (k_whole; (first | (intro c9 x9 y9 v9 u9 e91 e92 e93 e94 tv9 tu9 tx9 ty9 h9 tk9 F9 N9; (try dsimp only at N9)) | (intro c9 h9 tk9 F9 N9)); (try dsimp only); (try k_fold); (try k_sweep))))) | ((with_reducible show wpAny _ _ (call (Value.ref 193) _ _) _ _ _); (k_dflt (refine' intersection_d (by k_asm) (by k_asm) (by k_asm) (by k_asm) (by k_asm) (by exact rfl) (by exact rfl) (by ktr_room) (by ktr_units) (by k_mem) (by k_mem) (by k_mem) (by k_mem) (by (first | assumption | l_fact)) (by (first | assumption | l_fact)) (by (first | assumption | l_fact)) (by (first | assumption | l_fact)) ?_ ?_; all_goals (k_whole; (first | (intro c9 a9 d9 k91 k92 k93 k94 k95 kw9 kh9 kx9 ky9 h9 tk9 F9 N9 l91 l92; (try k_lt l91); (try k_lt2 l92)) | (intro c9 h9 tk9 F9 N9)); (try dsimp only); (try k_fold); (try k_sweep))))) | ((with_reducible show wpAny _ _ (call (Value.ref 163) _ _) _ _ _); (k_dflt (refine' area_c (by k_asm) (by k_asm) (by k_asm) (by k_asm) (by k_asm) (by exact rfl) (by exact rfl) (by ktr_room) (by ktr_units) (by k_mem) (by k_mem) (by mul_fits) ?_; k_whole; intro t9 h9 tk9 F9 N9; (try dsimp only); (try k_fold); (try k_sweep)))) | ((with_reducible show wpAny _ _ (call (Value.ref 214) _ _) _ _ _); (k_dflt (refine' box_c (by k_asm) (by k_asm) (by k_asm) (by k_asm) (by k_asm) (by exact rfl) (by exact rfl) (by ktr_room) (by ktr_units) (by k_mem) (by (first | assumption | l_fact)) (by (first | assumption | l_fact)) ?_; k_whole; intro a9 d9 k91 k92 k93 k94 k95 kw9 kh9 kx9 ky9 h9 tk9 F9 N9 l91 l92; (try k_lt l91); (try k_lt2 l92); (try dsimp only); (try k_fold); (try k_sweep)))) | ((with_reducible show wpAny _ _ (call (Value.ref 221) _ _) _ _ _); (k_dflt (refine' told_c (by k_asm) (by k_asm) (by k_asm) (by k_asm) (by k_asm) (by exact rfl) (by exact rfl) (by ktr_room) (by ktr_units) (by k_mem) (by k_mem) ?_; k_whole; intro t9 t91 t92 t93 t94 h9 tk9 F9 N9 l91; (try k_lt l91); (try dsimp only); (try k_fold); (try k_sweep)))) | ((with_reducible show wpAny _ _ (call (Value.ref 221) [Value.none] _) _ _ _); (k_dflt (refine' told_none_c (by k_asm) (by k_asm) (by k_asm) (by k_asm) (by k_asm) (by exact rfl) (by exact rfl) (by ktr_room) (by ktr_units)  ?_; k_whole; intro h9 tk9 F9 N9; (try dsimp only); (try k_fold); (try k_sweep)))) | ((with_reducible show wpAny _ _ (call (Value.ref 177) _ _) _ _ _); (k_dflt (refine' contains_c (by k_asm) (by k_asm) (by k_asm) (by k_asm) (by k_asm) (by exact rfl) (by exact rfl) (by ktr_room) (by ktr_units) (by k_mem) (by k_mem) (by k_mem) (by k_mem) ?_; k_whole; intro t9 h9 tk9 F9 N9; (try simp only [if_true, Bool.false_eq_true, if_false]); (try k_fold); (try k_sweep)))) | ((with_reducible show wpAny _ _ (compareOp CmpOp.Eq Value.none (Value.ref _)) _ _ _); (k_dflt (refine' dat_eq_none_tuple (by k_asm) (by kqd_in) (by rfl) (by ktr_units) ?_; k_whole))) | ((with_reducible show wpAny _ _ (subscriptTail _ _ (Value.ref _) (Value.int _ _)) _ _ _); k_dflt (refine' item_tupleT (by exact News.isTup (by k_asm) (by k_mem)) (by decide) (by decide) (by rfl) (by rfl) ?_; k_whole)) | ((with_reducible show wpAny _ _ (call (Value.builtin "min") [Value.int _ _, Value.int _ _]) _ _ _); k_dflt (refine' min_two_M (by exact rfl) (by k_asm) (by k_asm) ?_); intro t9 h9 tk9 F9 N9; (try k_sweep)) | ((with_reducible show wpAny _ _ (call (Value.builtin "max") [Value.int _ _, Value.int _ _]) _ _ _); k_dflt (refine' max_two_M (by exact rfl) (by k_asm) (by k_asm) ?_); intro t9 h9 tk9 F9 N9; (try k_sweep)) | walk1 | (dsimp only; walk1) | (leave1; walk_say "STEP leave1"; try dsimp only) | fail "no step"))
  all_goals (first
    | exact hret _ _ (by assumption) (cb_drop (by assumption) (by intro p hp; repeat' (first | exact hp | refine List.mem_cons_of_mem _ ?_)))
    | (exfalso; (with_reducible rename (_ != _) = true => hq); (replace hq := bne_iff_ne.mp hq); exact hq (by first | exact cont_some (by assumption) (by assumption) (by assumption) (by assumption) (by assumption) | exact cont_none (by assumption) (by assumption) (by assumption) (by assumption) (by assumption)))
    | (exfalso; (with_reducible rename (_ != _) = true => hq); (replace hq := bne_iff_ne.mp hq); (with_reducible rename JoinQ _ _ _ _ _ _ _ _ => jq); exact hq (by first | exact (beq_iff_eq.mpr ((area_some (by assumption) (by assumption) (by assumption) (by assumption) (by assumption)).mp jq)).symm | exact (beq_iff_eq.mpr ((area_none (by assumption) (by assumption) (by assumption) (by assumption) (by assumption)).mp jq)).symm))
    | (exfalso; (with_reducible rename (_ != _) = true => hq); (replace hq := bne_iff_ne.mp hq); (with_reducible rename ¬ JoinQ _ _ _ _ _ _ _ _ => jq); exact hq (Bool.eq_false_iff.mpr (fun z => jq (by first | exact (area_some (by assumption) (by assumption) (by assumption) (by assumption) (by assumption)).mpr (beq_iff_eq.mp z) | exact (area_none (by assumption) (by assumption) (by assumption) (by assumption) (by assumption)).mpr (beq_iff_eq.mp z)))).symm)
    | (refine cb_retB (x := true) (fun _ => hret) ?_ (by assumption) (cb_drop (by assumption) (by intro p hp; repeat' (first | exact hp | refine List.mem_cons_of_mem _ ?_))); (simp only [bne_self_eq_false, beq_iff_eq, Bool.and_eq_true]; refine ⟨?_, ?_, ?_, ?_⟩ <;> first | assumption | omega)))

end
end Mine
end
section
open PySem PySem.W PySem.Calls PyProof.Rows PySem.Spec
set_option maxRecDepth 100000
set_option linter.unusedVariables false
namespace Mine
structure R4 where
  x : Int
  y : Int
  w : Int
  h : Int
deriving DecidableEq
abbrev tup4 (x y w h : Value) (n : Nat) : Obj := { cls := .type "tuple", data := .seq #[x, y, w, h] n }
abbrev rowD (r : R4) : Dat := .tuple [.int r.x, .int r.y, .int r.w, .int r.h]
theorem inv_int {news : List (Addr × Obj)} {v : Value} {i : Int} (h : DatIn news v (.int i)) : ∃ t : Tok, v = .int i t := by
  cases h with
  | int i t => exact ⟨t, rfl⟩
theorem inv_tuple {news : List (Addr × Obj)} {v : Value} {ds : List Dat} (h : DatIn news v (.tuple ds)) : ∃ (a : Addr) (vs : List Value) (n : Nat), v = .ref a ∧ (a, ({ cls := .type "tuple", data := .seq vs.toArray n } : Obj)) ∈ news ∧ DatAll news vs ds := by
  cases h with
  | tuple hm r => exact ⟨_, _, _, rfl, hm, r⟩
theorem inv_cons {news : List (Addr × Obj)} {vs : List Value} {d : Dat} {ds : List Dat} (h : DatAll news vs (d :: ds)) : ∃ (v : Value) (us : List Value), vs = v :: us ∧ DatIn news v d ∧ DatAll news us ds := by
  cases h with
  | cons a r => exact ⟨_, _, rfl, a, r⟩
theorem inv_nil {news : List (Addr × Obj)} {vs : List Value} (h : DatAll news vs []) : vs = [] := by
  cases h
  rfl
theorem row_open {news : List (Addr × Obj)} {v : Value} {r : R4} (h : DatIn news v (rowD r)) : ∃ (a : Addr) (t1 t2 t3 t4 : Tok) (n : Nat), v = .ref a ∧ (a, tup4 (.int r.x t1) (.int r.y t2) (.int r.w t3) (.int r.h t4) n) ∈ news := by
  obtain ⟨a, vs, n, rfl, hm, h⟩ := inv_tuple h
  obtain ⟨_, _, rfl, h1, h⟩ := inv_cons h
  obtain ⟨_, _, rfl, h2, h⟩ := inv_cons h
  obtain ⟨_, _, rfl, h3, h⟩ := inv_cons h
  obtain ⟨_, _, rfl, h4, h⟩ := inv_cons h
  obtain rfl := inv_nil h
  obtain ⟨t1, rfl⟩ := inv_int h1
  obtain ⟨t2, rfl⟩ := inv_int h2
  obtain ⟨t3, rfl⟩ := inv_int h3
  obtain ⟨t4, rfl⟩ := inv_int h4
  exact ⟨a, t1, t2, t3, t4, n, rfl, hm⟩
theorem row_close {news : List (Addr × Obj)} {a : Addr} {r : R4} {t1 t2 t3 t4 : Tok} {n : Nat} (h : (a, tup4 (.int r.x t1) (.int r.y t2) (.int r.w t3) (.int r.h t4) n) ∈ news) : DatIn news (.ref a) (rowD r) :=
  DatIn.tuple (vs := [.int r.x t1, .int r.y t2, .int r.w t3, .int r.h t4]) h (.cons (.int _ _) (.cons (.int _ _) (.cons (.int _ _) (.cons (.int _ _) .nil))))
theorem rows_get {news : List (Addr × Obj)} {vs : List Value} {rs : List R4} (h : DatAll news vs (rs.map rowD)) {i : Nat} {v : Value} (hv : vs[i]? = some v) : ∃ r, rs[i]? = some r ∧ DatIn news v (rowD r) := by
  have hl := h.length
  rw [List.length_map] at hl
  have hi : i < rs.length := by rw [← hl]; exact (List.getElem?_eq_some_iff.mp hv).1
  obtain ⟨u, hu, hd⟩ := h.get (k := i) (by rw [List.length_map]; exact hi)
  rw [hv] at hu
  cases hu
  exact ⟨rs[i], List.getElem?_eq_getElem hi, by simpa using hd⟩
section
variable {prog : Program} {w : World} {A : Around} {h₀ : Heap} {L : Addr} {m : Str → Option Value} {env : Env} {elt : Expr} {x : Str} {scope : Scope} {cl : List (Str × Addr)} {s : Shared} {S : List (Addr × Obj) → Prop} {Fin : List Value → List (Addr × Obj) → Prop} {news : List (Addr × Obj)}
def IntEl (news : List (Addr × Obj)) (r : Int) (y : Value) (news' : List (Addr × Obj)) : Prop := news' = news ∧ ∃ t : Tok, y = .int r t
theorem intEl {r r' : Int} {t : Tok} (e : r' = r) : IntEl news r (.int r' t) news := by subst e; exact ⟨rfl, t, rfl⟩
def fld : Int → R4 → Int
  | 0 => R4.x
  | 1 => R4.y
  | 2 => R4.w
  | _ => R4.h
/-- what an element «row[0]», «row[0] + row[2]» is of a row -/
def gOf : Expr → R4 → Int
  | .Subscript _ (.Constant (.int i) _ _) _ => fld i
  | .BinOp a _ b _ => fun r => gOf a r + gOf b r
  | _ => fun _ => 0
/-- a comprehension over a list of rows whose element is an int of the row -/
theorem rows_comp {vs : List Value} {rs : List R4} (g : R4 → Int) (hD : DatAll news vs (rs.map rowD))
    (turn : ∀ r t t1 t2 t3 t4 n I oI C oC D m₂ ys h tk (E' : Value → Shared → Prop), r ∈ rs → (t, tup4 (.int (R4.x r) t1) (.int r.y t2) (.int r.w t3) (.int r.h t4) n) ∈ news → LCg.NsObj oC m₂ → m₂ x = some (.ref t) → Fr h₀ L h m → News h₀ L h ((I, oI) :: (C, oC) :: (D, LCg.lst ys) :: news) → LCg.Off3 I C D news → ((@Ne Nat I C) ∧ (@Ne Nat I D) ∧ (@Ne Nat C D)) →
      wpAny (model prog w) A (eval elt (compEnvC scope cl C env)) (LCg.CompEnd h₀ L m { s with heap := h, toks := tk } I oI C oC D (LCg.lst ys) S (fun y news' => IntEl news (g r) y news')) E' { s with heap := h, toks := tk })
    (fin : ∀ ys, IntsAre ys (rs.map g) → Fin ys news) : LCg.CompRest prog w A h₀ L m env elt x scope cl s S (fun i v => vs.toArray[i]? = some v) Fin vs.toArray.size 0 [] news := by
  have hl := hD.length
  rw [List.length_map] at hl
  have key : ∀ (j i : Nat) (ys : List Value), i + j = vs.length → IntsAre ys ((rs.take i).map g) → LCg.CompRest prog w A h₀ L m env elt x scope cl s S (fun i v => vs.toArray[i]? = some v) Fin j i ys news := by
    intro j
    induction j with
    | zero =>
      intro i ys hi hy
      rw [List.take_of_length_le (by omega)] at hy
      exact LCg.CompRest.zero (fin ys hy)
    | succ j ih =>
      intro i ys hi hy
      refine LCg.CompRest.succ ?_
      intro v I oI C oC D m₂ h tk E' hv hC hx F N off ne
      obtain ⟨r, hr, hd⟩ := rows_get hD (by simpa using hv)
      obtain ⟨a, t1, t2, t3, t4, n, rfl, hm⟩ := row_open hd
      refine wpAny_mono (turn r a t1 t2 t3 t4 n I oI C oC D m₂ ys h tk E' (List.mem_of_getElem? hr) hm hC hx F N off ne) (fun y s₂ hq => ?_) fun _ _ e => e
      obtain ⟨h', tk', nw, e, F', N', off', hS, hn, t', hy'⟩ := hq
      rw [hn] at N' off' hS
      refine ⟨h', tk', news, e, F', N', off', hS, ?_⟩
      rw [hy']
      refine ih (i + 1) _ (by omega) ?_
      rw [List.take_add_one, hr]
      simpa using IntsAre.append hy (.cons (g r) t' .nil)
  rw [List.size_toArray]
  exact key vs.length 0 [] (by omega) (by simp only [List.take_zero, List.map_nil]; exact .nil)
theorem rows_compG {vs : List Value} {rs : List R4} (hD : DatAll news vs (rs.map rowD))
    (turn : ∀ r t t1 t2 t3 t4 n I oI C oC D m₂ ys h tk (E' : Value → Shared → Prop), r ∈ rs → (t, tup4 (.int (R4.x r) t1) (.int r.y t2) (.int r.w t3) (.int r.h t4) n) ∈ news → LCg.NsObj oC m₂ → m₂ x = some (.ref t) → Fr h₀ L h m → News h₀ L h ((I, oI) :: (C, oC) :: (D, LCg.lst ys) :: news) → LCg.Off3 I C D news → ((@Ne Nat I C) ∧ (@Ne Nat I D) ∧ (@Ne Nat C D)) →
      wpAny (model prog w) A (eval elt (compEnvC scope cl C env)) (LCg.CompEnd h₀ L m { s with heap := h, toks := tk } I oI C oC D (LCg.lst ys) S (fun y news' => IntEl news (gOf elt r) y news')) E' { s with heap := h, toks := tk })
    (fin : ∀ ys, IntsAre ys (rs.map (gOf elt)) → Fin ys news) : LCg.CompRest prog w A h₀ L m env elt x scope cl s S (fun i v => vs.toArray[i]? = some v) Fin vs.toArray.size 0 [] news := rows_comp (gOf elt) hD turn fin
end
theorem datMono2 {X Y : List (Addr × Obj)} {vs : List Value} {ds : List Dat} (h : DatAll X vs ds) (sub : ∀ p ∈ X, p ∈ Y) : DatAll Y vs ds := DatAll.mono sub h
end Mine
end
namespace Mine
theorem offC5 : True := by
  w_top off
  trivial
theorem anewC5 : (1 : Nat) = 1 := by walk1
end Mine
section
open PySem PySem.W PySem.Calls PyProof.Rows
set_option maxRecDepth 100000
set_option linter.unusedVariables false
namespace Mine
theorem fill5 : (fun (_ : OpenLaw × (Params → Frag)) => True) (PySem.Challenge.rw_ay0032_01, Mine.hd.heap_1) := by
  k_fill
  trivial
local macro_rules | `(tactic| k_room) => `(tactic| ktr_room)
local macro_rules | `(tactic| k_units) => `(tactic| ktr_units)
local macro_rules | `(tactic| k_all) => `(tactic| exact allLt_ne (by assumption))
local macro_rules | `(tactic| k_mem) => `(tactic| assumption)

def lmax : List Int → Int
  | [] => 0
  | a :: r => r.foldl max a
def lmin : List Int → Int
  | [] => 0
  | a :: r => r.foldl min a
theorem foldl_max (r : List Int) : ∀ a, a ≤ r.foldl max a ∧ (∀ b ∈ r, b ≤ r.foldl max a) ∧ (r.foldl max a = a ∨ r.foldl max a ∈ r) := by
  induction r with
  | nil => intro a; simp
  | cons b r ih =>
    intro a
    obtain ⟨h1, h2, h3⟩ := ih (max a b)
    rw [List.foldl_cons]
    refine ⟨by omega, fun c hc => ?_, ?_⟩
    · rcases List.mem_cons.mp hc with rfl | hc
      · omega
      · exact h2 c hc
    · rcases h3 with h3 | h3
      · rw [h3]
        rcases Int.lt_or_le a b with h | h
        · right; rw [Int.max_eq_right (Int.le_of_lt h)]; exact List.mem_cons_self
        · left; rw [Int.max_eq_left h]
      · right; exact List.mem_cons_of_mem _ h3
theorem foldl_min (r : List Int) : ∀ a, r.foldl min a ≤ a ∧ (∀ b ∈ r, r.foldl min a ≤ b) ∧ (r.foldl min a = a ∨ r.foldl min a ∈ r) := by
  induction r with
  | nil => intro a; simp
  | cons b r ih =>
    intro a
    obtain ⟨h1, h2, h3⟩ := ih (min a b)
    rw [List.foldl_cons]
    refine ⟨by omega, fun c hc => ?_, ?_⟩
    · rcases List.mem_cons.mp hc with rfl | hc
      · omega
      · exact h2 c hc
    · rcases h3 with h3 | h3
      · rw [h3]
        rcases Int.lt_or_le b a with h | h
        · right; rw [Int.min_eq_right (Int.le_of_lt h)]; exact List.mem_cons_self
        · left; rw [Int.min_eq_left h]
      · right; exact List.mem_cons_of_mem _ h3
theorem lmax_mem : ∀ {l : List Int}, 0 < l.length → lmax l ∈ l
  | [], h => by simp at h
  | a :: r, _ => by
    rcases (foldl_max r a).2.2 with h | h
    · show r.foldl max a ∈ _; rw [h]; exact List.mem_cons_self
    · exact List.mem_cons_of_mem _ h
theorem lmax_ge : ∀ {l : List Int}, ∀ b ∈ l, b ≤ lmax l
  | a :: r, b, h => by
    rcases List.mem_cons.mp h with rfl | h
    · exact (foldl_max r b).1
    · exact (foldl_max r a).2.1 b h
theorem lmin_mem : ∀ {l : List Int}, 0 < l.length → lmin l ∈ l
  | [], h => by simp at h
  | a :: r, _ => by
    rcases (foldl_min r a).2.2 with h | h
    · show r.foldl min a ∈ _; rw [h]; exact List.mem_cons_self
    · exact List.mem_cons_of_mem _ h
theorem lmin_le : ∀ {l : List Int}, ∀ b ∈ l, lmin l ≤ b
  | a :: r, b, h => by
    rcases List.mem_cons.mp h with rfl | h
    · exact (foldl_min r b).1
    · exact (foldl_min r a).2.1 b h
theorem lmax_of {l : List Int} {M : Int} (h : M ∈ l) (k : ∀ a, a ∈ l → a ≤ M) : M = lmax l :=
  Int.le_antisymm (lmax_ge M h) (k _ (lmax_mem (List.length_pos_of_mem h)))
theorem lmin_of {l : List Int} {M : Int} (h : M ∈ l) (k : ∀ a, a ∈ l → M ≤ a) : M = lmin l :=
  Int.le_antisymm (k _ (lmin_mem (List.length_pos_of_mem h))) (lmin_le M h)
section
variable {prog : Program} {w : World} {p : Program} {loose : List Str} {mean : ExcName → Option Value} {mg mb : Str → Option Value} {dp un : Nat} {gd : Option (List Code)} {env : Env} {outer : List Env} {A₀ : Around} {base h₀ : Heap} {L : Addr} {m : Str → Option Value} {news : List (Addr × Obj)} {s : Shared} {Q E : Value → Shared → Prop}
theorem max_list_M {A : Around} {l : Addr} {vs : List Value} {ns : List Int} {n : Nat} (hh : A.handled = none) (F : Fr h₀ L s.heap m) (N : News h₀ L s.heap news) (hm : (l, listOf vs.toArray n) ∈ news) (hi : IntsAre vs ns) (hne : 0 < ns.length)
    (h : ∀ (t : Tok) h' tk, Fr h₀ L h' m → News h₀ L h' news → Q (.int (lmax ns) t) { s with heap := h', toks := tk }) : wpAny (model prog w) A (call (.builtin "max") [.ref l]) Q E s :=
  kso_max F N ⟨_, (N _ hm).1, rfl, n, rfl⟩ hi hne hh fun h' M t tk F' N' a b => by rw [lmax_of a b]; exact h t h' tk F' N'
theorem min_list_M {A : Around} {l : Addr} {vs : List Value} {ns : List Int} {n : Nat} (hh : A.handled = none) (F : Fr h₀ L s.heap m) (N : News h₀ L s.heap news) (hm : (l, listOf vs.toArray n) ∈ news) (hi : IntsAre vs ns) (hne : 0 < ns.length)
    (h : ∀ (t : Tok) h' tk, Fr h₀ L h' m → News h₀ L h' news → Q (.int (lmin ns) t) { s with heap := h', toks := tk }) : wpAny (model prog w) A (call (.builtin "min") [.ref l]) Q E s :=
  kso_min F N ⟨_, (N _ hm).1, rfl, n, rfl⟩ hi hne hh fun h' M t tk F' N' a b => by rw [lmin_of a b]; exact h t h' tk F' N'
set_option maxHeartbeats 8000000 in
theorem shared_c (B : Below A₀ base outer h₀) (F : Fr h₀ L s.heap m) (X : (Mine.hd.heap_1 w.params).In h₀) (N : News h₀ L s.heap news) (T : Top p loose mean mg mb h₀) (hf : env.frame = some L) (hk : env.scope.kind = .function) (hdp : dp + 40 < recursionLimit) (hun : un + 300 < cLine)
    {l : Addr} {vs : List Value} {nl : Nat} {rs : List R4} {e : Bool} (ml : (l, listOf vs.toArray nl) ∈ news) (hD : DatAll news vs (rs.map rowD)) (hlen : vs.length ≤ 100) (hpos : 0 < rs.length)
    (hnone : ((lmin (rs.map fun r => r.x + r.w)) < (lmax (rs.map fun r => r.x)) ∨ (lmin (rs.map fun r => r.y + r.h)) < (lmax (rs.map fun r => r.y)) ∨ (e = false ∧ ((lmin (rs.map fun r => r.x + r.w)) = (lmax (rs.map fun r => r.x)) ∨ (lmin (rs.map fun r => r.y + r.h)) = (lmax (rs.map fun r => r.y))))) → ∀ h' tk', Fr h₀ L h' m → News h₀ L h' news → Q .none { s with heap := h', toks := tk' })
    (hret : ¬ ((lmin (rs.map fun r => r.x + r.w)) < (lmax (rs.map fun r => r.x)) ∨ (lmin (rs.map fun r => r.y + r.h)) < (lmax (rs.map fun r => r.y)) ∨ (e = false ∧ ((lmin (rs.map fun r => r.x + r.w)) = (lmax (rs.map fun r => r.x)) ∨ (lmin (rs.map fun r => r.y + r.h)) = (lmax (rs.map fun r => r.y))))) → ∀ (t : Addr) (t1 t2 t3 t4 : Tok) h' tk', Fr h₀ L h' m → News h₀ L h' ((t, tup4 (.int (lmax (rs.map fun r => r.x)) t1) (.int (lmax (rs.map fun r => r.y)) t2) (.int ((lmin (rs.map fun r => r.x + r.w)) - (lmax (rs.map fun r => r.x))) t3) (.int ((lmin (rs.map fun r => r.y + r.h)) - (lmax (rs.map fun r => r.y))) t4) 0) :: news) → Q (.ref t) { s with heap := h', toks := tk' }) :
    wpAny (model prog w) { handled := none, depth := dp, frames := some (env :: outer), guards := gd, units := un } (call (.ref 226) [.ref l, .bool e]) Q E s := by
  refine wpAny_call ?_
  refine' code_def B F X N T rfl hf hk ?k6 ?k7 ?k8 ?k9 ?kB ?_ ?c2 ?c3 ?c4 ?c5
  case k6 => k_is
  case k7 => k_is
  case k8 => ktr_room
  case k9 => first | exact BindsTo.of_eq rfl | exact binds_K (by k_in) rfl (by k_is) rfl rfl rfl
  case c5 => decide
  case kB => exact locs rfl
  case c2 => exact rfl
  case c3 => exact rfl
  case c4 => exact rfl
  intro g' L' h' FG' F' N' B' X' T'
  (try dsimp only)
  (try k_fold)
  (repeat' (first | (k_unfold; (try dsimp only)) | (k_end; wrow_close) | ((with_reducible show wpAny _ _ (subscriptTail _ _ (Value.ref _) (Value.int _ _)) _ _ _); k_dflt (refine' item_tupleT (by exact News.isTup (by k_asm) (by k_mem)) (by decide) (by decide) (by rfl) (by rfl) ?_; k_whole)) | ((with_reducible show LCg.CompEnd ..); (k_dflt (refine' LCg.CompEnd.intro (by assumption) (by assumption) _ (fun p hp => hp) (by assumption) (by (exact Or.inr ⟨_, by k_mem, rfl, _, rfl⟩)) (intEl rfl)))) | ((with_reducible show LCg.CompSrc ..); (k_dflt (refine' LCg.CompSrc.ledger (by rfl) (by k_asm) (by k_asm) (by k_mem) (by (rw [PySem.sizeLine_eq, List.size_toArray]; omega)) ?_; intro g'; (refine' rows_compG (datMono2 (by assumption) (by (intro p hp; repeat' (first | exact hp | refine List.mem_cons_of_mem _ ?_)))) (fun r' t' t1' t2' t3' t4' n' I' oI' C' oC' D' m' ys' h' tk' E' hr' hm' hC' hx' F' N' off' ne' => ?_) (fun ys' hi' => ?_)); all_goals (try simp only [gOf, fld] at hi'); all_goals (try k_fold)))) | ((with_reducible show wpAny _ _ (eval (Expr.ListComp ..) _) _ _ _); (k_dflt (refine LCg.ListComp_U (F₀ := by k_asm) (by with_unfolding_all rfl) (by decide) (by rfl) (by decide) (by rfl) ?_))) | ((with_reducible show wpAny _ _ (call (Value.builtin "min") [Value.ref _]) _ _ _); k_dflt (refine' min_list_M (by exact rfl) (by k_asm) (by k_asm) (by k_mem) (by assumption) (by (simp only [List.length_map]; omega)) ?_); intro t9 h9 tk9 F9 N9; (try k_sweep)) | ((with_reducible show wpAny _ _ (call (Value.builtin "max") [Value.ref _]) _ _ _); k_dflt (refine' max_list_M (by exact rfl) (by k_asm) (by k_asm) (by k_mem) (by assumption) (by (simp only [List.length_map]; omega)) ?_); intro t9 h9 tk9 F9 N9; (try k_sweep)) | walk1 | (dsimp only; walk1) | (leave1; walk_say "STEP leave1"; try dsimp only) | fail "no step"))
  all_goals (first
    | (refine hnone ?_ _ _ (by assumption) (cb_drop (by assumption) (by intro p hp; repeat' (first | exact hp | refine List.mem_cons_of_mem _ ?_))); (clear hret hnone; simp only [decide_eq_true_eq, decide_eq_false_iff_not] at *; first | omega | (simp_all; done) | (simp_all; omega)))
    | ((rename Fr _ _ _ _ => kF9); (rename News _ _ _ _ => kN9); refine hret ?_ _ _ _ _ _ _ _ kF9 (cb_drop kN9 (List.forall_mem_cons.mpr ⟨List.mem_cons_self, ?_⟩)); (focus (clear hret hnone; simp only [decide_eq_true_eq, decide_eq_false_iff_not] at *; first | omega | (simp_all; done) | (simp_all; omega))); (intro p hp; repeat' (first | exact hp | refine List.mem_cons_of_mem _ ?_))))

end
end Mine
end
section
open PySem PySem.W PySem.Calls PyProof.Rows PySem.Spec
set_option maxRecDepth 100000
set_option linter.unusedVariables false
namespace Mine
/-- a frame where a loop turns its own name x and one name y -/
abbrev fr2 (x y : Str) (u : Option Value) (v : Value) (m : Str → Option Value) : Str → Option Value := fun z => if z = x then u else if z = y then some v else m z
theorem fr2_self {x y : Str} {v : Value} {m : Str → Option Value} (h : m y = some v) : m = fr2 x y (m x) v m := by
  funext z
  unfold fr2
  split
  · next e => rw [e]
  · split
    · next e => rw [e, h]
    · rfl
theorem fr2_turn {x y : Str} {u : Option Value} {v a : Value} {m : Str → Option Value} : (fun z => if z = x then some a else fr2 x y u v m z) = fr2 x y (some a) v m := by
  funext z
  unfold fr2
  split <;> simp_all
theorem fr2_store {x y : Str} {u : Option Value} {v b : Value} {m : Str → Option Value} (h : y ≠ x) : (fun z => if z = y then some b else fr2 x y u v m z) = fr2 x y u b m := by
  funext z
  unfold fr2
  by_cases h1 : z = x
  · subst h1; simp [Ne.symm h]
  · simp only [if_neg h1]; split <;> rfl
/-- None, or a rectangle of the ledger -/
def OptR (P : Params) (news : List (Addr × Obj)) (v : Value) : Option R4 → Prop
  | none => v = .none
  | some q => 0 ≤ q.w ∧ 0 ≤ q.h ∧ ∃ (a d : Addr) (k1 k2 k3 k4 k5 kw kh kx ky : Tok), v = .ref a ∧ (a, instObj 203 d) ∈ news ∧ (d, rdict P k1 k2 k3 k4 k5 (.int q.w kw) (.int q.h kh) (.int q.x kx) (.int q.y ky)) ∈ news
theorem OptR.mono {P : Params} {news news' : List (Addr × Obj)} (hs : ∀ p ∈ news, p ∈ news') {v : Value} : ∀ {o : Option R4}, OptR P news v o → OptR P news' v o
  | none, h => h
  | some q, h => by
    obtain ⟨h1, h2, a, d, h⟩ := h
    obtain ⟨k1, k2, k3, k4, k5, h⟩ := h
    obtain ⟨kw, kh, kx, ky, e, m1, m2⟩ := h
    exact ⟨h1, h2, a, d, k1, k2, k3, k4, k5, kw, kh, kx, ky, e, hs _ m1, hs _ m2⟩
def meets (e : Bool) (a b : R4) : Bool := if e = true then decide (a.y ≤ b.y + b.h ∧ b.y ≤ a.y + a.h ∧ a.x ≤ b.x + b.w ∧ b.x ≤ a.x + a.w) else decide (a.y < b.y + b.h ∧ b.y < a.y + a.h ∧ a.x < b.x + b.w ∧ b.x < a.x + a.w)
def both (a b : R4) : R4 := ⟨max a.x b.x, max a.y b.y, min (a.x + a.w) (b.x + b.w) - max a.x b.x, min (a.y + a.h) (b.y + b.h) - max a.y b.y⟩
def isect (e : Bool) (a b : R4) : Option R4 := if meets e a b = true then some (both a b) else none
def oneStep (e : Bool) (o : Option R4) (r : R4) : Option R4 := o.bind fun q => isect e q r
def oneV (e : Bool) (r0 : R4) (rs : List R4) : Option R4 := rs.foldl (oneStep e) (some r0)
def toldD : Option R4 → Dat
  | none => .none
  | some q => rowD q
theorem both_pos {e : Bool} {a b : R4} (h : meets e a b = true) (ha : 0 ≤ a.w ∧ 0 ≤ a.h) (hb : 0 ≤ b.w ∧ 0 ≤ b.h) : 0 ≤ (both a b).w ∧ 0 ≤ (both a b).h := by
  unfold meets at h
  cases e <;> simp only [if_true, Bool.false_eq_true, if_false, decide_eq_true_eq] at h <;> simp only [both] <;> omega
def OneJ (P : Params) (rs : List R4) (r0 : R4) (e : Bool) (news : List (Addr × Obj)) (m₀ : Str → Option Value) (i : Nat) (m : Str → Option Value) (nx : List (Addr × Obj)) : Prop :=
  ∃ v u tl, m = fr2 "row" "rect" u v m₀ ∧ nx = tl ++ news ∧ OptR P (tl ++ news) v (oneV e r0 (rs.take i))
theorem one_j0 {P : Params} {rs : List R4} {r0 : R4} {e : Bool} {news nx tl : List (Addr × Obj)} {m : Str → Option Value} {v : Value} (hm : m "rect" = some v) (hx : nx = tl ++ news) (hO : OptR P (tl ++ news) v (some r0)) : OneJ P rs r0 e news m 0 m nx :=
  ⟨v, m "row", tl, fr2_self hm, hx, by simpa [oneV] using hO⟩
theorem oneV_succ {e : Bool} {r0 r : R4} {rs : List R4} {i : Nat} (h : rs[i]? = some r) : oneV e r0 (rs.take (i + 1)) = oneStep e (oneV e r0 (rs.take i)) r := by
  unfold oneV
  rw [List.take_add_one, h]
  simp
section
variable {P : Params} {h₀ : Heap} {L : Addr} {rs : List R4} {r0 r q : R4} {e : Bool} {news tl own news' : List (Addr × Obj)} {m₀ m' : Str → Option Value} {i : Nat} {s₁ : Shared} {h' : Heap} {tk : Nat} {u : Option Value} {v : Value} {K : List (Addr × Obj) → Prop}
theorem one_end (hr : rs[i]? = some r) (F : Fr h₀ L h' m') (N : News h₀ L h' news') (v' : Value) (u' : Option Value) (tl' : List (Addr × Obj)) (hm : m' = fr2 "row" "rect" u' v' m₀) (hs : ∀ p ∈ tl' ++ news, p ∈ news') (ho : ∀ p ∈ own, p ∈ news') (hoff : OwnOff own ((tl' ++ news).map (·.1)))
    (hK : K (tl' ++ news)) (hv : OptR P (tl' ++ news) v' (oneStep e (oneV e r0 (rs.take i)) r)) :
    InvEndG h₀ L (fun m' nx => K nx ∧ OneJ P rs r0 e news m₀ (i + 1) m' nx) own s₁ { s₁ with heap := h', toks := tk } :=
  ⟨h', tk, m', news', tl' ++ news, rfl, F, N, hs, ho, hoff, hK, v', u', tl', hm, rfl, by rw [oneV_succ hr]; exact hv⟩
theorem off_tl {own tl nj : List (Addr × Obj)} (h : OwnOff own ((tl ++ nj).map (·.1))) : OwnOff own ((tl ++ nj).map (·.1)) := h
theorem oneStep_no {e : Bool} {q r : R4} (h : meets e q r = false) : oneStep e (some q) r = none := by
  show isect e q r = none
  unfold isect
  rw [h]; rfl
theorem oneStep_yes {e : Bool} {q r : R4} (h : meets e q r = true) : oneStep e (some q) r = some (both q r) := by
  show isect e q r = _
  unfold isect
  rw [h]; rfl
theorem off_app {own a b : List (Addr × Obj)} (h1 : OwnOff own (a.map (·.1))) (h2 : OwnOff own (b.map (·.1))) : OwnOff own ((a ++ b).map (·.1)) := by
  intro p hp c hc
  rw [List.map_append] at hc
  rcases List.mem_append.mp hc with hc | hc
  · exact h1 p hp c hc
  · exact h2 p hp c hc
theorem off_left {own a b : List (Addr × Obj)} (h : OwnOff own ((a ++ b).map (·.1))) : OwnOff own (a.map (·.1)) := fun p hp c hc => h p hp c (by rw [List.map_append]; exact List.mem_append_left _ hc)
theorem off_right {own a b : List (Addr × Obj)} (h : OwnOff own ((a ++ b).map (·.1))) : OwnOff own (b.map (·.1)) := fun p hp c hc => h p hp c (by rw [List.map_append]; exact List.mem_append_right _ hc)
theorem off_new {own big : List (Addr × Obj)} {a d : Addr} {o o' : Obj} (hs : ∀ p ∈ own, p ∈ big) (h1 : ∀ p ∈ big, p.1 < d) (h2 : d < a) : OwnOff own ([(a, o), (d, o')].map (·.1)) := by
  intro p hp c hc
  have h3 := h1 p (hs p hp)
  simp only [List.map_cons, List.map_nil, List.mem_cons, List.not_mem_nil, or_false] at hc
  rcases hc with rfl | rfl
  · exact Nat.ne_of_lt (Nat.lt_trans h3 h2)
  · exact Nat.ne_of_lt h3
end
theorem one_end_new {P : Params} {h₀ : Heap} {L : Addr} {rs : List R4} {r0 r q : R4} {e : Bool} {nj own big : List (Addr × Obj)} {m₀ m' : Str → Option Value} {i : Nat} {s₁ : Shared} {h' : Heap} {tk : Nat} {K : List (Addr × Obj) → Prop} {a d : Addr} {k1 k2 k3 k4 k5 kw kh kx ky : Tok}
    (hr : rs[i]? = some r) (F : Fr h₀ L h' m') (N : News h₀ L h' ((a, instObj 203 d) :: (d, rdict P k1 k2 k3 k4 k5 (.int (both q r).w kw) (.int (both q r).h kh) (.int (both q r).x kx) (.int (both q r).y ky)) :: big)) (u' : Option Value) (hm : m' = fr2 "row" "rect" u' (.ref a) m₀) (hs : ∀ p ∈ nj, p ∈ big) (ho : ∀ p ∈ own, p ∈ big)
    (hlt : ∀ p ∈ big, p.1 < d) (hda : @LT.lt Nat _ d a) (hoff : OwnOff own (nj.map (·.1))) (hK : ∀ tl', K (tl' ++ nj)) (hq : oneV e r0 (rs.take i) = some q) (hc : meets e q r = true) (h1 : 0 ≤ q.w ∧ 0 ≤ q.h) (h2 : 0 ≤ r.w ∧ 0 ≤ r.h) :
    InvEndG h₀ L (fun m' nx => K nx ∧ OneJ P rs r0 e nj m₀ (i + 1) m' nx) own s₁ { s₁ with heap := h', toks := tk } := by
  refine one_end hr F N (.ref a) u' [(a, instObj 203 d), (d, rdict P k1 k2 k3 k4 k5 (.int (both q r).w kw) (.int (both q r).h kh) (.int (both q r).x kx) (.int (both q r).y ky))] hm ?_ ?_ (off_app (off_new ho hlt hda) hoff) (hK _) ?_
  · intro p hp
    rcases List.mem_append.mp hp with hp | hp
    · rcases List.mem_cons.mp hp with rfl | hp
      · exact List.mem_cons_self
      · rw [List.mem_singleton.mp hp]; exact List.mem_cons_of_mem _ List.mem_cons_self
    · exact List.mem_cons_of_mem _ (List.mem_cons_of_mem _ (hs p hp))
  · exact fun p hp => List.mem_cons_of_mem _ (List.mem_cons_of_mem _ (ho p hp))
  · rw [hq, oneStep_yes hc]
    have hb := both_pos hc h1 h2
    exact ⟨hb.1, hb.2, _, _, _, _, _, _, _, _, _, _, _, rfl, List.mem_append_left _ List.mem_cons_self, List.mem_append_left _ (List.mem_cons_of_mem _ List.mem_cons_self)⟩
theorem slice_from (vs : List Value) {x : Int} (h : 0 ≤ x) : (slicePick vs.toArray (some x) none none).toList = vs.drop x.toNat := by
  have e : sliceBounds (some x) none none vs.toArray.size = (((min x.toNat vs.toArray.size : Nat) : Int), ((vs.toArray.size : Nat) : Int), 1) := by
    simp only [sliceBounds, Option.getD_none, show (1 : Int) > 0 by decide, if_true, if_neg (show ¬ (x < 0) by omega)]
    congr 1
    omega
  rw [kmk_pick_nat _ e]
  show ((vs.drop (min x.toNat vs.toArray.size)).take (vs.toArray.size - min x.toNat vs.toArray.size)) = _
  rw [List.size_toArray, kmk_drop_min, List.take_of_length_le (by rw [List.length_drop]; omega)]
theorem slice_upto (vs : List Value) {y : Int} (h : 0 ≤ y) : (slicePick vs.toArray none (some y) none).toList = vs.take y.toNat := by
  have e : sliceBounds none (some y) none vs.toArray.size = (((0 : Nat) : Int), ((min y.toNat vs.toArray.size : Nat) : Int), 1) := by
    simp only [sliceBounds, Option.getD_none, show (1 : Int) > 0 by decide, if_true, if_neg (show ¬ (y < 0) by omega)]
    congr 1
    congr 1
    omega
  rw [kmk_pick_nat _ e]
  show ((vs.drop 0).take (min y.toNat vs.toArray.size - 0)) = _
  rw [List.drop_zero, Nat.sub_zero, List.size_toArray, kmk_take_min]
end Mine
end
namespace Mine
theorem offC6 : True := by
  w_top off
  trivial
theorem anewC6 : (1 : Nat) = 1 := by walk1
end Mine
section
open PySem PySem.W PySem.Calls PyProof.Rows
set_option maxRecDepth 100000
set_option linter.unusedVariables false
namespace Mine
theorem fill6 : (fun (_ : OpenLaw × (Params → Frag)) => True) (PySem.Challenge.rw_ay0032_01, Mine.hd.heap_1) := by
  k_fill
  trivial
local macro_rules | `(tactic| k_room) => `(tactic| ktr_room)
local macro_rules | `(tactic| k_units) => `(tactic| ktr_units)
local macro_rules | `(tactic| k_all) => `(tactic| exact allLt_ne (by assumption))
local macro_rules | `(tactic| k_mem) => `(tactic| assumption)
section
variable {prog : Program} {w : World} {p : Program} {loose : List Str} {mean : ExcName → Option Value} {mg mb : Str → Option Value} {dp un : Nat} {gd : Option (List Code)} {env : Env} {outer : List Env} {A₀ : Around} {base h₀ : Heap} {L : Addr} {m : Str → Option Value} {news : List (Addr × Obj)} {s : Shared} {Q E : Value → Shared → Prop}
theorem one_start {h : Heap} {D a d : Addr} {o1 o2 o3 : Obj} (N : News h₀ L h ((D, o1) :: (a, o2) :: (d, o3) :: news)) : ∃ D', D' = D ∧ News h₀ L h ([(a, o2), (d, o3)] ++ ((D', o1) :: news)) := ⟨D, rfl, fun p hp => N p (by
  simp only [List.cons_append, List.nil_append, List.mem_cons] at hp ⊢
  rcases hp with hp | hp | hp | hp <;> simp [hp])⟩
theorem item_listN {A : Around} {value slice : Expr} {l : Addr} {vs : List Value} {n : Nat} {k : Int} {u : Tok} {v : Value} (N : News h₀ L s.heap news) (hm : (l, listOf vs.toArray n) ∈ news) (h0 : 0 ≤ k) (hhi : k < 2 ^ 63) (hx : vs[k.toNat]? = some v) (h : Q v s)
    (hs : subscripted slice false (.ref l) (.int k u) = operate [.ref l, .int k u] (getItem (.ref l) (.int k u)) := by with_unfolding_all rfl) :
    wpAny (model prog w) A (subscriptTail value slice (.ref l) (.int k u)) Q E s :=
  have hL : s.heap.IsList l vs.toArray := ⟨_, (N _ hm).1, rfl, n, rfl⟩
  tail_any hL.typeIs slot_list_getitem.lookup (wpAny_getItem_list hL h0 hhi (by simpa using hx) h) hs
set_option maxHeartbeats 8000000 in
theorem one_c (B : Below A₀ base outer h₀) (F : Fr h₀ L s.heap m) (X : (Mine.hd.heap_1 w.params).In h₀) (N : News h₀ L s.heap news) (T : Top p loose mean mg mb h₀) (hf : env.frame = some L) (hk : env.scope.kind = .function) (hdp : dp + 60 < recursionLimit) (hun : un + 500 < cLine)
    {l t0 : Addr} {vs : List Value} {nl : Nat} {r0 : R4} {rs : List R4} {e : Bool} {q1 q2 q3 q4 : Tok} {qn : Nat} (ml : (l, listOf (Value.ref t0 :: vs).toArray nl) ∈ news) (mt : (t0, tup4 (.int r0.x q1) (.int r0.y q2) (.int r0.w q3) (.int r0.h q4) qn) ∈ news) (hD : DatAll news vs (rs.map rowD)) (hlen : vs.length ≤ 100) (hw0 : 0 ≤ r0.w) (hh0 : 0 ≤ r0.h) (hpos : ∀ r ∈ rs, 0 ≤ r.w ∧ 0 ≤ r.h)
    (hret : ∀ v news' h' tk', Fr h₀ L h' m → News h₀ L h' news' → (∀ p ∈ news, p ∈ news') → DatIn news' v (toldD (oneV e r0 rs)) → Q v { s with heap := h', toks := tk' }) :
    wpAny (model prog w) { handled := none, depth := dp, frames := some (env :: outer), guards := gd, units := un } (call (.ref 233) [.ref l, .bool e]) Q E s := by
  refine wpAny_call ?_
  refine' code_def B F X N T rfl hf hk ?k6 ?k7 ?k8 ?k9 ?kB ?_ ?c2 ?c3 ?c4 ?c5
  case k6 => k_is
  case k7 => k_is
  case k8 => ktr_room
  case k9 => first | exact BindsTo.of_eq rfl | exact binds_K (by k_in) rfl (by k_is) rfl rfl rfl
  case c5 => decide
  case kB => exact locs rfl
  case c2 => exact rfl
  case c3 => exact rfl
  case c4 => exact rfl
  intro g' L' h' FG' F' N' B' X' T'
  (try dsimp only)
  (try k_fold)
  (repeat' (first | (k_unfold; (try dsimp only)) | (k_end; wrow_close) | ((with_reducible show wpAny _ _ (call (Value.ref 193) _ _) _ _ _); (k_dflt (refine' intersection_c (by k_asm) (by k_asm) (by k_asm) (by k_asm) (by k_asm) (by exact rfl) (by exact rfl) (by ktr_room) (by ktr_units) (by k_mem) (by k_mem) (by k_mem) (by k_mem) (by l_fact) (by l_fact) (by l_fact) (by l_fact) ?_ ?_; all_goals (k_whole; (first | (intro c9 a9 d9 k91 k92 k93 k94 k95 kw9 kh9 kx9 ky9 h9 tk9 F9 N9 l91 l92) | (intro c9 h9 tk9 F9 N9)); (try dsimp only); (try k_fold); (try k_sweep))))) | ((with_reducible show wpAny _ _ (call (Value.ref 214) _ _) _ _ _); (k_dflt (refine' box_c (by k_asm) (by k_asm) (by k_asm) (by k_asm) (by k_asm) (by exact rfl) (by exact rfl) (by ktr_room) (by ktr_units) (by k_mem) (by l_fact) (by l_fact) ?_; k_whole; intro a9 d9 k91 k92 k93 k94 k95 kw9 kh9 kx9 ky9 h9 tk9 F9 N9 l91 l92; (try k_lt l91); (try k_lt2 l92); (try dsimp only); (try k_fold); (try k_sweep)))) | ((with_reducible show wpAny _ _ (call (Value.ref 221) _ _) _ _ _); (k_dflt (refine' told_c (by k_asm) (by k_asm) (by k_asm) (by k_asm) (by k_asm) (by exact rfl) (by exact rfl) (by ktr_room) (by ktr_units) (by k_mem) (by k_mem) ?_; k_whole; intro t9 t91 t92 t93 t94 h9 tk9 F9 N9 l91; (try k_lt l91); (try dsimp only); (try k_fold); (try k_sweep)))) | ((with_reducible show wpAny _ _ (call (Value.ref 221) [Value.none] _) _ _ _); (k_dflt (refine' told_none_c (by k_asm) (by k_asm) (by k_asm) (by k_asm) (by k_asm) (by exact rfl) (by exact rfl) (by ktr_room) (by ktr_units)  ?_; k_whole; intro h9 tk9 F9 N9; (try dsimp only); (try k_fold); (try k_sweep)))) | ((with_reducible show wpAny _ _ (exec (Stmt.For ..) _) _ _ _); ((rename Fr _ _ _ _ => lF'); (with_unfolding_all refine' For_invVF lF' (by exact rfl) (by exact rfl) ?_; k_whole))) | ((with_reducible show wpAny _ _ (subscriptTail (Expr.Name ..) (Expr.Slice ..) (Value.ref _) (Value.ref _)) _ _ _); (k_dflt (refine' kmk_slice_lit (by k_asm) (by k_asm) (by exact ⟨_, News.get (by k_asm) (by k_mem), rfl, _, rfl⟩) (by kmk_part) (by kmk_part) (by first | exact slice_from _ (by first | decide | omega) | exact slice_upto _ (by first | decide | omega)) ?_ (by with_unfolding_all rfl) (by kmk_pure) (by (rw [PySem.sizeLine_eq, List.size_toArray]; (try simp only [List.length_cons]); omega))); intro D' h' F' N' l1; (try k_lt l1); (try k_sweep))) | ((with_reducible show wpAny _ _ (subscriptTail _ _ (Value.ref _) (Value.int _ _)) _ _ _); k_dflt (refine' item_listN (by k_asm) (by k_mem) (by first | decide | omega) (by first | decide | omega) (by first | rfl | assumption) ?_; k_whole)) | ((with_reducible show wpAny _ _ (subscriptTail _ _ (Value.ref _) (Value.int _ _)) _ _ _); k_dflt (refine' item_tupleT (by exact News.isTup (by k_asm) (by k_mem)) (by decide) (by decide) (by rfl) (by rfl) ?_; k_whole)) | walk1 | (dsimp only; walk1) | (leave1; walk_say "STEP leave1"; try dsimp only) | fail "no step"))
  rename Fr _ _ _ _ => kF
  rename News _ _ _ _ => kN
  rw [show List.drop (Int.toNat 1) (Value.ref t0 :: vs) = vs from rfl] at kN
  obtain ⟨D, rfl, N2⟩ := one_start kN
  have hl := hD.length
  rw [List.length_map] at hl
  refine' kdl_iter (l := D) (vs := vs) (nn := 0) (OneJ w.params rs r0 e ((D, listOf vs.toArray 0) :: news) _) ?hh ?hl ?F ?N ?hj ?turn ?done
  case hh => rfl
  case F => exact kF
  case N => exact N2
  case hl => exact List.mem_append_right _ List.mem_cons_self
  case hj =>
    refine' one_j0 ?hm ?hx ?hO
    case hm => exact rfl
    case hx => exact rfl
    case hO => exact ⟨hw0, hh0, _, _, _, _, _, _, _, _, _, _, _, rfl, List.mem_append_left _ List.mem_cons_self, List.mem_append_left _ (List.mem_cons_of_mem _ List.mem_cons_self)⟩
  case turn =>
    rintro i v m₁ nx h tk own hv hoff hl1 ⟨v', u', tl, rfl, rfl, hO⟩ F₁ N₁
    obtain ⟨r, hr, hd⟩ := rows_get hD hv
    obtain ⟨t, t1, t2, t3, t4, n, rfl, hm⟩ := row_open hd
    rw [fr2_turn] at F₁
    have hp := hpos r (List.mem_of_getElem? hr)
    obtain ⟨hp1, hp2⟩ := hp
    have hs1 : ∀ p ∈ tl ++ (D, listOf vs.toArray 0) :: news, p ∈ (tl ++ (D, listOf vs.toArray 0) :: news) ++ own := fun p hp => List.mem_append_left _ hp
    have hs2 : ∀ p ∈ own, p ∈ (tl ++ (D, listOf vs.toArray 0) :: news) ++ own := fun p hp => List.mem_append_right _ hp
    have hm' := hs1 _ (List.mem_append_right _ (List.mem_cons_of_mem _ hm))
    generalize hbig : (tl ++ (D, listOf vs.toArray 0) :: news) ++ own = big at N₁ hs1 hs2 hm'
    clear kF kN N2 hbig
    cases ho : oneV e r0 (rs.take i) with
    | none =>
      rw [ho] at hO
      have hO' : v' = .none := hO
      subst hO'
      (repeat' (first | (k_unfold; (try dsimp only)) | (k_end; wrow_close) | ((with_reducible show wpAny _ _ (call (Value.ref 193) _ _) _ _ _); (k_dflt (refine' intersection_c (by k_asm) (by k_asm) (by k_asm) (by k_asm) (by k_asm) (by exact rfl) (by exact rfl) (by ktr_room) (by ktr_units) (by k_mem) (by k_mem) (by k_mem) (by k_mem) (by l_fact) (by l_fact) (by l_fact) (by l_fact) ?_ ?_; all_goals (k_whole; (first | (intro c9 a9 d9 k91 k92 k93 k94 k95 kw9 kh9 kx9 ky9 h9 tk9 F9 N9 l91 l92) | (intro c9 h9 tk9 F9 N9)); (try dsimp only); (try k_fold); (try k_sweep))))) | ((with_reducible show wpAny _ _ (call (Value.ref 214) _ _) _ _ _); (k_dflt (refine' box_c (by k_asm) (by k_asm) (by k_asm) (by k_asm) (by k_asm) (by exact rfl) (by exact rfl) (by ktr_room) (by ktr_units) (by k_mem) (by l_fact) (by l_fact) ?_; k_whole; intro a9 d9 k91 k92 k93 k94 k95 kw9 kh9 kx9 ky9 h9 tk9 F9 N9 l91 l92; (try k_lt l91); (try k_lt2 l92); (try dsimp only); (try k_fold); (try k_sweep)))) | ((with_reducible show wpAny _ _ (call (Value.ref 221) _ _) _ _ _); (k_dflt (refine' told_c (by k_asm) (by k_asm) (by k_asm) (by k_asm) (by k_asm) (by exact rfl) (by exact rfl) (by ktr_room) (by ktr_units) (by k_mem) (by k_mem) ?_; k_whole; intro t9 t91 t92 t93 t94 h9 tk9 F9 N9 l91; (try k_lt l91); (try dsimp only); (try k_fold); (try k_sweep)))) | ((with_reducible show wpAny _ _ (call (Value.ref 221) [Value.none] _) _ _ _); (k_dflt (refine' told_none_c (by k_asm) (by k_asm) (by k_asm) (by k_asm) (by k_asm) (by exact rfl) (by exact rfl) (by ktr_room) (by ktr_units)  ?_; k_whole; intro h9 tk9 F9 N9; (try dsimp only); (try k_fold); (try k_sweep)))) | ((with_reducible show wpAny _ _ (exec (Stmt.For ..) _) _ _ _); ((rename Fr _ _ _ _ => lF'); (with_unfolding_all refine' For_invVF lF' (by exact rfl) (by exact rfl) ?_; k_whole))) | ((with_reducible show wpAny _ _ (subscriptTail (Expr.Name ..) (Expr.Slice ..) (Value.ref _) (Value.ref _)) _ _ _); (k_dflt (refine' kmk_slice_lit (by k_asm) (by k_asm) (by exact ⟨_, News.get (by k_asm) (by k_mem), rfl, _, rfl⟩) (by kmk_part) (by kmk_part) (by first | exact slice_from _ (by first | decide | omega) | exact slice_upto _ (by first | decide | omega)) ?_ (by with_unfolding_all rfl) (by kmk_pure) (by (rw [PySem.sizeLine_eq, List.size_toArray]; (try simp only [List.length_cons]); omega))); intro D' h' F' N' l1; (try k_lt l1); (try k_sweep))) | ((with_reducible show wpAny _ _ (subscriptTail _ _ (Value.ref _) (Value.int _ _)) _ _ _); k_dflt (refine' item_listN (by k_asm) (by k_mem) (by first | decide | omega) (by first | decide | omega) (by first | rfl | assumption) ?_; k_whole)) | ((with_reducible show wpAny _ _ (subscriptTail _ _ (Value.ref _) (Value.int _ _)) _ _ _); k_dflt (refine' item_tupleT (by exact News.isTup (by k_asm) (by k_mem)) (by decide) (by decide) (by rfl) (by rfl) ?_; k_whole)) | walk1 | (dsimp only; walk1) | (leave1; walk_say "STEP leave1"; try dsimp only) | fail "no step"))
      all_goals exact one_end hr (by assumption) (by assumption) Value.none _ tl rfl hs1 hs2 (off_tl hoff) (List.mem_append_right _ List.mem_cons_self) (by rw [ho]; exact rfl)
    | some q =>
      rw [ho] at hO
      obtain ⟨hq1, hq2, a, d, k1, k2, k3, k4, k5, kw, kh, kx, ky, rfl, ma, md⟩ := hO
      have ma' := hs1 _ ma
      have md' := hs1 _ md
      (repeat' (first | (k_unfold; (try dsimp only)) | (k_end; wrow_close) | ((with_reducible show wpAny _ _ (call (Value.ref 193) _ _) _ _ _); (k_dflt (refine' intersection_c (by k_asm) (by k_asm) (by k_asm) (by k_asm) (by k_asm) (by exact rfl) (by exact rfl) (by ktr_room) (by ktr_units) (by k_mem) (by k_mem) (by k_mem) (by k_mem) (by l_fact) (by l_fact) (by l_fact) (by l_fact) ?_ ?_; all_goals (k_whole; (first | (intro c9 a9 d9 k91 k92 k93 k94 k95 kw9 kh9 kx9 ky9 h9 tk9 F9 N9 l91 l92) | (intro c9 h9 tk9 F9 N9)); (try dsimp only); (try k_fold); (try k_sweep))))) | ((with_reducible show wpAny _ _ (call (Value.ref 214) _ _) _ _ _); (k_dflt (refine' box_c (by k_asm) (by k_asm) (by k_asm) (by k_asm) (by k_asm) (by exact rfl) (by exact rfl) (by ktr_room) (by ktr_units) (by k_mem) (by l_fact) (by l_fact) ?_; k_whole; intro a9 d9 k91 k92 k93 k94 k95 kw9 kh9 kx9 ky9 h9 tk9 F9 N9 l91 l92; (try k_lt l91); (try k_lt2 l92); (try dsimp only); (try k_fold); (try k_sweep)))) | ((with_reducible show wpAny _ _ (call (Value.ref 221) _ _) _ _ _); (k_dflt (refine' told_c (by k_asm) (by k_asm) (by k_asm) (by k_asm) (by k_asm) (by exact rfl) (by exact rfl) (by ktr_room) (by ktr_units) (by k_mem) (by k_mem) ?_; k_whole; intro t9 t91 t92 t93 t94 h9 tk9 F9 N9 l91; (try k_lt l91); (try dsimp only); (try k_fold); (try k_sweep)))) | ((with_reducible show wpAny _ _ (call (Value.ref 221) [Value.none] _) _ _ _); (k_dflt (refine' told_none_c (by k_asm) (by k_asm) (by k_asm) (by k_asm) (by k_asm) (by exact rfl) (by exact rfl) (by ktr_room) (by ktr_units)  ?_; k_whole; intro h9 tk9 F9 N9; (try dsimp only); (try k_fold); (try k_sweep)))) | ((with_reducible show wpAny _ _ (exec (Stmt.For ..) _) _ _ _); ((rename Fr _ _ _ _ => lF'); (with_unfolding_all refine' For_invVF lF' (by exact rfl) (by exact rfl) ?_; k_whole))) | ((with_reducible show wpAny _ _ (subscriptTail (Expr.Name ..) (Expr.Slice ..) (Value.ref _) (Value.ref _)) _ _ _); (k_dflt (refine' kmk_slice_lit (by k_asm) (by k_asm) (by exact ⟨_, News.get (by k_asm) (by k_mem), rfl, _, rfl⟩) (by kmk_part) (by kmk_part) (by first | exact slice_from _ (by first | decide | omega) | exact slice_upto _ (by first | decide | omega)) ?_ (by with_unfolding_all rfl) (by kmk_pure) (by (rw [PySem.sizeLine_eq, List.size_toArray]; (try simp only [List.length_cons]); omega))); intro D' h' F' N' l1; (try k_lt l1); (try k_sweep))) | ((with_reducible show wpAny _ _ (subscriptTail _ _ (Value.ref _) (Value.int _ _)) _ _ _); k_dflt (refine' item_listN (by k_asm) (by k_mem) (by first | decide | omega) (by first | decide | omega) (by first | rfl | assumption) ?_; k_whole)) | ((with_reducible show wpAny _ _ (subscriptTail _ _ (Value.ref _) (Value.int _ _)) _ _ _); k_dflt (refine' item_tupleT (by exact News.isTup (by k_asm) (by k_mem)) (by decide) (by decide) (by rfl) (by rfl) ?_; k_whole)) | walk1 | (dsimp only; walk1) | (leave1; walk_say "STEP leave1"; try dsimp only) | fail "no step"))
      all_goals (rename Fr _ _ _ _ => kF; rename News _ _ _ _ => kN; rename (if e = true then _ else _) = _ => hc)
      all_goals (first
        | exact one_end hr kF kN Value.none _ tl (fr2_store (x := "row") (y := "rect") (by decide)) (fun p hp => List.mem_cons_of_mem _ (List.mem_cons_of_mem _ (hs1 p hp))) (fun p hp => List.mem_cons_of_mem _ (List.mem_cons_of_mem _ (hs2 p hp))) hoff (List.mem_append_right _ List.mem_cons_self) (by rw [ho, oneStep_no hc]; exact rfl)
        | exact one_end_new (q := q) hr kF kN _ (fr2_store (x := "row") (y := "rect") (by decide)) (fun p hp => List.mem_cons_of_mem _ (List.mem_cons_of_mem _ (hs1 p (List.mem_append_right _ hp)))) (fun p hp => List.mem_cons_of_mem _ (List.mem_cons_of_mem _ (hs2 p hp))) (by assumption) (by assumption) (off_right hoff) (fun tl' => List.mem_append_right _ List.mem_cons_self) ho hc ⟨hq1, hq2⟩ ⟨hp1, hp2⟩)
  case done =>
    rintro m₁ nx h tk ⟨v', u', tl, rfl, rfl, hO⟩ F₁ N₁
    rw [hl, List.take_length] at hO
    have hs3 : ∀ p ∈ news, p ∈ tl ++ (D, listOf vs.toArray 0) :: news := fun p hp => List.mem_append_right _ (List.mem_cons_of_mem _ hp)
    cases ho : oneV e r0 rs with
    | none =>
      rw [ho] at hO hret
      have hO' : v' = .none := hO
      subst hO'
      (repeat' (first | (k_unfold; (try dsimp only)) | (k_end; wrow_close) | ((with_reducible show wpAny _ _ (call (Value.ref 193) _ _) _ _ _); (k_dflt (refine' intersection_c (by k_asm) (by k_asm) (by k_asm) (by k_asm) (by k_asm) (by exact rfl) (by exact rfl) (by ktr_room) (by ktr_units) (by k_mem) (by k_mem) (by k_mem) (by k_mem) (by l_fact) (by l_fact) (by l_fact) (by l_fact) ?_ ?_; all_goals (k_whole; (first | (intro c9 a9 d9 k91 k92 k93 k94 k95 kw9 kh9 kx9 ky9 h9 tk9 F9 N9 l91 l92) | (intro c9 h9 tk9 F9 N9)); (try dsimp only); (try k_fold); (try k_sweep))))) | ((with_reducible show wpAny _ _ (call (Value.ref 214) _ _) _ _ _); (k_dflt (refine' box_c (by k_asm) (by k_asm) (by k_asm) (by k_asm) (by k_asm) (by exact rfl) (by exact rfl) (by ktr_room) (by ktr_units) (by k_mem) (by l_fact) (by l_fact) ?_; k_whole; intro a9 d9 k91 k92 k93 k94 k95 kw9 kh9 kx9 ky9 h9 tk9 F9 N9 l91 l92; (try k_lt l91); (try k_lt2 l92); (try dsimp only); (try k_fold); (try k_sweep)))) | ((with_reducible show wpAny _ _ (call (Value.ref 221) _ _) _ _ _); (k_dflt (refine' told_c (by k_asm) (by k_asm) (by k_asm) (by k_asm) (by k_asm) (by exact rfl) (by exact rfl) (by ktr_room) (by ktr_units) (by k_mem) (by k_mem) ?_; k_whole; intro t9 t91 t92 t93 t94 h9 tk9 F9 N9 l91; (try k_lt l91); (try dsimp only); (try k_fold); (try k_sweep)))) | ((with_reducible show wpAny _ _ (call (Value.ref 221) [Value.none] _) _ _ _); (k_dflt (refine' told_none_c (by k_asm) (by k_asm) (by k_asm) (by k_asm) (by k_asm) (by exact rfl) (by exact rfl) (by ktr_room) (by ktr_units)  ?_; k_whole; intro h9 tk9 F9 N9; (try dsimp only); (try k_fold); (try k_sweep)))) | ((with_reducible show wpAny _ _ (exec (Stmt.For ..) _) _ _ _); ((rename Fr _ _ _ _ => lF'); (with_unfolding_all refine' For_invVF lF' (by exact rfl) (by exact rfl) ?_; k_whole))) | ((with_reducible show wpAny _ _ (subscriptTail (Expr.Name ..) (Expr.Slice ..) (Value.ref _) (Value.ref _)) _ _ _); (k_dflt (refine' kmk_slice_lit (by k_asm) (by k_asm) (by exact ⟨_, News.get (by k_asm) (by k_mem), rfl, _, rfl⟩) (by kmk_part) (by kmk_part) (by first | exact slice_from _ (by first | decide | omega) | exact slice_upto _ (by first | decide | omega)) ?_ (by with_unfolding_all rfl) (by kmk_pure) (by (rw [PySem.sizeLine_eq, List.size_toArray]; (try simp only [List.length_cons]); omega))); intro D' h' F' N' l1; (try k_lt l1); (try k_sweep))) | ((with_reducible show wpAny _ _ (subscriptTail _ _ (Value.ref _) (Value.int _ _)) _ _ _); k_dflt (refine' item_listN (by k_asm) (by k_mem) (by first | decide | omega) (by first | decide | omega) (by first | rfl | assumption) ?_; k_whole)) | ((with_reducible show wpAny _ _ (subscriptTail _ _ (Value.ref _) (Value.int _ _)) _ _ _); k_dflt (refine' item_tupleT (by exact News.isTup (by k_asm) (by k_mem)) (by decide) (by decide) (by rfl) (by rfl) ?_; k_whole)) | walk1 | (dsimp only; walk1) | (leave1; walk_say "STEP leave1"; try dsimp only) | fail "no step"))
      all_goals exact hret _ _ _ _ (by assumption) (by assumption) hs3 DatIn.none
    | some q =>
      rw [ho] at hO hret
      obtain ⟨hq1, hq2, a, d, k1, k2, k3, k4, k5, kw, kh, kx, ky, rfl, ma, md⟩ := hO
      (repeat' (first | (k_unfold; (try dsimp only)) | (k_end; wrow_close) | ((with_reducible show wpAny _ _ (call (Value.ref 193) _ _) _ _ _); (k_dflt (refine' intersection_c (by k_asm) (by k_asm) (by k_asm) (by k_asm) (by k_asm) (by exact rfl) (by exact rfl) (by ktr_room) (by ktr_units) (by k_mem) (by k_mem) (by k_mem) (by k_mem) (by l_fact) (by l_fact) (by l_fact) (by l_fact) ?_ ?_; all_goals (k_whole; (first | (intro c9 a9 d9 k91 k92 k93 k94 k95 kw9 kh9 kx9 ky9 h9 tk9 F9 N9 l91 l92) | (intro c9 h9 tk9 F9 N9)); (try dsimp only); (try k_fold); (try k_sweep))))) | ((with_reducible show wpAny _ _ (call (Value.ref 214) _ _) _ _ _); (k_dflt (refine' box_c (by k_asm) (by k_asm) (by k_asm) (by k_asm) (by k_asm) (by exact rfl) (by exact rfl) (by ktr_room) (by ktr_units) (by k_mem) (by l_fact) (by l_fact) ?_; k_whole; intro a9 d9 k91 k92 k93 k94 k95 kw9 kh9 kx9 ky9 h9 tk9 F9 N9 l91 l92; (try k_lt l91); (try k_lt2 l92); (try dsimp only); (try k_fold); (try k_sweep)))) | ((with_reducible show wpAny _ _ (call (Value.ref 221) _ _) _ _ _); (k_dflt (refine' told_c (by k_asm) (by k_asm) (by k_asm) (by k_asm) (by k_asm) (by exact rfl) (by exact rfl) (by ktr_room) (by ktr_units) (by k_mem) (by k_mem) ?_; k_whole; intro t9 t91 t92 t93 t94 h9 tk9 F9 N9 l91; (try k_lt l91); (try dsimp only); (try k_fold); (try k_sweep)))) | ((with_reducible show wpAny _ _ (call (Value.ref 221) [Value.none] _) _ _ _); (k_dflt (refine' told_none_c (by k_asm) (by k_asm) (by k_asm) (by k_asm) (by k_asm) (by exact rfl) (by exact rfl) (by ktr_room) (by ktr_units)  ?_; k_whole; intro h9 tk9 F9 N9; (try dsimp only); (try k_fold); (try k_sweep)))) | ((with_reducible show wpAny _ _ (exec (Stmt.For ..) _) _ _ _); ((rename Fr _ _ _ _ => lF'); (with_unfolding_all refine' For_invVF lF' (by exact rfl) (by exact rfl) ?_; k_whole))) | ((with_reducible show wpAny _ _ (subscriptTail (Expr.Name ..) (Expr.Slice ..) (Value.ref _) (Value.ref _)) _ _ _); (k_dflt (refine' kmk_slice_lit (by k_asm) (by k_asm) (by exact ⟨_, News.get (by k_asm) (by k_mem), rfl, _, rfl⟩) (by kmk_part) (by kmk_part) (by first | exact slice_from _ (by first | decide | omega) | exact slice_upto _ (by first | decide | omega)) ?_ (by with_unfolding_all rfl) (by kmk_pure) (by (rw [PySem.sizeLine_eq, List.size_toArray]; (try simp only [List.length_cons]); omega))); intro D' h' F' N' l1; (try k_lt l1); (try k_sweep))) | ((with_reducible show wpAny _ _ (subscriptTail _ _ (Value.ref _) (Value.int _ _)) _ _ _); k_dflt (refine' item_listN (by k_asm) (by k_mem) (by first | decide | omega) (by first | decide | omega) (by first | rfl | assumption) ?_; k_whole)) | ((with_reducible show wpAny _ _ (subscriptTail _ _ (Value.ref _) (Value.int _ _)) _ _ _); k_dflt (refine' item_tupleT (by exact News.isTup (by k_asm) (by k_mem)) (by decide) (by decide) (by rfl) (by rfl) ?_; k_whole)) | walk1 | (dsimp only; walk1) | (leave1; walk_say "STEP leave1"; try dsimp only) | fail "no step"))
      all_goals (rename Fr _ _ _ _ => kF; rename News _ _ _ _ => kN; exact hret _ _ _ _ kF kN (fun p hp => List.mem_cons_of_mem _ (hs3 p hp)) (row_close List.mem_cons_self))

end
end Mine
end
section
open PySem PySem.W PySem.Calls PyProof.Rows PySem.Spec
set_option maxRecDepth 100000
set_option linter.unusedVariables false
namespace Mine
theorem below_go (xs : Array Nat) (j i : Nat) (h1 : ∀ k, k < i → xs.getD k j < j) (h2 : ∀ k, i ≤ k → k < xs.size → j ≤ xs.getD k j) :
    ∀ fuel lo hi, lo ≤ i → i ≤ hi → hi ≤ xs.size → hi - lo ≤ fuel → SetTable.below.go xs j fuel lo hi = i
  | 0, lo, hi, a, b, _, d => by
    show lo = i
    omega
  | f + 1, lo, hi, a, b, c, d => by
    unfold SetTable.below.go
    by_cases h : lo < hi
    · rw [if_pos h]
      dsimp only
      by_cases g : xs.getD ((lo + hi) / 2) j < j
      · rw [if_pos g]
        have hm : (lo + hi) / 2 < i := by
          rcases Nat.lt_or_ge ((lo + hi) / 2) i with q | q
          · exact q
          · exact absurd (h2 _ q (by omega)) (Nat.not_le.mpr g)
        exact below_go xs j i h1 h2 f _ _ hm b c (by omega)
      · rw [if_neg g]
        have hm : i ≤ (lo + hi) / 2 := by
          rcases Nat.lt_or_ge ((lo + hi) / 2) i with q | q
          · exact absurd (h1 _ q) g
          · exact q
        exact below_go xs j i h1 h2 f _ _ a hm (by omega) (by omega)
    · rw [if_neg h]
      omega
theorem below_at {xs : Array Nat} {j i : Nat} (hi : i ≤ xs.size) (h1 : ∀ k, k < i → xs.getD k j < j) (h2 : ∀ k, i ≤ k → k < xs.size → j ≤ xs.getD k j) : SetTable.below xs j = i :=
  below_go xs j i h1 h2 _ _ _ (Nat.zero_le _) hi (Nat.le_refl _) (by omega)
def Rising (xs : Array Nat) : Prop := xs.toList.Pairwise (· < ·)
theorem rising_get {xs : Array Nat} (h : Rising xs) {i j : Nat} (hij : i < j) (hj : j < xs.size) (d e : Nat) : xs.getD i d < xs.getD j e := by
  have hi : i < xs.size := Nat.lt_trans hij hj
  have e1 : xs.getD i d = xs.toList[i] := by simp [Array.getD, hi]
  have e2 : xs.getD j e = xs.toList[j] := by simp [Array.getD, hj]
  rw [e1, e2]
  exact List.pairwise_iff_getElem.mp h i j (by simpa using hi) (by simpa using hj) hij
/-- the place where j stands, or would stand -/
theorem split_at : ∀ (l : List Nat), l.Pairwise (· < ·) → ∀ j, ∃ i, i ≤ l.length ∧ (∀ x ∈ l.take i, x < j) ∧ ∀ x ∈ l.drop i, j ≤ x
  | [], _, j => ⟨0, Nat.le_refl _, (fun x h => by simp at h), fun x h => by simp at h⟩
  | a :: l, h, j => by
    have hp := List.pairwise_cons.mp h
    by_cases ha : a < j
    · obtain ⟨i, h1, h2, h3⟩ := split_at l hp.2 j
      refine ⟨i + 1, by simpa using h1, fun x hx => ?_, by simpa using h3⟩
      rw [List.take_succ_cons] at hx
      rcases List.mem_cons.mp hx with rfl | hx
      · exact ha
      · exact h2 x hx
    · refine ⟨0, Nat.zero_le _, (fun x hx => by simp at hx), fun x hx => ?_⟩
      rcases List.mem_cons.mp (by simpa using hx) with rfl | hx
      · omega
      · have := hp.1 x hx
        omega
theorem below_split {xs : Array Nat} (h : Rising xs) (j : Nat) : SetTable.below xs j ≤ xs.size ∧ (∀ x ∈ xs.toList.take (SetTable.below xs j), x < j) ∧ ∀ x ∈ xs.toList.drop (SetTable.below xs j), j ≤ x := by
  obtain ⟨i, h1, h2, h3⟩ := split_at xs.toList h j
  rw [Array.length_toList] at h1
  have e : SetTable.below xs j = i := by
    refine below_at h1 (fun k hk => ?_) fun k hk hs => ?_
    · have hks : k < xs.size := Nat.lt_of_lt_of_le hk h1
      have e1 : xs.getD k j = xs.toList[k]'(by simpa using hks) := by simp [Array.getD, hks]
      rw [e1]
      refine h2 _ ?_
      rw [List.mem_take_iff_getElem]
      exact ⟨k, by rw [Array.length_toList]; omega, rfl⟩
    · have e1 : xs.getD k j = xs.toList[k]'(by simpa using hs) := by simp [Array.getD, hs]
      rw [e1]
      refine h3 _ ?_
      rw [List.mem_drop_iff_getElem]
      refine ⟨k - i, by rw [Array.length_toList]; omega, ?_⟩
      congr 1
      omega
  rw [e]
  exact ⟨h1, h2, h3⟩
theorem insert_toList {α : Type} (xs : Array α) (p : Nat) (x : α) : (SetTable.insertAt xs p x).toList = xs.toList.take p ++ x :: xs.toList.drop p := by
  unfold SetTable.insertAt
  have e : List.take (xs.size - p) (List.drop p xs.toList) = List.drop p xs.toList := List.take_of_length_le (by rw [List.length_drop, Array.length_toList]; exact Nat.le_refl _)
  simp [Array.toList_extract, e]
theorem insert_rising {xs : Array Nat} (h : Rising xs) {j : Nat} (hn : ¬ xs[SetTable.below xs j]? = some j) : Rising (SetTable.insertAt xs (SetTable.below xs j) j) := by
  obtain ⟨h1, h2, h3⟩ := below_split h j
  unfold Rising
  rw [insert_toList, List.pairwise_append]
  have hd : (xs.toList.drop (SetTable.below xs j)).Pairwise (· < ·) := h.sublist (List.drop_sublist _ _)
  have hgt : ∀ x ∈ xs.toList.drop (SetTable.below xs j), j < x := by
    intro x hx
    have hle := h3 x hx
    rcases Nat.lt_or_ge j x with q | q
    · exact q
    · have e : x = j := Nat.le_antisymm q hle
      subst e
      exfalso
      apply hn
      cases hq : xs.toList.drop (SetTable.below xs x) with
      | nil => rw [hq] at hx; cases hx
      | cons y r =>
        have hy : xs.toList[SetTable.below xs x]? = some y := by
          have := congrArg List.head? hq
          simpa [List.head?_drop] using this
        rw [← Array.getElem?_toList, hy]
        rw [hq] at hx hd
        rcases List.mem_cons.mp hx with e | hx'
        · rw [e]
        · have a1 := (List.pairwise_cons.mp hd).1 x hx'
          have a2 := h3 y (by rw [hq]; exact List.mem_cons_self)
          omega
  refine ⟨h.sublist (List.take_sublist _ _), List.pairwise_cons.mpr ⟨hgt, hd⟩, fun a ha b hb => ?_⟩
  have hlt := h2 a ha
  rcases List.mem_cons.mp hb with rfl | hb
  · exact hlt
  · exact Nat.lt_trans hlt (hgt b hb)
/-- a table without dummies, led as the run has it, its places rising unless it gave way -/
structure GT (led : Bool) (t : SetTable) : Prop where
  dum : t.dummies = #[]
  led : t.led = led
  inc : t.plain = true → Rising t.place
theorem gt_fresh (led : Bool) : GT led (.fresh 0 0 led) := ⟨rfl, rfl, fun _ => List.Pairwise.nil⟩
theorem gt_standIn {led : Bool} {t : SetTable} (h : GT led t) (n : Nat) : GT led (t.standIn n) := ⟨rfl, h.led, fun e => by simp [SetTable.standIn] at e⟩
theorem gt_orStandIn {led : Bool} {t : SetTable} (h : GT led t) (n : Nat) : GT led (t.orStandIn n) := by
  unfold SetTable.orStandIn
  split
  · exact h
  · exact gt_standIn h n
theorem gt_plainOff {led : Bool} {t : SetTable} (h : GT led t) : GT led { t with plain := false } := ⟨h.dum, h.led, fun e => by simp at e⟩
theorem below_empty (j : Nat) : SetTable.below #[] j = 0 := rfl
theorem slot_noDummy {t : SetTable} (h : t.dummies = #[]) (j : Nat) : t.slot j ≠ .dummy := by
  unfold SetTable.slot
  rw [h]
  simp only [SetTable.has, below_empty]
  split
  · exact fun e => by cases e
  · simp
theorem slot_empty {t : SetTable} {j : Nat} (h : t.slot j = .empty) : ¬ t.place[SetTable.below t.place j]? = some j := by
  intro e
  unfold SetTable.slot at h
  dsimp only at h
  rw [e] at h
  simp at h
theorem probe_go {t : SetTable} (hd : t.dummies = #[]) (hashAt : Nat → Int) (h : Int) : ∀ (fuel : Nat) (p : SetTable.Probe) (j : Nat) (d : Option Nat), p.dummy = none → SetTable.probe.go t hashAt h fuel p = some (.empty j d) → d = none ∧ t.slot j = .empty
  | 0, p, j, d, _, e => by unfold SetTable.probe.go at e; cases e
  | f + 1, p, j, d, hp, e => by
    unfold SetTable.probe.go at e
    cases hs : t.slot p.j with
    | empty =>
      rw [hs] at e
      simp only [Option.some.injEq, SetTable.Met.empty.injEq] at e
      obtain ⟨rfl, rfl⟩ := e
      exact ⟨hp, hs⟩
    | dummy => exact absurd hs (slot_noDummy hd _)
    | live i =>
      rw [hs] at e
      simp only at e
      split at e
      · cases e
      · refine probe_go hd hashAt h f _ j d ?_ e
        unfold SetTable.advance
        split <;> exact hp
theorem freeSlot_empty {t : SetTable} (hd : t.dummies = #[]) {h : Int} {j : Nat} {b : Bool} (e : t.freeSlot h = some (j, b)) : t.slot j = .empty := by
  unfold SetTable.freeSlot at e
  split at e
  · rename_i j' d hp
    obtain ⟨rfl, hs⟩ := probe_go hd _ _ _ _ _ _ rfl hp
    simp only [Option.getD_none, Option.some.injEq, Prod.mk.injEq] at e
    rw [← e.1]; exact hs
  · cases e
theorem gt_layNew {led : Bool} {t : SetTable} (h : GT led t) (es : Array (Int × Value)) (n : Int) (x : Value) : GT led (layNew t es n x).2.1 := by
  unfold layNew
  split
  · rename_i slot wasDummy hf
    have hs := slot_empty (freeSlot_empty h.dum hf)
    have hp : GT led (t.put slot).1 := by
      unfold SetTable.put
      refine ⟨?_, h.led, fun e => insert_rising (h.inc e) hs⟩
      show (if SetTable.has t.dummies slot = true then _ else t.dummies) = #[]
      rw [h.dum]
      simp [SetTable.has, below_empty]
    exact gt_orStandIn hp _
  · exact gt_standIn h _
theorem pairwise_filterMap_fst {β : Type} (f : Nat → Option β) : ∀ (l : List Nat), l.Pairwise (· < ·) → ((l.filterMap fun j => (f j).map (j, ·)).map (·.1)).Pairwise (· < ·) ∧ ∀ x ∈ (l.filterMap fun j => (f j).map (j, ·)).map (·.1), x ∈ l
  | [], _ => ⟨List.Pairwise.nil, fun x h => by simp at h⟩
  | a :: l, h => by
    have hp := List.pairwise_cons.mp h
    obtain ⟨h1, h2⟩ := pairwise_filterMap_fst f l hp.2
    cases hf : f a with
    | none =>
      rw [List.filterMap_cons_none (by rw [hf]; rfl)]
      exact ⟨h1, fun x hx => List.mem_cons_of_mem _ (h2 x hx)⟩
    | some b =>
      rw [List.filterMap_cons_some (b := (a, b)) (by rw [hf]; rfl), List.map_cons]
      refine ⟨List.pairwise_cons.mpr ⟨fun x hx => hp.1 x (h2 x hx), h1⟩, fun x hx => ?_⟩
      rcases List.mem_cons.mp hx with rfl | hx
      · exact List.mem_cons_self
      · exact List.mem_cons_of_mem _ (h2 x hx)
theorem gt_laid {mask finger moves : Nat} {led plain : Bool} {hs : Array Int} {t : SetTable} {order : Array Nat} (e : SetTable.laid mask finger moves led plain hs = some (t, order)) : t.dummies = #[] ∧ t.led = led ∧ t.plain = plain ∧ Rising t.place := by
  unfold SetTable.laid at e
  cases ho : SetTable.layClean mask hs with
  | none => rw [ho] at e; cases e
  | some owner =>
    rw [ho] at e
    simp only [Option.bind_eq_bind, Option.bind_some, Option.pure_def, Option.some.injEq, Prod.mk.injEq] at e
    obtain ⟨rfl, _⟩ := e
    exact ⟨rfl, rfl, rfl, (pairwise_filterMap_fst _ _ List.pairwise_lt_range).1⟩
theorem gt_relayAll {led : Bool} {t : SetTable} (h : GT led t) (es : Array (Int × Value)) (n : Nat) : GT led (relayAll t es n).2.1 := by
  unfold relayAll
  split
  · rename_i t' order he
    obtain ⟨a1, a2, a3, a4⟩ := gt_laid he
    dsimp only
    split
    · exact ⟨a1, a2.trans h.led, fun _ => a4⟩
    · exact gt_standIn h _
  · exact gt_standIn h _
end Mine
end
section
open PySem PySem.W PySem.Calls PyProof.Rows PySem.Spec
set_option maxRecDepth 100000
set_option linter.unusedVariables false
namespace Mine
section
variable (prog : Program) (w : World)
/-- a set of ints, its members said by mem, at most n, its table in order -/
def SetG (led : Bool) (h : Heap) (a : Addr) (mem : Int → Prop) (n : Nat) : Prop :=
  ∃ o es ep t, h.get? a = some o ∧ o.ExactSet ∧ o.data = .set es ep t ∧ ElemsOf (intKind prog w) es.toList ∧ (∀ k, mem k ↔ ∃ e ∈ es.toList, (intKind prog w).is k e.2 = true) ∧ es.size ≤ n ∧ t.fits es.size = true ∧ GT led t
end
section
variable {prog : Program} {w : World} {A : Around} {E : Value → Shared → Prop} {s : Shared} {led : Bool}
theorem set_stored {h : Heap} {a : Addr} {o : Obj} {es es' : Array (Int × Value)} {ep : Nat} {t t' : SetTable} (ho : h.get? a = some o) (hd : o.data = .set es ep t) :
    (h.update a (Obj.putSet es' t')).get? a = some { o with data := .set es' (ep + 1) t' } := by
  have z := Heap.get?_update_self (Obj.putSet es' t') ho (by rw [putSet_of es' t' hd]; rfl)
  rw [putSet_of es' t' hd] at z
  exact z
theorem add_end {mem : Int → Prop} {n : Int} {m : Nat} {a : Addr} {o : Obj} {es0 es : Array (Int × Value)} {ep : Nat} {t : SetTable} {tok : Tok} {h' : Heap}
    (hmem : ∀ k, mem k ↔ ∃ e ∈ es0.toList, (intKind prog w).is k e.2 = true) (hel : ElemsOf (intKind prog w) es0.toList) (hz : es0.size ≤ m)
    (hp : List.Perm es.toList (es0.push ((intKind prog w).hash n, .int n tok)).toList) (hex : o.ExactSet) (hg : h'.get? a = some { o with data := .set es ep t }) (hf : t.fits es.size = true) (ht : GT led t) :
    SetG prog w led h' a (fun k => mem k ∨ k = n) (m + 1) := by
  rw [Array.toList_push] at hp
  have hn : (intKind prog w).is n (.int n tok) = true := intKind_is _ _ _ _
  refine ⟨_, es, ep, t, hg, hex, rfl, (hel.push hn rfl).perm hp, fun k => ?_, ?_, hf, ht⟩
  · show (mem k ∨ k = n) ↔ _
    rw [hmem k]
    constructor
    · rintro (⟨e, he, q⟩ | rfl)
      · exact ⟨e, hp.mem_iff.mpr (List.mem_append_left _ he), q⟩
      · exact ⟨_, hp.mem_iff.mpr (List.mem_append_right _ (List.mem_singleton.mpr rfl)), hn⟩
    · rintro ⟨e, he, q⟩
      rcases List.mem_append.mp (hp.mem_iff.mp he) with he | he
      · exact .inl ⟨e, he, q⟩
      · rw [List.mem_singleton.mp he] at q
        exact .inr ((intKind prog w).inj _ _ _ q hn)
  · have e := hp.length_eq
    rw [List.length_append, Array.length_toList, Array.length_toList, List.length_singleton] at e
    omega
theorem add_int {mem : Int → Prop} {n : Int} {m : Nat} {a : Addr} {tok : Tok} {Q : Bool → Shared → Prop} (hS : SetG prog w led s.heap a mem m) (hroom : m + 1 < scanBound)
    (h : ∀ b h', Heap.SameBut a s.heap h' → SetG prog w led h' a (fun k => mem k ∨ k = n) (m + 1) → Q b { s with heap := h' }) :
    wpAny (model prog w) A (setAddHashed a (.int n tok) ((intKind prog w).hash n)) Q E s := by
  obtain ⟨o, es, ep, t, ho, hex, hd, hel, hmem, hz, hf, ht⟩ := hS
  have hn : (intKind prog w).is n (.int n tok) = true := intKind_is _ _ _ _
  have hb : es.size < scanBound := by omega
  unfold setAddHashed setAddHashedIn
  refine wpAny_holding (wpAny_bind (wpAny_setState_of ho hd hf ?_))
  dsimp only
  rw [byScan_of (x := .int n tok) rfl hb hel, if_pos rfl]
  unfold setAddByScan
  refine wpAny_bind (wpAny_bind (wpAny_rule (wpAny_bind (wpAny_setScan_of hn ho hd hf hel ?_))))
  cases hr : List.findIdx? (fun e => (intKind prog w).is n e.2) es.toList with
  | some j =>
    obtain ⟨hj, hpj, _⟩ := List.findIdx?_eq_some_iff_getElem.mp hr
    have hs : s = { s with heap := s.heap } := rfl
    refine wpAny_pure (wpAny_pure ?_)
    rw [hs]
    refine h _ s.heap (Heap.SameBut.refl a s.heap) ⟨o, es, ep, t, ho, hex, hd, hel, fun k => ?_, by omega, hf, ht⟩
    show (mem k ∨ k = n) ↔ _
    rw [hmem k]
    exact ⟨fun q => q.elim id fun e => e ▸ ⟨es.toList[j], List.getElem_mem hj, hpj⟩, .inl⟩
  | none =>
    dsimp only
    have hperm := layNew_perm t es ((intKind prog w).hash n) (.int n tok)
    have hfits := layNew_fits t es ((intKind prog w).hash n) (.int n tok)
    have hgt := gt_layNew ht es ((intKind prog w).hash n) (.int n tok)
    generalize layNew t es ((intKind prog w).hash n) (.int n tok) = R at hperm hfits hgt ⊢
    obtain ⟨es1, t1, wasDummy, gave⟩ := R
    dsimp only at hperm hfits hgt ⊢
    have gw : ∀ (b : Bool) {s₁ : Shared} {Q' : Unit → Shared → Prop}, Q' () s₁ → wpAny (model prog w) A (match b with | true => rule "set.scan.the-table-gave-way" | false => pure ()) Q' E s₁ :=
      fun b s₁ Q' q => by cases b <;> first | exact wpAny_pure q | exact wpAny_rule q
    have hz1 : es1.size = es.size + 1 := by
      have e := hperm.length_eq
      rw [Array.length_toList, Array.length_toList, Array.size_push] at e
      exact e
    refine wpAny_bind (gw _ ?_)
    have tail : ∀ t2 : SetTable, t2.fits es1.size = true → GT led t2 → wpAny (model prog w) A (do
        storeSet a es1 t2
        if (!wasDummy && t2.tooFull) = true then do
            (match (relayAll t2 es1 (SetTable.grown es1.size)).2.2 with | true => rule "set.scan.the-table-gave-way" | false => pure ())
            storeSet a (relayAll t2 es1 (SetTable.grown es1.size)).1 (relayAll t2 es1 (SetTable.grown es1.size)).2.1
            pure (some true)
          else pure (some true)) (fun r s' => ∃ b, r = some b ∧ Q b s') E s := by
      intro t2 hf2 hg2
      have hl1 : es1.size ≤ sizeLine := fits_of_scanBound (by omega)
      refine wpAny_bind (wpAny_storeSet_of ho hd ?_ hl1)
      have ho1 := set_stored (es' := es1) (t' := t2) ho hd
      have hb1 := Heap.SameBut.update s.heap a (Obj.putSet es1 t2)
      split
      · have hp2 := relayAll_perm t2 es1 (SetTable.grown es1.size)
        have hf3 := relayAll_fits t2 es1 (SetTable.grown es1.size)
        have hg3 := gt_relayAll hg2 es1 (SetTable.grown es1.size)
        generalize relayAll t2 es1 (SetTable.grown es1.size) = R2 at hp2 hf3 hg3 ⊢
        obtain ⟨es2, t3, gave2⟩ := R2
        dsimp only at hp2 hf3 hg3 ⊢
        have hz2 : es2.size = es1.size := by
          have e := hp2.length_eq
          rw [Array.length_toList, Array.length_toList] at e
          exact e
        refine wpAny_bind (gw _ (wpAny_bind (wpAny_storeSet_of ho1 rfl ?_ (by rw [hz2]; exact hl1))))
        have ho2 := set_stored (es' := es2) (t' := t3) ho1 rfl
        exact wpAny_pure ⟨_, rfl, h _ _ (hb1.trans (Heap.SameBut.update _ a _)) (add_end hmem hel hz (hp2.trans hperm) hex ho2 hf3 hg3)⟩
      · exact wpAny_pure ⟨_, rfl, h _ _ hb1 (add_end hmem hel hz hperm hex ho1 hf2 hg2)⟩
    have fin := wpAny_mono (tail t1 hfits hgt) (Q' := fun a_1 s' => wpAny (model prog w) A (match a_1 with | some added => pure added | none => setAddHashedIn a (Value.int n tok) ((intKind prog w).hash n) 99999) Q E s') (fun r s' ⟨b, e, q⟩ => by subst e; exact wpAny_pure q) (fun _ _ x => x : ∀ e s, E e s → E e s)
    split
    · refine wpAny_bind ?_
      rw [hashByValue_scannable 8 (x := .int n tok) rfl]
      exact wpAny_pure fin
    · exact wpAny_bind (wpAny_pure fin)
end
end Mine
end
section
open PySem PySem.W PySem.Calls PyProof.Rows PySem.Spec
set_option maxRecDepth 100000
set_option linter.unusedVariables false
namespace Mine
theorem erase_perm {α : Type} : ∀ (l : List α) (k : Nat) (h : k < l.length), (l[k] :: l.eraseIdx k).Perm l
  | x :: l, 0, h => List.Perm.refl _
  | x :: l, k + 1, h => (List.Perm.swap _ _ _).trans (List.Perm.cons x (erase_perm l k (Nat.lt_of_succ_lt_succ h)))
section
variable {M : Model} {A : Around} {E : Value → Shared → Prop}
theorem choose_any {s : Shared} {src : Source} {n : Nat} {Q : Nat → Shared → Prop} (hn : n ≠ 0) (h : ∀ k d, k < n → Q k { s with drawn := d }) : wpAny M A (choose src n) Q E s :=
  fun Γ p hΓ => ⟨hn, h _ _ (Nat.mod_lt _ (Nat.pos_of_ne_zero hn))⟩
theorem draw_order {α : Type} : ∀ (n : Nat) (xs : List α) (s : Shared) {Q : List α → Shared → Prop}, xs.length = n → (∀ ys d, ys.Perm xs → Q ys { s with drawn := d }) → wpAny M A (drawOrder n xs) Q E s
  | 0, xs, s, Q, hn, h => by
    have e : xs = [] := List.length_eq_zero_iff.mp hn
    subst e
    exact wpAny_pure (h [] s.drawn (List.Perm.refl _))
  | n + 1, [], s, Q, hn, h => by cases hn
  | n + 1, x :: xs, s, Q, hn, h => by
    show wpAny M A (choose .order (x :: xs).length >>= _) _ _ _
    refine wpAny_bind (choose_any (by rw [hn]; exact Nat.succ_ne_zero n) fun k d hkl => ?_)
    show wpAny M A (match (x :: xs)[k]? with | some y => _ | none => _) Q E _
    rw [List.getElem?_eq_getElem hkl]
    refine wpAny_bind (draw_order n _ _ (by rw [List.length_eraseIdx, if_pos hkl, hn]; rfl) fun ys d hp => wpAny_pure (h _ _ ?_))
    exact (List.Perm.cons _ hp).trans (erase_perm _ k hkl)
end
theorem pick_go {α : Type} (nx : Nat → Nat) : ∀ (n k : Nat) (left : List α) (out : Array α), left.length = n → (pickOrder.go nx n k left out).toList.Perm (out.toList ++ left)
  | 0, k, left, out, hn => by
    have e : left = [] := List.length_eq_zero_iff.mp hn
    subst e
    unfold pickOrder.go
    rw [List.append_nil]
  | n + 1, k, left, out, hn => by
    have hkl : nx k % left.length < left.length := Nat.mod_lt _ (by rw [hn]; exact Nat.succ_pos _)
    unfold pickOrder.go
    rw [List.getElem?_eq_getElem hkl]
    refine (pick_go nx n _ _ _ (by rw [List.length_eraseIdx, if_pos hkl, hn]; rfl)).trans ?_
    rw [Array.toList_push, List.append_assoc]
    exact List.Perm.append_left _ (erase_perm _ _ hkl)
theorem pick_perm {α : Type} (nx : Nat → Nat) (xs : Array α) : (pickOrder nx xs).toList.Perm xs.toList := by
  have := pick_go nx xs.size 0 xs.toList #[] Array.length_toList
  simpa [pickOrder] using this
theorem isub_set_iterator : isSubtype (.type "set_iterator") (.type "set_iterator") = pure true := by rw [isSubtype_type]; kernel_rfl
theorem owner_set_iterator : Manifest.owners.lookup (String.ofList ['r', 'o', 't', 'a', 'r', 'e', 't', 'i', '_', 't', 'e', 's'].reverse) = some Manifest.sig_set_iterator := by kernel_rfl
theorem slot_si_next : Slot "set_iterator" "__next__" "set_iterator.__next__" :=
  .of (owner := "set_iterator") (n := "__next__") (by rw [typeLookup_type, builtinLookup_eq_fast]; kernel_rfl) (by decide +kernel) (by decide +kernel) (by decide +kernel)
    (by first | exact .inl (by decide +kernel) | exact .inr (by decide +kernel)) (by rw [isSubtype_type]; kernel_rfl)
theorem entry_si_next : entryFor table "set_iterator.__next__" = some Builtin.«set_iterator.__next__» := entryFor_of_fast (by kernel_rfl)
theorem args_si_next (a : Value) : argsOk "set_iterator.__next__" ⟨[a], []⟩ := by
  unfold argsOk; rw [signature?_of (id := "set_iterator.__next__") (n := ['_', '_', 't', 'x', 'e', 'n', '_', '_']) (o := ['r', 'o', 't', 'a', 'r', 'e', 't', 'i', '_', 't', 'e', 's']) (by kernel_rfl) owner_set_iterator]; kernel_rfl
theorem slot_si_iter : Slot "set_iterator" "__iter__" "set_iterator.__iter__" :=
  .of (owner := "set_iterator") (n := "__iter__") (by rw [typeLookup_type, builtinLookup_eq_fast]; kernel_rfl) (by decide +kernel) (by decide +kernel) (by decide +kernel)
    (by first | exact .inl (by decide +kernel) | exact .inr (by decide +kernel)) (by rw [isSubtype_type]; kernel_rfl)
theorem entry_si_iter : entryFor table "set_iterator.__iter__" = some Builtin.«dict_keyiterator.__iter__» :=
  entryFor_alias (id' := "dict_keyiterator.__iter__") (by kernel_rfl) rfl (by decide +kernel) (by kernel_rfl)
theorem args_si_iter (a : Value) : argsOk "set_iterator.__iter__" ⟨[a], []⟩ := by
  unfold argsOk; rw [signature?_of (id := "set_iterator.__iter__") (n := ['_', '_', 'r', 'e', 't', 'i', '_', '_']) (o := ['r', 'o', 't', 'a', 'r', 'e', 't', 'i', '_', 't', 'e', 's']) (by kernel_rfl) owner_set_iterator]; kernel_rfl
theorem entry_set_iter : entryFor table "set.__iter__" = some Builtin.«frozenset.__iter__» :=
  entryFor_alias (id' := "frozenset.__iter__") (by kernel_rfl) rfl (by decide +kernel) (by kernel_rfl)
def IsSetIter (h : Heap) (it : Addr) (f : Value) (i : Nat) (a : Addr) (n ep : Nat) : Prop :=
  ∃ o, h.get? it = some o ∧ o.cls = .type "set_iterator" ∧ o.data = .fields #[f, .int i 0, .ref a, .int n 0, .int ep 0]
section
variable {prog : Program} {w : World} {A : Around} {E : Value → Shared → Prop} {s : Shared}
theorem IsSetIter.typeIs {it : Addr} {f : Value} {i : Nat} {a : Addr} {n ep : Nat} (h : IsSetIter s.heap it f i a n ep) : s.TypeIs (.ref it) "set_iterator" := ⟨h.choose, h.choose_spec.1, h.choose_spec.2.1⟩
theorem si_self {it : Addr} {f : Value} {i : Nat} {a : Addr} {n ep : Nat} {Q : Value → Shared → Prop} (hit : IsSetIter s.heap it f i a n ep) (h : Q (.ref it) s) : wpAny (model prog w) A (pyIter (.ref it)) Q E s := by
  refine wpAny_pyIter_slot hit.typeIs slot_si_iter (wpAny_call_entry slot_si_iter hit.typeIs entry_si_iter ?_ (args_si_iter _))
  show wpAny _ _ (ret (.ref it)) _ _ s
  exact wpAny_pure ⟨_, rfl, "set_iterator", _, hit.typeIs, slot_si_next.lookup, h⟩
/-- one more, the table walked by the iterator's slot -/
theorem si_next {it a : Addr} {slot i n ep nx : Nat} {o : Obj} {es : Array (Int × Value)} {t : SetTable} {x : Value} {Q : Option Value → Shared → Prop}
    (hit : IsSetIter s.heap it (.int slot 0) i a n ep) (ho : s.heap.get? a = some o) (hd : o.data = .set es ep t) (hf : t.fits es.size = true) (hn : es.size = n)
    (hnext : ∀ {Q' : Option (Value × Nat) → Shared → Prop} {E' : Value → Shared → Prop}, Q' (some (x, nx)) s → wpAny (model prog w) A.in1 (setNext a slot i ep) Q' E' s)
    (hQ : ∀ h', IsSetIter h' it (.int nx 0) (i + 1) a n ep → Heap.SameBut it s.heap h' → Q (some x) { s with heap := h' }) :
    wpAny (model prog w) A (pyNext (.ref it)) Q E s := by
  obtain ⟨oi, hoi, hc, hdi⟩ := id hit
  unfold pyNext
  refine wpAny_bind (wpAny_attempt (wpAny_callSpecial?_slot (name := Str.ofString "__next__") hit.typeIs slot_si_next
    (wpAny_call_entry slot_si_next hit.typeIs entry_si_next ?_ (args_si_next _))))
  unfold Builtin.«set_iterator.__next__»
  refine wpAny_bind (wpAny_pure ?_)
  refine wpAny_bind (wpAny_fieldsOf hoi hdi ?_)
  show wpAny _ _ (setEntries a >>= _) _ _ _
  refine wpAny_bind (wpAny_setEntries_of ho hd hf ?_)
  rw [if_neg (by rw [hn]; simp)]
  show wpAny _ _ (setNext a (slot : Int).toNat (i : Int).toNat (ep : Int).toNat >>= _) _ _ _
  simp only [Int.toNat_natCast]
  refine wpAny_bind (hnext ?_)
  show wpAny _ _ (setField (.ref it) 0 (rawInt nx) >>= _) _ _ _
  refine wpAny_bind (wpAny_setField hoi hdi (by simp) ?_)
  have h1 : IsSetIter (s.heap.update it (Obj.mapFields (·.setIfInBounds 0 (rawInt nx)))) it (.int nx 0) i a n ep :=
    ⟨_, Heap.get?_update_self _ hoi (Obj.isFreed_of_fields (Obj.data_mapFields hdi _)), (Obj.cls_mapFields ..).trans hc, by rw [Obj.data_mapFields hdi]; simp [rawInt]⟩
  obtain ⟨o1, ho1, hc1, hd1⟩ := id h1
  show wpAny _ _ (setField (.ref it) 1 (rawInt ((i : Int) + 1)) >>= _) _ _ _
  refine wpAny_bind (wpAny_setField ho1 hd1 (by simp) ?_)
  refine wpAny_pure ⟨_, rfl, wpAny_pure (hQ _ ?_ ((Heap.SameBut.update ..).trans (Heap.SameBut.update ..)))⟩
  exact ⟨_, Heap.get?_update_self _ ho1 (Obj.isFreed_of_fields (Obj.data_mapFields hd1 _)), (Obj.cls_mapFields ..).trans hc1, by rw [Obj.data_mapFields hd1]; simp [rawInt]⟩
/-- the end -/
theorem si_end {it a : Addr} {slot i n ep : Nat} {o : Obj} {es : Array (Int × Value)} {t : SetTable} {Q : Option Value → Shared → Prop} (hh : A.handled = none)
    (hit : IsSetIter s.heap it (.int slot 0) i a n ep) (ho : s.heap.get? a = some o) (hd : o.data = .set es ep t) (hf : t.fits es.size = true) (hn : es.size = n)
    (hnext : ∀ {Q' : Option (Value × Nat) → Shared → Prop} {E' : Value → Shared → Prop}, Q' none s → wpAny (model prog w) A.in1 (setNext a slot i ep) Q' E' s)
    (hQ : ∀ h', Heap.ExtBut it s.heap h' → Q none { s with heap := h' }) :
    wpAny (model prog w) A (pyNext (.ref it)) Q E s := by
  obtain ⟨oi, hoi, hc, hdi⟩ := id hit
  unfold pyNext
  refine wpAny_bind (wpAny_attempt (wpAny_callSpecial?_slot (name := Str.ofString "__next__") hit.typeIs slot_si_next
    (wpAny_call_entry slot_si_next hit.typeIs entry_si_next ?_ (args_si_next _))))
  unfold Builtin.«set_iterator.__next__»
  refine wpAny_bind (wpAny_pure ?_)
  refine wpAny_bind (wpAny_fieldsOf hoi hdi ?_)
  show wpAny _ _ (setEntries a >>= _) _ _ _
  refine wpAny_bind (wpAny_setEntries_of ho hd hf ?_)
  rw [if_neg (by rw [hn]; simp)]
  show wpAny _ _ (setNext a (slot : Int).toNat (i : Int).toNat (ep : Int).toNat >>= _) _ _ _
  simp only [Int.toNat_natCast]
  refine wpAny_bind (hnext ?_)
  show wpAny _ _ (setField (.ref it) 2 .none >>= _) _ _ _
  refine wpAny_bind (wpAny_setField hoi hdi (by simp) ?_)
  show wpAny _ _ (newExc (.type "StopIteration") [] >>= _) _ _ _
  refine wpAny_bind ?_
  simp only [newExc, newTuple]
  refine wpAny_bind (wpAny_newObj_type ?_ (by size_fits))
  refine wpAny_bind (m := firstArgMember _ _) (wpAny_of_eq (a := Value.none) (by first | rfl | (simp only [firstArgMember]; rfl)) ?_)
  refine wpAny_newObj_type ?_ (by size_fits)
  simp only [raiseNew]
  refine wpAny_bind (wpAny_handled ?_)
  rw [show A.in1.handled = none from hh]
  refine wpAny_bind (wpAny_pure (wpAny_throw ?_))
  refine wpAny_bind (wpAny_isInstance (T := "StopIteration") (b := true) ⟨_, Heap.get?_push_size _ rfl, rfl⟩ isSubtype_stop ?_)
  exact wpAny_pure (hQ _ (((Heap.SameBut.update ..).extBut.push _).push _))
/-- one more, the places drawn -/
theorem sd_next {it a T : Addr} {i n ep : Nat} {o oT : Obj} {es : Array (Int × Value)} {t : SetTable} {ps : Array Value} {m : Nat} {k : Nat} {e : Int × Value} {Q : Option Value → Shared → Prop}
    (hit : IsSetIter s.heap it (.ref T) i a n ep) (ho : s.heap.get? a = some o) (hd : o.data = .set es ep t) (hf : t.fits es.size = true) (hn : es.size = n)
    (hT : s.heap.get? T = some oT) (hTd : oT.data = .seq ps m) (hp : ps[i]? = some (rawInt k)) (hk : es[k]? = some e)
    (hQ : ∀ h', IsSetIter h' it (.ref T) (i + 1) a n ep → Heap.SameBut it s.heap h' → Q (some e.2) { s with heap := h' }) :
    wpAny (model prog w) A (pyNext (.ref it)) Q E s := by
  obtain ⟨oi, hoi, hc, hdi⟩ := id hit
  unfold pyNext
  refine wpAny_bind (wpAny_attempt (wpAny_callSpecial?_slot (name := Str.ofString "__next__") hit.typeIs slot_si_next
    (wpAny_call_entry slot_si_next hit.typeIs entry_si_next ?_ (args_si_next _))))
  unfold Builtin.«set_iterator.__next__»
  refine wpAny_bind (wpAny_pure ?_)
  refine wpAny_bind (wpAny_fieldsOf hoi hdi ?_)
  show wpAny _ _ (setEntries a >>= _) _ _ _
  refine wpAny_bind (wpAny_setEntries_of ho hd hf ?_)
  rw [if_neg (by rw [hn]; simp)]
  show wpAny _ _ (seqItems? (.ref T) >>= _) _ _ _
  refine wpAny_bind (wpAny_seqItems hT hTd ?_)
  show wpAny _ _ (match ps[(i : Int).toNat]? with | some (Value.int place tok) => _ | some val => _ | none => _) _ _ _
  rw [Int.toNat_natCast, hp]
  show wpAny _ _ (setNextDrawn a (k : Int).toNat (ep : Int).toNat >>= _) _ _ _
  simp only [Int.toNat_natCast]
  unfold setNextDrawn
  refine wpAny_bind (wpAny_bind (wpAny_setState_of ho hd hf ?_))
  dsimp only
  rw [if_neg (by simp), hk]
  refine wpAny_pure ?_
  show wpAny _ _ (setField (.ref it) 1 (rawInt ((i : Int) + 1)) >>= _) _ _ _
  refine wpAny_bind (wpAny_setField hoi hdi (by simp) ?_)
  refine wpAny_pure ⟨_, rfl, wpAny_pure (hQ _ ?_ (Heap.SameBut.update ..))⟩
  exact ⟨_, Heap.get?_update_self _ hoi (Obj.isFreed_of_fields (Obj.data_mapFields hdi _)), (Obj.cls_mapFields ..).trans hc, by rw [Obj.data_mapFields hdi]; simp [rawInt]⟩
theorem sd_end {it a T : Addr} {i n ep : Nat} {o oT : Obj} {es : Array (Int × Value)} {t : SetTable} {ps : Array Value} {m : Nat} {Q : Option Value → Shared → Prop} (hh : A.handled = none)
    (hit : IsSetIter s.heap it (.ref T) i a n ep) (ho : s.heap.get? a = some o) (hd : o.data = .set es ep t) (hf : t.fits es.size = true) (hn : es.size = n)
    (hT : s.heap.get? T = some oT) (hTd : oT.data = .seq ps m) (hp : ps[i]? = none)
    (hQ : ∀ h', Heap.ExtBut it s.heap h' → Q none { s with heap := h' }) :
    wpAny (model prog w) A (pyNext (.ref it)) Q E s := by
  obtain ⟨oi, hoi, hc, hdi⟩ := id hit
  unfold pyNext
  refine wpAny_bind (wpAny_attempt (wpAny_callSpecial?_slot (name := Str.ofString "__next__") hit.typeIs slot_si_next
    (wpAny_call_entry slot_si_next hit.typeIs entry_si_next ?_ (args_si_next _))))
  unfold Builtin.«set_iterator.__next__»
  refine wpAny_bind (wpAny_pure ?_)
  refine wpAny_bind (wpAny_fieldsOf hoi hdi ?_)
  show wpAny _ _ (setEntries a >>= _) _ _ _
  refine wpAny_bind (wpAny_setEntries_of ho hd hf ?_)
  rw [if_neg (by rw [hn]; simp)]
  show wpAny _ _ (seqItems? (.ref T) >>= _) _ _ _
  refine wpAny_bind (wpAny_seqItems hT hTd ?_)
  show wpAny _ _ (match ps[(i : Int).toNat]? with | some (Value.int place tok) => _ | some val => _ | none => _) _ _ _
  rw [Int.toNat_natCast, hp]
  show wpAny _ _ (setField (.ref it) 0 (rawInt 0) >>= _) _ _ _
  refine wpAny_bind (wpAny_setField hoi hdi (by simp) ?_)
  have h1 : IsSetIter (s.heap.update it (Obj.mapFields (·.setIfInBounds 0 (rawInt 0)))) it (.int 0 0) i a n ep :=
    ⟨_, Heap.get?_update_self _ hoi (Obj.isFreed_of_fields (Obj.data_mapFields hdi _)), (Obj.cls_mapFields ..).trans hc, by rw [Obj.data_mapFields hdi]; simp [rawInt]⟩
  obtain ⟨o1, ho1, hc1, hd1⟩ := id h1
  show wpAny _ _ (setField (.ref it) 2 .none >>= _) _ _ _
  refine wpAny_bind (wpAny_setField ho1 hd1 (by simp) ?_)
  show wpAny _ _ (newExc (.type "StopIteration") [] >>= _) _ _ _
  refine wpAny_bind ?_
  simp only [newExc, newTuple]
  refine wpAny_bind (wpAny_newObj_type ?_ (by size_fits))
  refine wpAny_bind (m := firstArgMember _ _) (wpAny_of_eq (a := Value.none) (by first | rfl | (simp only [firstArgMember]; rfl)) ?_)
  refine wpAny_newObj_type ?_ (by size_fits)
  simp only [raiseNew]
  refine wpAny_bind (wpAny_handled ?_)
  rw [show A.in1.handled = none from hh]
  refine wpAny_bind (wpAny_pure (wpAny_throw ?_))
  refine wpAny_bind (wpAny_isInstance (T := "StopIteration") (b := true) ⟨_, Heap.get?_push_size _ rfl, rfl⟩ isSubtype_stop ?_)
  exact wpAny_pure (hQ _ ((((Heap.SameBut.update ..).trans (Heap.SameBut.update ..)).extBut.push _).push _))
end
end Mine
end
section
open PySem PySem.W PySem.Calls PyProof.Rows PySem.Spec
set_option maxRecDepth 100000
set_option linter.unusedVariables false
namespace Mine
section
variable {prog : Program} {w : World} {A : Around} {E : Value → Shared → Prop} {s : Shared}
/-- the next element, a run with a text of its sets' orders -/
theorem next_text {a : Addr} {slot i ep : Nat} {o : Obj} {es : Array (Int × Value)} {t : SetTable} {Q : Option (Value × Nat) → Shared → Prop} (hb : w.params.followText "set-order" = true)
    (ho : s.heap.get? a = some o) (hd : o.data = .set es ep t) (hf : t.fits es.size = true)
    (hQ : Q (((pickOrder (w.params.setOrder a ep) es)[i]?).map fun e => (e.2, slot)) s) : wpAny (model prog w) A (setNext a slot i ep) Q E s := by
  unfold setNext setsByText
  refine wpAny_bind (wpAny_setState_of ho hd hf ?_)
  refine wpAny_bind (wpAny_bind (wpAny_askSetting (wpAny_pure ?_)))
  rw [if_pos (show (⟨(model prog w).prog, (model prog w).w.params⟩ : Setting).params.followText "set-order" = true from hb)]
  rw [if_neg (by simp)]
  unfold setWalk setsByText
  refine wpAny_bind (wpAny_bind (wpAny_setState_of ho hd hf ?_))
  refine wpAny_bind (wpAny_bind (wpAny_askSetting (wpAny_pure ?_)))
  rw [if_pos (show (⟨(model prog w).prog, (model prog w).w.params⟩ : Setting).params.followText "set-order" = true from hb)]
  refine wpAny_bind (wpAny_askSetting ?_)
  exact wpAny_pure (wpAny_pure hQ)
theorem next_place {a : Addr} {slot i ep : Nat} {o : Obj} {es : Array (Int × Value)} {t : SetTable} {Q : Option (Value × Nat) → Shared → Prop} (hb : w.params.followText "set-order" = false)
    (ho : s.heap.get? a = some o) (hd : o.data = .set es ep t) (hf : t.fits es.size = true) (hl : t.led = true) (hpl : t.plain = true ∨ es.size ≤ 1)
    (hQ : Q (match es[SetTable.below t.place slot]?, t.place[SetTable.below t.place slot]? with | some (_, x), some j => some (x, j + 1) | _, _ => none) s) : wpAny (model prog w) A (setNext a slot i ep) Q E s := by
  unfold setNext setsByText
  refine wpAny_bind (wpAny_setState_of ho hd hf ?_)
  refine wpAny_bind (wpAny_bind (wpAny_askSetting (wpAny_pure ?_)))
  rw [if_neg (show ¬ (⟨(model prog w).prog, (model prog w).w.params⟩ : Setting).params.followText "set-order" = true from fun e => Bool.noConfusion (hb.symm.trans e))]
  have e1 : (!t.plain && decide (es.size > 1)) = false := by
    rcases hpl with e | e
    · rw [e]; rfl
    · have : ¬ es.size > 1 := Nat.not_lt.mpr e
      rw [decide_eq_false this, Bool.and_false]
  split
  · rename_i h
    exact absurd (e1.symm.trans h) Bool.noConfusion
  · refine wpAny_bind ?_
    show wpAny _ _ (if (!t.led && !es.isEmpty) = true then _ else _) _ _ _
    rw [if_neg (by rw [hl]; simp)]
    exact wpAny_pure (wpAny_pure hQ)
/-- an iterator on a set is laid, the order open -/
theorem set_iter {a : Addr} {o : Obj} {es : Array (Int × Value)} {ep : Nat} {t : SetTable} {Q : Value → Shared → Prop} (hc : o.cls = .type "set")
    (ho : s.heap.get? a = some o) (hd : o.data = .set es ep t) (hf : t.fits es.size = true) (hsz : es.size ≤ sizeLine)
    (h0 : (w.params.followText "set-order" = true ∨ t.plain = true ∨ es.size ≤ 1) →
      Q (.ref s.heap.objs.size) { s with heap := s.heap.push { cls := .type "set_iterator", data := .fields #[.int 0 0, .int 0 0, .ref a, .int es.size 0, .int ep 0] } })
    (h1 : w.params.followText "set-order" = false → ∀ (ys : List Nat) d, ys.Perm (List.range es.size) →
      Q (.ref (s.heap.objs.size + 1)) { s with heap := (s.heap.push { cls := .type "tuple", data := .seq (ys.map fun (i : Nat) => rawInt i).toArray }).push { cls := .type "set_iterator", data := .fields #[.ref s.heap.objs.size, .int 0 0, .ref a, .int es.size 0, .int ep 0] }, drawn := d }) :
    wpAny (model prog w) A (pyIter (.ref a)) Q E s := by
  have hT : s.TypeIs (.ref a) "set" := ⟨_, ho, hc⟩
  refine wpAny_pyIter_slot hT F.slot_set_iter (wpAny_call_entry F.slot_set_iter hT entry_set_iter ?_ (F.args_set_iter_1 _))
  unfold Builtin.«frozenset.__iter__»
  refine wpAny_bind (m := Builtin.Frozenset.slot0 "__iter__" _) (wpAny_pure ?_)
  unfold Builtin.Frozenset.sizeOf
  refine wpAny_bind (wpAny_bind (wpAny_setEntries_of ho hd hf (wpAny_pure ?_)))
  unfold setDrawn setsByText
  refine wpAny_bind (wpAny_bind (wpAny_setState_of ho hd hf (wpAny_bind (wpAny_bind (wpAny_askSetting (wpAny_pure (wpAny_pure ?_)))))))
  have last : ∀ (f : Value) (s' : Shared) (Q' : PySem.Fin → Shared → Prop) (E' : Value → Shared → Prop), s'.heap.get? a = some o →
      Q' (.done (.ret (.ref s'.heap.objs.size))) { s' with heap := s'.heap.push { cls := .type "set_iterator", data := .fields #[f, .int 0 0, .ref a, .int es.size 0, .int ep 0] } } →
      wpAny (model prog w) A.in1 (do
        let e ← setEpoch a
        let r ← newFields "set_iterator" [f, rawInt 0, Value.ref a, rawInt (es.size : Int), rawInt (e : Int)]
        ret r) Q' E' s' := by
    intro f s' Q' E' ho' hQ
    unfold setEpoch
    refine wpAny_bind (wpAny_bind (wpAny_setState_of ho' hd hf (wpAny_pure ?_)))
    unfold newFields
    exact wpAny_bind (wpAny_newObj_type (wpAny_pure hQ))
  have e0 : (!(⟨(model prog w).prog, (model prog w).w.params⟩ : Setting).params.followText "set-order" && (!t.plain && decide (es.size > 1))) = (!w.params.followText "set-order" && (!t.plain && decide (es.size > 1))) := rfl
  dsimp only
  split
  · rename_i hq
    have hq' := e0.symm.trans hq
    have hb : w.params.followText "set-order" = false := by
      cases hz : w.params.followText "set-order" with
      | false => rfl
      | true => rw [hz] at hq'; cases hq'
    refine wpAny_bind (draw_order es.size (List.range es.size) _ List.length_range fun ys d hp => ?_)
    unfold newTuple
    have hl : (ys.map fun (i : Nat) => rawInt i).length ≤ sizeLine := by rw [List.length_map, hp.length_eq, List.length_range]; exact hsz
    refine wpAny_bind (wpAny_newObj_type ?_ (by show List.length _ ≤ _; exact hl))
    refine last _ _ _ _ (Heap.get?_push_of_some _ ho) ?_
    refine ⟨_, rfl, "set_iterator", _, ⟨_, Heap.get?_push_size _ rfl, rfl⟩, slot_si_next.lookup, ?_⟩
    have := h1 hb ys d hp
    rw [← Heap.size_push] at this
    exact this
  · rename_i hq
    have hq' : ¬ (!w.params.followText "set-order" && (!t.plain && decide (es.size > 1))) = true := fun h => hq (e0.trans h)
    refine wpAny_bind (wpAny_pure (last _ _ _ _ ho ?_))
    refine ⟨_, rfl, "set_iterator", _, ⟨_, Heap.get?_push_size _ rfl, rfl⟩, slot_si_next.lookup, h0 ?_⟩
    cases h1 : w.params.followText "set-order" with
    | true => exact .inl rfl
    | false =>
      cases h2 : t.plain with
      | true => exact .inr (.inl rfl)
      | false =>
        rw [h1, h2] at hq'
        simp at hq'
        exact .inr (.inr hq')
end
end Mine
end
section
open PySem PySem.W PySem.Calls PyProof.Rows PySem.Spec
set_option maxRecDepth 100000
set_option linter.unusedVariables false
namespace Mine
def GivenBy (vals : List (Int × Value)) (i : Nat) (v : Value) : Prop := ∃ e, vals[i]? = some e ∧ v = e.2
theorem items_given {vals : List (Int × Value)} {acc : Array Value} (h : ItemsOf (GivenBy vals) acc vals.length) : acc.toList = vals.map (·.2) := by
  refine List.ext_getElem? fun j => ?_
  rw [Array.getElem?_toList, List.getElem?_map]
  cases hj : acc[j]? with
  | some v =>
    obtain ⟨e, he, rfl⟩ := h.2 j v hj
    rw [he]; rfl
  | none =>
    have : acc.size ≤ j := by simpa using hj
    rw [h.1] at this
    rw [List.getElem?_eq_none this]; rfl
theorem IsSetIter.at {h h' : Heap} {it : Addr} {f : Value} {i : Nat} {a : Addr} {n ep : Nat} (x : IsSetIter h it f i a n ep) (e : ∀ o, h.get? it = some o → h'.get? it = some o) : IsSetIter h' it f i a n ep :=
  let ⟨o, ho, r⟩ := x; ⟨o, e _ ho, r⟩
section
variable {prog : Program} {w : World} {A : Around} {E : Value → Shared → Prop} {s : Shared}
theorem ints_of : ∀ (l : List (Int × Value)), ElemsOf (intKind prog w) l → ∃ ns, IntsAre (l.map (·.2)) ns ∧ ∀ k, k ∈ ns ↔ ∃ e ∈ l, (intKind prog w).is k e.2 = true
  | [], _ => ⟨[], .nil, fun k => by simp⟩
  | e :: l, h => by
    obtain ⟨ns, h1, h2⟩ := ints_of l fun e' he' => h e' (List.mem_cons_of_mem _ he')
    obtain ⟨⟨k, hk, _⟩, _⟩ := h e List.mem_cons_self
    obtain ⟨t, ht⟩ := Value.isInt_shape hk
    refine ⟨k :: ns, ?_, fun k' => ?_⟩
    · rw [List.map_cons, ht]
      exact .cons k t h1
    · rw [List.mem_cons, h2 k']
      constructor
      · rintro (rfl | ⟨e', he', q⟩)
        · exact ⟨e, List.mem_cons_self, hk⟩
        · exact ⟨e', List.mem_cons_of_mem _ he', q⟩
      · rintro ⟨e', he', q⟩
        rcases List.mem_cons.mp he' with rfl | he'
        · exact .inl ((intKind prog w).inj _ _ _ q hk)
        · exact .inr ⟨e', he', q⟩
theorem walks_slot (hh : A.handled = none) {I a : Addr} (hne : a ≠ I) {o : Obj} {es : Array (Int × Value)} {ep : Nat} {t : SetTable} (hd : o.data = .set es ep t) (hf : t.fits es.size = true)
    {vals : List (Int × Value)} (hl : es.size = vals.length) {sl : Nat → Nat}
    (hn : ∀ i e (s : Shared) (Q' : Option (Value × Nat) → Shared → Prop) (E' : Value → Shared → Prop), vals[i]? = some e → s.heap.get? a = some o → Q' (some (e.2, sl (i + 1))) s → wpAny (model prog w) A.in1 (setNext a (sl i) i ep) Q' E' s)
    (hz : ∀ (s : Shared) (Q' : Option (Value × Nat) → Shared → Prop) (E' : Value → Shared → Prop), s.heap.get? a = some o → Q' none s → wpAny (model prog w) A.in1 (setNext a (sl vals.length) vals.length ep) Q' E' s) :
    Walks prog w A I [I, a] [I] vals.length (GivenBy vals) (fun i h => IsSetIter h I (.int (sl i) 0) i a vals.length ep ∧ h.get? a = some o) where
  sub := fun b hb => by simp at hb; simp [hb]
  frame := fun _ _ _ st hk => ⟨st.1.at fun o e => hk I (by simp) o e, hk a (by simp) _ st.2⟩
  item := fun i s Q E hi st hQ => by
    obtain ⟨e, he⟩ : ∃ p, vals[i]? = some p := ⟨vals[i], by simp [hi]⟩
    refine si_next st.1 st.2 hd hf hl (fun q => hn i e s _ _ he st.2 q) fun h' h1 h2 => ?_
    exact hQ e.2 h' s.toks ⟨e, he, rfl⟩ ⟨h1, (h2.2 a hne).trans st.2⟩ fun b o hb e => (h2.2 b (fun h => hb (by simp [h]))).trans e
  done := fun s Q E st hQ => si_end hh st.1 st.2 hd hf hl (fun q => hz s _ _ st.2 q) fun h' he' => hQ h' s.toks fun b o hb e => he' b o (fun h => hb (by simp [h])) e
  self := fun _ _ _ _ st hQ => si_self st.1 hQ
theorem walks_drawn (hh : A.handled = none) {I a T : Addr} (hne : a ≠ I) (hne2 : T ≠ I) {o oT : Obj} {es : Array (Int × Value)} {ep : Nat} {t : SetTable} (hd : o.data = .set es ep t) (hf : t.fits es.size = true)
    {ys : List Nat} (hp : ys.Perm (List.range es.size)) {m : Nat} (hTd : oT.data = .seq (ys.map fun (i : Nat) => rawInt i).toArray m)
    {vals : List (Int × Value)} (hl : es.size = vals.length) (hv : ∀ (i k : Nat), ys[i]? = some k → ∃ e, es[k]? = some e ∧ vals[i]? = some e) :
    Walks prog w A I [I, a, T] [I] vals.length (GivenBy vals) (fun i h => IsSetIter h I (.ref T) i a vals.length ep ∧ h.get? a = some o ∧ h.get? T = some oT) where
  sub := fun b hb => by simp at hb; simp [hb]
  frame := fun _ _ _ st hk => ⟨st.1.at fun o e => hk I (by simp) o e, hk a (by simp) _ st.2.1, hk T (by simp) _ st.2.2⟩
  item := fun i s Q E hi st hQ => by
    have hyl : ys.length = vals.length := by rw [hp.length_eq, List.length_range, hl]
    obtain ⟨k, hk⟩ : ∃ p, ys[i]? = some p := ⟨ys[i], by simp [hyl, hi]⟩
    obtain ⟨e, he, hve⟩ := hv i k hk
    refine sd_next (k := k) (e := e) st.1 st.2.1 hd hf hl st.2.2 hTd (by simp [hk]) he fun h' h1 h2 => ?_
    exact hQ e.2 h' s.toks ⟨e, hve, rfl⟩ ⟨h1, (h2.2 a hne).trans st.2.1, (h2.2 T hne2).trans st.2.2⟩ fun b o hb e => (h2.2 b (fun h => hb (by simp [h]))).trans e
  done := fun s Q E st hQ => by
    have hyl : ys.length = vals.length := by rw [hp.length_eq, List.length_range, hl]
    exact sd_end hh st.1 st.2.1 hd hf hl st.2.2 hTd (by simp [hyl]) fun h' he' => hQ h' s.toks fun b o hb e => he' b o (fun h => hb (by simp [h])) e
  self := fun _ _ _ _ st hQ => si_self st.1 hQ
/-- the places' slots -/
def slotAt (place : Array Nat) : Nat → Nat
  | 0 => 0
  | i + 1 => place.getD i 0 + 1
theorem below_slot {place : Array Nat} (h : Rising place) {i : Nat} (hi : i ≤ place.size) : SetTable.below place (slotAt place i) = i := by
  refine below_at hi (fun k hk => ?_) fun k hk hs => ?_
  · cases i with
    | zero => omega
    | succ j =>
      show _ < place.getD j 0 + 1
      rcases Nat.lt_or_ge k j with q | q
      · have := rising_get h q (by omega) (slotAt place (j + 1)) 0
        omega
      · have e : k = j := by omega
        subst e
        have : place.getD k (slotAt place (k + 1)) = place.getD k 0 := by simp [Array.getD, (by omega : k < place.size)]
        omega
  · cases i with
    | zero => exact Nat.zero_le _
    | succ j =>
      show place.getD j 0 + 1 ≤ _
      exact rising_get h (by omega) hs 0 _
end
end Mine
end
section
open PySem PySem.W PySem.Calls PyProof.Rows PySem.Spec
set_option maxRecDepth 100000
set_option linter.unusedVariables false
namespace Mine
section
variable {prog : Program} {w : World} {A : Around} {E : Value → Shared → Prop} {s : Shared}
theorem if_true_any {M : Model} {α : Type} {c : Prop} [Decidable c] {t e : Sem α} {Q : α → Shared → Prop} (hc : c) (h : wpAny M A t Q E s) : wpAny M A (if c then t else e) Q E s := by
  rw [if_pos hc]; exact h
theorem hint_set {a : Addr} {Q : Bool → Shared → Prop} (hT : s.TypeIs (.ref a) "set") (h : Q false s) : wpAny (model prog w) A (Builtin.List.listLengthHint (.ref a)) Q E s := by
  unfold Builtin.List.listLengthHint
  refine wpAny_bind (wpAny_specialOf hT F.slot_set_len.lookup ?_)
  generalize hid : ("set.__len__" : String) = id0
  dsimp only
  rw [show splitId id0 = some ("set", "__len__") from by subst hid; decide +kernel]
  dsimp only
  refine wpAny_bind (wpAny_isInstance (b := true) hT (by rw [isSubtype_type]; kernel_rfl) ?_)
  subst hid
  rw [if_neg (by decide)]
  refine if_true_any (by decide +kernel) (wpAny_bind (wpAny_typeOf hT ?_))
  exact wpAny_pure h
theorem loop_set {S I : Addr} {s1 : Shared} {fp : List Addr} {vals : List (Int × Value)} {St : Nat → Heap → Prop} {R : Result → Shared → Prop} {c : Nat} (hSx : s1.heap.get? S = some (seqObj "list" #[] c))
    (W : Walks prog w A.in1 I fp [I] vals.length (GivenBy vals) St) (hst : St 0 s1.heap) (hSf : S ∉ fp) (hln : vals.length ≤ sizeLine)
    (h : ∀ s' acc c, (∀ b o, b ≠ S → b ≠ I → s1.heap.get? b = some o → s'.heap.get? b = some o) → s'.gens = s1.gens → s'.os = s1.os → s'.heap.get? S = some (seqObj "list" acc c) → acc.toList = vals.map (·.2) → R (.ok (.ret (.ref S))) s') :
    codeAny (model prog w) A (.builtin "list.extend.loop" ⟨[.ref S, .ref I, .ref S], []⟩) R s1 := by
  refine codeAny_extend_loopS W.toS hln S hSf (.ref S) vals.length 0 _ _ _ rfl (Nat.zero_le _) hst hSx (ItemsOf.nil _) fun s' acc' c' hm hS' hacc => ?_
  refine h s' acc' c' (fun b o h1 h2 e => hm.heap b o (fun hb => ?_) e) hm.gens hm.os hS' (items_given hacc)
  rcases List.mem_cons.mp hb with e | e
  · exact h1 e
  · exact h2 (List.mem_singleton.mp e)
theorem touch_set {S I : Addr} {s1 : Shared} {fp : List Addr} {vals : List (Int × Value)} {St : Nat → Heap → Prop} {R : Result → Shared → Prop} {P : PySem.Fin → Shared → Prop} (hSx : s1.heap.get? S = some (seqObj "list" #[] 0))
    (W : Walks prog w A.in1 I fp [I] vals.length (GivenBy vals) St) (hst : St 0 s1.heap) (hSf : S ∉ fp) (hln : vals.length ≤ sizeLine)
    (hP : ∀ s2, codeAny (model prog w) A (.builtin "list.extend.loop" ⟨[.ref S, .ref I, .ref S], []⟩) R s2 → P (.again (.builtin "list.extend.loop" ⟨[.ref S, .ref I, .ref S], []⟩)) s2)
    (h : ∀ s' acc c, (∀ b o, b ≠ S → b ≠ I → s1.heap.get? b = some o → s'.heap.get? b = some o) → s'.gens = s1.gens → s'.os = s1.os → s'.heap.get? S = some (seqObj "list" acc c) → acc.toList = vals.map (·.2) → R (.ok (.ret (.ref S))) s') :
    wpAny (model prog w) A.in1 (do Builtin.List.listTouch (.ref S); again (.builtin "list.extend.loop" ⟨[.ref S, .ref I, .ref S], []⟩)) P E s1 := by
  have keep : ∀ {g1 g2 : Array Value → Array Value} {b : Addr} {ob : Obj}, b ≠ S → s1.heap.get? b = some ob → ((s1.heap.update S (Obj.mapSeq g1)).update S (Obj.mapSeq g2)).get? b = some ob :=
    fun hb e => by rw [Heap.get?_update_ne _ _ _ _ hb, Heap.get?_update_ne _ _ _ _ hb]; exact e
  have hSy := get?_update_seq hSx (·.push .none)
  have hSz := get?_update_seq hSy (·.pop)
  unfold Builtin.List.listTouch
  refine wpAny_bind (wpAny_bind (listUpdate_at hSx rfl ?_ (Nat.zero_le _) (by decide)))
  refine listUpdate_at hSy rfl ?_ (by decide) (by decide)
  refine wpAny_pure (hP _ (loop_set hSz W (W.frame 0 _ _ hst fun b hb o e => keep (fun hq => hSf (hq ▸ hb)) e) hSf hln fun s' acc c hk hg hos hSl hac => ?_))
  exact h s' acc c (fun b o h1 h2 e => hk b o h1 h2 (keep h1 e)) hg hos hSl hac
theorem walks_any (hh : A.handled = none) {led : Bool} (hled : led = !w.params.followText "set-order") {I a : Addr} (hne : a ≠ I) {o : Obj} {es : Array (Int × Value)} {ep : Nat} {t : SetTable} (hd : o.data = .set es ep t) (hf : t.fits es.size = true) (ht : GT led t)
    (hm : w.params.followText "set-order" = true ∨ t.plain = true ∨ es.size ≤ 1) :
    ∃ (vals : List (Int × Value)) (sl : Nat → Nat), vals.Perm es.toList ∧ sl 0 = 0 ∧ Walks prog w A I [I, a] [I] vals.length (GivenBy vals) (fun i h => IsSetIter h I (.int (sl i) 0) i a vals.length ep ∧ h.get? a = some o) := by
  cases hb : w.params.followText "set-order" with
  | true =>
    have hp := pick_perm (w.params.setOrder a ep) es
    refine ⟨(pickOrder (w.params.setOrder a ep) es).toList, fun _ => 0, hp, rfl, walks_slot hh hne hd hf (by rw [hp.length_eq, Array.length_toList]) (fun i e s Q' E' he ho q => ?_) fun s Q' E' ho q => ?_⟩
    · refine next_text hb ho hd hf ?_
      rw [Array.getElem?_toList] at he
      rw [he]
      exact q
    · refine next_text hb ho hd hf ?_
      rw [← Array.getElem?_toList, List.getElem?_eq_none (Nat.le_refl _)]
      exact q
  | false =>
    have hl : t.led = true := by rw [ht.led, hled, hb]; rfl
    have hpl : t.plain = true ∨ es.size ≤ 1 := by
      rcases hm with e | e
      · rw [hb] at e; cases e
      · exact e
    have hps : t.place.size = es.size := by
      simp only [SetTable.fits, Bool.and_eq_true, beq_iff_eq] at hf
      exact hf.1
    have hr : Rising t.place := by
      rcases hpl with e | e
      · exact ht.inc e
      · unfold Rising
        have : t.place.toList.length ≤ 1 := by rw [Array.length_toList, hps]; exact e
        revert this
        cases t.place.toList with
        | nil => intro _; exact List.Pairwise.nil
        | cons x l => cases l with
          | nil => intro _; exact List.pairwise_singleton _ _
          | cons y l => intro h; simp at h
    refine ⟨es.toList, slotAt t.place, List.Perm.refl _, rfl, walks_slot hh hne hd hf (by rw [Array.length_toList]) (fun i e s Q' E' he ho q => ?_) fun s Q' E' ho q => ?_⟩
    · have hi : i < es.size := by
        rcases Nat.lt_or_ge i es.size with h | h
        · exact h
        · rw [Array.getElem?_toList] at he; simp [Array.getElem?_eq_none h] at he
      refine next_place hb ho hd hf hl hpl ?_
      rw [below_slot hr (by omega)]
      rw [Array.getElem?_toList] at he
      rw [he, Array.getElem?_eq_getElem (by omega : i < t.place.size)]
      have : slotAt t.place (i + 1) = t.place[i]'(by omega) + 1 := by simp [slotAt, Array.getD, (by omega : i < t.place.size)]
      rw [this] at q
      exact q
    · refine next_place hb ho hd hf hl hpl ?_
      rw [below_slot hr (by rw [Array.length_toList]; omega), Array.length_toList, Array.getElem?_eq_none (Nat.le_refl _)]
      exact q
theorem collect_set {a : Addr} {led : Bool} {mem : Int → Prop} {n : Nat} {Q : List Value → Shared → Prop} (hh : A.handled = none) (hled : led = !w.params.followText "set-order")
    (hS : SetG prog w led s.heap a mem n) (hn : n < scanBound)
    (h : ∀ (vs : List Value) (ns : List Int) (s' : Shared), IntsAre vs ns → (∀ k, k ∈ ns ↔ mem k) → ns.length ≤ n → s'.gens = s.gens → s'.os = s.os → (∀ b o, s.heap.get? b = some o → s'.heap.get? b = some o) → Q vs s') :
    wpAny (model prog w) A (collect (.ref a)) Q E s := by
  obtain ⟨o, es, ep, t, ho, hex, hd, hel, hmem, hz, hf, ht⟩ := hS
  have hline : es.size ≤ sizeLine := fits_of_scanBound (by omega)
  have halt : a < s.heap.objs.size := Heap.lt_size ho
  -- what any order of the elements gives
  have fin : ∀ (vals : List (Int × Value)), vals.Perm es.toList → ∃ ns, IntsAre (vals.map (·.2)) ns ∧ (∀ k, k ∈ ns ↔ mem k) ∧ ns.length ≤ n := by
    intro vals hp
    obtain ⟨ns, h1, h2⟩ := ints_of vals (fun e he => hel e (hp.mem_iff.mp he) : ElemsOf (intKind prog w) vals)
    refine ⟨ns, h1, fun k => ?_, ?_⟩
    · rw [h2 k, hmem k]
      exact ⟨fun ⟨e, he, q⟩ => ⟨e, hp.mem_iff.mp he, q⟩, fun ⟨e, he, q⟩ => ⟨e, hp.mem_iff.mpr he, q⟩⟩
    · have e1 := IntsAre.length h1
      rw [List.length_map, hp.length_eq, Array.length_toList] at e1
      omega
  unfold collect
  refine wpAny_bind (wpAny_runValue (codeAny_builtin F.entry_proto_collect ?_))
  rw [Around.under_plainId F.plain_proto_collect _]
  show wpAny _ A.in1 (newList [] >>= fun l => again (.builtin "list.__iadd__" ⟨[l, .ref a], []⟩)) _ _ s
  refine wpAny_bind (wpAny_newObj_type ?_)
  refine wpAny_pure ⟨plainId_quiet F.plain_list_iadd _, codeAny_builtin F.entry_list_iadd ?_⟩
  rw [Around.under_plainId F.plain_list_iadd _]
  have hS₁ : (s.heap.push (seqObj "list" #[] 0)).get? s.heap.objs.size = some (seqObj "list" #[] 0) := Heap.get?_push_size _ rfl
  have ho1 : (s.heap.push (seqObj "list" #[] 0)).get? a = some o := Heap.get?_push_of_some _ ho
  have hne : a ≠ s.heap.objs.size := Nat.ne_of_lt halt
  have h1 : Builtin.List.listSameRef (.ref s.heap.objs.size) (.ref a) = false := by simp [Builtin.List.listSameRef, Ne.symm hne]
  show wpAny _ A.in1 (Builtin.List.listExtendWith (.ref s.heap.objs.size) (.ref a) (.ref s.heap.objs.size)) _ _ { s with heap := s.heap.push (seqObj "list" #[] 0) }
  unfold Builtin.List.listExtendWith
  have hT : Shared.TypeIs { s with heap := s.heap.push (seqObj "list" #[] 0) } (.ref a) "set" := ⟨o, ho1, hex.1⟩
  refine wpAny_bind (wpAny_typeOf hT ?_)
  rw [if_neg (by rw [h1]; decide)]
  have last : ∀ (vals : List (Int × Value)) (I : Addr) (s1 s' : Shared) (acc : Array Value) (c : Nat), vals.Perm es.toList → (∀ b o, s.heap.get? b = some o → s1.heap.get? b = some o) → s1.gens = s.gens → s1.os = s.os → s.heap.objs.size < I →
      (∀ b o, b ≠ s.heap.objs.size → b ≠ I → s1.heap.get? b = some o → s'.heap.get? b = some o) → s'.gens = s1.gens → s'.os = s1.os → s'.heap.get? s.heap.objs.size = some (seqObj "list" acc c) → acc.toList = vals.map (·.2) →
      wpAny (model prog w) A (do
        let o ← load s.heap.objs.size
        match o.data with
        | .seq xs _ => pure xs.toList
        | _ => unsupported "internal:collect") Q E s' := by
    intro vals I s1 s' acc c hp k1 g1 o1 hI hk hg hos hSl hac
    obtain ⟨ns, f1, f2, f3⟩ := fin vals hp
    refine wpAny_bind (wpAny_load hSl ?_)
    show wpAny _ _ (pure acc.toList) _ _ _
    rw [hac]
    refine wpAny_pure (h _ ns s' f1 f2 f3 (hg.trans g1) (hos.trans o1) fun b ob e => ?_)
    have hb := Heap.lt_size e
    exact hk b ob (Nat.ne_of_lt hb) (Nat.ne_of_lt (Nat.lt_trans hb hI)) (k1 b ob e)
  have hsz1 : (s.heap.push (seqObj "list" #[] 0)).objs.size = s.heap.objs.size + 1 := Heap.size_push ..
  refine wpAny_bind (set_iter (s := { s with heap := s.heap.push (seqObj "list" #[] 0) }) hex.1 ho1 hd hf hline (fun hm => ?_) (fun hb ys d hp => ?_))
  · have haI : a ≠ (s.heap.push (seqObj "list" #[] 0)).objs.size := by rw [hsz1]; exact Nat.ne_of_lt (Nat.lt_succ_of_lt halt)
    obtain ⟨vals, sl, hp, h00, W⟩ := walks_any (prog := prog) (w := w) (A := A.in1) hh hled haI hd hf ht hm
    have hvl : vals.length = es.size := by rw [hp.length_eq, Array.length_toList]
    have hSf : s.heap.objs.size ∉ [(s.heap.push (seqObj "list" #[] 0)).objs.size, a] := by
      rw [hsz1]; simp only [List.mem_cons, List.not_mem_nil, or_false, not_or]
      exact ⟨Nat.ne_of_lt (Nat.lt_succ_self _), Ne.symm hne⟩
    refine wpAny_bind (wpAny_holding (hint_set ⟨o, Heap.get?_push_of_some _ ho1, hex.1⟩ ?_))
    dsimp only
    refine if_true_any (by decide +kernel) (wpAny_bind (wpAny_rule ?_))
    have hSx : ((s.heap.push (seqObj "list" #[] 0)).push { cls := .type "set_iterator", data := .fields #[.int 0 0, .int 0 0, .ref a, .int es.size 0, .int ep 0] }).get? s.heap.objs.size = some (seqObj "list" #[] 0) := Heap.get?_push_of_some _ hS₁
    refine touch_set hSx W ⟨⟨_, Heap.get?_push_size _ rfl, rfl, ?_⟩, Heap.get?_push_of_some _ ho1⟩ hSf (hvl ▸ hline) (fun s2 hc => ⟨plainId_quiet F.plain_extend_loop _, hc⟩) fun s' acc c hk hg hos hSl hac => ?_
    · rw [h00, hvl]; rfl
    · refine last vals (s.heap.push (seqObj "list" #[] 0)).objs.size _ s' acc c hp ?_ ?_ ?_ ?_ hk hg hos hSl hac
      · exact fun b o e => Heap.get?_push_of_some _ (Heap.get?_push_of_some _ e)
      · rfl
      · rfl
      · rw [hsz1]; exact Nat.lt_succ_self _
  · have hsz2 : ((s.heap.push (seqObj "list" #[] 0)).push { cls := .type "tuple", data := .seq (ys.map fun (i : Nat) => rawInt i).toArray }).objs.size = s.heap.objs.size + 1 + 1 := by rw [Heap.size_push, hsz1]
    have haI : a ≠ (s.heap.push (seqObj "list" #[] 0)).objs.size + 1 := by rw [hsz1]; exact Nat.ne_of_lt (Nat.lt_succ_of_lt (Nat.lt_succ_of_lt halt))
    have hTI : (s.heap.push (seqObj "list" #[] 0)).objs.size ≠ (s.heap.push (seqObj "list" #[] 0)).objs.size + 1 := Nat.ne_of_lt (Nat.lt_succ_self _)
    have hyl : ys.length = es.size := by rw [hp.length_eq, List.length_range]
    -- the elements in the order drawn
    have hvals : (ys.map fun k => es.getD k (0, .none)).Perm es.toList := by
      refine (hp.map _).trans ?_
      have : (List.range es.size).map (fun k => es.getD k (0, Value.none)) = es.toList := by
        refine List.ext_getElem? fun j => ?_
        rcases Nat.lt_or_ge j es.size with hj | hj
        · simp [List.getElem?_range hj, Array.getD, hj]
        · simp [hj]
      rw [this]
    have hvl : es.size = (ys.map fun k => es.getD k (0, Value.none)).length := by rw [List.length_map, hyl]
    have W := walks_drawn (prog := prog) (w := w) (A := A.in1) (I := (s.heap.push (seqObj "list" #[] 0)).objs.size + 1) (a := a) (T := (s.heap.push (seqObj "list" #[] 0)).objs.size) (oT := { cls := .type "tuple", data := .seq (ys.map fun (i : Nat) => rawInt i).toArray }) hh haI hTI hd hf hp rfl (vals := ys.map fun k => es.getD k (0, .none)) hvl fun i k hk => by
      have hkm : k < es.size := by
        have := hp.mem_iff.mp (List.mem_of_getElem? hk)
        exact List.mem_range.mp this
      exact ⟨es[k], Array.getElem?_eq_getElem hkm, by rw [List.getElem?_map, hk]; simp [Array.getD, hkm]⟩
    have hSf : s.heap.objs.size ∉ [(s.heap.push (seqObj "list" #[] 0)).objs.size + 1, a, (s.heap.push (seqObj "list" #[] 0)).objs.size] := by
      rw [hsz1]; simp only [List.mem_cons, List.not_mem_nil, or_false, not_or]
      exact ⟨Nat.ne_of_lt (Nat.lt_succ_of_lt (Nat.lt_succ_self _)), Ne.symm hne, Nat.ne_of_lt (Nat.lt_succ_self _)⟩
    refine wpAny_bind (wpAny_holding (hint_set ⟨o, Heap.get?_push_of_some _ (Heap.get?_push_of_some _ ho1), hex.1⟩ ?_))
    dsimp only
    refine if_true_any (by decide +kernel) (wpAny_bind (wpAny_rule ?_))
    have hSx : (((s.heap.push (seqObj "list" #[] 0)).push { cls := .type "tuple", data := .seq (ys.map fun (i : Nat) => rawInt i).toArray }).push { cls := .type "set_iterator", data := .fields #[.ref (s.heap.push (seqObj "list" #[] 0)).objs.size, .int 0 0, .ref a, .int es.size 0, .int ep 0] }).get? s.heap.objs.size = some (seqObj "list" #[] 0) := Heap.get?_push_of_some _ (Heap.get?_push_of_some _ hS₁)
    have hIx : (((s.heap.push (seqObj "list" #[] 0)).push { cls := .type "tuple", data := .seq (ys.map fun (i : Nat) => rawInt i).toArray }).push { cls := .type "set_iterator", data := .fields #[.ref (s.heap.push (seqObj "list" #[] 0)).objs.size, .int 0 0, .ref a, .int es.size 0, .int ep 0] }).get? ((s.heap.push (seqObj "list" #[] 0)).objs.size + 1) = some { cls := .type "set_iterator", data := .fields #[.ref (s.heap.push (seqObj "list" #[] 0)).objs.size, .int 0 0, .ref a, .int es.size 0, .int ep 0] } := by
      rw [hsz1, ← hsz2]
      exact Heap.get?_push_size _ rfl
    refine touch_set hSx W ⟨⟨_, hIx, rfl, ?_⟩, Heap.get?_push_of_some _ (Heap.get?_push_of_some _ ho1), Heap.get?_push_of_some _ (Heap.get?_push_size _ rfl)⟩ hSf (hvl ▸ hline) (fun s2 hc => ⟨plainId_quiet F.plain_extend_loop _, hc⟩) fun s' acc c hk hg hos hSl hac => ?_
    · rw [← hvl]; rfl
    · refine last _ ((s.heap.push (seqObj "list" #[] 0)).objs.size + 1) _ s' acc c hvals ?_ ?_ ?_ ?_ hk hg hos hSl hac
      · exact fun b o e => Heap.get?_push_of_some _ (Heap.get?_push_of_some _ (Heap.get?_push_of_some _ e))
      · rfl
      · rfl
      · rw [hsz1]; exact Nat.lt_succ_of_lt (Nat.lt_succ_self _)
end
end Mine
end
section
open PySem PySem.W PySem.Calls PyProof.Rows PySem.Spec
set_option maxRecDepth 100000
set_option linter.unusedVariables false
namespace Mine
section
variable {prog : Program} {w : World} {A : Around} {E : Value → Shared → Prop} {s : Shared} {led : Bool}
theorem SetG.congr {h h' : Heap} {a : Addr} {mem mem' : Int → Prop} {n n' : Nat} (x : SetG prog w led h a mem n) (hk : ∀ o, h.get? a = some o → h'.get? a = some o) (hm : ∀ k, mem' k ↔ mem k) (hn : n ≤ n') : SetG prog w led h' a mem' n' := by
  obtain ⟨o, es, ep, t, ho, hex, hd, hel, hmem, hz, hf, ht⟩ := x
  exact ⟨o, es, ep, t, hk o ho, hex, hd, hel, fun k => (hm k).trans (hmem k), Nat.le_trans hz hn, hf, ht⟩
theorem setg_fresh {h : Heap} {a : Addr} (ho : h.get? a = some { cls := .type "set", dict := none, data := .set #[] 0 (.fresh 0 0 led) }) : SetG prog w led h a (fun _ => False) 0 :=
  ⟨_, #[], 0, _, ho, ⟨rfl, rfl, rfl⟩, rfl, fun e he => by simp at he, fun k => by simp, Nat.le_refl _, rfl, gt_fresh led⟩
/-- the set filled from an iterator on ints -/
theorem fill_loop {I S : Addr} {fp wr : List Addr} {G : Array GenState → Array GenState → Prop} {n : Nat} {P : Nat → Value → Prop} {St : Nat → Shared → Prop} {R : Result → Shared → Prop}
    (W : WalksS prog w A.in1 I fp wr G n P St) (hSf : S ∉ fp) {val : Nat → Int} (hval : ∀ i v, P i v → ∃ t, v = .int (val i) t) (hb : n + 1 < scanBound) :
    ∀ (k i : Nat) (s : Shared), n - i = k → i ≤ n → St i s → SetG prog w led s.heap S (fun x => ∃ j, j < i ∧ x = val j) i →
      (∀ s', Moved (S :: wr) G s s' → SetG prog w led s'.heap S (fun x => ∃ j, j < n ∧ x = val j) n → R (.ok (.ret .none)) s') →
      codeAny (model prog w) A (.builtin "set.update.loop" ⟨[.ref S, .ref I], []⟩) R s := by
  have hSw : S ∉ wr := fun h => hSf (W.sub _ h)
  have hsub : ∀ b ∈ wr, b ∈ S :: wr := fun b hb => List.mem_cons_of_mem _ hb
  intro k
  induction k with
  | zero =>
    intro i s hk hi hst hS hR
    have hin : i = n := by omega
    subst hin
    refine codeAny_builtin PyProof.Rows.F.entry_set_update_loop ?_
    rw [Around.under_plainId PyProof.Rows.F.plain_set_update_loop _]
    show wpAny _ A.in1 (pyNext (.ref I) >>= _) _ _ s
    refine wpAny_bind (W.done s _ _ hst fun s' hm => ?_)
    exact wpAny_pure (hR s' (hm.mono hsub) (hS.congr (fun o e => hm.heap S o hSw e) (fun _ => Iff.rfl) (Nat.le_refl _)))
  | succ k ih =>
    intro i s hk hi hst hS hR
    have hlt : i < n := by omega
    refine codeAny_builtin PyProof.Rows.F.entry_set_update_loop ?_
    rw [Around.under_plainId PyProof.Rows.F.plain_set_update_loop _]
    show wpAny _ A.in1 (pyNext (.ref I) >>= _) _ _ s
    refine wpAny_bind (W.item i s _ _ hlt hst fun v s' hP hst' hm => ?_)
    obtain ⟨t, rfl⟩ := hval i v hP
    have hS' := hS.congr (h' := s'.heap) (fun o e => hm.heap S o hSw e) (fun _ => Iff.rfl) (Nat.le_refl _)
    show wpAny _ A.in1 (holding [Value.int (val i) t] (setAdd S (.int (val i) t)) >>= _) _ _ s'
    refine wpAny_bind (wpAny_holding ?_)
    unfold setAdd
    refine wpAny_holding (wpAny_bind ((intKind prog w).pyHash (k := val i) (intKind_is _ _ _ _) ?_))
    refine add_int (s := { s' with toks := s'.toks + 1 }) hS' (by omega) fun b h' hsb hS2 => ?_
    refine wpAny_pure ⟨plainId_quiet PyProof.Rows.F.plain_set_update_loop _, ih (i + 1) _ (by omega) hlt (W.frame _ s' _ _ hst' (Nat.le_succ _) fun b hb o e => ?_) (hS2.congr (fun _ e => e) (fun x => ?_) (Nat.le_refl _)) fun s'' hm'' hS'' => ?_⟩
    · rw [hsb.2 b (fun h : b = S => hSf (by rw [← h]; exact hb))]; exact e
    · constructor
      · rintro ⟨j, hj, rfl⟩
        rcases Nat.lt_or_ge j i with q | q
        · exact .inl ⟨j, q, rfl⟩
        · exact .inr (by rw [show j = i by omega])
      · rintro (⟨j, hj, rfl⟩ | rfl)
        · exact ⟨j, by omega, rfl⟩
        · exact ⟨i, by omega, rfl⟩
    · refine hR s'' (Moved.trans W.gtrans ((hm.mono hsub).then_heap (Nat.le_succ _) fun b o hb e => ?_) hm'') hS''
      rw [hsb.2 b (fun h : b = S => hb (by rw [h]; exact List.mem_cons_self))]; exact e
/-- set.__new__, its led told -/
theorem new_set (a : Value) {Q₁ : Value → Shared → Prop}
    (h : Q₁ (.ref s.heap.objs.size) { s with heap := s.heap.push { cls := .type "set", dict := none, data := .set #[] 0 (.fresh 0 0 (!w.params.followText "set-order")) } }) :
    codeAny (model prog w) A (.call (.builtin "set.__new__") ⟨[.type "set", a], []⟩) (wants Q₁ E) s := by
  refine codeAny_of_tree ?_
  show wpAny _ A.in1 (do checkBuiltinCall "set.__new__" ⟨[.type "set", a], []⟩; again (.builtin "set.__new__" ⟨[.type "set", a], []⟩)) _ _ s
  refine wpAny_bind (wpAny_of_eq (PySem.F.newCall_set_1 a) (wpAny_pure ⟨plainId_quiet PySem.F.plain_set_new _, codeAny_builtin PySem.F.entry_set_new ?_⟩))
  rw [Around.under_plainId PySem.F.plain_set_new _]
  unfold Builtin.«set.__new__» Builtin.Frozenset.newClass
  have hsub := sub_set_self
  obtain ⟨hp, g, d, tk, os⟩ := s
  dsimp only
  wp_walk
  refine wpAny_askSetting (wpAny_pure ?_)
  dsimp only
  simp only [newObj]
  refine wpAny_bind (wpAny_alloc (wpAny_pure ?_))
  exact wpAny_pure h
set_option maxHeartbeats 3200000 in
theorem set_ints {l : Addr} {items : Array Value} {ns : List Int} {Q : Value → Shared → Prop}
    (hh : A.handled = none) (hl : s.heap.IsList l items) (hi : IntsAre items.toList ns) (hb : items.size + 1 < scanBound)
    (h : ∀ (h' : Heap) (tk : Nat), SetG prog w (!w.params.followText "set-order") h' s.heap.objs.size (fun k => k ∈ ns) items.size →
      (∀ b o, b < s.heap.objs.size → s.heap.get? b = some o → h'.get? b = some o) → Q (.ref s.heap.objs.size) { s with heap := h', toks := tk }) :
    wpAny (model prog w) A (call (.type "set") [.ref l]) Q E s := by
  obtain ⟨c, tl, hmro⟩ := PySem.F.called_set.mro
  have hmade := PySem.F.called_set.made
  have hsub := PySem.F.called_set.sub
  refine wpAny_call (codeAny_of_tree ?_)
  show wpAny _ _ (callAny (.type "set") _) _ _ _
  refine wpAny_pure ⟨Code.quiet_builtin _ (by decide +kernel), codeAny_builtin PySem.F.entry_type_call ?_⟩
  rw [Around.under_plain (weight_type_call_type "set" [.ref l] []) rfl]
  have h1 := PySem.F.called_set.notType
  have h2 := PySem.F.called_set.canCreate
  have hct := PySem.F.typeCall_set_1 (.ref l)
  repeat (any_goals (first | assumption | wp_step))
  refine codeAny_mono (new_set (.ref l) (E := E) (Q₁ := fun obj s₁ => obj = .ref s.heap.objs.size ∧ s₁ = { s with heap := s.heap.push { cls := .type "set", dict := none, data := .set #[] 0 (.fresh 0 0 (!w.params.followText "set-order")) } }) ⟨rfl, rfl⟩) fun r s₁ hr => ?_
  generalize hled : (!w.params.followText "set-order") = led at hr h
  cases r with
  | error e => exact hr
  | ok fl =>
    cases fl with
    | ret obj =>
      obtain ⟨rfl, rfl⟩ := hr
      have hS : (s.heap.push { cls := .type "set", dict := none, data := .set #[] 0 (.fresh 0 0 led) }).get? s.heap.objs.size = some { cls := .type "set", dict := none, data := .set #[] 0 (.fresh 0 0 led) } := Heap.get?_push_size _ rfl
      have hT : Shared.TypeIs { s with heap := s.heap.push { cls := .type "set", dict := none, data := .set #[] 0 (.fresh 0 0 led) } } (.ref s.heap.objs.size) "set" := ⟨_, hS, rfl⟩
      have hli := PySem.F.called_set.init.lookup
      have hbi := PySem.F.called_set.init.bind (.ref s.heap.objs.size)
      repeat (any_goals (first | assumption | wp_step))
      refine codeAny_mono (codeAny_call_builtin (R := wants (fun r s₂ => r = .none ∧ ∃ h' tk, s₂ = { s with heap := h', toks := tk } ∧
          SetG prog w led h' s.heap.objs.size (fun k => k ∈ ns) items.size ∧
          (∀ b o, b < s.heap.objs.size → s.heap.get? b = some o → h'.get? b = some o)) E) PySem.F.called_set.init.plain PySem.F.entry_set_init (check_set_init_1 hT ?_)) fun r₂ s₂ hr₂ => ?_
      · obtain ⟨ol, hol, hcl, nl, hdl⟩ := hl
        obtain ⟨ocls, odict, odata, oslots⟩ := ol
        simp only at hcl hdl
        subst hcl; subst hdl
        have hol' : (s.heap.push { cls := .type "set", dict := none, data := .set #[] 0 (.fresh 0 0 led) }).get? l = some { cls := .type "list", dict := odict, data := .seq items nl, slots := oslots } := Heap.get?_push_of_some _ hol
        have hsls := PySem.F.sub_list_set
        have hslf := PySem.F.sub_list_frozenset
        have hne : (Value.type "list" == Value.type "dict") = false := by decide
        have hl1 : (s.heap.push { cls := .type "set", dict := none, data := .set #[] 0 (.fresh 0 0 led) }).IsList l items := ⟨_, hol', rfl, nl, rfl⟩
        unfold Builtin.«set.__init__» noKeywords Builtin.Frozenset.updateFrom
        generalize hPI : pyIter = PI
        wp_walk
        subst hPI
        refine wpAny_pyIter_list hl1 ?_
        refine wpAny_bind (wpAny_runValue ?_)
        have hlS : l < s.heap.objs.size := Heap.lt_size hol
        have hh3 : A.in1.in1.in1.handled = none := by simp [hh]
        have hneI : l ≠ (s.heap.push { cls := .type "set", dict := none, data := .set #[] 0 (.fresh 0 0 led) }).objs.size := by
          rw [Heap.size_push]; exact Nat.ne_of_lt (Nat.lt_succ_of_lt hlS)
        have hSf : s.heap.objs.size ∉ [(s.heap.push { cls := .type "set", dict := none, data := .set #[] 0 (.fresh 0 0 led) }).objs.size, l] := by
          rw [Heap.size_push]; simp only [List.mem_cons, List.mem_singleton, List.not_mem_nil, or_false, not_or]
          exact ⟨Nat.ne_of_lt (Nat.lt_succ_self _), Nat.ne_of_gt hlS⟩
        have hval : ∀ (i : Nat) (v : Value), items[i]? = some v → ∃ t, v = .int ((fun i => ns.getD i 0) i) t := fun i v hv =>
          IntsAre.int_at hi i v (by rw [Array.getElem?_toList]; exact hv)
        have hnl : ns.length = items.size := by rw [← Array.length_toList]; exact (IntsAre.length hi).symm
        refine fill_loop (led := led) ((Walks.list hh3 _ l hneI items).toS) hSf (val := fun i => ns.getD i 0) hval hb (items.size - 0) 0 _ (by omega) (Nat.zero_le _)
          ⟨⟨_, Heap.get?_push_size _ rfl, rfl, rfl⟩, (hl1.push _)⟩ ?hS0 ?hR
        case hS0 =>
          exact (setg_fresh (Heap.get?_push_of_some _ hS)).congr (fun _ e => e) (fun k => ⟨fun ⟨j, hj, _⟩ => absurd hj (Nat.not_lt_zero j), False.elim⟩) (Nat.le_refl _)
        case hR =>
          intro s' hm hS'
          obtain ⟨h', g', d', tk', os'⟩ := s'
          have eg : g' = s.gens := hm.gens
          have ed : d' = s.drawn := hm.drawn
          have eo : os' = s.os := hm.os
          subst eg; subst ed; subst eo
          show wpAny _ _ _ _ _ _
          refine wpAny_pure ?_
          show wpAny _ _ (ret Value.none) _ _ _
          refine wpAny_pure ⟨rfl, h', tk', rfl, hS'.congr (fun _ e => e) (fun k => ?_) (Nat.le_refl _), fun b o hb e => ?_⟩
          · constructor
            · intro hk
              obtain ⟨j, hj, e⟩ := List.mem_iff_getElem.mp hk
              exact ⟨j, by omega, by rw [List.getD_eq_getElem?_getD, List.getElem?_eq_getElem hj]; exact e.symm⟩
            · rintro ⟨j, hj, rfl⟩
              have hj' : j < ns.length := by omega
              show ns.getD j 0 ∈ ns
              rw [List.getD_eq_getElem?_getD, List.getElem?_eq_getElem hj']
              exact List.getElem_mem hj'
          · have hb1 : b ≠ s.heap.objs.size := Nat.ne_of_lt hb
            have hb2 : b ≠ (s.heap.push { cls := .type "set", dict := none, data := .set #[] 0 (.fresh 0 0 led) }).objs.size := by
              rw [Heap.size_push]; exact Nat.ne_of_lt (Nat.lt_succ_of_lt hb)
            exact hm.heap b o (by simp only [List.mem_cons, List.mem_singleton, List.not_mem_nil, or_false, not_or]; exact ⟨hb1, hb2⟩) (Heap.get?_push_of_some _ (Heap.get?_push_of_some _ e))
      · cases r₂ with
        | error e => exact hr₂
        | ok fl₂ =>
          cases fl₂ with
          | ret r =>
            obtain ⟨rfl, h', tk, rfl, hS', hk'⟩ := hr₂
            repeat (any_goals (first | assumption | wp_step))
            exact h _ _ hS' hk'
          | _ => exact hr₂.elim
    | _ => exact hr.elim
end
end Mine
end
section
open PySem PySem.W PySem.Calls PyProof.Rows PySem.Spec
set_option maxRecDepth 100000
set_option linter.unusedVariables false
namespace Mine
section
variable (prog : Program) (w : World)
def SetO (o : Obj) (mem : Int → Prop) (n : Nat) : Prop :=
  ∃ es ep t, o.ExactSet ∧ o.data = .set es ep t ∧ ElemsOf (intKind prog w) es.toList ∧ (∀ k, mem k ↔ ∃ e ∈ es.toList, (intKind prog w).is k e.2 = true) ∧ es.size ≤ n ∧ t.fits es.size = true ∧ GT (!w.params.followText "set-order") t
end
section
variable {prog : Program} {w : World} {A : Around} {E : Value → Shared → Prop} {s : Shared} {h₀ : Heap} {L : Addr} {m : Str → Option Value} {news : List (Addr × Obj)}
theorem set_N {l : Addr} {vs : List Value} {ns : List Int} {n : Nat} {Q : Value → Shared → Prop} (F : Fr h₀ L s.heap m) (N : News h₀ L s.heap news) (hh : A.handled = none) (hm : (l, listOf vs.toArray n) ∈ news) (hi : IntsAre vs ns) (hb : ns.length ≤ 60)
    (h : ∀ (a : Addr) h' (tk : Nat) o, Fr h₀ L h' m → News h₀ L h' ((a, o) :: news) → SetO prog w o (fun k => k ∈ ns) ns.length → (∀ p ∈ news, p.1 < a) → Q (.ref a) { s with heap := h', toks := tk }) :
    wpAny (model prog w) A (call (.type "set") [.ref l]) Q E s := by
  have hsz : vs.toArray.size = ns.length := by rw [List.size_toArray]; exact IntsAre.length hi
  refine set_ints (items := vs.toArray) (ns := ns) hh ⟨_, (N _ hm).1, rfl, n, rfl⟩ (by simpa using hi) (by rw [hsz]; unfold scanBound; omega) fun h' tk hS hk => ?_
  rw [hsz] at hS
  obtain ⟨o, es, ep, t, ho, r⟩ := hS
  have hk' : ∀ b o', s.heap.get? b = some o' → h'.get? b = some o' := fun b o' e => hk b o' (Heap.lt_size e) e
  exact h _ h' tk o (F.kept hk') (N.kept_cons F hk' (Nat.le_refl _) ho) ⟨es, ep, t, r⟩ fun p hp => Heap.lt_size (N p hp).1
theorem sorted_set_N {a : Addr} {o : Obj} {mem : Int → Prop} {n : Nat} {Q : Value → Shared → Prop} (F : Fr h₀ L s.heap m) (N : News h₀ L s.heap news) (hh : A.handled = none) (hm : (a, o) ∈ news) (hS : SetO prog w o mem n) (hn : n ≤ 60)
    (h : ∀ (l : Addr) (h' : Heap) (d' : Drawn) (tk : Nat) (vs : List Value) (ns : List Int) (e : Nat), Fr h₀ L h' m → News h₀ L h' ((l, listOf vs.toArray e) :: news) → (∀ p ∈ news, p.1 < l) → IntsAre vs ns → (∀ k, k ∈ ns ↔ mem k) → ns.Pairwise (· ≤ ·) → ns.length ≤ n → Q (.ref l) { s with heap := h', drawn := d', toks := tk }) :
    wpAny (model prog w) A (call (.builtin "sorted") [.ref a]) Q E s := by
  obtain ⟨es, ep, t, r⟩ := hS
  refine Calls.call_function_entry kind_sorted plain_sorted entry_sorted (args_sorted1 _) ?_
  unfold Builtin.«sorted»
  refine wpAny_bind (m := checkCount "sorted" 1 1 _) (wpAny_pure ?_)
  refine wpAny_bind (collect_set (n := n) (mem := mem) hh rfl ⟨o, es, ep, t, (N _ hm).1, r⟩ (by unfold scanBound; omega) fun vs ns s' hI hmem hlen hg hos hk => ?_)
  have hvn := IntsAre.length hI
  have F1 := F.kept hk
  have N1 : News h₀ L s'.heap news := fun p hp => ⟨hk _ _ (N p hp).1, (N p hp).2⟩
  obtain ⟨h1, g1, d1, t1, o1⟩ := s'
  dsimp only at hg hos hk F1 N1
  subst hg; subst hos
  refine wpAny_bind (wpAny_newList ?_)
  have ho : (h1.push (seqObj "list" vs.toArray 0)).get? h1.objs.size = some (seqObj "list" vs.toArray 0) := Heap.get?_push_size _ rfl
  show wpAny _ _ _ _ _ ⟨h1.push (seqObj "list" vs.toArray 0), s.gens, d1, t1, s.os⟩
  refine wpAny_bind (wpAny_holding (wpAny_call_entry slot_list_sort ⟨_, ho, rfl⟩ entry_list_sort (list_sort_tree ho hI (by omega) fun out ns' a1 a2 a3 => ⟨_, rfl, ?_⟩) (args_list_sort _)))
  refine wpAny_pure ⟨_, rfl, ?_⟩
  obtain ⟨e, he⟩ := sortedHeap_at (out := out) ho
  have hlt : ∀ b, b < h1.objs.size → (sortedHeap (h1.push (seqObj "list" vs.toArray 0)) h1.objs.size vs out).get? b = h1.get? b := fun b hb => by
    rw [sortedHeap_old (Nat.ne_of_lt hb) (by rw [Heap.size_push]; exact Nat.lt_succ_of_lt hb), Heap.get?_push_ne _ _ _ (Nat.ne_of_lt hb)]
  have hk2 : ∀ b o', h1.get? b = some o' → (sortedHeap (h1.push (seqObj "list" vs.toArray 0)) h1.objs.size vs out).get? b = some o' := fun b o' q => (hlt b (Heap.lt_size q)).trans q
  have := h h1.objs.size (sortedHeap (h1.push (seqObj "list" vs.toArray 0)) h1.objs.size vs out) d1 t1 out.toList ns' e (F1.kept hk2) (N1.kept_cons F1 hk2 (Nat.le_refl _) he) (fun p hp => Heap.lt_size (N1 p hp).1) a1 (fun k => (a2.mem_iff).trans (hmem k)) a3 (by rw [a2.length_eq]; exact hlen)
  exact this
end
end Mine
end
section
open PySem PySem.W PySem.Calls PyProof.Rows PySem.Spec
set_option maxRecDepth 100000
set_option linter.unusedVariables false
namespace Mine
def evalV {α : Type} (n : Nat) (lt : Nat → Nat → Bool) : KasT α → Option α
  | .ret a => some a
  | .ask i j k => if i < n ∧ j < n then evalV n lt (k (lt i j)) else none
theorem evalV_wp {α : Type} {n : Nat} {lt : Nat → Nat → Bool} {cmp : Nat → Nat → (Bool → Shared → Prop) → Shared → Prop} {s : Shared} (hc : ∀ i j C, i < n → j < n → C (lt i j) s → cmp i j C s) {Q : α → Shared → Prop} {p : α} :
    ∀ (t : KasT α), evalV n lt t = some p → Q p s → t.kasWp cmp Q s
  | .ret a, h, q => by
    cases h
    exact q
  | .ask i j k, h, q => by
    unfold evalV at h
    split at h
    · rename_i hij
      exact hc i j _ hij.1 hij.2 (evalV_wp hc (k (lt i j)) h q)
    · cases h
theorem evalV_congr {α : Type} {n : Nat} {lt lt' : Nat → Nat → Bool} (h : ∀ i j, i < n → j < n → lt i j = lt' i j) : ∀ (t : KasT α), evalV n lt t = evalV n lt' t
  | .ret a => rfl
  | .ask i j k => by
    unfold evalV
    split
    · rename_i hij
      rw [h i j hij.1 hij.2]
      exact evalV_congr h (k (lt' i j))
    · rfl
def risingB : List Nat → Bool
  | [] => true
  | [_] => true
  | a :: b :: r => decide (a ≤ b) && risingB (b :: r)
def checkS (n : Nat) (r : Nat → Nat) : Bool :=
  match evalV n (fun i j => decide (r i < r j)) (kas_sort n) with
  | some p => p.toList.isPerm (List.range n) && risingB (p.toList.map r)
  | none => false
def ofFour (a b c d : Nat) : Nat → Nat
  | 0 => a
  | 1 => b
  | 2 => c
  | _ => d
theorem checkS2 : ∀ a b : Fin 4, checkS 2 (ofFour a b 0 0) = true := by decide +kernel
theorem checkS3 : ∀ a b c : Fin 4, checkS 3 (ofFour a b c 0) = true := by decide +kernel
theorem checkS4 : ∀ a b c d : Fin 4, checkS 4 (ofFour a b c d) = true := by decide +kernel
theorem risingB_pair : ∀ {l : List Nat}, risingB l = true → l.Pairwise (· ≤ ·)
  | [], _ => .nil
  | [a], _ => List.pairwise_singleton _ _
  | a :: b :: r, h => by
    unfold risingB at h
    rw [Bool.and_eq_true, decide_eq_true_eq] at h
    have ih := risingB_pair h.2
    refine List.pairwise_cons.mpr ⟨fun c hc => ?_, ih⟩
    rcases List.mem_cons.mp hc with rfl | hc
    · exact h.1
    · exact Nat.le_trans h.1 ((List.pairwise_cons.mp ih).1 c hc)
abbrev lexP (p q : Int × Int) : Prop := p.1 < q.1 ∨ p.1 = q.1 ∧ p.2 < q.2
def lexB (p q : Int × Int) : Bool := decide (lexP p q)
def rankOf (ps : List (Int × Int)) (q : Int × Int) : Nat := ps.countP (fun p => lexB p q)
theorem count_mono {α : Type} {f g : α → Bool} : ∀ {l : List α}, (∀ x ∈ l, f x = true → g x = true) → l.countP f ≤ l.countP g
  | [], _ => Nat.le_refl _
  | a :: l, h => by
    have ih := count_mono (l := l) fun x hx => h x (List.mem_cons_of_mem _ hx)
    rw [List.countP_cons, List.countP_cons]
    cases hf : f a with
    | false => simp; omega
    | true => rw [h a List.mem_cons_self hf]; simp; omega
theorem count_strict {α : Type} {f g : α → Bool} : ∀ {l : List α}, (∀ x ∈ l, f x = true → g x = true) → ∀ y ∈ l, f y = false → g y = true → l.countP f < l.countP g
  | a :: l, h, y, hy, h1, h2 => by
    rw [List.countP_cons, List.countP_cons]
    have hm := count_mono (l := l) fun x hx => h x (List.mem_cons_of_mem _ hx)
    rcases List.mem_cons.mp hy with rfl | hy
    · rw [h1, h2]; simp; omega
    · have ih := count_strict (l := l) (fun x hx => h x (List.mem_cons_of_mem _ hx)) y hy h1 h2
      cases hf : f a with
      | false => simp; omega
      | true => rw [h a List.mem_cons_self hf]; simp; omega
theorem rank_lt {ps : List (Int × Int)} {p q : Int × Int} (hp : p ∈ ps) (h : lexP p q) : rankOf ps p < rankOf ps q := by
  refine count_strict (fun x _ hx => ?_) p hp ?_ (decide_eq_true h)
  · have hx' := of_decide_eq_true hx
    refine decide_eq_true ?_
    unfold lexP at *; omega
  · exact decide_eq_false (by unfold lexP; omega)
theorem rank_eq {ps : List (Int × Int)} {p q : Int × Int} (hp : p ∈ ps) (hq : q ∈ ps) : lexB p q = decide (rankOf ps p < rankOf ps q) := by
  unfold lexB
  rw [decide_eq_decide]
  constructor
  · exact rank_lt hp
  · intro h
    by_cases h1 : lexP p q
    · exact h1
    · by_cases h2 : lexP q p
      · have := rank_lt hq h2; omega
      · have e : p = q := by
          unfold lexP at h1 h2
          exact Prod.ext (by omega) (by omega)
        subst e; omega
theorem rank_le {ps : List (Int × Int)} {q : Int × Int} (hq : q ∈ ps) : rankOf ps q < ps.length := by
  refine Nat.lt_of_lt_of_le (count_strict (g := fun _ => true) (fun _ _ _ => rfl) q hq ?_ rfl) List.countP_le_length
  exact decide_eq_false (by unfold lexP; omega)
theorem rank_back {ps : List (Int × Int)} {p q : Int × Int} (hp : p ∈ ps) (hq : q ∈ ps) (h : rankOf ps p ≤ rankOf ps q) : p.1 ≤ q.1 := by
  rcases Int.lt_or_le q.1 p.1 with h1 | h1
  · have := rank_lt hq (.inl h1 : lexP q p); omega
  · exact h1
theorem sort_key {ps : List (Int × Int)} {lt : Nat → Nat → Bool} (hlt : ∀ i j (hi : i < ps.length) (hj : j < ps.length), lt i j = lexB ps[i] ps[j]) (r : Nat → Nat) (hr : ∀ i (hi : i < ps.length), r i = rankOf ps ps[i]) (hc : checkS ps.length r = true) :
    ∃ p : Array Nat, evalV ps.length lt (kas_sort ps.length) = some p ∧ p.toList.Perm (List.range ps.length) ∧ (p.toList.map fun i => ps.getD i (0, 0)).Perm ps ∧ (p.toList.map fun i => ps.getD i (0, 0)).Pairwise (fun a b => a.1 ≤ b.1) := by
  unfold checkS at hc
  rw [← evalV_congr (lt := lt) (fun i j hi hj => by rw [hlt i j hi hj, rank_eq (List.getElem_mem hi) (List.getElem_mem hj), hr i hi, hr j hj])] at hc
  cases hp : evalV ps.length lt (kas_sort ps.length) with
  | none => rw [hp] at hc; cases hc
  | some p =>
    rw [hp] at hc
    dsimp only at hc
    rw [Bool.and_eq_true] at hc
    have hperm := List.isPerm_iff.mp hc.1
    have hmem : ∀ i ∈ p.toList, i < ps.length := fun i hi => List.mem_range.mp (hperm.mem_iff.mp hi)
    refine ⟨p, rfl, hperm, ?_, ?_⟩
    · refine (hperm.map _).trans ?_
      have : (List.range ps.length).map (fun i => ps.getD i (0, 0)) = ps := by
        refine List.ext_getElem? fun j => ?_
        rcases Nat.lt_or_ge j ps.length with hj | hj
        · simp [hj]
        · simp [hj]
      rw [this]
    · have hs := risingB_pair hc.2
      rw [List.pairwise_map] at hs ⊢
      refine hs.imp_of_mem fun {a b} ha hb hab => ?_
      have h1 := hmem a ha
      have h2 := hmem b hb
      rw [hr a h1, hr b h2] at hab
      have := rank_back (List.getElem_mem h1) (List.getElem_mem h2) hab
      simpa [h1, h2] using this
/-- what the sort of two to four pairs of ints does -/
theorem sort_pairs : ∀ {ps : List (Int × Int)} {lt : Nat → Nat → Bool} (h2 : 2 ≤ ps.length) (h4 : ps.length ≤ 4) (hlt : ∀ i j (hi : i < ps.length) (hj : j < ps.length), lt i j = lexB ps[i] ps[j]),
    ∃ p : Array Nat, evalV ps.length lt (kas_sort ps.length) = some p ∧ p.toList.Perm (List.range ps.length) ∧ (p.toList.map fun i => ps.getD i (0, 0)).Perm ps ∧ (p.toList.map fun i => ps.getD i (0, 0)).Pairwise (fun a b => a.1 ≤ b.1)
  | [a, b], _, _, _, hlt => by
    refine sort_key hlt (ofFour (rankOf [a, b] a) (rankOf [a, b] b) 0 0) (fun i hi => ?_) (checkS2 ⟨_, Nat.lt_trans (rank_le (ps := [a, b]) (q := a) (by simp)) (by show _ < 4; simp)⟩ ⟨_, Nat.lt_trans (rank_le (ps := [a, b]) (q := b) (by simp)) (by show _ < 4; simp)⟩)
    match i, hi with
    | 0, _ => rfl
    | 1, _ => rfl
  | [a, b, c], _, _, _, hlt => by
    refine sort_key hlt (ofFour (rankOf [a, b, c] a) (rankOf [a, b, c] b) (rankOf [a, b, c] c) 0) (fun i hi => ?_) (checkS3 ⟨_, Nat.lt_trans (rank_le (ps := [a, b, c]) (q := a) (by simp)) (by show _ < 4; simp)⟩ ⟨_, Nat.lt_trans (rank_le (ps := [a, b, c]) (q := b) (by simp)) (by show _ < 4; simp)⟩ ⟨_, Nat.lt_trans (rank_le (ps := [a, b, c]) (q := c) (by simp)) (by show _ < 4; simp)⟩)
    match i, hi with
    | 0, _ => rfl
    | 1, _ => rfl
    | 2, _ => rfl
  | [a, b, c, d], _, _, _, hlt => by
    refine sort_key hlt (ofFour (rankOf [a, b, c, d] a) (rankOf [a, b, c, d] b) (rankOf [a, b, c, d] c) (rankOf [a, b, c, d] d)) (fun i hi => ?_) (checkS4 ⟨_, rank_le (ps := [a, b, c, d]) (q := a) (by simp)⟩ ⟨_, rank_le (ps := [a, b, c, d]) (q := b) (by simp)⟩ ⟨_, rank_le (ps := [a, b, c, d]) (q := c) (by simp)⟩ ⟨_, rank_le (ps := [a, b, c, d]) (q := d) (by simp)⟩)
    match i, hi with
    | 0, _ => rfl
    | 1, _ => rfl
    | 2, _ => rfl
    | 3, _ => rfl
  | [], _, h, _, _ => by simp at h
  | [_], _, h, _, _ => by simp at h
  | _ :: _ :: _ :: _ :: _ :: _, _, _, h, _ => by simp at h
end Mine
end
section
open PySem PySem.W PySem.Calls PyProof.Rows PySem.Spec
set_option maxRecDepth 100000
set_option linter.unusedVariables false
namespace Mine
abbrev tup2 (x y : Value) (n : Nat) : Obj := { cls := .type "tuple", data := .seq #[x, y] n }
abbrev pairD (p : Int × Int) : Dat := .tuple [.int p.1, .int p.2]
theorem pair_open {news : List (Addr × Obj)} {v : Value} {r : Int × Int} (h : DatIn news v (pairD r)) : ∃ (a : Addr) (t1 t2 : Tok) (n : Nat), v = .ref a ∧ (a, tup2 (.int r.1 t1) (.int r.2 t2) n) ∈ news := by
  obtain ⟨a, vs, n, rfl, hm, h⟩ := inv_tuple h
  obtain ⟨_, _, rfl, h1, h⟩ := inv_cons h
  obtain ⟨_, _, rfl, h2, h⟩ := inv_cons h
  obtain rfl := inv_nil h
  obtain ⟨t1, rfl⟩ := inv_int h1
  obtain ⟨t2, rfl⟩ := inv_int h2
  exact ⟨a, t1, t2, n, rfl, hm⟩
theorem pair_close {news : List (Addr × Obj)} {a : Addr} {r : Int × Int} {t1 t2 : Tok} {n : Nat} (h : (a, tup2 (.int r.1 t1) (.int r.2 t2) n) ∈ news) : DatIn news (.ref a) (pairD r) :=
  DatIn.tuple (vs := [.int r.1 t1, .int r.2 t2]) h (.cons (.int _ _) (.cons (.int _ _) .nil))
theorem pairs_get {news : List (Addr × Obj)} {vs : List Value} {ps : List (Int × Int)} (h : DatAll news vs (ps.map pairD)) {i : Nat} (hi : i < ps.length) : ∃ v, vs[i]? = some v ∧ DatIn news v (pairD ps[i]) := by
  obtain ⟨u, hu, hd⟩ := h.get (k := i) (by rw [List.length_map]; exact hi)
  exact ⟨u, hu, by simpa using hd⟩
section
variable {prog : Program} {w : World} {A : Around} {E : Value → Shared → Prop} {s : Shared} {h₀ : Heap} {L : Addr} {m : Str → Option Value} {news : List (Addr × Obj)}
/-- two pairs compared -/
theorem ask_pairs {vs : List Value} {ps : List (Int × Int)} (N : News h₀ L s.heap news) (hD : DatAll news vs (ps.map pairD)) {i j : Nat} (hi : i < ps.length) (hj : j < ps.length) {C : Bool → Shared → Prop} (h : C (lexB ps[i] ps[j]) s) :
    kas_ask prog w A (tuples' true) vs i j C s := by
  obtain ⟨u, hu, hd⟩ := pairs_get hD hi
  obtain ⟨v, hv, he⟩ := pairs_get hD hj
  obtain ⟨a, t1, t2, n, rfl, ha⟩ := pair_open hd
  obtain ⟨b, u1, u2, k, rfl, hb⟩ := pair_open he
  unfold kas_ask
  rw [List.getD_eq_getElem?_getD, List.getD_eq_getElem?_getD, hu, hv]
  refine kat_lt (N _ ha).1 rfl (N _ hb).1 rfl ?_
  refine kat_cons (wpAny_eqBool_int ?_)
  have e2 : (decide (Array.size #[Value.int ps[i].1 t1, Value.int ps[i].2 t2] < Array.size #[Value.int ps[j].1 u1, Value.int ps[j].2 u2])) = false := rfl
  rw [e2]
  refine kat_go (fun h1 => kat_yes (kat_cons (wpAny_eqBool_int (kat_go (fun h2 => kat_yes (kat_nil ?_)) fun h2 => kat_no ?_)))) fun h1 => kat_no ?_
  · have e : lexB ps[i] ps[j] = false := decide_eq_false (by rw [beq_iff_eq] at h1 h2; unfold lexP; omega)
    rw [e] at h; exact h
  · have e : lexB ps[i] ps[j] = decide (ps[i].2 < ps[j].2) := by
      rw [beq_iff_eq] at h1
      unfold lexB lexP
      rw [decide_eq_decide]; omega
    rw [e] at h
    exact kat_one _ _ (lt_int h)
  · have e : lexB ps[i] ps[j] = decide (ps[i].1 < ps[j].1) := by
      rw [beq_eq_false_iff_ne] at h1
      unfold lexB lexP
      rw [decide_eq_decide]; omega
    rw [e] at h
    exact oneLt_int h
theorem tups_of : ∀ {vs : List Value} {ps : List (Int × Int)}, News h₀ L s.heap news → DatAll news vs (ps.map pairD) → ∃ fs, KatTups s.heap vs fs ∧ fs.length = ps.length ∧ ∀ v ∈ fs, ∃ k t, v = Value.int k t
  | _, [], N, .nil => ⟨[], trivial, rfl, fun _ h => by cases h⟩
  | _, p :: ps, N, .cons hd hr => by
    obtain ⟨fs, h1, h2, h3⟩ := tups_of N hr
    obtain ⟨a, t1, t2, n, rfl, ha⟩ := pair_open hd
    refine ⟨.int p.1 t1 :: fs, KatTups.cons (N _ ha).1 rfl rfl rfl h1, by simp [h2], fun v hv => ?_⟩
    rcases List.mem_cons.mp hv with rfl | hv
    · exact ⟨_, _, rfl⟩
    · exact h3 v hv
theorem datall_pick {vs : List Value} {ps : List (Int × Int)} (hD : DatAll news vs (ps.map pairD)) : ∀ {is : List Nat}, (∀ i ∈ is, i < ps.length) → DatAll news (is.map fun i => vs.getD i Value.none) ((is.map fun i => ps.getD i (0, 0)).map pairD)
  | [], _ => .nil
  | i :: is, h => by
    have hi := h i List.mem_cons_self
    obtain ⟨u, hu, hd⟩ := pairs_get hD hi
    refine .cons ?_ (datall_pick hD fun j hj => h j (List.mem_cons_of_mem _ hj))
    dsimp only
    rw [List.getD_eq_getElem?_getD, hu, List.getD_eq_getElem?_getD, List.getElem?_eq_getElem hi]
    exact hd
theorem list_sort_short {a : Addr} {vs : List Value} {n : Nat} {P : PySem.Fin → Shared → Prop} (ho : s.heap.get? a = some (seqObj "list" vs.toArray n)) (h2 : vs.length < 2)
    (h : P (.done (.ret .none)) { s with heap := sortedHeap s.heap a vs vs.toArray }) : wpAny (model prog w) A (Builtin.«list.sort» ⟨[.ref a], []⟩) P E s := by
  have hfit : vs.toArray.size ≤ sizeLine := by rw [List.size_toArray, sizeLine_eq]; omega
  rw [list_sort_plain]
  have ha : a < s.heap.objs.size := Heap.lt_size ho
  refine wpAny_bind (listItems_at ho rfl ?_)
  refine wpAny_bind (listUpdate_at ho rfl ?_ hfit (Nat.zero_le _))
  obtain ⟨e1, ho1⟩ : ∃ e1, (s.heap.update a (Obj.mapSeq fun _ => #[])).get? a = some (seqObj "list" #[] e1) := ⟨_, get?_update_seq ho (fun _ => #[])⟩
  refine wpAny_bind (seqEpoch_at ho1 rfl ?_)
  refine wpAny_bind (wpAny_newTuple ?_ (by show vs.length ≤ _; rw [sizeLine_eq]; omega))
  refine wpAny_bind (wpAny_newList ?_ (Nat.zero_le _))
  refine wpAny_holding ?_
  have ho6 : (((s.heap.update a (Obj.mapSeq fun _ => #[])).push (seqObj "tuple" vs.toArray 0)).push (seqObj "list" #[] 0)).get? a = some (seqObj "list" #[] e1) := by
    rw [Heap.get?_push_ne _ _ _ (by rw [size_push', Heap.size_update]; exact Nat.ne_of_lt (Nat.lt_succ_of_lt ha)), Heap.get?_push_ne _ _ _ (by rw [Heap.size_update]; exact Nat.ne_of_lt ha)]
    exact ho1
  show wpAny (model prog w) A _ P E { s with heap := ((s.heap.update a (Obj.mapSeq fun _ => #[])).push (seqObj "tuple" vs.toArray 0)).push (seqObj "list" #[] 0) }
  dsimp only
  have h2' : vs.toArray.size < 2 := by rw [List.size_toArray]; exact h2
  rw [if_pos h2', if_pos h2']
  refine wpAny_bind (wpAny_pure ?_)
  rw [StateT.run_pure]
  refine wpAny_bind (wpAny_pure ?_)
  dsimp only
  have he : (arrOf (SortSt.mk' general' (vs.toArray.zip vs.toArray) #[] 7 none)).map (·.2) = vs.toArray := by
    show (vs.toArray.zip vs.toArray).map (·.2) = vs.toArray
    refine Array.ext (by simp) fun i h1 h2 => by simp
  refine wpAny_bind (seqEpoch_at ho6 rfl ?_)
  rw [he]
  refine wpAny_bind (listUpdate_at ho6 rfl ?_ (Nat.zero_le _) (Nat.le_succ_of_le hfit))
  simp only [bne_self_eq_false, Bool.false_eq_true, if_false]
  exact wpAny_pure h
theorem sorted_pairs_N {l : Addr} {vs : List Value} {n : Nat} {ps : List (Int × Int)} {Q : Value → Shared → Prop} (F : Fr h₀ L s.heap m) (N : News h₀ L s.heap news) (hm : (l, listOf vs.toArray n) ∈ news) (hD : DatAll news vs (ps.map pairD)) (h4 : ps.length ≤ 4)
    (h : ∀ (D : Addr) (h' : Heap) (vs' : List Value) (ps' : List (Int × Int)) (e : Nat), Fr h₀ L h' m → News h₀ L h' ((D, listOf vs'.toArray e) :: news) → (∀ p ∈ news, p.1 < D) → DatAll news vs' (ps'.map pairD) → ps'.Perm ps → ps'.Pairwise (fun a b => a.1 ≤ b.1) → Q (.ref D) { s with heap := h' }) :
    wpAny (model prog w) A (call (.builtin "sorted") [.ref l]) Q E s := by
  have hl := hD.length
  rw [List.length_map] at hl
  have hL : s.heap.IsList l vs.toArray := ⟨_, (N _ hm).1, rfl, n, rfl⟩
  rcases Nat.lt_or_ge ps.length 2 with h2 | h2
  · have hpw : ps.Pairwise (fun a b => a.1 ≤ b.1) := by
      match ps, h2 with
      | [], _ => exact .nil
      | [_], _ => exact List.pairwise_singleton _ _
    refine Calls.call_function_entry kind_sorted plain_sorted entry_sorted (args_sorted1 _) ?_
    unfold Builtin.«sorted»
    refine wpAny_bind (m := checkCount "sorted" 1 1 _) (wpAny_pure ?_)
    refine wpAny_bind (collect_list hL ?_ (by rw [sizeLine_eq]; omega))
    refine wpAny_bind (wpAny_newList ?_ (by rw [sizeLine_eq]; omega))
    have hsz : ((s.heap.push (seqObj "list" #[] 0)).update s.heap.objs.size (Obj.mapSeq (· ++ vs.toArray))).objs.size = s.heap.objs.size + 1 := by
      rw [Heap.size_update, size_push']
    have hoL : (((s.heap.push (seqObj "list" #[] 0)).update s.heap.objs.size (Obj.mapSeq (· ++ vs.toArray))).push (seqObj "list" vs.toArray 0)).get? (s.heap.objs.size + 1) = some (seqObj "list" vs.toArray 0) := by
      rw [← hsz]; exact Heap.get?_push_size _ rfl
    show wpAny _ _ _ _ _ { s with heap := ((s.heap.push (seqObj "list" #[] 0)).update s.heap.objs.size (Obj.mapSeq (· ++ vs.toArray))).push (seqObj "list" vs.toArray 0) }
    rw [hsz]
    refine wpAny_bind (wpAny_holding (wpAny_call_entry slot_list_sort ⟨_, hoL, rfl⟩ entry_list_sort (list_sort_short hoL (by omega) ⟨_, rfl, ?_⟩) (args_list_sort _)))
    refine wpAny_pure ⟨_, rfl, ?_⟩
    obtain ⟨e, he⟩ := sortedAll_at s.heap vs vs.toArray
    exact h (s.heap.objs.size + 1) _ vs ps e (F.kept fun _ _ => sortedAll_old) (N.kept_cons F (fun _ _ => sortedAll_old) (Nat.le_succ _) he) (fun p hp => Nat.lt_succ_of_lt (Heap.lt_size (N p hp).1)) hD (.refl _) hpw
  · refine kat_sorted F N hL (by omega) (by omega) fun D e1 h' F' N' hlt => ?_
    have N0 : News h₀ L h' news := fun p hp => N' p (List.mem_cons_of_mem _ hp)
    obtain ⟨fs, t1, t2, t3⟩ := tups_of (s := { s with heap := h' }) N0 hD
    refine kat_kind (T := .type "int") t1 (by omega) (fun v hv => ?_) rfl ?_
    · obtain ⟨k, t, rfl⟩ := t3 v hv
      exact Looks.of_pure rfl
    · obtain ⟨p, he, hp, hq, hs⟩ := sort_pairs (lt := fun i j => lexB (ps.getD i (0, 0)) (ps.getD j (0, 0))) h2 h4 (fun i j hi hj => by simp [hi, hj])
      rw [← hl] at he
      refine evalV_wp (n := vs.length) (lt := fun i j => lexB (ps.getD i (0, 0)) (ps.getD j (0, 0))) (fun i j C hi hj hC => ?_) _ he ?_
      · refine ask_pairs (s := { s with heap := h' }) N0 hD (by omega) (by omega) ?_
        have hi' : i < ps.length := by omega
        have hj' : j < ps.length := by omega
        simpa [hi', hj'] using hC
      · refine KasFin.intro F' N' (UpdF.head fun q hq => Nat.ne_of_lt (hlt q hq)) fun h2 c F2 N2 => ?_
        have hin : ∀ i ∈ p.toList, i < ps.length := fun i hi => List.mem_range.mp (hp.mem_iff.mp hi)
        exact h D h2 _ _ c F2 N2 hlt (datall_pick hD hin) hq hs
end
end Mine
end
section
open PySem PySem.W PySem.Calls PyProof.Rows PySem.Spec
set_option maxRecDepth 100000
set_option linter.unusedVariables false
namespace Mine
def EndT (h₀ : Heap) (L : Addr) (J : (Str → Option Value) → List (Addr × Obj) → Prop) (own : List (Addr × Obj)) (s₁ : Shared) (f : Flow) (s₂ : Shared) : Prop := match f with
  | .next => InvEndG h₀ L J own s₁ s₂
  | _ => False
theorem EndT.next {h₀ : Heap} {L : Addr} {J : (Str → Option Value) → List (Addr × Obj) → Prop} {own : List (Addr × Obj)} {s₁ s₂ : Shared} {f : Flow} (h : EndT h₀ L J own s₁ f s₂) : f = .next ∧ InvEndG h₀ L J own s₁ s₂ := by
  cases f <;> first | exact ⟨rfl, h⟩ | exact h.elim
section
variable {prog : Program} {w : World} {A : Around} {E : Value → Shared → Prop} {s : Shared} {env : Env} {h₀ : Heap} {target : Expr} {body : List Stmt} {Q : Flow → Shared → Prop}
theorem go_any {elts : List Expr} {c : Nat} {pos : Pos} {I l : Addr} {i : Nat} {v : Value} {Q' : Unit → Shared → Prop} (hit : s.heap.IsListIter I l i) (hQ : Q' () s) : wpAny (model prog w) A (letOwnedTupleGo (.Tuple elts c pos) (.ref I) v) Q' E s := by
  cases v <;> first | exact wpAny_letOwnedTupleGo_listiter hit hQ | exact wpAny_pure hQ
theorem loopT {I : Addr} {fp : List Addr} {n : Nat} {P : Nat → Value → Prop} {St : Nat → Heap → Prop} {m₀ : Str → Option Value} {news : List (Addr × Obj)} (J : Nat → (Str → Option Value) → List (Addr × Obj) → Prop)
    (W : Walks prog w A I fp [I] n P St) (hI : ∀ i h, St i h → ∃ o, h.get? I = some o) (hfp : ∀ b ∈ fp, b ≠ I → ∃ o, ∀ m i nx, J i m nx → (b, o) ∈ nx) (hLf : env.locals ∉ fp) (hwr : h₀.get? I = none) (hnw : ∀ p ∈ news, p.1 ≠ I) (hst : St 0 s.heap)
    (F : Fr h₀ env.locals s.heap m₀) (N : News h₀ env.locals s.heap news) (hj : J 0 m₀ news)
    (hgo : ∀ i (s' : Shared) v (Q' : Unit → Shared → Prop), St i s'.heap → Q' () s' → wpAny (model prog w) A (letOwnedTupleGo target (.ref I) v) Q' E s')
    (turn : ∀ i v m₁ nx (s₁ : Shared) own, i < n → P i v → OwnOff own (nx.map (·.1)) → J i m₁ nx → Fr h₀ env.locals s₁.heap m₁ → News h₀ env.locals s₁.heap (nx ++ own) →
      wpAny (model prog w) A (assign target env v) (fun _ s₃ => wpAny (model prog w) A (execs body env) (EndT h₀ env.locals (J (i + 1)) own s₁) E s₃) E s₁)
    (done : ∀ m₁ nx h tk, J n m₁ nx → Fr h₀ env.locals h m₁ → News h₀ env.locals h nx → Q .next { s with heap := h, toks := tk }) :
    LoopAtT prog w A h₀ env target body Q E (.ref I) s := by
  refine ⟨I, fp, [I], n, P, St, m₀, news, J, rfl, W, hLf, (fun b hb => by rw [List.mem_singleton.mp hb]; exact hwr), (fun p hp hq => hnw p hp (List.mem_singleton.mp hq)), hst, F, N, hgo, hj, ?_, ?_⟩
  · intro i v m₁ nx s₁ own hin hP hJ hoff hown hget hmem hst' F₁ N₁
    have hsep : OwnOff (own.filter fun p => decide (p.1 = I)) (nx.map (·.1)) := by
      intro p hp b hb e
      obtain ⟨q, hq, rfl⟩ := List.mem_map.mp hb
      have h1 : p.1 = I := by simpa using (List.mem_filter.mp hp).2
      exact hoff q hq (List.mem_singleton.mpr (e ▸ h1))
    have N₂ : News h₀ env.locals s₁.heap (nx ++ own.filter fun p => decide (p.1 = I)) := fun p hp => N₁ p ((List.mem_append.mp hp).elim (fun h => List.mem_append.mpr (.inr h)) fun h => List.mem_append.mpr (.inl ((List.mem_filter.mp h).1)))
    refine wpAny_mono (turn i v m₁ nx s₁ _ hin hP hsep hJ F₁ N₂) (fun _ s₃ h₃ => wpAny_mono h₃ (fun f s₂ p => ?_) fun _ _ e => e) fun _ _ e => e
    obtain ⟨rfl, h', tk, m', news', nx', e, F', N', hn, ho, ha, hm⟩ := EndT.next p
    obtain ⟨oI, hoI⟩ := hI _ _ hst'
    have hIown : (I, oI) ∈ own := hmem _ (W.sub _ (List.mem_singleton.mpr rfl)) hwr _ hoI
    refine ⟨rfl, h', tk, m', nx', e, F', fun p hp => ?_, fun p hp hq => ?_, hm⟩
    · rcases List.mem_append.mp hp with h | h
      · by_cases hI : p.1 = I
        · exact N' p (ho p (List.mem_filter.mpr ⟨h, by simpa using hI⟩))
        · obtain ⟨o, hb⟩ := hfp p.1 (hown p h) hI
          have h1 : s₁.heap.get? p.1 = some o := (N₁ _ (List.mem_append_right _ (hb _ _ _ hJ))).1
          have h2 : s₁.heap.get? p.1 = some p.2 := hget p h
          rw [h1] at h2
          have h3 : p = (p.1, o) := Prod.ext rfl (Option.some.inj h2).symm
          rw [h3]
          exact N' _ (hn _ (hb _ _ _ hm))
      · exact N' p (hn p h)
    · exact ha (I, oI) (List.mem_filter.mpr ⟨hIown, by simp⟩) p.1 (List.mem_map.mpr ⟨p, hp, rfl⟩) (List.mem_singleton.mp hq).symm
  · rintro h' tk m' news' F' N' _ hJ
    exact done m' news' h' tk hJ F' N'
theorem iterT_range {r : Addr} {a₀ b₀ : Int} {t₀ u₀ v₀ : Tok} {n : Nat} {m₀ : Str → Option Value} {news : List (Addr × Obj)} (J : Nat → (Str → Option Value) → List (Addr × Obj) → Prop)
    (hh : A.handled = none) (hr : IsRange s.heap r a₀ b₀ 1 t₀ u₀ v₀) (hsmall : Builtin.Range.small a₀ b₀ 1 = true) (hn : Builtin.Range.rangeSize a₀ b₀ 1 = (n : Int)) (F : Fr h₀ env.locals s.heap m₀) (N : News h₀ env.locals s.heap news) (hj : J 0 m₀ news) (hname : ∃ x px, target = .Name x px)
    (turn : ∀ i t m₁ nx (s₁ : Shared) own, i < n → OwnOff own (nx.map (·.1)) → J i m₁ nx → Fr h₀ env.locals s₁.heap m₁ → News h₀ env.locals s₁.heap (nx ++ own) →
      wpAny (model prog w) A (assign target env (.int (a₀ + i) t)) (fun _ s₃ => wpAny (model prog w) A (execs body env) (EndT h₀ env.locals (J (i + 1)) own s₁) E s₃) E s₁)
    (done : ∀ m₁ nx h tk, J n m₁ nx → Fr h₀ env.locals h m₁ → News h₀ env.locals h nx → Q .next { s with heap := h, toks := tk }) :
    wpAny (model prog w) A (pyIter (.ref r)) (fun it s₂ => LoopAtT prog w A h₀ env target body Q E it s₂) E s := by
  obtain ⟨x, px, rfl⟩ := hname
  refine wpAny_pyIter_range hr hsmall ?_
  have W := Walks.range (prog := prog) (w := w) hh s.heap.objs.size a₀ 1 n
  refine loopT J W (fun i h hi => ⟨_, hi⟩) (fun b hb hne => absurd (List.mem_singleton.mp hb) hne) (fun hm => absurd F.ns.lt ((List.mem_singleton.mp hm) ▸ Nat.lt_irrefl _)) (next_is_new F)
    (fun p hp hI => absurd (Heap.lt_size (N p hp).1) (hI ▸ Nat.lt_irrefl _)) (by show IsRangeIter _ _ _ _ _; rw [hn]; simpa using Heap.get?_push_size _ rfl) (F.push _) (fun p hp => ⟨Heap.get?_push_of_some _ (N p hp).1, (N p hp).2⟩) hj (fun _ _ _ _ _ q => wpAny_pure q) ?_ done
  intro i v m₁ nx s₁ own hi hP hoff hJ F₁ N₁
  obtain ⟨t, rfl⟩ := hP
  rw [show a₀ + (i : Int) * 1 = a₀ + (i : Int) by omega]
  exact turn i t m₁ nx s₁ own hi hoff hJ F₁ N₁
theorem iterT_list {l : Addr} {vs : List Value} {nn : Nat} {m₀ : Str → Option Value} {news : List (Addr × Obj)} (J : Nat → (Str → Option Value) → List (Addr × Obj) → Prop)
    (hh : A.handled = none) (hl : (l, listOf vs.toArray nn) ∈ news) (F : Fr h₀ env.locals s.heap m₀) (N : News h₀ env.locals s.heap news) (hj : J 0 m₀ news) (htup : (∃ elts c pos, target = .Tuple elts c pos) ∨ ∃ x px, target = .Name x px)
    (turn : ∀ i v m₁ nx (s₁ : Shared) own, vs[i]? = some v → OwnOff own (nx.map (·.1)) → (l, listOf vs.toArray nn) ∈ nx → J i m₁ nx → Fr h₀ env.locals s₁.heap m₁ → News h₀ env.locals s₁.heap (nx ++ own) →
      wpAny (model prog w) A (assign target env v) (fun _ s₃ => wpAny (model prog w) A (execs body env) (EndT h₀ env.locals (fun m' nx' => (l, listOf vs.toArray nn) ∈ nx' ∧ J (i + 1) m' nx') own s₁) E s₃) E s₁)
    (done : ∀ m₁ nx h tk, (l, listOf vs.toArray nn) ∈ nx → J vs.length m₁ nx → Fr h₀ env.locals h m₁ → News h₀ env.locals h nx → Q .next { s with heap := h, toks := tk }) :
    wpAny (model prog w) A (pyIter (.ref l)) (fun it s₂ => LoopAtT prog w A h₀ env target body Q E it s₂) E s := by
  have hol : s.heap.get? l = some (listOf vs.toArray nn) := (N _ hl).1
  have hls : s.heap.IsList l vs.toArray := ⟨_, hol, rfl, nn, rfl⟩
  have hne : l ≠ s.heap.objs.size := Nat.ne_of_lt (Heap.lt_size hol)
  refine wpAny_pyIter_list hls ?_
  have W := Walks.list (prog := prog) (w := w) hh s.heap.objs.size l hne vs.toArray
  have hlen : vs.toArray.size = vs.length := by simp
  rw [hlen] at W
  refine loopT (fun i m nx => (l, listOf vs.toArray nn) ∈ nx ∧ J i m nx) W (fun i h hi => ⟨_, hi.1.choose_spec.1⟩) (fun b hb hne => ?_) ?_ (next_is_new F)
    (fun p hp hI => absurd (Heap.lt_size (N p hp).1) (hI ▸ Nat.lt_irrefl _)) ⟨⟨_, Heap.get?_push_size _ rfl, rfl, rfl⟩, hls.at fun o e => Heap.get?_push_of_some _ e⟩ (F.push _) (fun p hp => ⟨Heap.get?_push_of_some _ (N p hp).1, (N p hp).2⟩) ⟨hl, hj⟩ ?_ ?_ (fun m₁ nx h tk hJ => done m₁ nx h tk hJ.1 hJ.2)
  · rcases List.mem_cons.mp hb with e | hb
    · exact absurd e hne
    · rw [List.mem_singleton.mp hb]
      exact ⟨_, fun m i nx h => h.1⟩
  · intro hm
    rcases List.mem_cons.mp hm with e | hm
    · exact absurd F.ns.lt (e ▸ Nat.lt_irrefl _)
    · exact (N _ hl).2.1 ((List.mem_singleton.mp hm).symm)
  · intro i s' v Q' hst q
    rcases htup with ⟨elts, c, pos, rfl⟩ | ⟨x, px, rfl⟩
    · exact go_any hst.1 q
    · exact wpAny_pure q
  · intro i v m₁ nx s₁ own hi hP hoff hJ F₁ N₁
    exact turn i v m₁ nx s₁ own (by simpa using hP) hoff hJ.1 hJ.2 F₁ N₁
end
end Mine
end
section
open PySem PySem.W PySem.Calls PyProof.Rows PySem.Spec
set_option maxRecDepth 100000
set_option linter.unusedVariables false
namespace Mine
abbrev rangeO (a b c : Value) : Obj := { cls := .type "range", data := .fields #[a, b, c] }
section
variable {prog : Program} {w : World} {A : Around} {E : Value → Shared → Prop} {s : Shared} {h₀ : Heap} {L : Addr} {m : Str → Option Value} {news : List (Addr × Obj)} {Q : Value → Shared → Prop}
theorem len_listN {l : Addr} {vs : List Value} {n k : Nat} (N : News h₀ L s.heap news) (hm : (l, listOf vs.toArray n) ∈ news) (hk : vs.length = k) (hsz : k ≤ 1000) (h : ∀ (t : Tok) (tk : Nat), Q (.int k t) { s with toks := tk }) :
    wpAny (model prog w) A (call (.builtin "len") [.ref l]) Q E s := by
  refine call_len_list (items := vs.toArray) ⟨_, (N _ hm).1, rfl, n, rfl⟩ ?_ ?_
  · rw [List.size_toArray, hk]; omega
  · rw [List.size_toArray, hk]; exact h _ _
theorem truthy_listN {Qb : Bool → Shared → Prop} {l : Addr} {vs : List Value} {n : Nat} {ns : List Int} (N : News h₀ L s.heap news) (hm : (l, listOf vs.toArray n) ∈ news) (hi : IntsAre vs ns) (hsz : ns.length ≤ 1000) (h : ∀ (tk : Nat), Qb (decide (0 < ns.length)) { s with toks := tk }) :
    wpAny (model prog w) A (truthy (.ref l)) Qb E s := by
  have e := IntsAre.length hi
  refine wpAny_truthy_list (items := vs.toArray) ⟨_, (N _ hm).1, rfl, n, rfl⟩ ?_ ?_
  · rw [List.size_toArray, e]; omega
  · have : (!vs.toArray.isEmpty) = decide (0 < ns.length) := by
      rw [← e]
      cases vs <;> simp
    rw [this]; exact h _
theorem range1_N {n : Int} {t : Tok} (F : Fr h₀ L s.heap m) (N : News h₀ L s.heap news) (h : ∀ (r : Addr) h' (tk : Nat) (u v : Tok), Fr h₀ L h' m → News h₀ L h' ((r, rangeO (.int 0 u) (.int n t) (.int 1 v)) :: news) → (∀ p ∈ news, p.1 < r) → Q (.ref r) { s with heap := h', toks := tk }) :
    wpAny (model prog w) A (call (.type "range") [.int n t]) Q E s := by
  refine call_range_1 ?_
  have hk : ∀ b o', s.heap.get? b = some o' → (s.heap.push (rangeO (.int 0 s.toks) (.int n t) (.int 1 (s.toks + 1)))).get? b = some o' := fun b o' e => Heap.get?_push_of_some _ e
  exact h _ _ _ _ _ (F.push _) (N.kept_cons F hk (Nat.le_refl _) (Heap.get?_push_size _ rfl)) fun p hp => Heap.lt_size (N p hp).1
theorem range3_N {a b c : Int} {t u v : Tok} (hc : c ≠ 0) (hp : Builtin.divisionGoesByPylong (b - a) c = false) (F : Fr h₀ L s.heap m) (N : News h₀ L s.heap news) (h : ∀ (r : Addr) h' (tk : Nat), Fr h₀ L h' m → News h₀ L h' ((r, rangeO (.int a t) (.int b u) (.int c v)) :: news) → (∀ p ∈ news, p.1 < r) → Q (.ref r) { s with heap := h', toks := tk }) :
    wpAny (model prog w) A (call (.type "range") [.int a t, .int b u, .int c v]) Q E s := by
  refine call_range_3 hc ?_ (.inl hp)
  have hk : ∀ b' o', s.heap.get? b' = some o' → (s.heap.push (rangeO (.int a t) (.int b u) (.int c v))).get? b' = some o' := fun b' o' e => Heap.get?_push_of_some _ e
  exact h _ _ _ (F.push _) (N.kept_cons F hk (Nat.le_refl _) (Heap.get?_push_size _ rfl)) fun p hp => Heap.lt_size (N p hp).1
theorem range_is {r : Addr} {a b c : Int} {t u v : Tok} (N : News h₀ L s.heap news) (hm : (r, rangeO (.int a t) (.int b u) (.int c v)) ∈ news) : IsRange s.heap r a b c t u v := (N _ hm).1
theorem range_size {n : Nat} : Builtin.Range.rangeSize 0 (n : Int) 1 = (n : Int) := by
  rw [rangeSize_one]
  split <;> omega
theorem fits_long {x : Int} (h0 : 0 ≤ x) (h : x ≤ 2000) : Builtin.Range.rangeFitsLong x = true := by
  unfold Builtin.Range.rangeFitsLong
  simp
  omega
theorem range_small {n : Nat} (h : n ≤ 1000) : Builtin.Range.small 0 n 1 = true := by
  unfold Builtin.Range.small
  rw [range_size, fits_long (by omega) (by omega), fits_long (by omega) (by omega), fits_long (by omega) (by omega), if_pos (by decide), fits_long (by omega) (by omega)]
  simp
end
end Mine
end
section
open PySem PySem.W PySem.Calls PyProof.Rows PySem.Spec
set_option maxRecDepth 100000
set_option linter.unusedVariables false
namespace Mine
theorem datall_mono {news nx : List (Addr × Obj)} (hs : ∀ p ∈ news, p ∈ nx) : ∀ {vs : List Value} {ds : List Dat}, DatAll news vs ds → DatAll nx vs ds := fun h => DatAll.mono hs h
theorem datall_snoc {news : List (Addr × Obj)} : ∀ {vs : List Value} {ds : List Dat} {v : Value} {d : Dat}, DatAll news vs ds → DatIn news v d → DatAll news (vs ++ [v]) (ds ++ [d])
  | _, _, _, _, .nil, h => .cons h .nil
  | _, _, _, _, .cons h1 r, h => .cons h1 (datall_snoc r h)
section
variable {prog : Program} {w : World} {A : Around} {h₀ : Heap} {L : Addr} {m : Str → Option Value} {env : Env} {ct elt : Expr} {x : Str} {scope : Scope} {cl : List (Str × Addr)} {s : Shared} {S : List (Addr × Obj) → Prop} {Fin : List Value → List (Addr × Obj) → Prop} {news : List (Addr × Obj)}
def PairEl (c : Bool) (g : Int × Int) (nx : List (Addr × Obj)) (y : Value) (nx' : List (Addr × Obj)) : Prop := c = true ∧ (∀ p ∈ nx, p ∈ nx') ∧ DatIn nx' y (pairD g)
def SkipEl (c : Bool) (nx : List (Addr × Obj)) (nx' : List (Addr × Obj)) : Prop := c = false ∧ nx' = nx
/-- a comprehension over rows with a test, its element a pair of ints -/
theorem rows_compT {vs : List Value} {rs : List R4} (cond : R4 → Bool) (g : R4 → Int × Int) (hD : DatAll news vs (rs.map rowD))
    (turn : ∀ nx r t t1 t2 t3 t4 n I oI C oC D m₂ ys h tk (E' : Value → Shared → Prop), r ∈ rs → (∀ p ∈ news, p ∈ nx) → (t, tup4 (.int (R4.x r) t1) (.int r.y t2) (.int r.w t3) (.int r.h t4) n) ∈ nx → LCg.NsObj oC m₂ → m₂ x = some (.ref t) → Fr h₀ L h m → News h₀ L h ((I, oI) :: (C, oC) :: (D, LCg.lst ys) :: nx) → LCg.Off3 I C D nx → ((@Ne Nat I C) ∧ (@Ne Nat I D) ∧ (@Ne Nat C D)) →
      wpAny (model prog w) A (isTrue ct (compEnvC scope cl C env) (eval ct (compEnvC scope cl C env))) (fun ok s' => if ok = true then
        wpAny (model prog w) A (eval elt (compEnvC scope cl C env)) (LCg.CompEnd h₀ L m { s with heap := h, toks := tk } I oI C oC D (LCg.lst ys) S (fun y nx' => PairEl (cond r) (g r) nx y nx')) E' s'
        else LCg.CompEnd h₀ L m { s with heap := h, toks := tk } I oI C oC D (LCg.lst ys) S (fun _ nx' => SkipEl (cond r) nx nx') Value.none s') E' { s with heap := h, toks := tk })
    (fin : ∀ ys nx, (∀ p ∈ news, p ∈ nx) → DatAll nx ys (((rs.filter cond).map g).map pairD) → Fin ys nx) : LCt.CompRestT prog w A h₀ L m env ct elt x scope cl s S (fun i v => vs.toArray[i]? = some v) Fin vs.toArray.size 0 [] news := by
  have hl := hD.length
  rw [List.length_map] at hl
  have key : ∀ (j i : Nat) (ys : List Value) (nx : List (Addr × Obj)), i + j = vs.length → (∀ p ∈ news, p ∈ nx) → DatAll nx ys ((((rs.take i).filter cond).map g).map pairD) → LCt.CompRestT prog w A h₀ L m env ct elt x scope cl s S (fun i v => vs.toArray[i]? = some v) Fin j i ys nx := by
    intro j
    induction j with
    | zero =>
      intro i ys nx hi hs hy
      rw [List.take_of_length_le (by omega)] at hy
      exact LCt.CompRestT.zero (fin ys nx hs hy)
    | succ j ih =>
      intro i ys nx hi hs hy
      refine LCt.CompRestT.succ ?_
      intro v I oI C oC D m₂ h tk E' hv hC hx F N off ne
      obtain ⟨r, hr, hd⟩ := rows_get hD (by simpa using hv)
      obtain ⟨a, t1, t2, t3, t4, n, rfl, hm⟩ := row_open hd
      have hrs : rs.take (i + 1) = rs.take i ++ [r] := by rw [List.take_add_one, hr]; rfl
      refine wpAny_mono (turn nx r a t1 t2 t3 t4 n I oI C oC D m₂ ys h tk E' (List.mem_of_getElem? hr) hs (hs _ hm) hC hx F N off ne) (fun ok s₂ hq => ?_) fun _ _ e => e
      cases ok with
      | true =>
        simp only [if_true] at hq ⊢
        refine wpAny_mono hq (fun y s₃ hq => ?_) fun _ _ e => e
        obtain ⟨h', tk', nw, e, F', N', off', hS, hc, hs', hy'⟩ := hq
        refine ⟨h', tk', nw, e, F', N', off', hS, ih (i + 1) _ nw (by omega) (fun p hp => hs' p (hs p hp)) ?_⟩
        rw [hrs, List.filter_append, List.filter_cons_of_pos hc, List.map_append, List.map_append]
        exact datall_snoc (datall_mono hs' hy) hy'
      | false =>
        simp only [Bool.false_eq_true, if_false] at hq ⊢
        obtain ⟨h', tk', nw, e, F', N', off', hS, hc, rfl⟩ := hq
        refine ⟨h', tk', nw, e, F', N', off', hS, ih (i + 1) _ nw (by omega) hs ?_⟩
        rw [hrs, List.filter_append, List.filter_cons_of_neg (by rw [hc]; exact Bool.false_ne_true), List.filter_nil, List.append_nil]
        exact hy
  rw [List.size_toArray]
  exact key vs.length 0 [] news (by omega) (fun p hp => hp) (by simp only [List.take_zero, List.filter_nil, List.map_nil]; exact .nil)
end
end Mine
end
section
open PySem PySem.W PySem.Calls PyProof.Rows PySem.Spec
set_option linter.unusedVariables false
namespace Mine
def slabP (rs : List R4) (lo hi : Int) : List (Int × Int) := (rs.filter fun r => decide (r.x ≤ lo ∧ hi ≤ r.x + r.w)).map fun r => (r.y, r.y + r.h)
/-- how many of the ints from a on, n of them, f has -/
def cnt (a : Int) : Nat → (Int → Bool) → Int
  | 0, _ => 0
  | n + 1, f => cnt a n f + (if f (a + n) = true then 1 else 0)
def inP (ps : List (Int × Int)) (t : Int) : Bool := ps.any fun p => decide (p.1 ≤ t ∧ t < p.2)
def covB (B : Nat) (ps : List (Int × Int)) : Int := cnt (-B) (2 * B) (inP ps)
def coverA (B : Nat) (rs : List R4) (ss : List Int) : Nat → Int
  | 0 => 0
  | i + 1 => coverA B rs ss i + (ss.getD (i + 1) 0 - ss.getD i 0) * covB B (slabP rs (ss.getD i 0) (ss.getD (i + 1) 0))
theorem cnt_congr {a : Int} {f g : Int → Bool} : ∀ {n : Nat}, (∀ t, a ≤ t → t < a + n → f t = g t) → cnt a n f = cnt a n g
  | 0, _ => rfl
  | n + 1, h => by
    show cnt a n f + _ = cnt a n g + _
    rw [cnt_congr (n := n) fun t h1 h2 => h t h1 (by omega), h (a + n) (by omega) (by omega)]
theorem cnt_or {a : Int} {f g : Int → Bool} : ∀ {n : Nat}, (∀ t, a ≤ t → t < a + n → f t = true → g t = true → False) → cnt a n (fun t => f t || g t) = cnt a n f + cnt a n g
  | 0, _ => rfl
  | n + 1, h => by
    show cnt a n _ + _ = cnt a n f + _ + (cnt a n g + _)
    rw [cnt_or (n := n) fun t h1 h2 => h t h1 (by omega)]
    have := h (a + n) (by omega) (by omega)
    cases hf : f (a + n) <;> cases hg : g (a + n) <;> simp_all <;> omega
theorem cnt_false {a : Int} : ∀ {n : Nat}, cnt a n (fun _ => false) = 0
  | 0 => rfl
  | n + 1 => by show cnt a n _ + _ = 0; rw [cnt_false]; simp
/-- the ints of an interval within the window -/
theorem cnt_iv {a : Int} : ∀ {n : Nat} {c d : Int}, cnt a n (fun t => decide (c ≤ t ∧ t < d)) = max 0 (min d (a + n) - max c a)
  | 0, c, d => by
    have h1 : min d (a + (0 : Nat)) ≤ a + (0 : Nat) := Int.min_le_right _ _
    have h2 : a ≤ max c a := Int.le_max_right _ _
    show (0 : Int) = _
    rw [Int.max_eq_left (by omega)]
  | n + 1, c, d => by
    show cnt a n _ + _ = _
    rw [cnt_iv, show (a + ((n + 1 : Nat) : Int)) = a + n + 1 by omega]
    have hN : a ≤ a + (n : Int) := by omega
    generalize a + (n : Int) = N at *
    by_cases h : c ≤ N ∧ N < d
    · rw [if_pos (decide_eq_true h), Int.min_eq_right (Int.le_of_lt h.2), Int.min_eq_right (show N + 1 ≤ d from h.2)]
      have hx : max c a ≤ N := Int.max_le.mpr ⟨h.1, hN⟩
      generalize max c a = X at *
      rw [Int.max_eq_right (by omega), Int.max_eq_right (by omega)]
      omega
    · rw [if_neg (by rw [decide_eq_true_eq]; exact h)]
      by_cases hd : d ≤ N
      · rw [Int.min_eq_left hd, Int.min_eq_left (show d ≤ N + 1 by omega)]
        exact Int.add_zero _
      · have hc : N < c := by omega
        have hx : c ≤ max c a := Int.le_max_left _ _
        have k1 : min d N ≤ N := Int.min_le_right _ _
        have k2 : min d (N + 1) ≤ N + 1 := Int.min_le_right _ _
        rw [Int.max_eq_left (by omega), Int.max_eq_left (by omega)]
        rfl
theorem cnt_iv_in {B : Nat} {c d : Int} (h1 : -(B : Int) ≤ c) (h2 : c ≤ d) (h3 : d ≤ B) : cnt (-B) (2 * B) (fun t => decide (c ≤ t ∧ t < d)) = d - c := by
  rw [cnt_iv]; omega
def topV (t : Tok) : Option Int → Value
  | none => .none
  | some T => .int T t
/-- the sweep's state when the pairs of pre are behind it -/
structure Sw (B : Nat) (wd A0 : Int) (pre : List (Int × Int)) (top : Option Int) (A : Int) : Prop where
  area : A = A0 + covB B pre * wd
  hn : top = none → pre = []
  hs : ∀ T, top = some T → (∃ p ∈ pre, p.2 = T) ∧ ∀ p ∈ pre, p.2 ≤ T
theorem sw_start {B : Nat} {wd A0 : Int} : Sw B wd A0 [] none A0 := ⟨by
  have : covB B [] = 0 := cnt_false
  rw [this]; omega, fun _ => rfl, fun _ h => by cases h⟩
theorem covB_add {B : Nat} {pre : List (Int × Int)} {p : Int × Int} {c : Int} (h1 : -(B : Int) ≤ c) (h2 : c ≤ p.2) (h3 : p.2 ≤ B) (hin : ∀ t, p.1 ≤ t → t < c → inP pre t = true) (hout : ∀ t, c ≤ t → inP pre t = false) (hc : p.1 ≤ c) :
    covB B (pre ++ [p]) = covB B pre + (p.2 - c) := by
  unfold covB
  rw [← cnt_iv_in h1 h2 h3, ← cnt_or]
  · refine cnt_congr fun t _ _ => ?_
    unfold inP
    rw [List.any_append, List.any_cons, List.any_nil, Bool.or_false]
    show (inP pre t || _) = (inP pre t || _)
    by_cases ht : t < c
    · by_cases hp : p.1 ≤ t
      · rw [hin t hp ht]; rfl
      · congr 1; rw [decide_eq_decide]; omega
    · congr 1; rw [decide_eq_decide]; omega
  · intro t _ _ hf hg
    rw [decide_eq_true_eq] at hg
    rw [hout t hg.1] at hf
    cases hf
theorem covB_same {B : Nat} {pre : List (Int × Int)} {p : Int × Int} (hin : ∀ t, p.1 ≤ t → t < p.2 → inP pre t = true) : covB B (pre ++ [p]) = covB B pre := by
  refine cnt_congr fun t _ _ => ?_
  unfold inP
  rw [List.any_append, List.any_cons, List.any_nil, Bool.or_false]
  show (inP pre t || _) = inP pre t
  by_cases h : p.1 ≤ t ∧ t < p.2
  · rw [hin t h.1 h.2]; rfl
  · rw [decide_eq_false h, Bool.or_false]
theorem inP_true {ps : List (Int × Int)} {t : Int} {p : Int × Int} (hp : p ∈ ps) (h1 : p.1 ≤ t) (h2 : t < p.2) : inP ps t = true := List.any_eq_true.mpr ⟨p, hp, decide_eq_true ⟨h1, h2⟩⟩
theorem inP_false {ps : List (Int × Int)} {t : Int} (h : ∀ p ∈ ps, p.2 ≤ t) : inP ps t = false := by
  unfold inP
  rw [List.any_eq_false]
  intro p hp
  have := h p hp
  rw [decide_eq_true_eq]; omega
section
variable {B : Nat} {wd A0 A : Int} {pre : List (Int × Int)} {top : Option Int} {p : Int × Int}
theorem Sw.fresh (h : Sw B wd A0 pre top A) (hp : p.1 < p.2) (h1 : -(B : Int) ≤ p.1) (h2 : p.2 ≤ B) (ht : ∀ T, top = some T → T < p.1) : Sw B wd A0 (pre ++ [p]) (some p.2) (A + (p.2 - p.1) * wd) := by
  have hle : ∀ q ∈ pre, q.2 ≤ p.1 := by
    intro q hq
    cases htop : top with
    | none => rw [h.hn htop] at hq; cases hq
    | some T => have := (h.hs T htop).2 q hq; have := ht T htop; omega
  refine ⟨?_, fun e => (by cases e), fun T hT => ?_⟩
  · rw [h.area, covB_add (c := p.1) h1 (by omega) h2 (fun t a b => by omega) (fun t ht => inP_false fun q hq => by have := hle q hq; omega) (Int.le_refl _)]
    grind
  · cases hT
    refine ⟨⟨p, by simp, rfl⟩, fun q hq => ?_⟩
    rcases List.mem_append.mp hq with hq | hq
    · have := hle q hq; omega
    · rw [List.mem_singleton.mp hq]; exact Int.le_refl _
theorem Sw.more {T : Int} (h : Sw B wd A0 pre (some T) A) (hlo : ∀ q ∈ pre, q.1 ≤ p.1) (h1 : -(B : Int) ≤ p.1) (h2 : p.2 ≤ B) (ht : p.1 ≤ T) (hT : T < p.2) : Sw B wd A0 (pre ++ [p]) (some p.2) (A + (p.2 - T) * wd) := by
  obtain ⟨⟨q0, hq0, e0⟩, hall⟩ := h.hs T rfl
  refine ⟨?_, fun e => (by cases e), fun T' hT' => ?_⟩
  · rw [h.area, covB_add (c := T) (by omega) (by omega) h2 (fun t a b => inP_true hq0 (by have := hlo q0 hq0; omega) (by omega)) (fun t ht => inP_false fun q hq => by have := hall q hq; omega) ht]
    grind
  · cases hT'
    refine ⟨⟨p, by simp, rfl⟩, fun q hq => ?_⟩
    rcases List.mem_append.mp hq with hq | hq
    · have := hall q hq; omega
    · rw [List.mem_singleton.mp hq]; exact Int.le_refl _
theorem Sw.skip {T : Int} (h : Sw B wd A0 pre (some T) A) (hlo : ∀ q ∈ pre, q.1 ≤ p.1) (h1 : -(B : Int) ≤ p.1) (h2 : p.2 ≤ B) (hp : p.1 < p.2) (hT : p.2 ≤ T) : Sw B wd A0 (pre ++ [p]) (some T) A := by
  obtain ⟨⟨q0, hq0, e0⟩, hall⟩ := h.hs T rfl
  refine ⟨?_, fun e => (by cases e), fun T' hT' => ?_⟩
  · rw [h.area, covB_same fun t a b => inP_true hq0 (by have := hlo q0 hq0; omega) (by omega)]
  · cases hT'
    refine ⟨⟨q0, by simp [hq0], e0⟩, fun q hq => ?_⟩
    rcases List.mem_append.mp hq with hq | hq
    · exact hall q hq
    · rw [List.mem_singleton.mp hq]; exact hT
end
end Mine
end
section
open PySem PySem.W PySem.Calls PyProof.Rows PySem.Spec
set_option maxRecDepth 100000
set_option linter.unusedVariables false
namespace Mine
/-- the frame of _law_covered -/
abbrev frC (l : Addr) (u1 u2 u3 : Option Value) (av : Value) (m : Str → Option Value) : Str → Option Value := fun z => if z = "low" then u1 else if z = "high" then u2 else if z = "top" then u3 else if z = "area" then some av else if z = "rows" then some (.ref l) else m z
theorem frC_of {l : Addr} {av : Value} {u1 u2 u3 : Option Value} {m m' : Str → Option Value} (h1 : m' "low" = u1) (h2 : m' "high" = u2) (h3 : m' "top" = u3) (h4 : m' "area" = some av) (h5 : m' "rows" = some (.ref l)) (h : ∀ z : Str, z ≠ "low" → z ≠ "high" → z ≠ "top" → z ≠ "area" → z ≠ "rows" → m' z = m z) :
    m' = frC l u1 u2 u3 av m := by
  funext z
  unfold frC
  by_cases e1 : z = "low"
  · rw [if_pos e1, e1, h1]
  · rw [if_neg e1]
    by_cases e2 : z = "high"
    · rw [if_pos e2, e2, h2]
    · rw [if_neg e2]
      by_cases e3 : z = "top"
      · rw [if_pos e3, e3, h3]
      · rw [if_neg e3]
        by_cases e4 : z = "area"
        · rw [if_pos e4, e4, h4]
        · rw [if_neg e4]
          by_cases e5 : z = "rows"
          · rw [if_pos e5, e5, h5]
          · rw [if_neg e5]
            exact h z e1 e2 e3 e4 e5
theorem frC_self {l : Addr} {av : Value} {m : Str → Option Value} (h4 : m "area" = some av) (h5 : m "rows" = some (.ref l)) : m = frC l (m "low") (m "high") (m "top") av m := frC_of rfl rfl rfl h4 h5 fun _ _ _ _ _ _ => rfl
section
variable {h₀ h : Heap} {L : Addr} {news : List (Addr × Obj)}
theorem range_at {r : Addr} {a b c : Int} {t u v : Tok} (N : News h₀ L h news) (hm : (r, rangeO (.int a t) (.int b u) (.int c v)) ∈ news) : IsRange h r a b c t u v := (N _ hm).1
theorem range_sizeL {n : Nat} (h : 0 < n) : Builtin.Range.rangeSize 0 ((n : Int) - 1) 1 = ((n - 1 : Nat) : Int) := by
  rw [show ((n : Int) - 1) = ((n - 1 : Nat) : Int) by omega]; exact range_size
theorem range_smallL {n : Nat} (h : 0 < n) (h2 : n ≤ 1000) : Builtin.Range.small 0 ((n : Int) - 1) 1 = true := by
  rw [show ((n : Int) - 1) = ((n - 1 : Nat) : Int) by omega]; exact range_small (by omega)
theorem cov_start {r l a D1 D2 D3 c1 c2 : Addr} {o1 o2 o3 o4 o5 o6 o7 o8 : Obj} (N : News h₀ L h ((r, o1) :: (l, o2) :: (a, o3) :: (D1, o4) :: (D2, o5) :: (D3, o6) :: (c2, o7) :: (c1, o8) :: news)) : News h₀ L h ((c2, o7) :: (l, o2) :: (c1, o8) :: news) :=
  fun p hp => N p (by simp only [List.mem_cons] at hp ⊢; rcases hp with rfl | rfl | rfl | hp <;> simp [*])
/-- the outer loop's invariant: the cell of k is turned, the area grows by slabs -/
def CovJ (B : Nat) (rs : List R4) (ss : List Int) (l : Addr) (mm : Str → Option Value) (kc : Addr) (base : List (Addr × Obj)) (i : Nat) (m : Str → Option Value) (nx : List (Addr × Obj)) : Prop :=
  ∃ (u1 u2 u3 : Option Value) (t : Tok) (ok : Obj) (c : Option Value), m = frC l u1 u2 u3 (.int (coverA B rs ss i) t) mm ∧ nx = (kc, ok) :: base ∧ ok.data = .cell c
theorem cov_j0 {B : Nat} {rs : List R4} {ss : List Int} {l kc : Addr} {mm : Str → Option Value} {base : List (Addr × Obj)} {ok : Obj} {c : Option Value} {t : Tok} (h1 : mm "area" = some (.int 0 t)) (h2 : mm "rows" = some (.ref l)) (hok : ok.data = .cell c) : CovJ B rs ss l mm kc base 0 mm ((kc, ok) :: base) :=
  ⟨_, _, _, t, ok, c, frC_self h1 h2, rfl, hok⟩
theorem sides_bound {D : Int} {rs : List R4} {ss : List Int} (hb : ∀ r ∈ rs, (-D ≤ r.x ∧ r.x ≤ D) ∧ (-D ≤ r.y ∧ r.y ≤ D) ∧ (1 ≤ r.w ∧ r.w ≤ D) ∧ (1 ≤ r.h ∧ r.h ≤ D)) (hm : ∀ k, k ∈ ss ↔ k ∈ (rs.map R4.x ++ rs.map fun r => r.x + r.w)) {i : Nat} (hi : i < ss.length) : -D ≤ ss.getD i 0 ∧ ss.getD i 0 ≤ 2 * D := by
  have : ss.getD i 0 ∈ ss := by rw [List.getD_eq_getElem?_getD, List.getElem?_eq_getElem hi]; exact List.getElem_mem hi
  rcases List.mem_append.mp ((hm _).mp this) with h | h
  · obtain ⟨r, hr, e⟩ := List.mem_map.mp h
    have := hb r hr
    omega
  · obtain ⟨r, hr, e⟩ := List.mem_map.mp h
    have := hb r hr
    (try dsimp only at e)
    omega
theorem big_off {own base news : List (Addr × Obj)} {kc : Addr} {ok : Obj} (hoff : OwnOff own (((kc, ok) :: base).map (·.1))) (hn : AllLt kc news) : ∀ p ∈ news ++ own, p.1 ≠ kc := by
  intro p hp
  rcases List.mem_append.mp hp with hp | hp
  · exact allLt_ne hn p hp
  · exact hoff p hp kc List.mem_cons_self
theorem slab_bound {D lo hi : Int} {rs : List R4} (hb : ∀ r ∈ rs, (-D ≤ r.x ∧ r.x ≤ D) ∧ (-D ≤ r.y ∧ r.y ≤ D) ∧ (1 ≤ r.w ∧ r.w ≤ D) ∧ (1 ≤ r.h ∧ r.h ≤ D)) : ∀ p ∈ slabP rs lo hi, -D ≤ p.1 ∧ p.1 < p.2 ∧ p.2 ≤ 2 * D := by
  intro p hp
  obtain ⟨r, hr, rfl⟩ := List.mem_map.mp hp
  have := hb r ((List.mem_filter.mp hr).1)
  dsimp only
  omega
/-- the inner loop's -/
def SwJ (B : Nat) (wd A0 : Int) (ps : List (Int × Int)) (l : Addr) (mm : Str → Option Value) (base : List (Addr × Obj)) (i : Nat) (m : Str → Option Value) (nx : List (Addr × Obj)) : Prop :=
  ∃ (u1 u2 : Option Value) (top : Option Int) (t t' : Tok) (A : Int), m = frC l u1 u2 (some (topV t' top)) (.int A t) mm ∧ nx = base ∧ Sw B wd A0 (ps.take i) top A
end
theorem ints_at {vs : List Value} {ns : List Int} (h : IntsAre vs ns) {i : Nat} (hi : i < ns.length) : ∃ t : Tok, vs[i]? = some (.int (ns.getD i 0) t) := by
  have hv : i < vs.length := by rw [IntsAre.length h]; exact hi
  obtain ⟨t, e⟩ := IntsAre.int_at h i vs[i] (List.getElem?_eq_getElem hv)
  exact ⟨t, by rw [List.getElem?_eq_getElem hv, e]⟩
section
variable {h₀ h' : Heap} {L I C D : Addr} {m : Str → Option Value} {s₁ : Shared} {oI oC oD : Obj} {S : List (Addr × Obj) → Prop} {nx : List (Addr × Obj)} {tk : Nat}
theorem pair_end {t9 : Addr} {a b : Int} {ta tb : Tok} {k : Nat} {g : Int × Int} {c : Bool} (F : Fr h₀ L h' m) (N : News h₀ L h' ((t9, tup2 (.int a ta) (.int b tb) k) :: (I, oI) :: (C, oC) :: (D, oD) :: nx)) (off : LCg.Off3 I C D nx) (h1 : @LT.lt Nat _ I t9) (h2 : @LT.lt Nat _ C t9) (h3 : @LT.lt Nat _ D t9)
    (hS : S ((t9, tup2 (.int a ta) (.int b tb) k) :: nx)) (hc : c = true) (hg : g = (a, b)) : LCg.CompEnd h₀ L m s₁ I oI C oC D oD S (fun y nx' => PairEl c g nx y nx') (.ref t9) { s₁ with heap := h', toks := tk } := by
  subst hg
  refine LCg.CompEnd.intro F N ((t9, tup2 (.int a ta) (.int b tb) k) :: nx) (fun p hp => ?_) ⟨⟨Nat.ne_of_gt h1, Nat.ne_of_gt h2, Nat.ne_of_gt h3⟩, off⟩ hS ⟨hc, fun p hp => List.mem_cons_of_mem _ hp, pair_close (r := (a, b)) List.mem_cons_self⟩
  simp only [List.mem_cons] at hp ⊢
  rcases hp with rfl | rfl | rfl | rfl | hp <;> simp [*]
theorem skip_end {c : Bool} (F : Fr h₀ L h' m) (N : News h₀ L h' ((I, oI) :: (C, oC) :: (D, oD) :: nx)) (off : LCg.Off3 I C D nx) (hS : S nx) (hc : c = false) : LCg.CompEnd h₀ L m s₁ I oI C oC D oD S (fun _ nx' => SkipEl c nx nx') .none { s₁ with heap := h', toks := tk } :=
  LCg.CompEnd.intro F N nx (fun p hp => hp) off hS ⟨hc, rfl⟩
end
section
variable {h₀ h' : Heap} {L l : Addr} {m' mm : Str → Option Value} {s₁ : Shared} {own nb big : List (Addr × Obj)} {tk : Nat} {K : List (Addr × Obj) → Prop} {B : Nat} {wd A0 A' : Int} {ps : List (Int × Int)} {j : Nat} {pr : Int × Int} {top' : Option Int} {t t' : Tok} {u1 u2 : Option Value}
theorem sw_end (F : Fr h₀ L h' m') (N : News h₀ L h' big) (hq : ∀ p ∈ nb, p ∈ big) (ho : ∀ p ∈ own, p ∈ big) (hoff : OwnOff own (nb.map (·.1))) (hK : K nb) (hm : m' = frC l u1 u2 (some (topV t' top')) (.int A' t) mm) (he : ps.take (j + 1) = ps.take j ++ [pr]) (hsw : Sw B wd A0 (ps.take j ++ [pr]) top' A') :
    InvEndG h₀ L (fun m' nx => K nx ∧ SwJ B wd A0 ps l mm nb (j + 1) m' nx) own s₁ { s₁ with heap := h', toks := tk } :=
  InvEndG.intro F N ⟨hK, u1, u2, top', t, t', A', hm, rfl, by rw [he]; exact hsw⟩ hoff hq ho
end
theorem inP_perm {ps qs : List (Int × Int)} (h : ps.Perm qs) (t : Int) : inP ps t = inP qs t := by
  unfold inP
  rw [Bool.eq_iff_iff, List.any_eq_true, List.any_eq_true]
  exact ⟨fun ⟨p, hp, q⟩ => ⟨p, h.mem_iff.mp hp, q⟩, fun ⟨p, hp, q⟩ => ⟨p, h.mem_iff.mpr hp, q⟩⟩
theorem sw_done {B : Nat} {wd A0 A : Int} {ps qs : List (Int × Int)} {top : Option Int} {n : Nat} (h : Sw B wd A0 (ps.take n) top A) (hn : n = ps.length) (hp : ps.Perm qs) : A = A0 + wd * covB B qs := by
  rw [h.area, hn, List.take_length]
  have : covB B ps = covB B qs := cnt_congr fun t _ _ => inP_perm hp t
  rw [this, Int.mul_comm]
section
variable {h₀ h' : Heap} {L l : Addr} {m' mm : Str → Option Value} {s₁ : Shared} {own base nb : List (Addr × Obj)} {tk : Nat} {B : Nat} {rs : List R4} {ss : List Int} {i : Nat} {kc : Addr} {ok ok' : Obj} {u1 u2 u3 : Option Value} {A : Int} {t : Tok} {c : Option Value}
theorem cov_end (F : Fr h₀ L h' m') (N : News h₀ L h' nb) (hk : (kc, ok') ∈ nb) (hd : ok'.data = .cell c) (hbase : ∀ p ∈ base, p ∈ nb) (ho : ∀ p ∈ own, p ∈ nb) (hoff : OwnOff own (((kc, ok) :: base).map (·.1))) (hm : m' = frC l u1 u2 u3 (.int A t) mm) (hA : coverA B rs ss (i + 1) = A) :
    InvEndG h₀ L (CovJ B rs ss l mm kc base (i + 1)) own s₁ { s₁ with heap := h', toks := tk } :=
  InvEndG.intro F N (nx := (kc, ok') :: base) ⟨u1, u2, u3, t, ok', c, by rw [hA]; exact hm, rfl, hd⟩ hoff (fun p hp => by
    rcases List.mem_cons.mp hp with rfl | hp
    · exact hk
    · exact hbase p hp) ho
end
theorem lows_before {ps : List (Int × Int)} (h : ps.Pairwise fun a b => a.1 ≤ b.1) {j : Nat} {pr : Int × Int} (hj : ps[j]? = some pr) : ∀ q ∈ ps.take j, q.1 ≤ pr.1 := by
  intro q hq
  have hlt : j < ps.length := (List.getElem?_eq_some_iff.mp hj).1
  obtain ⟨i, hi, e⟩ := List.mem_take_iff_getElem.mp hq
  have := List.pairwise_iff_getElem.mp h i j (by omega) hlt (by omega)
  rw [(List.getElem?_eq_some_iff.mp hj).2] at this
  rw [← e]; exact this
end Mine
end
namespace Mine
theorem offC7 : True := by
  w_top off
  trivial
theorem anewC7 : (1 : Nat) = 1 := by walk1
end Mine
section
open PySem PySem.W PySem.Calls PyProof.Rows
set_option maxRecDepth 100000
set_option linter.unusedVariables false
namespace Mine
theorem fill7 : (fun (_ : OpenLaw × (Params → Frag)) => True) (PySem.Challenge.rw_ay0032_01, Mine.hd.heap_1) := by
  k_fill
  trivial
local macro_rules | `(tactic| k_room) => `(tactic| ktr_room)
local macro_rules | `(tactic| k_units) => `(tactic| ktr_units)
local macro_rules | `(tactic| k_all) => `(tactic| exact allLt_ne (by assumption))
local macro_rules | `(tactic| k_mem) => `(tactic| assumption)
local macro_rules | `(tactic| k_all) => `(tactic| assumption)
section
variable {prog : Program} {w : World} {p : Program} {loose : List Str} {mean : ExcName → Option Value} {mg mb : Str → Option Value} {dp un : Nat} {gd : Option (List Code)} {env : Env} {outer : List Env} {A₀ : Around} {base h₀ : Heap} {L : Addr} {m : Str → Option Value} {news : List (Addr × Obj)} {s : Shared} {Q E : Value → Shared → Prop}
local macro_rules | `(tactic| mul_fits) => `(tactic| exact Mulable.ok (by assumption) (by omega) (by omega) (by omega) (by omega))
local macro_rules | `(tactic| walk_at "CompEnd") => `(tactic| (k_dflt (first
  | (refine' pair_end ?F ?N ?off ?l1 ?l2 ?l3 ?S ?hc ?hg; (case F => assumption); (case N => assumption); (case off => assumption); (case l1 => omega); (case l2 => omega); (case l3 => omega); (case S => exact Or.inr ⟨_, by k_mem, rfl, _, rfl⟩); (case hc => exact decide_eq_true ⟨by omega, by omega⟩); (case hg => rfl))
  | (refine' skip_end ?F ?N ?off ?S ?hc; (case F => assumption); (case N => assumption); (case off => assumption); (case S => exact Or.inr ⟨_, by k_mem, rfl, _, rfl⟩); (case hc => exact decide_eq_false (by omega))))))
set_option maxHeartbeats 2000000 in
theorem covered_c (B : Below A₀ base outer h₀) (F : Fr h₀ L s.heap m) (X : (Mine.hd.heap_1 w.params).In h₀) (N : News h₀ L s.heap news) (T : Top p loose mean mg mb h₀) (hf : env.frame = some L) (hk : env.scope.kind = .function) (hdp : dp + 60 < recursionLimit) (hun : un + 500 < cLine)
    {M D : Int} {Bd : Nat} {l : Addr} {vs : List Value} {nl : Nat} {rs : List R4} (hM : Mulable M) (hMD : 6 * D ≤ M) (hBD : 2 * D ≤ Bd) (ml : (l, listOf vs.toArray nl) ∈ news) (hD : DatAll news vs (rs.map rowD)) (hlen : rs.length ≤ 4) (hpos : 0 < rs.length) (hb : ∀ r ∈ rs, (-D ≤ r.x ∧ r.x ≤ D) ∧ (-D ≤ r.y ∧ r.y ≤ D) ∧ (1 ≤ r.w ∧ r.w ≤ D) ∧ (1 ≤ r.h ∧ r.h ≤ D))
    (hret : ∀ ss : List Int, (∀ k, k ∈ ss ↔ k ∈ (rs.map R4.x ++ rs.map fun r => r.x + r.w)) → ss.Pairwise (· ≤ ·) → ∀ (t : Tok) h' d' tk', Fr h₀ L h' m → News h₀ L h' news → Q (.int (coverA Bd rs ss (ss.length - 1)) t) { s with heap := h', drawn := d', toks := tk' }) :
    wpAny (model prog w) { handled := none, depth := dp, frames := some (env :: outer), guards := gd, units := un } (call (.ref 238) [.ref l]) Q E s := by
  have hl := hD.length
  rw [List.length_map] at hl
  refine wpAny_call ?_
  refine' code_defC B F X N T rfl hf hk ?k6 ?k7 ?k8 ?k9 ?kB ?kD ?_ ?c2 ?c3 ?c4
  case k6 => k_is
  case k7 => k_is
  case k8 => (show dp < recursionLimit; omega)
  case k9 => first | exact BindsTo.of_eq rfl | exact binds_K (by k_in) rfl (by k_is) rfl rfl rfl
  case kB => exact rfl
  case kD => decide +kernel
  case c2 => exact rfl
  case c3 => exact rfl
  case c4 => exact rfl
  intro g' L' h' tk' cells' FG' F' N' Y' B' X' T' l1
  have hcl1 : AllLt (L' + 1) news := allLt_of fun p hp => Nat.lt_succ_of_lt (l1 p hp)
  have hcl2 : AllLt (L' + 1 + 1) news := allLt_of fun p hp => Nat.lt_succ_of_lt (Nat.lt_succ_of_lt (l1 p hp))
  k_cells Y'
  (try simp only [List.cons_append, List.nil_append] at N')
  (try dsimp only)
  (try k_fold)
  (repeat' (first | (k_unfold; (try dsimp only)) | (k_end; wrow_close) | ((with_reducible show wpAny _ _ (call (Value.type "range") [Value.int _ _]) _ _ _); k_dflt (refine' range1_N (by k_asm) (by k_asm) ?_); intro r9 h9 tk9 u9 v9 F9 N9 lt9; (try k_lt lt9); (try k_sweep)) | ((with_reducible show wpAny _ _ (call (Value.builtin "len") [Value.ref _]) _ _ _); k_dflt (refine' len_listN (by k_asm) (by k_mem) (by first | exact IntsAre.length (by assumption) | assumption) (by omega) ?_); intro t9 tk9; (try k_sweep)) | ((with_reducible show wpAny _ _ (exec (Stmt.For ..) _) _ _ _); ((rename Fr _ _ _ _ => lF'); (with_unfolding_all refine' For_invTF lF' ?_ (by (intro _; rfl)); k_whole))) | ((with_reducible show wpAny _ _ (call (Value.builtin "sorted") [Value.ref _]) _ _ _); k_dflt (refine' sorted_pairs_N (ps := slabP rs lo hi') (by k_asm) (by k_asm) (by k_mem) (datall_mono (by (intro p hp; exact List.mem_cons_of_mem _ hp)) hi9) (by exact Nat.le_trans (by unfold slabP; rw [List.length_map]; exact List.length_filter_le _ _) hlen) ?_); intro P9 h9 vs8 ps8 e8 F9 N9 lt8 D8 perm8 up8; (try k_lt lt8); (try k_sweep)) | ((with_reducible show LCt.CompSrcT ..); (k_dflt (refine' LCt.CompSrcT.ledger (by rfl) (by k_asm) (by k_asm) (by k_mem) (by (rw [PySem.sizeLine_eq, List.size_toArray]; omega)) ?_; intro g9; (refine' rows_compT (fun r => decide (r.x ≤ lo ∧ hi' ≤ r.x + r.w)) (fun r => (r.y, r.y + r.h)) (datMono2 (by assumption) (by (intro p hp; repeat' (first | exact hp | refine List.mem_cons_of_mem _ ?_)))) (fun nx9 r9 t9 t19 t29 t39 t49 n9 I9 oI9 C9 oC9 D9 m29 ys9 h9 tk9 E9 hr9 hs9 hm9 hC9 hx9 F9 N9 off9 ne9 => ?_) (fun ys9 nx9 hs9 hi9 => ?_)); all_goals (have q1 := hs9 _ (.head _)); all_goals (have q2 := hs9 _ (.tail _ (.head _))); all_goals (have q3 := hs9 _ (.tail _ (.tail _ (.head _)))); all_goals (have q4 := hs9 _ (.tail _ (.tail _ (.tail _ ml1)))); all_goals (try k_fold)))) | ((with_reducible show wpAny _ _ (eval (Expr.ListComp _ [⟨_, _, [_], _⟩] _ _) _) _ _ _); k_dflt (refine LCt.ListComp_T (F₀ := by k_asm) (by with_unfolding_all rfl) (by decide) (by rfl) (by decide) (by rfl) ?_)) | ((with_reducible show wpAny _ _ (subscriptTail _ _ (Value.ref _) (Value.int _ _)) _ _ _); k_dflt (refine' item_listN (by k_asm) (by k_mem) (by first | decide | omega) (by first | decide | omega) (by first | rfl | assumption) ?_; k_whole)) | ((with_reducible show wpAny _ _ (call (Value.builtin "sorted") [Value.ref _]) _ _ _); k_dflt (refine' sorted_set_N (by k_asm) (by k_asm) (by exact rfl) (by k_mem) (by assumption) (by (simp only [List.length_append, List.length_map]; omega)) ?_); intro l9 h9 d9 tk9 vs9 ns9 e9 F9 N9 lt9 i9 mem9 up9 len9; (try k_lt lt9); (try simp only [List.length_append, List.length_map] at len9); (try k_sweep)) | ((with_reducible show wpAny _ _ (call (Value.type "set") [Value.ref _]) _ _ _); k_dflt (refine' set_N (by k_asm) (by k_asm) (by exact rfl) (by k_mem) (by assumption) (by (simp only [List.length_append, List.length_map]; omega)) ?_); intro a9 h9 tk9 o9 F9 N9 S9 lt9; (try k_lt lt9); (try k_sweep)) | ((with_reducible show wpAny _ _ (subscriptTail _ _ (Value.ref _) (Value.int _ _)) _ _ _); k_dflt (refine' item_tupleT (by exact News.isTup (by k_asm) (by k_mem)) (by decide) (by decide) (by rfl) (by rfl) ?_; k_whole)) | ((with_reducible show LCg.CompEnd ..); (k_dflt (refine' LCg.CompEnd.intro (by assumption) (by assumption) _ (fun p hp => hp) (by assumption) (by (exact Or.inr ⟨_, by k_mem, rfl, _, rfl⟩)) (intEl rfl)))) | ((with_reducible show LCg.CompSrc ..); (k_dflt (refine' LCg.CompSrc.ledger (by rfl) (by k_asm) (by k_asm) (by k_mem) (by (rw [PySem.sizeLine_eq, List.size_toArray]; omega)) ?_; intro g'; (refine' rows_compG (datMono2 (by assumption) (by (intro p hp; repeat' (first | exact hp | refine List.mem_cons_of_mem _ ?_)))) (fun r' t' t1' t2' t3' t4' n' I' oI' C' oC' D' m' ys' h' tk' E' hr' hm' hC' hx' F' N' off' ne' => ?_) (fun ys' hi' => ?_)); all_goals (try simp only [gOf, fld] at hi'); all_goals (try k_fold)))) | ((with_reducible show wpAny _ _ (eval (Expr.ListComp _ [⟨_, _, [], _⟩] _ _) _) _ _ _); k_dflt (refine LCg.ListComp_U (F₀ := by k_asm) (by with_unfolding_all rfl) (by decide) (by rfl) (by decide) (by rfl) ?_)) | walk1 | (dsimp only; walk1) | (leave1; walk_say "STEP leave1"; try dsimp only) | fail "no step"))
  rename Fr _ _ _ _ => kF
  rename News _ _ _ _ => kN
  rename IntsAre _ _ => kI
  rename List.Pairwise _ _ => kup
  rename (∀ k, k ∈ _ ↔ _) => kmem
  rename (List.length _ ≤ List.length _ + List.length _) => klen
  rename (Obj.data _ = Data.cell (some (Value.ref _))) => kds
  have hR := range_at kN (List.Mem.head _)
  have kN2 := cov_start kN
  obtain ⟨mm, hm1, hm2, kF2⟩ : ∃ mm : Str → Option Value, mm "area" = some _ ∧ mm "rows" = some _ ∧ Fr _ _ _ mm := ⟨_, rfl, rfl, kF⟩
  have hpos2 : 0 < List.length ns9 := List.length_pos_of_mem ((kmem (rs[0]'hpos).x).mpr (List.mem_append_left _ (List.mem_map.mpr ⟨_, List.getElem_mem hpos, rfl⟩)))
  refine' iterT_range (CovJ Bd rs ns9 l mm _ _) ?hh hR ?hsm (range_sizeL hpos2) kF2 kN2 (cov_j0 hm1 hm2 ?hok) ?hname ?turn ?done
  case hh => rfl
  case hsm => exact range_smallL hpos2 (by omega)
  case hok => assumption
  case hname => exact ⟨_, _, rfl⟩
  case turn =>
    rintro i t m₁ nx s₁ own hi hoff ⟨u1, u2, u3, ta, ok, c, rfl, rfl, hok⟩ F₁ N₁
    have hi1 : i < ns9.length := by omega
    have hi2 : i + 1 < ns9.length := by omega
    obtain ⟨z1, hz1⟩ := ints_at kI hi1
    obtain ⟨z2, hz2⟩ := ints_at kI hi2
    obtain ⟨kk, hkk⟩ : ∃ kk : Int, kk = 0 + (i : Int) := ⟨_, rfl⟩
    rw [← hkk]
    have hk0 : 0 ≤ kk := by omega
    have hk1 : kk < 1000 := by omega
    have hx1 : vs9[kk.toNat]? = some (.int (ns9.getD i 0) z1) := by rw [show kk.toNat = i by omega]; exact hz1
    have hx2 : vs9[(kk + 1).toNat]? = some (.int (ns9.getD (i + 1) 0) z2) := by rw [show (kk + 1).toNat = i + 1 by omega]; exact hz2
    have hA : coverA Bd rs ns9 (i + 1) = coverA Bd rs ns9 i + (ns9.getD (i + 1) 0 - ns9.getD i 0) * covB Bd (slabP rs (ns9.getD i 0) (ns9.getD (i + 1) 0)) := rfl
    have hlob := sides_bound hb kmem hi1
    have hhib := sides_bound hb kmem hi2
    generalize ns9.getD i 0 = lo at hx1 hA hlob
    generalize ns9.getD (i + 1) 0 = hi' at hx2 hA hhib
    generalize coverA Bd rs ns9 i = A0 at F₁ hA
    have hb1 : ∀ p ∈ news, p ∈ news ++ own := fun p hp => List.mem_append_left _ hp
    have hb2 : ∀ p ∈ own, p ∈ news ++ own := fun p hp => List.mem_append_right _ hp
    have hb3 : ∀ p ∈ news ++ own, p.1 ≠ L' + 1 + 1 := big_off hoff hcl2
    simp only [List.cons_append] at N₁
    generalize news ++ own = big at N₁ hb1 hb2 hb3
    have ml1 := hb1 _ ml
    have hD1 := datall_mono hb1 hD
    clear kF2 kN2 kF kN hR
    (repeat' (first | (k_unfold; (try dsimp only)) | (k_end; wrow_close) | ((with_reducible show wpAny _ _ (call (Value.type "range") [Value.int _ _]) _ _ _); k_dflt (refine' range1_N (by k_asm) (by k_asm) ?_); intro r9 h9 tk9 u9 v9 F9 N9 lt9; (try k_lt lt9); (try k_sweep)) | ((with_reducible show wpAny _ _ (call (Value.builtin "len") [Value.ref _]) _ _ _); k_dflt (refine' len_listN (by k_asm) (by k_mem) (by first | exact IntsAre.length (by assumption) | assumption) (by omega) ?_); intro t9 tk9; (try k_sweep)) | ((with_reducible show wpAny _ _ (exec (Stmt.For ..) _) _ _ _); ((rename Fr _ _ _ _ => lF'); (with_unfolding_all refine' For_invTF lF' ?_ (by (intro _; rfl)); k_whole))) | ((with_reducible show wpAny _ _ (call (Value.builtin "sorted") [Value.ref _]) _ _ _); k_dflt (refine' sorted_pairs_N (ps := slabP rs lo hi') (by k_asm) (by k_asm) (by k_mem) (datall_mono (by (intro p hp; exact List.mem_cons_of_mem _ hp)) hi9) (by exact Nat.le_trans (by unfold slabP; rw [List.length_map]; exact List.length_filter_le _ _) hlen) ?_); intro P9 h9 vs8 ps8 e8 F9 N9 lt8 D8 perm8 up8; (try k_lt lt8); (try k_sweep)) | ((with_reducible show LCt.CompSrcT ..); (k_dflt (refine' LCt.CompSrcT.ledger (by rfl) (by k_asm) (by k_asm) (by k_mem) (by (rw [PySem.sizeLine_eq, List.size_toArray]; omega)) ?_; intro g9; (refine' rows_compT (fun r => decide (r.x ≤ lo ∧ hi' ≤ r.x + r.w)) (fun r => (r.y, r.y + r.h)) (datMono2 (by assumption) (by (intro p hp; repeat' (first | exact hp | refine List.mem_cons_of_mem _ ?_)))) (fun nx9 r9 t9 t19 t29 t39 t49 n9 I9 oI9 C9 oC9 D9 m29 ys9 h9 tk9 E9 hr9 hs9 hm9 hC9 hx9 F9 N9 off9 ne9 => ?_) (fun ys9 nx9 hs9 hi9 => ?_)); all_goals (have q1 := hs9 _ (.head _)); all_goals (have q2 := hs9 _ (.tail _ (.head _))); all_goals (have q3 := hs9 _ (.tail _ (.tail _ (.head _)))); all_goals (have q4 := hs9 _ (.tail _ (.tail _ (.tail _ ml1)))); all_goals (try k_fold)))) | ((with_reducible show wpAny _ _ (eval (Expr.ListComp _ [⟨_, _, [_], _⟩] _ _) _) _ _ _); k_dflt (refine LCt.ListComp_T (F₀ := by k_asm) (by with_unfolding_all rfl) (by decide) (by rfl) (by decide) (by rfl) ?_)) | ((with_reducible show wpAny _ _ (subscriptTail _ _ (Value.ref _) (Value.int _ _)) _ _ _); k_dflt (refine' item_listN (by k_asm) (by k_mem) (by first | decide | omega) (by first | decide | omega) (by first | rfl | assumption) ?_; k_whole)) | ((with_reducible show wpAny _ _ (call (Value.builtin "sorted") [Value.ref _]) _ _ _); k_dflt (refine' sorted_set_N (by k_asm) (by k_asm) (by exact rfl) (by k_mem) (by assumption) (by (simp only [List.length_append, List.length_map]; omega)) ?_); intro l9 h9 d9 tk9 vs9 ns9 e9 F9 N9 lt9 i9 mem9 up9 len9; (try k_lt lt9); (try simp only [List.length_append, List.length_map] at len9); (try k_sweep)) | ((with_reducible show wpAny _ _ (call (Value.type "set") [Value.ref _]) _ _ _); k_dflt (refine' set_N (by k_asm) (by k_asm) (by exact rfl) (by k_mem) (by assumption) (by (simp only [List.length_append, List.length_map]; omega)) ?_); intro a9 h9 tk9 o9 F9 N9 S9 lt9; (try k_lt lt9); (try k_sweep)) | ((with_reducible show wpAny _ _ (subscriptTail _ _ (Value.ref _) (Value.int _ _)) _ _ _); k_dflt (refine' item_tupleT (by exact News.isTup (by k_asm) (by k_mem)) (by decide) (by decide) (by rfl) (by rfl) ?_; k_whole)) | ((with_reducible show LCg.CompEnd ..); (k_dflt (refine' LCg.CompEnd.intro (by assumption) (by assumption) _ (fun p hp => hp) (by assumption) (by (exact Or.inr ⟨_, by k_mem, rfl, _, rfl⟩)) (intEl rfl)))) | ((with_reducible show LCg.CompSrc ..); (k_dflt (refine' LCg.CompSrc.ledger (by rfl) (by k_asm) (by k_asm) (by k_mem) (by (rw [PySem.sizeLine_eq, List.size_toArray]; omega)) ?_; intro g'; (refine' rows_compG (datMono2 (by assumption) (by (intro p hp; repeat' (first | exact hp | refine List.mem_cons_of_mem _ ?_)))) (fun r' t' t1' t2' t3' t4' n' I' oI' C' oC' D' m' ys' h' tk' E' hr' hm' hC' hx' F' N' off' ne' => ?_) (fun ys' hi' => ?_)); all_goals (try simp only [gOf, fld] at hi'); all_goals (try k_fold)))) | ((with_reducible show wpAny _ _ (eval (Expr.ListComp _ [⟨_, _, [], _⟩] _ _) _) _ _ _); k_dflt (refine LCg.ListComp_U (F₀ := by k_asm) (by with_unfolding_all rfl) (by decide) (by rfl) (by decide) (by rfl) ?_)) | walk1 | (dsimp only; walk1) | (leave1; walk_say "STEP leave1"; try dsimp only) | fail "no step"))
    have hsb := slab_bound (lo := lo) (hi := hi') hb
    have hln := D8.length
    rw [List.length_map] at hln
    rename (Obj.data _ = Data.cell (some (Value.int _ _))) => kdk
    obtain ⟨nb, hnb, N10, q0, q1, q2, q3, D8, b1, b2⟩ : ∃ nb, nb = _ ∧ News _ _ _ nb ∧ (P9, W.listOf vs8.toArray e8) ∈ nb ∧ (_, _) ∈ nb ∧ (_, _) ∈ nb ∧ (_, _) ∈ nb ∧ DatAll nb vs8 (ps8.map pairD) ∧ (∀ p ∈ news, p ∈ nb) ∧ (∀ p ∈ own, p ∈ nb) := ⟨_, rfl, N9, .head _, .tail _ (.tail _ q1), .tail _ (.tail _ q2), .tail _ (.tail _ q3), datall_mono (fun p hp => .tail _ hp) D8, fun p hp => .tail _ (.tail _ (hs9 _ (.tail _ (.tail _ (.tail _ (hb1 p hp)))))), fun p hp => .tail _ (.tail _ (hs9 _ (.tail _ (.tail _ (.tail _ (hb2 p hp))))))⟩
    clear hnb
    refine' iterT_list (SwJ Bd (hi' - lo) A0 ps8 l mm nb) ?hh q0 F9 N10 ?hj (.inl ⟨_, _, _, rfl⟩) ?turn2 ?done2
    case hh => rfl
    case hj => exact ⟨u1, u2, none, ta, 0, A0, frC_of rfl rfl rfl rfl rfl (by intro z e1 e2 e3 e4 e5; simp [frC, e1, e2, e3, e4, e5]), rfl, sw_start⟩
    case turn2 =>
      rintro j v m₂ nx2 s₂ own2 hv hoff2 hl2 ⟨v1, v2, top, ta2, tt2, A, rfl, hnx, hsw⟩ F₂ N₂
      rw [hnx] at N₂ hoff2 hl2
      clear hnx
      have hj : j < ps8.length := by rw [← hln]; exact (List.getElem?_eq_some_iff.mp hv).1
      obtain ⟨v', hv', hd⟩ := pairs_get D8 hj
      rw [hv] at hv'
      cases hv'
      obtain ⟨T9, y1, y2, n8, rfl, hmT⟩ := pair_open hd
      obtain ⟨pr, hpr⟩ : ∃ pr, ps8[j]? = some pr := ⟨_, List.getElem?_eq_getElem hj⟩
      rw [(List.getElem?_eq_some_iff.mp hpr).2] at hmT
      have hprm := hsb pr (perm8.mem_iff.mp (List.mem_of_getElem? hpr))
      have hlow := lows_before up8 hpr
      have htk : ps8.take (j + 1) = ps8.take j ++ [pr] := by rw [List.take_add_one, hpr]; rfl
      have htop : ∀ T, top = some T → -D ≤ T ∧ T ≤ 2 * D := fun T hT => by
        obtain ⟨q, hq, e⟩ := (hsw.hs T hT).1
        have := hsb q (perm8.mem_iff.mp (List.mem_of_mem_take hq))
        omega
      obtain ⟨pa, pb⟩ := pr
      dsimp only at hprm hlow hmT
      have w0 : ∀ p ∈ nb, p ∈ nb ++ own2 := fun p hp => List.mem_append_left _ hp
      have w5 : ∀ p ∈ own2, p ∈ nb ++ own2 := fun p hp => List.mem_append_right _ hp
      have w1 := w0 _ q1
      have w2 := w0 _ q2
      have w3 := w0 _ q3
      have w4 := w0 _ hmT
      generalize hbig : nb ++ own2 = big2 at N₂ w0 w1 w2 w3 w4 w5
      clear hbig hl2
      cases top with
      | none =>
        dsimp only [topV] at F₂
        (repeat' (first | (k_unfold; (try dsimp only)) | (k_end; wrow_close) | ((with_reducible show wpAny _ _ (call (Value.type "range") [Value.int _ _]) _ _ _); k_dflt (refine' range1_N (by k_asm) (by k_asm) ?_); intro r9 h9 tk9 u9 v9 F9 N9 lt9; (try k_lt lt9); (try k_sweep)) | ((with_reducible show wpAny _ _ (call (Value.builtin "len") [Value.ref _]) _ _ _); k_dflt (refine' len_listN (by k_asm) (by k_mem) (by first | exact IntsAre.length (by assumption) | assumption) (by omega) ?_); intro t9 tk9; (try k_sweep)) | ((with_reducible show wpAny _ _ (exec (Stmt.For ..) _) _ _ _); ((rename Fr _ _ _ _ => lF'); (with_unfolding_all refine' For_invTF lF' ?_ (by (intro _; rfl)); k_whole))) | ((with_reducible show wpAny _ _ (call (Value.builtin "sorted") [Value.ref _]) _ _ _); k_dflt (refine' sorted_pairs_N (ps := slabP rs lo hi') (by k_asm) (by k_asm) (by k_mem) (datall_mono (by (intro p hp; exact List.mem_cons_of_mem _ hp)) hi9) (by exact Nat.le_trans (by unfold slabP; rw [List.length_map]; exact List.length_filter_le _ _) hlen) ?_); intro P9 h9 vs8 ps8 e8 F9 N9 lt8 D8 perm8 up8; (try k_lt lt8); (try k_sweep)) | ((with_reducible show LCt.CompSrcT ..); (k_dflt (refine' LCt.CompSrcT.ledger (by rfl) (by k_asm) (by k_asm) (by k_mem) (by (rw [PySem.sizeLine_eq, List.size_toArray]; omega)) ?_; intro g9; (refine' rows_compT (fun r => decide (r.x ≤ lo ∧ hi' ≤ r.x + r.w)) (fun r => (r.y, r.y + r.h)) (datMono2 (by assumption) (by (intro p hp; repeat' (first | exact hp | refine List.mem_cons_of_mem _ ?_)))) (fun nx9 r9 t9 t19 t29 t39 t49 n9 I9 oI9 C9 oC9 D9 m29 ys9 h9 tk9 E9 hr9 hs9 hm9 hC9 hx9 F9 N9 off9 ne9 => ?_) (fun ys9 nx9 hs9 hi9 => ?_)); all_goals (have q1 := hs9 _ (.head _)); all_goals (have q2 := hs9 _ (.tail _ (.head _))); all_goals (have q3 := hs9 _ (.tail _ (.tail _ (.head _)))); all_goals (have q4 := hs9 _ (.tail _ (.tail _ (.tail _ ml1)))); all_goals (try k_fold)))) | ((with_reducible show wpAny _ _ (eval (Expr.ListComp _ [⟨_, _, [_], _⟩] _ _) _) _ _ _); k_dflt (refine LCt.ListComp_T (F₀ := by k_asm) (by with_unfolding_all rfl) (by decide) (by rfl) (by decide) (by rfl) ?_)) | ((with_reducible show wpAny _ _ (subscriptTail _ _ (Value.ref _) (Value.int _ _)) _ _ _); k_dflt (refine' item_listN (by k_asm) (by k_mem) (by first | decide | omega) (by first | decide | omega) (by first | rfl | assumption) ?_; k_whole)) | ((with_reducible show wpAny _ _ (call (Value.builtin "sorted") [Value.ref _]) _ _ _); k_dflt (refine' sorted_set_N (by k_asm) (by k_asm) (by exact rfl) (by k_mem) (by assumption) (by (simp only [List.length_append, List.length_map]; omega)) ?_); intro l9 h9 d9 tk9 vs9 ns9 e9 F9 N9 lt9 i9 mem9 up9 len9; (try k_lt lt9); (try simp only [List.length_append, List.length_map] at len9); (try k_sweep)) | ((with_reducible show wpAny _ _ (call (Value.type "set") [Value.ref _]) _ _ _); k_dflt (refine' set_N (by k_asm) (by k_asm) (by exact rfl) (by k_mem) (by assumption) (by (simp only [List.length_append, List.length_map]; omega)) ?_); intro a9 h9 tk9 o9 F9 N9 S9 lt9; (try k_lt lt9); (try k_sweep)) | ((with_reducible show wpAny _ _ (subscriptTail _ _ (Value.ref _) (Value.int _ _)) _ _ _); k_dflt (refine' item_tupleT (by exact News.isTup (by k_asm) (by k_mem)) (by decide) (by decide) (by rfl) (by rfl) ?_; k_whole)) | ((with_reducible show LCg.CompEnd ..); (k_dflt (refine' LCg.CompEnd.intro (by assumption) (by assumption) _ (fun p hp => hp) (by assumption) (by (exact Or.inr ⟨_, by k_mem, rfl, _, rfl⟩)) (intEl rfl)))) | ((with_reducible show LCg.CompSrc ..); (k_dflt (refine' LCg.CompSrc.ledger (by rfl) (by k_asm) (by k_asm) (by k_mem) (by (rw [PySem.sizeLine_eq, List.size_toArray]; omega)) ?_; intro g'; (refine' rows_compG (datMono2 (by assumption) (by (intro p hp; repeat' (first | exact hp | refine List.mem_cons_of_mem _ ?_)))) (fun r' t' t1' t2' t3' t4' n' I' oI' C' oC' D' m' ys' h' tk' E' hr' hm' hC' hx' F' N' off' ne' => ?_) (fun ys' hi' => ?_)); all_goals (try simp only [gOf, fld] at hi'); all_goals (try k_fold)))) | ((with_reducible show wpAny _ _ (eval (Expr.ListComp _ [⟨_, _, [], _⟩] _ _) _) _ _ _); k_dflt (refine LCg.ListComp_U (F₀ := by k_asm) (by with_unfolding_all rfl) (by decide) (by rfl) (by decide) (by rfl) ?_)) | walk1 | (dsimp only; walk1) | (leave1; walk_say "STEP leave1"; try dsimp only) | fail "no step"))
        all_goals (rename Fr _ _ _ _ => kF9; rename News _ _ _ _ => kN9)
        all_goals (first
          | exact sw_end (pr := (pa, pb)) (top' := some pb) (t' := y2) kF9 kN9 w0 w5 hoff2 q0 (frC_of rfl rfl rfl rfl rfl (by intro z e1 e2 e3 e4 e5; simp [frC, e1, e2, e3, e4, e5])) htk (hsw.fresh (by dsimp only; omega) (by dsimp only; omega) (by dsimp only; omega) (fun _ e => by cases e))
          | (exfalso; simp only [decide_eq_true_eq, decide_eq_false_iff_not] at *; omega)
          | fail "left")
      | some T =>
        have hTb := htop T rfl
        dsimp only [topV] at F₂
        (repeat' (first | (k_unfold; (try dsimp only)) | (k_end; wrow_close) | ((with_reducible show wpAny _ _ (call (Value.type "range") [Value.int _ _]) _ _ _); k_dflt (refine' range1_N (by k_asm) (by k_asm) ?_); intro r9 h9 tk9 u9 v9 F9 N9 lt9; (try k_lt lt9); (try k_sweep)) | ((with_reducible show wpAny _ _ (call (Value.builtin "len") [Value.ref _]) _ _ _); k_dflt (refine' len_listN (by k_asm) (by k_mem) (by first | exact IntsAre.length (by assumption) | assumption) (by omega) ?_); intro t9 tk9; (try k_sweep)) | ((with_reducible show wpAny _ _ (exec (Stmt.For ..) _) _ _ _); ((rename Fr _ _ _ _ => lF'); (with_unfolding_all refine' For_invTF lF' ?_ (by (intro _; rfl)); k_whole))) | ((with_reducible show wpAny _ _ (call (Value.builtin "sorted") [Value.ref _]) _ _ _); k_dflt (refine' sorted_pairs_N (ps := slabP rs lo hi') (by k_asm) (by k_asm) (by k_mem) (datall_mono (by (intro p hp; exact List.mem_cons_of_mem _ hp)) hi9) (by exact Nat.le_trans (by unfold slabP; rw [List.length_map]; exact List.length_filter_le _ _) hlen) ?_); intro P9 h9 vs8 ps8 e8 F9 N9 lt8 D8 perm8 up8; (try k_lt lt8); (try k_sweep)) | ((with_reducible show LCt.CompSrcT ..); (k_dflt (refine' LCt.CompSrcT.ledger (by rfl) (by k_asm) (by k_asm) (by k_mem) (by (rw [PySem.sizeLine_eq, List.size_toArray]; omega)) ?_; intro g9; (refine' rows_compT (fun r => decide (r.x ≤ lo ∧ hi' ≤ r.x + r.w)) (fun r => (r.y, r.y + r.h)) (datMono2 (by assumption) (by (intro p hp; repeat' (first | exact hp | refine List.mem_cons_of_mem _ ?_)))) (fun nx9 r9 t9 t19 t29 t39 t49 n9 I9 oI9 C9 oC9 D9 m29 ys9 h9 tk9 E9 hr9 hs9 hm9 hC9 hx9 F9 N9 off9 ne9 => ?_) (fun ys9 nx9 hs9 hi9 => ?_)); all_goals (have q1 := hs9 _ (.head _)); all_goals (have q2 := hs9 _ (.tail _ (.head _))); all_goals (have q3 := hs9 _ (.tail _ (.tail _ (.head _)))); all_goals (have q4 := hs9 _ (.tail _ (.tail _ (.tail _ ml1)))); all_goals (try k_fold)))) | ((with_reducible show wpAny _ _ (eval (Expr.ListComp _ [⟨_, _, [_], _⟩] _ _) _) _ _ _); k_dflt (refine LCt.ListComp_T (F₀ := by k_asm) (by with_unfolding_all rfl) (by decide) (by rfl) (by decide) (by rfl) ?_)) | ((with_reducible show wpAny _ _ (subscriptTail _ _ (Value.ref _) (Value.int _ _)) _ _ _); k_dflt (refine' item_listN (by k_asm) (by k_mem) (by first | decide | omega) (by first | decide | omega) (by first | rfl | assumption) ?_; k_whole)) | ((with_reducible show wpAny _ _ (call (Value.builtin "sorted") [Value.ref _]) _ _ _); k_dflt (refine' sorted_set_N (by k_asm) (by k_asm) (by exact rfl) (by k_mem) (by assumption) (by (simp only [List.length_append, List.length_map]; omega)) ?_); intro l9 h9 d9 tk9 vs9 ns9 e9 F9 N9 lt9 i9 mem9 up9 len9; (try k_lt lt9); (try simp only [List.length_append, List.length_map] at len9); (try k_sweep)) | ((with_reducible show wpAny _ _ (call (Value.type "set") [Value.ref _]) _ _ _); k_dflt (refine' set_N (by k_asm) (by k_asm) (by exact rfl) (by k_mem) (by assumption) (by (simp only [List.length_append, List.length_map]; omega)) ?_); intro a9 h9 tk9 o9 F9 N9 S9 lt9; (try k_lt lt9); (try k_sweep)) | ((with_reducible show wpAny _ _ (subscriptTail _ _ (Value.ref _) (Value.int _ _)) _ _ _); k_dflt (refine' item_tupleT (by exact News.isTup (by k_asm) (by k_mem)) (by decide) (by decide) (by rfl) (by rfl) ?_; k_whole)) | ((with_reducible show LCg.CompEnd ..); (k_dflt (refine' LCg.CompEnd.intro (by assumption) (by assumption) _ (fun p hp => hp) (by assumption) (by (exact Or.inr ⟨_, by k_mem, rfl, _, rfl⟩)) (intEl rfl)))) | ((with_reducible show LCg.CompSrc ..); (k_dflt (refine' LCg.CompSrc.ledger (by rfl) (by k_asm) (by k_asm) (by k_mem) (by (rw [PySem.sizeLine_eq, List.size_toArray]; omega)) ?_; intro g'; (refine' rows_compG (datMono2 (by assumption) (by (intro p hp; repeat' (first | exact hp | refine List.mem_cons_of_mem _ ?_)))) (fun r' t' t1' t2' t3' t4' n' I' oI' C' oC' D' m' ys' h' tk' E' hr' hm' hC' hx' F' N' off' ne' => ?_) (fun ys' hi' => ?_)); all_goals (try simp only [gOf, fld] at hi'); all_goals (try k_fold)))) | ((with_reducible show wpAny _ _ (eval (Expr.ListComp _ [⟨_, _, [], _⟩] _ _) _) _ _ _); k_dflt (refine LCg.ListComp_U (F₀ := by k_asm) (by with_unfolding_all rfl) (by decide) (by rfl) (by decide) (by rfl) ?_)) | walk1 | (dsimp only; walk1) | (leave1; walk_say "STEP leave1"; try dsimp only) | fail "no step"))
        all_goals (rename Fr _ _ _ _ => kF9; rename News _ _ _ _ => kN9)
        all_goals (first
          | exact sw_end (pr := (pa, pb)) (top' := some pb) (t' := y2) kF9 kN9 w0 w5 hoff2 q0 (frC_of rfl rfl rfl rfl rfl (by intro z e1 e2 e3 e4 e5; simp [frC, e1, e2, e3, e4, e5])) htk (hsw.fresh (by dsimp only; omega) (by dsimp only; omega) (by dsimp only; omega) (fun _ e => by cases e; dsimp only; omega))
          | exact sw_end (pr := (pa, pb)) (top' := some pb) (t' := y2) kF9 kN9 w0 w5 hoff2 q0 (frC_of rfl rfl rfl rfl rfl (by intro z e1 e2 e3 e4 e5; simp [frC, e1, e2, e3, e4, e5])) htk (hsw.more hlow (by dsimp only; omega) (by dsimp only; omega) (by dsimp only; omega) (by dsimp only; omega))
          | exact sw_end (pr := (pa, pb)) (top' := some T) (t' := tt2) kF9 kN9 w0 w5 hoff2 q0 (frC_of rfl rfl rfl rfl rfl (by intro z e1 e2 e3 e4 e5; simp [frC, e1, e2, e3, e4, e5])) htk (hsw.skip hlow (by dsimp only; omega) (by dsimp only; omega) (by dsimp only; omega) (by dsimp only; omega))
          | (exfalso; simp only [decide_eq_true_eq, decide_eq_false_iff_not] at *; omega)
          | fail "left")
    case done2 =>
      rintro m₂ nx2 h2 tk2 hl2 ⟨v1, v2, top, ta2, tt2, A, rfl, hnx, hsw⟩ F₂ N₂
      rw [hnx] at N₂
      (repeat' (first | (k_unfold; (try dsimp only)) | (k_end; wrow_close) | ((with_reducible show wpAny _ _ (call (Value.type "range") [Value.int _ _]) _ _ _); k_dflt (refine' range1_N (by k_asm) (by k_asm) ?_); intro r9 h9 tk9 u9 v9 F9 N9 lt9; (try k_lt lt9); (try k_sweep)) | ((with_reducible show wpAny _ _ (call (Value.builtin "len") [Value.ref _]) _ _ _); k_dflt (refine' len_listN (by k_asm) (by k_mem) (by first | exact IntsAre.length (by assumption) | assumption) (by omega) ?_); intro t9 tk9; (try k_sweep)) | ((with_reducible show wpAny _ _ (exec (Stmt.For ..) _) _ _ _); ((rename Fr _ _ _ _ => lF'); (with_unfolding_all refine' For_invTF lF' ?_ (by (intro _; rfl)); k_whole))) | ((with_reducible show wpAny _ _ (call (Value.builtin "sorted") [Value.ref _]) _ _ _); k_dflt (refine' sorted_pairs_N (ps := slabP rs lo hi') (by k_asm) (by k_asm) (by k_mem) (datall_mono (by (intro p hp; exact List.mem_cons_of_mem _ hp)) hi9) (by exact Nat.le_trans (by unfold slabP; rw [List.length_map]; exact List.length_filter_le _ _) hlen) ?_); intro P9 h9 vs8 ps8 e8 F9 N9 lt8 D8 perm8 up8; (try k_lt lt8); (try k_sweep)) | ((with_reducible show LCt.CompSrcT ..); (k_dflt (refine' LCt.CompSrcT.ledger (by rfl) (by k_asm) (by k_asm) (by k_mem) (by (rw [PySem.sizeLine_eq, List.size_toArray]; omega)) ?_; intro g9; (refine' rows_compT (fun r => decide (r.x ≤ lo ∧ hi' ≤ r.x + r.w)) (fun r => (r.y, r.y + r.h)) (datMono2 (by assumption) (by (intro p hp; repeat' (first | exact hp | refine List.mem_cons_of_mem _ ?_)))) (fun nx9 r9 t9 t19 t29 t39 t49 n9 I9 oI9 C9 oC9 D9 m29 ys9 h9 tk9 E9 hr9 hs9 hm9 hC9 hx9 F9 N9 off9 ne9 => ?_) (fun ys9 nx9 hs9 hi9 => ?_)); all_goals (have q1 := hs9 _ (.head _)); all_goals (have q2 := hs9 _ (.tail _ (.head _))); all_goals (have q3 := hs9 _ (.tail _ (.tail _ (.head _)))); all_goals (have q4 := hs9 _ (.tail _ (.tail _ (.tail _ ml1)))); all_goals (try k_fold)))) | ((with_reducible show wpAny _ _ (eval (Expr.ListComp _ [⟨_, _, [_], _⟩] _ _) _) _ _ _); k_dflt (refine LCt.ListComp_T (F₀ := by k_asm) (by with_unfolding_all rfl) (by decide) (by rfl) (by decide) (by rfl) ?_)) | ((with_reducible show wpAny _ _ (subscriptTail _ _ (Value.ref _) (Value.int _ _)) _ _ _); k_dflt (refine' item_listN (by k_asm) (by k_mem) (by first | decide | omega) (by first | decide | omega) (by first | rfl | assumption) ?_; k_whole)) | ((with_reducible show wpAny _ _ (call (Value.builtin "sorted") [Value.ref _]) _ _ _); k_dflt (refine' sorted_set_N (by k_asm) (by k_asm) (by exact rfl) (by k_mem) (by assumption) (by (simp only [List.length_append, List.length_map]; omega)) ?_); intro l9 h9 d9 tk9 vs9 ns9 e9 F9 N9 lt9 i9 mem9 up9 len9; (try k_lt lt9); (try simp only [List.length_append, List.length_map] at len9); (try k_sweep)) | ((with_reducible show wpAny _ _ (call (Value.type "set") [Value.ref _]) _ _ _); k_dflt (refine' set_N (by k_asm) (by k_asm) (by exact rfl) (by k_mem) (by assumption) (by (simp only [List.length_append, List.length_map]; omega)) ?_); intro a9 h9 tk9 o9 F9 N9 S9 lt9; (try k_lt lt9); (try k_sweep)) | ((with_reducible show wpAny _ _ (subscriptTail _ _ (Value.ref _) (Value.int _ _)) _ _ _); k_dflt (refine' item_tupleT (by exact News.isTup (by k_asm) (by k_mem)) (by decide) (by decide) (by rfl) (by rfl) ?_; k_whole)) | ((with_reducible show LCg.CompEnd ..); (k_dflt (refine' LCg.CompEnd.intro (by assumption) (by assumption) _ (fun p hp => hp) (by assumption) (by (exact Or.inr ⟨_, by k_mem, rfl, _, rfl⟩)) (intEl rfl)))) | ((with_reducible show LCg.CompSrc ..); (k_dflt (refine' LCg.CompSrc.ledger (by rfl) (by k_asm) (by k_asm) (by k_mem) (by (rw [PySem.sizeLine_eq, List.size_toArray]; omega)) ?_; intro g'; (refine' rows_compG (datMono2 (by assumption) (by (intro p hp; repeat' (first | exact hp | refine List.mem_cons_of_mem _ ?_)))) (fun r' t' t1' t2' t3' t4' n' I' oI' C' oC' D' m' ys' h' tk' E' hr' hm' hC' hx' F' N' off' ne' => ?_) (fun ys' hi' => ?_)); all_goals (try simp only [gOf, fld] at hi'); all_goals (try k_fold)))) | ((with_reducible show wpAny _ _ (eval (Expr.ListComp _ [⟨_, _, [], _⟩] _ _) _) _ _ _); k_dflt (refine LCg.ListComp_U (F₀ := by k_asm) (by with_unfolding_all rfl) (by decide) (by rfl) (by decide) (by rfl) ?_)) | walk1 | (dsimp only; walk1) | (leave1; walk_say "STEP leave1"; try dsimp only) | fail "no step"))
      rename Fr _ _ _ _ => kF9
      rename News _ _ _ _ => kN9
      exact cov_end kF9 kN9 q1 kdk (fun p hp => by
        rcases List.mem_cons.mp hp with rfl | hp
        · exact q2
        · rcases List.mem_cons.mp hp with rfl | hp
          · exact q3
          · exact b1 p hp) b2 hoff rfl (by rw [hA, sw_done hsw hln perm8])
  case done =>
    rintro m₁ nx h tk ⟨u1, u2, u3, ta, ok, c, rfl, rfl, hok⟩ F₁ N₁
    (repeat' (first | (k_unfold; (try dsimp only)) | (k_end; wrow_close) | ((with_reducible show wpAny _ _ (call (Value.type "range") [Value.int _ _]) _ _ _); k_dflt (refine' range1_N (by k_asm) (by k_asm) ?_); intro r9 h9 tk9 u9 v9 F9 N9 lt9; (try k_lt lt9); (try k_sweep)) | ((with_reducible show wpAny _ _ (call (Value.builtin "len") [Value.ref _]) _ _ _); k_dflt (refine' len_listN (by k_asm) (by k_mem) (by first | exact IntsAre.length (by assumption) | assumption) (by omega) ?_); intro t9 tk9; (try k_sweep)) | ((with_reducible show wpAny _ _ (exec (Stmt.For ..) _) _ _ _); ((rename Fr _ _ _ _ => lF'); (with_unfolding_all refine' For_invTF lF' ?_ (by (intro _; rfl)); k_whole))) | ((with_reducible show wpAny _ _ (call (Value.builtin "sorted") [Value.ref _]) _ _ _); k_dflt (refine' sorted_pairs_N (ps := slabP rs lo hi') (by k_asm) (by k_asm) (by k_mem) (datall_mono (by (intro p hp; exact List.mem_cons_of_mem _ hp)) hi9) (by exact Nat.le_trans (by unfold slabP; rw [List.length_map]; exact List.length_filter_le _ _) hlen) ?_); intro P9 h9 vs8 ps8 e8 F9 N9 lt8 D8 perm8 up8; (try k_lt lt8); (try k_sweep)) | ((with_reducible show LCt.CompSrcT ..); (k_dflt (refine' LCt.CompSrcT.ledger (by rfl) (by k_asm) (by k_asm) (by k_mem) (by (rw [PySem.sizeLine_eq, List.size_toArray]; omega)) ?_; intro g9; (refine' rows_compT (fun r => decide (r.x ≤ lo ∧ hi' ≤ r.x + r.w)) (fun r => (r.y, r.y + r.h)) (datMono2 (by assumption) (by (intro p hp; repeat' (first | exact hp | refine List.mem_cons_of_mem _ ?_)))) (fun nx9 r9 t9 t19 t29 t39 t49 n9 I9 oI9 C9 oC9 D9 m29 ys9 h9 tk9 E9 hr9 hs9 hm9 hC9 hx9 F9 N9 off9 ne9 => ?_) (fun ys9 nx9 hs9 hi9 => ?_)); all_goals (have q1 := hs9 _ (.head _)); all_goals (have q2 := hs9 _ (.tail _ (.head _))); all_goals (have q3 := hs9 _ (.tail _ (.tail _ (.head _)))); all_goals (have q4 := hs9 _ (.tail _ (.tail _ (.tail _ ml1)))); all_goals (try k_fold)))) | ((with_reducible show wpAny _ _ (eval (Expr.ListComp _ [⟨_, _, [_], _⟩] _ _) _) _ _ _); k_dflt (refine LCt.ListComp_T (F₀ := by k_asm) (by with_unfolding_all rfl) (by decide) (by rfl) (by decide) (by rfl) ?_)) | ((with_reducible show wpAny _ _ (subscriptTail _ _ (Value.ref _) (Value.int _ _)) _ _ _); k_dflt (refine' item_listN (by k_asm) (by k_mem) (by first | decide | omega) (by first | decide | omega) (by first | rfl | assumption) ?_; k_whole)) | ((with_reducible show wpAny _ _ (call (Value.builtin "sorted") [Value.ref _]) _ _ _); k_dflt (refine' sorted_set_N (by k_asm) (by k_asm) (by exact rfl) (by k_mem) (by assumption) (by (simp only [List.length_append, List.length_map]; omega)) ?_); intro l9 h9 d9 tk9 vs9 ns9 e9 F9 N9 lt9 i9 mem9 up9 len9; (try k_lt lt9); (try simp only [List.length_append, List.length_map] at len9); (try k_sweep)) | ((with_reducible show wpAny _ _ (call (Value.type "set") [Value.ref _]) _ _ _); k_dflt (refine' set_N (by k_asm) (by k_asm) (by exact rfl) (by k_mem) (by assumption) (by (simp only [List.length_append, List.length_map]; omega)) ?_); intro a9 h9 tk9 o9 F9 N9 S9 lt9; (try k_lt lt9); (try k_sweep)) | ((with_reducible show wpAny _ _ (subscriptTail _ _ (Value.ref _) (Value.int _ _)) _ _ _); k_dflt (refine' item_tupleT (by exact News.isTup (by k_asm) (by k_mem)) (by decide) (by decide) (by rfl) (by rfl) ?_; k_whole)) | ((with_reducible show LCg.CompEnd ..); (k_dflt (refine' LCg.CompEnd.intro (by assumption) (by assumption) _ (fun p hp => hp) (by assumption) (by (exact Or.inr ⟨_, by k_mem, rfl, _, rfl⟩)) (intEl rfl)))) | ((with_reducible show LCg.CompSrc ..); (k_dflt (refine' LCg.CompSrc.ledger (by rfl) (by k_asm) (by k_asm) (by k_mem) (by (rw [PySem.sizeLine_eq, List.size_toArray]; omega)) ?_; intro g'; (refine' rows_compG (datMono2 (by assumption) (by (intro p hp; repeat' (first | exact hp | refine List.mem_cons_of_mem _ ?_)))) (fun r' t' t1' t2' t3' t4' n' I' oI' C' oC' D' m' ys' h' tk' E' hr' hm' hC' hx' F' N' off' ne' => ?_) (fun ys' hi' => ?_)); all_goals (try simp only [gOf, fld] at hi'); all_goals (try k_fold)))) | ((with_reducible show wpAny _ _ (eval (Expr.ListComp _ [⟨_, _, [], _⟩] _ _) _) _ _ _); k_dflt (refine LCg.ListComp_U (F₀ := by k_asm) (by with_unfolding_all rfl) (by decide) (by rfl) (by decide) (by rfl) ?_)) | walk1 | (dsimp only; walk1) | (leave1; walk_say "STEP leave1"; try dsimp only) | fail "no step"))
    all_goals (exact hret ns9 kmem kup _ _ _ _ (by assumption) (cb_drop (by assumption) (by intro p hp; repeat' (first | exact hp | refine List.mem_cons_of_mem _ ?_))))

end
end Mine
end
section
open PySem PySem.W PySem.Calls PyProof.Rows PySem.Spec PyProof.Rows.LCg
set_option maxRecDepth 100000
set_option linter.unusedVariables false
namespace Mine
/-- a list comprehension of two clauses, a test behind the second -/
abbrev comp2 (elt t1 i1 t2 i2 c : Expr) (scope : Scope) (pos : Pos) : Expr := .ListComp elt [⟨t1, i1, [], 0⟩, ⟨t2, i2, [c], 0⟩] scope pos
theorem comp2_turn1 (elt t1 i1 t2 i2 c : Expr) (scope : Scope) (pos : Pos) (it acc : Value) (env : Env) :
    compTurn (comp2 elt t1 i1 t2 i2 c scope pos) 1 it acc env = (do
      standAt i2.pos
      match ← pyNext it with
      | none => pure (.done .next)
      | some v =>
        letOwnedTupleGo t2 it v
        assign t2 env v
        let mut ok := true
        for c in [c] do
          if ok then ok ← isTrue c env (eval c env)
        if ok then
          (do let _ ← call (.builtin "list.append") [acc, ← eval elt env])
        again (.compLoop (comp2 elt t1 i1 t2 i2 c scope pos) 1 it acc env)) := by rfl
theorem comp2_turn0 (elt t1 i1 t2 i2 c : Expr) (scope : Scope) (pos : Pos) (it acc : Value) (env : Env) :
    compTurn (comp2 elt t1 i1 t2 i2 c scope pos) 0 it acc env = (do
      standAt i1.pos
      match ← pyNext it with
      | none => pure (.done .next)
      | some v =>
        letOwnedTupleGo t1 it v
        assign t1 env v
        let x ← eval i2 env
        standAt i2.pos
        let x ← foldedSetIterable i2 env x
        let _ ← runOwn (.compStart (comp2 elt t1 i1 t2 i2 c scope pos) 1 (← holding [x] (pyIter x)) acc env) env
        again (.compLoop (comp2 elt t1 i1 t2 i2 c scope pos) 0 it acc env)) := by
  rfl
section
variable {prog : Program} {w : World} {A : Around} {E : Value → Shared → Prop} {s : Shared} {elt t1 i1 t2 i2 c : Expr} {scope : Scope} {pos : Pos} {it acc : Value} {env : Env} {R : Result → Shared → Prop}
theorem comp2_inner (I : Nat → Shared → Prop)
    (turn : ∀ n s, I n s → wpAny (model prog w) A (pyNext it) (fun r s₁ => match r with
      | none => R (.ok .next) s₁
      | some v => wpAny (model prog w) A (assign t2 env v) (fun _ s₂ =>
          wpAny (model prog w) A (isTrue c env (eval c env)) (fun ok s₃ =>
            if ok = true then wpAny (model prog w) A (eval elt env) (fun x s₄ =>
              wpAny (model prog w) A (call (.builtin "list.append") [acc, x]) (fun _ s₅ => ∃ m, m < n ∧ I m s₅) (notedBy (model prog w) A env fun e s' => R (.error e) s') s₄) (notedBy (model prog w) A env fun e s' => R (.error e) s') s₃
            else ∃ m, m < n ∧ I m s₃) (notedBy (model prog w) A env fun e s' => R (.error e) s') s₂) (notedBy (model prog w) A env fun e s' => R (.error e) s') s₁) (notedBy (model prog w) A env fun e s' => R (.error e) s') s)
    (n : Nat) (h : I n s) (ht : ∀ v, letOwnedTupleGo t2 it v = pure () := by intro _; rfl) :
    codeAny (model prog w) A (.compLoop (comp2 elt t1 i1 t2 i2 c scope pos) 1 it acc env) R s := by
  refine codeAny_loop rfl I (fun n s hI => ?_) n h
  show wpAny _ A ((compTurn (comp2 elt t1 i1 t2 i2 c scope pos) 1 it acc env).onRaise (fun x => do noteFrame x env; theTreesLotGoes x)) _ _ s
  refine wpAny_noted ?_
  rw [comp2_turn1]
  refine wpAny_bind (wpAny_standAt (wpAny_bind (wpAny_mono (turn n s hI) (fun r s₁ h₁ => ?_) fun _ _ h' => h')))
  cases r with
  | none => exact wpAny_pure h₁
  | some v =>
    refine wpAny_bind (wpAny_of_eq (ht v) ?_)
    refine wpAny_bind (wpAny_mono h₁ (fun _ s₂ h₂ => wpAny_bind (wpAny_tests_one (wpAny_mono h₂ (fun ok s₃ h₃ => ?_) fun _ _ h' => h'))) fun _ _ h' => h')
    cases ok with
    | false => exact wpAny_pure ⟨rfl, h₃⟩
    | true =>
      exact wpAny_bind (wpAny_bind (wpAny_mono h₃ (fun x s₄ h₄ => wpAny_bind (wpAny_mono h₄ (fun _ s₅ h₅ => wpAny_pure (wpAny_pure ⟨rfl, h₅⟩)) fun _ _ h' => h')) fun _ _ h' => h'))
theorem comp2_start
    (h0 : codeAny (model prog w) A (.compLoop (comp2 elt t1 i1 t2 i2 c scope pos) 1 it acc env) R s)
    (h : wpAny (model prog w) A (pyIter it) (fun it' s' => codeAny (model prog w) A (.compLoop (comp2 elt t1 i1 t2 i2 c scope pos) 1 it' acc env) R s')
      (notedBy (model prog w) A env fun x s' => R (.error x) s') s) :
    codeAny (model prog w) A (.compStart (comp2 elt t1 i1 t2 i2 c scope pos) 1 it acc env) R s := by
  refine codeAny_of_tree ?_
  show wpAny _ _ ((compStart (comp2 elt t1 i1 t2 i2 c scope pos) 1 it acc env).onRaise (fun x => do noteFrame x env; standAt theWindowsPlace)) _ _ s
  refine wpAny_notedAt ?_
  unfold compStart
  show wpAny _ _ (ask >>= _) _ _ s
  refine wpAny_bind (wpAny_askSetting (wpAny_ite ?_))
  split
  · first
      | exact wpAny_bind (wpAny_pure (wpAny_pure (And.intro rfl h0)))
      | exact wpAny_pure (And.intro rfl h0)
  · refine wpAny_bind (wpAny_rule ?_)
    show wpAny _ _ (standAt i2.pos >>= _) _ _ s
    exact wpAny_bind (wpAny_standAt (wpAny_bind (wpAny_mono h (fun it' s' h' => wpAny_pure (And.intro rfl h')) fun _ _ x => x)))
theorem comp2_outer (I : Nat → Shared → Prop)
    (turn : ∀ n s, I n s → wpAny (model prog w) A (pyNext it) (fun r s₁ => match r with
      | none => R (.ok .next) s₁
      | some v => wpAny (model prog w) A (assign t1 env v) (fun _ s₂ =>
          wpAny (model prog w) A (eval i2 env) (fun x s₃ =>
            wpAny (model prog w) A (pyIter x) (fun it2 s₄ => codeAny (model prog w) A (.compStart (comp2 elt t1 i1 t2 i2 c scope pos) 1 it2 acc env)
              (fun r s' => match r with | .ok f => ∃ m, m < n ∧ I m s' | .error e => cameBackBy (model prog w) A env (notedBy (model prog w) A env fun e s' => R (.error e) s') e s') s₄)
              (notedBy (model prog w) A env fun e s' => R (.error e) s') s₃) (notedBy (model prog w) A env fun e s' => R (.error e) s') s₂) (notedBy (model prog w) A env fun e s' => R (.error e) s') s₁) (notedBy (model prog w) A env fun e s' => R (.error e) s') s)
    (n : Nat) (h : I n s) (ht : ∀ v, letOwnedTupleGo t1 it v = pure () := by intro _; rfl) (hs : ∀ x, foldedSetIterable i2 env x = pure x := by intro _; rfl) :
    codeAny (model prog w) A (.compLoop (comp2 elt t1 i1 t2 i2 c scope pos) 0 it acc env) R s := by
  refine codeAny_loop rfl I (fun n s hI => ?_) n h
  show wpAny _ A ((compTurn (comp2 elt t1 i1 t2 i2 c scope pos) 0 it acc env).onRaise (fun x => do noteFrame x env; theTreesLotGoes x)) _ _ s
  refine wpAny_noted ?_
  rw [comp2_turn0]
  refine wpAny_bind (wpAny_standAt (wpAny_bind (wpAny_mono (turn n s hI) (fun r s₁ h₁ => ?_) fun _ _ h' => h')))
  cases r with
  | none => exact wpAny_pure h₁
  | some v =>
    refine wpAny_bind (wpAny_of_eq (ht v) ?_)
    refine wpAny_bind (wpAny_mono h₁ (fun _ s₂ h₂ => wpAny_bind (wpAny_mono h₂ (fun x s₃ h₃ => ?_) fun _ _ h' => h')) fun _ _ h' => h')
    refine wpAny_bind (wpAny_standAt (wpAny_bind (wpAny_of_eq (hs x) ?_)))
    refine wpAny_bind (wpAny_holding (wpAny_mono h₃ (fun it2 s₄ h₄ => ?_) fun _ _ h' => h'))
    refine wpAny_bind (wpAny_runOwn ?_)
    rw [Around.mark_none]
    refine codeAny_mono h₄ fun r s' hr => ?_
    cases r with
    | error e => exact hr
    | ok f => exact wpAny_pure ⟨rfl, hr⟩
end
end Mine
end
section
open PySem PySem.W PySem.Calls PyProof.Rows PySem.Spec PyProof.Rows.LCg
set_option maxRecDepth 100000
set_option linter.unusedVariables false
namespace Mine
def End2 (h₀ : Heap) (L : Addr) (m : Str → Option Value) (s₁ : Shared) (I2 : Addr) (o2 : Obj) (I1 : Addr) (o1 : Obj) (C : Addr) (oC : Obj) (D : Addr) (oD : Obj) (rest : Value → List (Addr × Obj) → Prop) (y : Value) (s₂ : Shared) : Prop :=
  ∃ h' tk nx', s₂ = { s₁ with heap := h', toks := tk } ∧ Fr h₀ L h' m ∧ News h₀ L h' ((I2, o2) :: (I1, o1) :: (C, oC) :: (D, oD) :: nx') ∧ Off3 I1 C D nx' ∧ Off1 I2 nx' ∧ rest y nx'
abbrev Apart4 (I2 I1 C D : Addr) : Prop := (@Ne Nat I2 I1) ∧ (@Ne Nat I2 C) ∧ (@Ne Nat I2 D) ∧ (@Ne Nat I1 C) ∧ (@Ne Nat I1 D) ∧ (@Ne Nat C D)
def Turn2 (prog : Program) (w : World) (A : Around) (h₀ : Heap) (L : Addr) (m : Str → Option Value) (env : Env) (ct elt : Expr) (x y : Str) (scope : Scope) (cl : List (Str × Addr)) (s : Shared) (n : Nat) (Rel : Nat → List Value → List (Addr × Obj) → Prop) : Prop :=
  ∀ i j nx ys I2 o2 I1 o1 C oC D m₂ (t u : Tok) h tk (E' : Value → Shared → Prop), i < n → j < n → Rel (i * n + j) ys nx → NsObj oC m₂ → m₂ x = some (.int (i : Nat) t) → m₂ y = some (.int (j : Nat) u) → Fr h₀ L h m → News h₀ L h ((I2, o2) :: (I1, o1) :: (C, oC) :: (D, lst ys) :: nx) → Off3 I1 C D nx → Off1 I2 nx → Apart4 I2 I1 C D →
    wpAny (model prog w) A (isTrue ct (compEnvC scope cl C env) (eval ct (compEnvC scope cl C env))) (fun ok s' => if ok = true then
      wpAny (model prog w) A (eval elt (compEnvC scope cl C env)) (End2 h₀ L m { s with heap := h, toks := tk } I2 o2 I1 o1 C oC D (lst ys) (fun v nx' => Rel (i * n + j + 1) (ys ++ [v]) nx')) E' s'
      else End2 h₀ L m { s with heap := h, toks := tk } I2 o2 I1 o1 C oC D (lst ys) (fun _ nx' => Rel (i * n + j + 1) ys nx') Value.none s') E' { s with heap := h, toks := tk }
def Iter2 (prog : Program) (w : World) (A : Around) (h₀ : Heap) (L : Addr) (m : Str → Option Value) (env : Env) (i2 : Expr) (x : Str) (scope : Scope) (cl : List (Str × Addr)) (s : Shared) (n : Nat) (Rel : Nat → List Value → List (Addr × Obj) → Prop) : Prop :=
  ∀ i nx ys I1 o1 C oC D m₂ (t : Tok) h tk (E' : Value → Shared → Prop), i < n → Rel (i * n) ys nx → NsObj oC m₂ → m₂ x = some (.int (i : Nat) t) → Fr h₀ L h m → News h₀ L h ((I1, o1) :: (C, oC) :: (D, lst ys) :: nx) → Off3 I1 C D nx → ((@Ne Nat I1 C) ∧ (@Ne Nat I1 D) ∧ (@Ne Nat C D)) →
    wpAny (model prog w) A (eval i2 (compEnvC scope cl C env)) (fun xv s' => ∃ r h' tk' a b c nx', xv = .ref r ∧ s' = { s with heap := h', toks := tk' } ∧ Fr h₀ L h' m ∧ News h₀ L h' ((I1, o1) :: (C, oC) :: (D, lst ys) :: nx') ∧ Off3 I1 C D nx' ∧ IsRange h' r 0 (n : Nat) 1 a b c ∧ Rel (i * n) ys nx') E' { s with heap := h, toks := tk }
theorem off1_of {D : Addr} : ∀ {l : List (Addr × Obj)}, (∀ p ∈ l, p.1 ≠ D) → Off1 D l
  | [], _ => trivial
  | p :: r, h => ⟨h p List.mem_cons_self, off1_of fun q hq => h q (List.mem_cons_of_mem _ hq)⟩
theorem off1_mem {D : Addr} : ∀ (l : List (Addr × Obj)), Off1 D l → ∀ p, p ∈ l → p.1 ≠ D
  | [], _, _, hq => by cases hq
  | p :: r, h, q, hq => by
    cases hq with
    | head => exact fun e => h.1 e
    | tail _ hq => exact off1_mem r h.2 q hq
section
variable {prog : Program} {w : World} {A : Around} {E : Value → Shared → Prop} {s : Shared} {h₀ : Heap} {L : Addr} {m : Str → Option Value} {env : Env} {elt i1 i2 c : Expr} {x y : Str} {px py : Pos} {scope : Scope} {cl : List (Str × Addr)} {pos : Pos} {n : Nat} {Rel : Nat → List Value → List (Addr × Obj) → Prop}
/-- the inner loop, the outer name standing at i -/
theorem inner2 {s₂ : Shared} {i : Nat} {t : Tok} {I1 I2 C D : Addr} {o1 : Obj} {R : Result → Shared → Prop} (hh : A.handled = none) (hi : i < n) (hnn : n ≤ 100) (hkind : scope.kind = .function) (hy : scope.names.lookup y = some .local) (hxy : x ≠ y) (ap : Apart4 I2 I1 C D)
    (hL : I2 ≠ L ∧ I1 ≠ L ∧ C ≠ L ∧ D ≠ L) (h0 : h₀.get? I2 = none ∧ h₀.get? I1 = none ∧ h₀.get? C = none ∧ h₀.get? D = none)
    (T : Turn2 prog w A h₀ L m env c elt x y scope cl s₂ n Rel)
    (hR : ∀ h tk ys m' nx, h.get? I1 = some o1 → Fr h₀ L h m → h.Ns C m' → News h₀ L h ((D, lst ys) :: nx) → Off3 I1 C D nx → ys.length ≤ i * n + n → Rel (i * n + n) ys nx → R (.ok .next) { s₂ with heap := h, toks := tk }) :
    ∀ (h : Heap) (tk : Nat) (ys : List Value) (m' : Str → Option Value) (nx : List (Addr × Obj)), h.get? I1 = some o1 → IsRangeIter h I2 (0 + (0 : Nat) * 1) ((n : Int) - (0 : Nat)) 1 → Fr h₀ L h m → h.Ns C m' → m' x = some (.int (i : Nat) t) → News h₀ L h ((D, lst ys) :: nx) → Off3 I1 C D nx → Off1 I2 nx → ys.length ≤ i * n → Rel (i * n) ys nx →
    codeAny (model prog w) A (.compLoop (comp2 elt (.Name x px) i1 (.Name y py) i2 c scope pos) 1 (.ref I2) (.ref D) (compEnvC scope cl C env)) R { s₂ with heap := h, toks := tk } := by
  intro h tk ys m' nx ho1 hit F hn hmx N off3 off1 hyl hrel
  obtain ⟨a1, a2, a3, a4, a5, a6⟩ := ap
  have W := range_walks (prog := prog) (w := w) (A := A) (I := I2) hh 0 n
  have hin : ∀ j, j < n → i * n + j < n * n := fun j hj => by
    have : i * n + n ≤ n * n := by
      have := Nat.mul_le_mul_right n (Nat.succ_le_of_lt hi)
      rw [Nat.succ_mul] at this; exact this
    omega
  have hbound : n * n ≤ 10000 := Nat.mul_le_mul hnn hnn
  refine comp2_inner
    (fun k s' => ∃ h' tk j ys m' nx, s' = { s₂ with heap := h', toks := tk } ∧ j ≤ n ∧ k = n + 1 - j ∧ ys.length ≤ i * n + j ∧ h'.get? I1 = some o1 ∧ IsRangeIter h' I2 (0 + (j : Nat) * 1) ((n : Int) - (j : Nat)) 1 ∧ Fr h₀ L h' m ∧ h'.Ns C m' ∧ m' x = some (.int (i : Nat) t) ∧ News h₀ L h' ((D, lst ys) :: nx) ∧ Off3 I1 C D nx ∧ Off1 I2 nx ∧ Rel (i * n + j) ys nx) ?_ (n + 1)
    ⟨h, tk, 0, ys, m', nx, rfl, Nat.zero_le _, rfl, hyl, ho1, hit, F, hn, hmx, N, off3, off1, hrel⟩
  rintro k s' ⟨h', tk, j, ys, m', nx, rfl, hj, rfl, hyl, ho1, hst, F', hn', hmx', N', off3, off1, hrel⟩
  have o3 := off3.mem
  have o1' := off1_mem _ off1
  by_cases hlt : j < n
  · refine W.item j _ _ _ hlt hst fun v h₂ tk₂ hPv hst₂ hk₂ => ?_
    obtain ⟨u, rfl⟩ := hPv
    have ho1₂ := hk₂ I1 _ (by simpa using (Ne.symm a1 : I1 ≠ I2)) ho1
    refine wpAny_assign_Name (wpAny_storeName_local (lookup_relabel_local hy) (hn'.at' fun o e => hk₂ _ o (by simpa using (Ne.symm a2 : C ≠ I2)) e) (fun h₃ hn₃ hs₃ => ?_) (by simp [compEnvC, relabel, hkind]))
    have hst₃ : IsRangeIter h₃ I2 (0 + ((j + 1 : Nat) : Int) * 1) ((n : Int) - ((j + 1 : Nat) : Int)) 1 := W.frame _ _ _ hst₂ fun b hb o e => hs₃.extBut b o (fun q => a2 (by rw [← List.mem_singleton.mp hb]; exact q)) e
    have he2 : h₃.get? I2 = some _ := hst₃
    obtain ⟨oC, heC, hoC⟩ := ns_obj hn₃
    have F₃ : Fr h₀ L h₃ m := (fr_but F' hk₂ (Ne.symm hL.1) h0.1).change hs₃ hL.2.2.1 h0.2.2.1
    have ho1₃ : h₃.get? I1 = some o1 := hs₃.extBut _ _ a4 ho1₂
    have N₂ : News h₀ L h₂ ((D, lst ys) :: nx) := news_but N' hk₂ fun p hp => by
      rcases List.mem_cons.mp hp with rfl | hp
      · exact Ne.symm a3
      · exact o1' p hp
    have N₃ : News h₀ L h₃ ((I2, _) :: (I1, o1) :: (C, oC) :: (D, lst ys) :: nx) := fun p hp => by
      rcases List.mem_cons.mp hp with rfl | hp
      · exact ⟨he2, hL.1, h0.1⟩
      · rcases List.mem_cons.mp hp with rfl | hp
        · exact ⟨ho1₃, hL.2.1, h0.2.1⟩
        · rcases List.mem_cons.mp hp with rfl | hp
          · exact ⟨heC, hL.2.2.1, h0.2.2.1⟩
          · have z := N₂ p hp
            refine ⟨hs₃.extBut _ _ ?_ z.1, z.2⟩
            rcases List.mem_cons.mp hp with rfl | hp
            · exact Ne.symm a6
            · exact (o3 p hp).2.1
    refine wpAny_mono (T i j nx ys I2 _ I1 o1 C oC D _ t u h₃ _ _ hi hlt hrel hoC (by rw [if_neg hxy]; exact hmx') (by rw [if_pos rfl]; congr 2; omega) F₃ N₃ off3 off1 ⟨a1, a2, a3, a4, a5, a6⟩) (fun ok s₄ h₄ => ?_) fun _ _ e => e
    cases ok with
    | true =>
      simp only [if_true] at h₄ ⊢
      refine wpAny_mono h₄ (fun v s₅ h₅ => ?_) fun _ _ e => e
      obtain ⟨h₄, tk₄, nx₄, rfl, F₄, N₄, off₄, off₄', R₄⟩ := h₅
      have z2 := (N₄ (I2, _) List.mem_cons_self).1
      have z1 := (N₄ (I1, o1) (List.mem_cons_of_mem _ List.mem_cons_self)).1
      have zC := (N₄ (C, oC) (List.mem_cons_of_mem _ (List.mem_cons_of_mem _ List.mem_cons_self))).1
      have zD := (N₄ (D, lst ys) (List.mem_cons_of_mem _ (List.mem_cons_of_mem _ (List.mem_cons_of_mem _ List.mem_cons_self)))).1
      have N₄' : News h₀ L h₄ nx₄ := fun p hp => N₄ p (List.mem_cons_of_mem _ (List.mem_cons_of_mem _ (List.mem_cons_of_mem _ (List.mem_cons_of_mem _ hp))))
      refine append_at (hsz := by show ys.toArray.size ≤ sizeLine; rw [List.size_toArray, sizeLine_eq]; have := hin j hlt; omega) zD fun h₅ hs₅ hD₅ => ?_
      have off4 := off₄.mem
      refine ⟨n + 1 - (j + 1), by omega, h₅, tk₄, j + 1, ys ++ [v], _, nx₄, rfl, hlt, rfl, by rw [List.length_append, List.length_singleton]; omega, hs₅.extBut _ _ a5 z1, hs₅.extBut _ _ a3 z2, F₄.change hs₅ hL.2.2.2 h0.2.2.2,
        (hoC.ns zC).sameBut hs₅ a6, by rw [if_neg hxy]; exact hmx', fun p hp => ?_, off₄, off₄', R₄⟩
      rcases List.mem_cons.mp hp with rfl | hp
      · exact ⟨hD₅.trans (congrArg some (lst_snoc ys v)), hL.2.2.2, h0.2.2.2⟩
      · exact ⟨hs₅.extBut _ _ (off4 p hp).2.2 (N₄' p hp).1, (N₄' p hp).2⟩
    | false =>
      simp only [Bool.false_eq_true, if_false] at h₄ ⊢
      obtain ⟨h₄, tk₄, nx₄, rfl, F₄, N₄, off₄, off₄', R₄⟩ := h₄
      have z2 := (N₄ (I2, _) List.mem_cons_self).1
      have z1 := (N₄ (I1, o1) (List.mem_cons_of_mem _ List.mem_cons_self)).1
      have zC := (N₄ (C, oC) (List.mem_cons_of_mem _ (List.mem_cons_of_mem _ List.mem_cons_self))).1
      refine ⟨n + 1 - (j + 1), by omega, h₄, tk₄, j + 1, ys, _, nx₄, rfl, hlt, rfl, by omega, z1, z2, F₄, hoC.ns zC, by rw [if_neg hxy]; exact hmx', fun p hp => ?_, off₄, off₄', R₄⟩
      exact N₄ p (List.mem_cons_of_mem _ (List.mem_cons_of_mem _ (List.mem_cons_of_mem _ hp)))
  · obtain rfl : j = n := Nat.le_antisymm hj (Nat.not_lt.mp hlt)
    refine W.done _ _ _ hst fun h₂ tk₂ hk₂ => ?_
    refine hR h₂ tk₂ ys m' nx (hk₂ I1 _ (by simpa using (Ne.symm a1 : I1 ≠ I2)) ho1) (fr_but F' hk₂ (Ne.symm hL.1) h0.1) (hn'.at' fun o e => hk₂ _ o (by simpa using (Ne.symm a2 : C ≠ I2)) e) (news_but N' hk₂ fun p hp => ?_) off3 hyl hrel
    rcases List.mem_cons.mp hp with rfl | hp
    · exact Ne.symm a3
    · exact o1' p hp
end
end Mine
end
section
open PySem PySem.W PySem.Calls PyProof.Rows PySem.Spec PyProof.Rows.LCg
set_option maxRecDepth 100000
set_option linter.unusedVariables false
namespace Mine
def Inv2 (h₀ : Heap) (L : Addr) (m : Str → Option Value) (s₂ : Shared) (I1 C D : Addr) (n : Nat) (Rel : Nat → List Value → List (Addr × Obj) → Prop) (k : Nat) (s' : Shared) : Prop :=
  ∃ h' tk i ys m' nx, s' = { s₂ with heap := h', toks := tk } ∧ i ≤ n ∧ k = n + 1 - i ∧ ys.length ≤ i * n ∧ IsRangeIter h' I1 (0 + (i : Nat) * 1) ((n : Int) - (i : Nat)) 1 ∧ Fr h₀ L h' m ∧ h'.Ns C m' ∧ News h₀ L h' ((D, lst ys) :: nx) ∧ Off3 I1 C D nx ∧ Rel (i * n) ys nx
section
variable {prog : Program} {w : World} {A : Around} {E : Value → Shared → Prop} {s : Shared} {h₀ : Heap} {L : Addr} {m : Str → Option Value} {env : Env} {elt i1 i2 c : Expr} {x y : Str} {px py : Pos} {scope : Scope} {cl : List (Str × Addr)} {pos : Pos} {n : Nat} {Rel : Nat → List Value → List (Addr × Obj) → Prop}
theorem outer2 {s₂ : Shared} {I1 C D : Addr} {R : Result → Shared → Prop} (hh : A.handled = none) (hnn : n ≤ 100) (hkind : scope.kind = .function) (hx : scope.names.lookup x = some .local) (hy : scope.names.lookup y = some .local) (hxy : x ≠ y) (ap : (@Ne Nat I1 C) ∧ (@Ne Nat I1 D) ∧ (@Ne Nat C D))
    (hL : I1 ≠ L ∧ C ≠ L ∧ D ≠ L) (h0 : h₀.get? I1 = none ∧ h₀.get? C = none ∧ h₀.get? D = none)
    (It : Iter2 prog w A h₀ L m env i2 x scope cl s₂ n Rel) (T : Turn2 prog w A h₀ L m env c elt x y scope cl s₂ n Rel) (hs2 : ∀ cenv x, foldedSetIterable i2 cenv x = pure x)
    (hR : ∀ h tk ys m' nx, Fr h₀ L h m → h.Ns C m' → News h₀ L h ((D, lst ys) :: nx) → Off3 I1 C D nx → Rel (n * n) ys nx → R (.ok .next) { s₂ with heap := h, toks := tk }) :
    ∀ (h : Heap) (tk : Nat) (m' : Str → Option Value) (nx : List (Addr × Obj)), IsRangeIter h I1 (0 + (0 : Nat) * 1) ((n : Int) - (0 : Nat)) 1 → Fr h₀ L h m → h.Ns C m' → News h₀ L h ((D, lst []) :: nx) → Off3 I1 C D nx → Rel 0 [] nx →
    codeAny (model prog w) A (.compLoop (comp2 elt (.Name x px) i1 (.Name y py) i2 c scope pos) 0 (.ref I1) (.ref D) (compEnvC scope cl C env)) R { s₂ with heap := h, toks := tk } := by
  intro h tk m' nx hit F hn N off3 hrel
  obtain ⟨a4, a5, a6⟩ := ap
  have W := range_walks (prog := prog) (w := w) (A := A) (I := I1) hh 0 n
  refine comp2_outer
    (Inv2 h₀ L m s₂ I1 C D n Rel) ?_ (n + 1)
    ⟨h, tk, 0, [], m', nx, rfl, Nat.zero_le _, rfl, Nat.zero_le _, hit, F, hn, N, off3, by rw [Nat.zero_mul]; exact hrel⟩ (by intro _; rfl) (hs2 _)
  rintro k s' ⟨h', tk, i, ys, m', nx, rfl, hi, rfl, hyl, hst, F', hn', N', off3, hrel⟩
  have o3 := off3.mem
  by_cases hlt : i < n
  · refine W.item i _ _ _ hlt hst fun v h₂ tk₂ hPv hst₂ hk₂ => ?_
    obtain ⟨t, rfl⟩ := hPv
    refine wpAny_assign_Name (wpAny_storeName_local (lookup_relabel_local hx) (hn'.at' fun o e => hk₂ _ o (by simpa using (Ne.symm a4 : C ≠ I1)) e) (fun h₃ hn₃ hs₃ => ?_) (by simp [compEnvC, relabel, hkind]))
    have hst₃ : IsRangeIter h₃ I1 (0 + ((i + 1 : Nat) : Int) * 1) ((n : Int) - ((i + 1 : Nat) : Int)) 1 := W.frame _ _ _ hst₂ fun b hb o e => hs₃.extBut b o (fun q => a4 (by rw [← List.mem_singleton.mp hb]; exact q)) e
    have he1 : h₃.get? I1 = some _ := hst₃
    obtain ⟨oC, heC, hoC⟩ := ns_obj hn₃
    have F₃ : Fr h₀ L h₃ m := (fr_but F' hk₂ (Ne.symm hL.1) h0.1).change hs₃ hL.2.1 h0.2.1
    have N₂ : News h₀ L h₂ ((D, lst ys) :: nx) := news_but N' hk₂ fun p hp => by
      rcases List.mem_cons.mp hp with rfl | hp
      · exact Ne.symm a5
      · exact (o3 p hp).1
    have N₃ : News h₀ L h₃ ((I1, _) :: (C, oC) :: (D, lst ys) :: nx) := fun p hp => by
      rcases List.mem_cons.mp hp with rfl | hp
      · exact ⟨he1, hL.1, h0.1⟩
      · rcases List.mem_cons.mp hp with rfl | hp
        · exact ⟨heC, hL.2.1, h0.2.1⟩
        · have z := N₂ p hp
          refine ⟨hs₃.extBut _ _ ?_ z.1, z.2⟩
          rcases List.mem_cons.mp hp with rfl | hp
          · exact Ne.symm a6
          · exact (o3 p hp).2.1
    refine wpAny_mono (It i nx ys I1 _ C oC D _ t h₃ _ _ hlt hrel hoC (by rw [if_pos rfl]; congr 2; omega) F₃ N₃ off3 ⟨a4, a5, a6⟩) (fun xv s₄ h₄ => ?_) fun _ _ e => e
    obtain ⟨r, h₄, tk₄, a, b, cc, nx₄, rfl, rfl, F₄, N₄, off₄, hr, hrel₄⟩ := h₄
    refine wpAny_pyIter_range hr (range_small (by omega)) ?_
    have zC := (N₄ (C, oC) (List.mem_cons_of_mem _ List.mem_cons_self)).1
    have z1 := (N₄ _ List.mem_cons_self).1
    have lt4 : ∀ p ∈ nx₄, p.1 < h₄.objs.size := fun p hp => Heap.lt_size (N₄ p (List.mem_cons_of_mem _ (List.mem_cons_of_mem _ (List.mem_cons_of_mem _ hp)))).1
    have l1 : I1 < h₄.objs.size := Heap.lt_size z1
    have lC : C < h₄.objs.size := Heap.lt_size zC
    have lD : D < h₄.objs.size := Heap.lt_size (N₄ (D, lst ys) (List.mem_cons_of_mem _ (List.mem_cons_of_mem _ List.mem_cons_self))).1
    have ap4 : Apart4 h₄.objs.size I1 C D := ⟨Nat.ne_of_gt l1, Nat.ne_of_gt lC, Nat.ne_of_gt lD, a4, a5, a6⟩
    have lL : h₄.objs.size ≠ L := Nat.ne_of_gt F₄.ns.lt
    have n2 : h₀.get? h₄.objs.size = none := next_is_new F₄
    have hN4' : News h₀ L (h₄.push { cls := .type "range_iterator", data := .fields #[rawInt 0, rawInt (Builtin.Range.rangeSize 0 (n : Int) 1), rawInt 1] }) ((D, lst ys) :: nx₄) := fun p hp => by
      have z := N₄ p (List.mem_cons_of_mem _ (List.mem_cons_of_mem _ hp))
      exact ⟨Heap.get?_push_of_some _ z.1, z.2⟩
    have hmx : (fun z => if z = x then some (Value.int (0 + (i : Int)) t) else m' z) x = some (.int (i : Nat) t) := by
      show (if x = x then _ else _) = _
      rw [if_pos rfl]; congr 2; omega
    have hIt2 : IsRangeIter (h₄.push { cls := .type "range_iterator", data := .fields #[rawInt 0, rawInt (Builtin.Range.rangeSize 0 (n : Int) 1), rawInt 1] }) h₄.objs.size (0 + (0 : Nat) * 1) ((n : Int) - (0 : Nat)) 1 := by
      show Heap.get? _ _ = _
      rw [range_size]
      simpa using Heap.get?_push_size _ rfl
    have inner := inner2 (elt := elt) (i1 := i1) (i2 := i2) (px := px) (py := py) (pos := pos) (cl := cl) (env := env) (R := fun r s' => (match r with | .ok _ => ∃ m_1, m_1 < n + 1 - i ∧ Inv2 h₀ L m s₂ I1 C D n Rel m_1 s' | .error e => cameBackBy (model prog w) A (compEnvC scope cl C env) (notedBy (model prog w) A (compEnvC scope cl C env) fun e s' => R (.error e) s') e s'))
      hh hlt hnn hkind hy hxy ap4 ⟨lL, hL.1, hL.2.1, hL.2.2⟩ ⟨n2, h0.1, h0.2.1, h0.2.2⟩ T
      (fun h₅ tk₅ ys₅ m₅ nx₅ ho5 F₅ hn₅ N₅ off₅ hyl₅ rel₅ => ⟨n + 1 - (i + 1), by omega, h₅, tk₅, i + 1, ys₅, m₅, nx₅, rfl, hlt, rfl, by rw [Nat.succ_mul]; exact hyl₅, (by show h₅.get? I1 = _; rw [ho5]), F₅, hn₅, N₅, off₅, by rw [Nat.succ_mul]; exact rel₅⟩)
      _ tk₄ ys _ nx₄ (Heap.get?_push_of_some _ z1) hIt2 (F₄.push _) ((hoC.ns zC).push _) hmx hN4' off₄ (off1_of fun p hp => Nat.ne_of_lt (lt4 p hp)) hyl hrel₄
    refine comp2_start inner ?_
    refine wpAny_pyIter_rangeiter hIt2 inner
  · obtain rfl : i = n := Nat.le_antisymm hi (Nat.not_lt.mp hlt)
    refine W.done _ _ _ hst fun h₂ tk₂ hk₂ => ?_
    refine hR h₂ tk₂ ys m' nx (fr_but F' hk₂ (Ne.symm hL.1) h0.1) (hn'.at' fun o e => hk₂ _ o (by simpa using (Ne.symm a4 : C ≠ I1)) e) (news_but N' hk₂ fun p hp => ?_) off3 hrel
    rcases List.mem_cons.mp hp with rfl | hp
    · exact Ne.symm a5
    · exact (o3 p hp).1
end
end Mine
end
section
open PySem PySem.W PySem.Calls PyProof.Rows PySem.Spec PyProof.Rows.LCg
set_option maxRecDepth 100000
set_option linter.unusedVariables false
namespace Mine
section
variable {prog : Program} {w : World} {A : Around} {E : Value → Shared → Prop} {s : Shared} {h₀ : Heap} {L : Addr} {m : Str → Option Value} {env : Env} {elt i1 i2 c : Expr} {x y : Str} {px py : Pos} {scope : Scope} {cl : List (Str × Addr)} {pos : Pos} {n : Nat} {Rel : Nat → List Value → List (Addr × Obj) → Prop}
theorem block2 {s₂ : Shared} {I : Addr} {RR : Value → Addr → Result → Shared → Prop} {news : List (Addr × Obj)} (hh : A.handled = none) (hnn : n ≤ 100) (hcell : ∀ y ∈ scope.names, y.2 ≠ .cell) (hkind : scope.kind = .function) (hx : scope.names.lookup x = some .local) (hy : scope.names.lookup y = some .local) (hxy : x ≠ y)
    (hst : IsRangeIter s₂.heap I (0 + (0 : Nat) * 1) ((n : Int) - (0 : Nat)) 1) (F : Fr h₀ L s₂.heap m) (N : News h₀ L s₂.heap news) (hIL : L ≠ I) (hI₀ : h₀.get? I = none) (off : ∀ p ∈ news, p.1 ≠ I)
    (It : Iter2 prog w A h₀ L m env i2 x scope cl s₂ n Rel) (T : Turn2 prog w A h₀ L m env c elt x y scope cl s₂ n Rel) (hs2 : ∀ cenv x, foldedSetIterable i2 cenv x = pure x) (hrel : Rel 0 [] news)
    (hRR : ∀ D C h tk m' ys news', Fr h₀ L h m → News h₀ L h ((D, lst ys) :: news') → Off1 D news' → h.Ns C m' → h₀.get? C = none → h₀.get? D = none → C ≠ L → D ≠ L → C ≠ D → (∀ p ∈ news', p.1 ≠ C) → Rel (n * n) ys news' → RR (.ref D) C (.ok .next) { s₂ with heap := h, toks := tk }) :
    wpAny (model prog w) A (newList []) (fun acc s₃ => wpAny (model prog w) A (newFunctionEnv scope env.globals cl [] env.qual none .none (some env)) (fun cenv s₄ =>
      codeAny (model prog w) A (.compStart (comp2 elt (.Name x px) i1 (.Name y py) i2 c scope pos) 0 (.ref I) acc { cenv with scope := relabel scope env }) (RR acc cenv.locals) s₄) E s₃) E s₂ := by
  refine wpAny_newObj_type (wpAny_newFunctionEnv hcell (by intro y hy; simp at hy) (fun h₁ hns₁ hsb₁ => ?_) hkind)
  dsimp only at hns₁ hsb₁ ⊢
  generalize hH2 : s₂.heap.push { cls := .type "list", dict := none, data := .seq ([] : List Value).toArray } = H2 at hns₁ hsb₁ ⊢
  have hC : H2.objs.size = s₂.heap.objs.size + 1 := by rw [← hH2, Heap.size_push]
  have hDC : s₂.heap.objs.size ≠ H2.objs.size := by rw [hC]; exact Nat.ne_of_lt (Nat.lt_succ_self _)
  have below : ∀ b, b < s₂.heap.objs.size → b ≠ H2.objs.size ∧ b ≠ s₂.heap.objs.size := fun b hb => ⟨by rw [hC]; exact Nat.ne_of_lt (Nat.lt_succ_of_lt hb), Nat.ne_of_lt hb⟩
  have hst' : s₂.heap.get? I = some _ := hst
  have hIlt : I < s₂.heap.objs.size := Heap.lt_size hst'
  have old : ∀ b o, s₂.heap.get? b = some o → h₁.get? b = some o := fun b o e => hsb₁.extBut b o (below b (Heap.lt_size e)).1 (Heap.get?_push_of_some _ (hH2 ▸ Heap.get?_push_of_some _ e))
  have hacc : h₁.get? s₂.heap.objs.size = some (lst []) := hsb₁.extBut _ _ hDC (Heap.get?_push_of_some _ (hH2 ▸ Heap.get?_push_size _ rfl))
  have hst₁ : IsRangeIter h₁ I (0 + (0 : Nat) * 1) ((n : Int) - (0 : Nat)) 1 := old _ _ hst'
  have fresh : ∀ a, s₂.heap.objs.size ≤ a → s₂.heap.get? a = none := fun a ha => by
    cases e : s₂.heap.get? a with
    | none => rfl
    | some o' => exact absurd (Heap.lt_size e) (Nat.not_lt.mpr ha)
  have fresh₀ : ∀ a, s₂.heap.objs.size ≤ a → h₀.get? a = none := fun a ha => by
    cases e : h₀.get? a with
    | none => rfl
    | some o' => have := F.keep a o' e; rw [fresh a ha] at this; cases this
  have hD₀ : h₀.get? s₂.heap.objs.size = none := fresh₀ _ (Nat.le_refl _)
  have hC₀ : h₀.get? H2.objs.size = none := fresh₀ _ (by rw [hC]; exact Nat.le_succ _)
  have hLlt : L < s₂.heap.objs.size := F.ns.lt
  have hDL : s₂.heap.objs.size ≠ L := Ne.symm (below L hLlt).2
  have hCL : H2.objs.size ≠ L := Ne.symm (below L hLlt).1
  have hCI : I ≠ H2.objs.size := (below I hIlt).1
  have hDI : I ≠ s₂.heap.objs.size := (below I hIlt).2
  have off₀ : Off3 I H2.objs.size s₂.heap.objs.size news := Off3.of fun p hp => ⟨off p hp, (below _ (Heap.lt_size (N p hp).1)).1, (below _ (Heap.lt_size (N p hp).1)).2⟩
  have N₁ : News h₀ L h₁ ((s₂.heap.objs.size, lst []) :: news) := fun p hp => by
    rcases List.mem_cons.mp hp with rfl | hp
    · exact ⟨hacc, hDL, hD₀⟩
    · exact ⟨old _ _ (N p hp).1, (N p hp).2⟩
  have loop := outer2 (elt := elt) (i1 := i1) (px := px) (py := py) (pos := pos) (R := RR (.ref s₂.heap.objs.size) H2.objs.size) hh hnn hkind hx hy hxy ⟨hCI, hDI, Ne.symm hDC⟩ ⟨Ne.symm hIL, hCL, hDL⟩ ⟨hI₀, hC₀, hD₀⟩ It T hs2
    (fun h tk ys m' nx F' hn' N' off' rel' => hRR _ _ h tk m' ys nx F' N' off'.one hn' hC₀ hD₀ hCL hDL (Ne.symm hDC) (fun p hp => (off'.mem p hp).2.1) rel')
    h₁ (s₂.toks + ([] : List (Str × Value)).length) _ news hst₁ (F.keeps old) hns₁ N₁ off₀ hrel
  exact codeAny_compStart_list loop (wpAny_pyIter_rangeiter hst₁ loop)
def Src2 (prog : Program) (w : World) (A : Around) (h₀ : Heap) (L : Addr) (m : Str → Option Value) (env : Env) (i2 c elt : Expr) (x y z : Str) (scope : Scope) (cl : List (Str × Addr)) (Q : Flow → Shared → Prop) (xv : Value) (s₁ : Shared) : Prop :=
  ∃ r a b cc news n Rel, xv = .ref r ∧ A.handled = none ∧ n ≤ 100 ∧ Fr h₀ L s₁.heap m ∧ News h₀ L s₁.heap news ∧ IsRange s₁.heap r 0 (n : Nat) 1 a b cc ∧ Rel 0 [] news ∧
      ∀ g, Iter2 prog w A h₀ L m env i2 x scope cl { s₁ with heap := g } n Rel ∧ Turn2 prog w A h₀ L m env c elt x y scope cl { s₁ with heap := g } n Rel ∧ ∀ ys nx, Rel (n * n) ys nx → FinA h₀ L m { s₁ with heap := g } z Q ys nx
/-- an assignment of such a comprehension to a local name -/
theorem Assign_comp2 {z : Str} {pz : Pos} {spos : Pos} {Q : Flow → Shared → Prop} (F₀ : Fr h₀ L s.heap m) (hLe : env.locals = L)
    (hsw : swapsWith (comp2 elt (.Name x px) i1 (.Name y py) i2 c scope pos) (some (.Name z pz)) spos.line env = pure true)
    (hclos : closureFor scope env = pure cl) (hcell : ∀ y ∈ scope.names, y.2 ≠ .cell) (hkind : scope.kind = .function)
    (hnames : ∀ z ∈ scope.names, z.2 = .local → scope.names.lookup z.1 = some .local) (hx : scope.names.lookup x = some .local) (hy : scope.names.lookup y = some .local) (hxy : x ≠ y)
    (hz : env.kindOf z = some .local) (hp : (env.scope.kind == .class || (env.scope.kind == .module && env.locals != env.globals)) = false) (hs2 : ∀ cenv x, foldedSetIterable i2 cenv x = pure x)
    (h : wpAny (model prog w) A (eval i1 env) (Src2 prog w A h₀ L m env i2 c elt x y z scope cl Q) E s)
    (hs : ∀ x, foldedSetIterable i1 env x = pure x := by intro _; rfl) :
    wpAny (model prog w) A (exec (.Assign [.Name z pz] (comp2 elt (.Name x px) i1 (.Name y py) i2 c scope pos) spos) env) Q E s := by
  subst hLe
  rw [exec_Assign_Name_used _ _ _ _ hsw]
  refine wpAny_bind (wpAny_standAt (wpAny_bind ?_))
  show wpAny _ A (do let _ ← comprehension (comp2 elt (.Name x px) i1 (.Name y py) i2 c scope pos) scope env _ (newList []) false (eval i1 env) (some (assign (.Name z pz) env))) _ _ s
  refine wpAny_bind (wpAny_mono (wpAny_comprehension_free (use := some (assign (.Name z pz) env)) (Q := fun _ s' => Q .next s') rfl hs hclos hkind hnames
    (wpAny_mono h (fun xv s₁ h₁ => ?_) fun _ _ e => e)) (fun _ s' hq => wpAny_pure (wpAny_pure hq)) fun _ _ e => e)
  obtain ⟨r, a, b, cc, news, n, Rel, rfl, hh, hnn, F, N, hr, hrel, R⟩ := h₁
  refine wpAny_pyIter_range hr (range_small (by omega)) ?_
  obtain ⟨It, T, fin⟩ := R (s₁.heap.push { cls := .type "range_iterator", data := .fields #[rawInt 0, rawInt (Builtin.Range.rangeSize 0 (n : Int) 1), rawInt 1] })
  refine block2 hh hnn hcell hkind hx hy hxy (by show Heap.get? _ _ = _; rw [range_size]; simpa using Heap.get?_push_size _ rfl)
    (F.keeps fun _ _ e => Heap.get?_push_of_some _ e) (N.grown fun _ _ e => Heap.get?_push_of_some _ e) (Nat.ne_of_lt F.ns.lt) (next_is_new F) (fun p hp => Nat.ne_of_lt (Heap.lt_size (N p hp).1)) It T hs2 hrel ?_
  intro D C h' tk m' ys news' F' N' o1 hn hC₀ hD₀ hCL hDL hCD offC hrel'
  show wpAny _ A (assign (.Name z pz) env (.ref D)) _ _ _
  refine wpAny_assign_Name (wpAny_storeName_local hz F'.ns (fun h₂ hn₂ hs₂ => ?_) hp)
  have hL₀ : h₀.get? env.locals = none := Heap.get?_none_of_le F'.above
  have F₂ : Fr h₀ env.locals h₂ (fun y => if y = z then some (.ref D) else m y) := ⟨hn₂, fun b o e => hs₂.extBut b o (fun q => by rw [q, hL₀] at e; cases e) (F'.keep b o e), F'.above⟩
  refine ⟨m', hn.sameBut hs₂ hCL, fun h'' hs'' => fin ys news' hrel' D h'' _ (F₂.change hs'' hCL hC₀) (fun p hp => ?_) o1⟩
  have zz : h₂.get? p.1 = some p.2 := hs₂.extBut _ _ (N' p hp).2.1 (N' p hp).1
  refine ⟨hs''.extBut _ _ ?_ zz, (N' p hp).2⟩
  rcases List.mem_cons.mp hp with rfl | hp
  · exact Ne.symm hCD
  · exact offC p hp
end
end Mine
end
section
open PySem PySem.W PySem.Calls PyProof.Rows PySem.Spec PyProof.Rows.LCg
set_option maxRecDepth 100000
set_option linter.unusedVariables false
namespace Mine
section
variable {prog : Program} {w : World} {A : Around} {E : Value → Shared → Prop} {s : Shared} {h₀ : Heap} {L : Addr} {m : Str → Option Value} {env : Env}
def SrcStep (prog : Program) (w : World) (A : Around) (h₀ : Heap) (L : Addr) (m : Str → Option Value) (env : Env) (elt : Expr) (x : Str) (scope : Scope) (cl : List (Str × Addr)) (Q : Value → Shared → Prop) (xv : Value) (s₁ : Shared) : Prop :=
  ∃ r a b c ta tb tc n news, xv = .ref r ∧ A.handled = none ∧ Fr h₀ L s₁.heap m ∧ News h₀ L s₁.heap news ∧ IsRange s₁.heap r a b c ta tb tc ∧ Builtin.Range.small a b c = true ∧ Builtin.Range.rangeSize a b c = ((n : Nat) : Int) ∧ n ≤ sizeLine ∧
    ∀ g, CompRest prog w A h₀ L m env elt x scope cl { s₁ with heap := g } (fun _ => True) (fun i v => ∃ t, v = .int (a + (i : Int) * c) t) (FinE h₀ L m { s₁ with heap := g } Q) n 0 [] news
theorem SrcStep.intro {elt : Expr} {x : Str} {scope : Scope} {cl : List (Str × Addr)} {Q : Value → Shared → Prop} {s₁ : Shared} {r : Addr} {a b c : Int} {ta tb tc : Tok} {n : Nat} {news : List (Addr × Obj)} (hh : A.handled = none) (F : Fr h₀ L s₁.heap m) (N : News h₀ L s₁.heap news) (hm : IsRange s₁.heap r a b c ta tb tc) (hsm : Builtin.Range.small a b c = true) (hn : Builtin.Range.rangeSize a b c = ((n : Nat) : Int)) (hsz : n ≤ sizeLine)
    (h : ∀ g, CompRest prog w A h₀ L m env elt x scope cl { s₁ with heap := g } (fun _ => True) (fun i v => ∃ t, v = .int (a + (i : Int) * c) t) (FinE h₀ L m { s₁ with heap := g } Q) n 0 [] news) :
    SrcStep prog w A h₀ L m env elt x scope cl Q (.ref r) s₁ := ⟨r, a, b, c, ta, tb, tc, n, news, rfl, hh, F, N, hm, hsm, hn, hsz, h⟩
theorem ListComp_step {elt iter : Expr} {x : Str} {px : Pos} {scope : Scope} {cl : List (Str × Addr)} {pos : Pos} {Q : Value → Shared → Prop} (F₀ : Fr h₀ L s.heap m)
    (hclos : closureFor scope env = pure cl) (hcell : ∀ y ∈ scope.names, y.2 ≠ .cell) (hkind : scope.kind = .function)
    (hnames : ∀ y ∈ scope.names, y.2 = .local → scope.names.lookup y.1 = some .local) (hx : scope.names.lookup x = some .local)
    (h : wpAny (model prog w) A (eval iter env) (SrcStep prog w A h₀ L m env elt x scope cl Q) E s)
    (hs : ∀ x, foldedSetIterable iter env x = pure x := by intro _; rfl) :
    wpAny (model prog w) A (eval (.ListComp elt [⟨.Name x px, iter, [], 0⟩] scope pos) env) Q E s := by
  rw [eval_ListComp]
  refine wpAny_comprehension_free (use := none) rfl hs hclos hkind hnames (wpAny_mono h (fun xv s₁ h₁ => ?_) fun _ _ e => e)
  obtain ⟨r, a, b, c, ta, tb, tc, n, news, rfl, hh, F, N, hr, hsm, hn, hsz, R⟩ := h₁
  refine wpAny_pyIter_range hr hsm ?_
  refine block_U (Walks.range hh _ a c n) hsz (fun i h st => ⟨_, st⟩) (fun i h h' o nw st e e' _ _ _ => ?_) hcell hkind hx (by show IsRangeIter _ _ _ _ _; rw [hn]; simpa using Heap.get?_push_size _ rfl) (fun b hb => ?_)
    (F.keeps fun _ _ e => Heap.get?_push_of_some _ e) (N.grown fun _ _ e => Heap.get?_push_of_some _ e) (Nat.ne_of_lt F.ns.lt) (next_is_new F) (fun p hp => Nat.ne_of_lt (Heap.lt_size (N p hp).1)) trivial (R _) ?_
  · have st' : h.get? _ = some _ := st
    show h'.get? _ = some _
    rw [e', ← e]; exact st'
  · rw [List.mem_singleton.mp hb]
    show s₁.heap.objs.size < (s₁.heap.push _).objs.size
    rw [Heap.size_push]; exact Nat.lt_succ_self _
  · intro D C h tk m' ys news' F' N' o1 hn hC₀ hD₀ hCL hDL hCD offC fin
    refine ⟨m', hn, fun h'' hs'' => fin D h'' tk (F'.change hs'' hCL hC₀) (fun p hp => ?_) o1⟩
    refine ⟨hs''.extBut _ _ ?_ (N' p hp).1, (N' p hp).2⟩
    rcases List.mem_cons.mp hp with rfl | hp
    · exact Ne.symm hCD
    · exact offC p hp
end
section
variable {prog : Program} {w : World} {A : Around} {h₀ : Heap} {L : Addr} {m : Str → Option Value} {env : Env} {elt : Expr} {x : Str} {scope : Scope} {cl : List (Str × Addr)} {s : Shared} {S : List (Addr × Obj) → Prop} {Fin : List Value → List (Addr × Obj) → Prop} {news : List (Addr × Obj)} {P : Nat → Value → Prop} {n : Nat}
/-- what one more element is, when it is a datum of a growing ledger -/
def DatEl (d : Dat) (nx : List (Addr × Obj)) (y : Value) (nx' : List (Addr × Obj)) : Prop := (∀ p ∈ nx, p ∈ nx') ∧ DatIn nx' y d
/-- a comprehension whose i-th element is the datum g i -/
theorem comp_dat (g : Nat → Dat)
    (turn : ∀ i v nx I oI C oC D m₂ ys h tk (E' : Value → Shared → Prop), i < n → P i v → (∀ p ∈ news, p ∈ nx) → NsObj oC m₂ → m₂ x = some v → Fr h₀ L h m → News h₀ L h ((I, oI) :: (C, oC) :: (D, lst ys) :: nx) → Off3 I C D nx → ((@Ne Nat I C) ∧ (@Ne Nat I D) ∧ (@Ne Nat C D)) →
      wpAny (model prog w) A (eval elt (compEnvC scope cl C env)) (CompEnd h₀ L m { s with heap := h, toks := tk } I oI C oC D (lst ys) S (fun y nx' => DatEl (g i) nx y nx')) E' { s with heap := h, toks := tk })
    (fin : ∀ ys nx, (∀ p ∈ news, p ∈ nx) → DatAll nx ys ((List.range n).map g) → Fin ys nx) : CompRest prog w A h₀ L m env elt x scope cl s S P Fin n 0 [] news := by
  have key : ∀ (j i : Nat) (ys : List Value) (nx : List (Addr × Obj)), i + j = n → (∀ p ∈ news, p ∈ nx) → DatAll nx ys ((List.range i).map g) → CompRest prog w A h₀ L m env elt x scope cl s S P Fin j i ys nx := by
    intro j
    induction j with
    | zero =>
      intro i ys nx hi hs hy
      have : i = n := by omega
      subst this
      exact CompRest.zero (fin ys nx hs hy)
    | succ j ih =>
      intro i ys nx hi hs hy
      refine CompRest.succ ?_
      intro v I oI C oC D m₂ h tk E' hv hC hx F N off ne
      refine wpAny_mono (turn i v nx I oI C oC D m₂ ys h tk E' (by omega) hv hs hC hx F N off ne) (fun y s₂ hq => ?_) fun _ _ e => e
      obtain ⟨h', tk', nw, e, F', N', off', hS, hs', hy'⟩ := hq
      refine ⟨h', tk', nw, e, F', N', off', hS, ih (i + 1) _ nw (by omega) (fun p hp => hs' p (hs p hp)) ?_⟩
      rw [List.range_succ, List.map_append]
      exact datall_snoc (datall_mono hs' hy) hy'
  exact key n 0 [] news (by omega) (fun p hp => hp) (by simp only [List.range_zero, List.map_nil]; exact .nil)
end
end Mine
end
section
open PySem PySem.W PySem.Calls PyProof.Rows PySem.Spec PyProof.Rows.LCg
set_option maxRecDepth 100000
set_option linter.unusedVariables false
namespace Mine
def rowOf (ns : List Int) (i : Nat) : R4 := ⟨ns.getD (4 * i) 0, ns.getD (4 * i + 1) 0, 1 + (if ns.getD (4 * i + 2) 0 < 0 then -ns.getD (4 * i + 2) 0 else ns.getD (4 * i + 2) 0), 1 + (if ns.getD (4 * i + 3) 0 < 0 then -ns.getD (4 * i + 3) 0 else ns.getD (4 * i + 3) 0)⟩
theorem len63 {vs : List Value} {ns : List Int} (h : IntsAre vs ns) (h2 : ns.length ≤ 63) : vs.length ≤ 63 := by rw [IntsAre.length h]; exact h2
theorem range4_size {n : Nat} : Builtin.Range.rangeSize 0 ((n : Int) - 3) 4 = ((n / 4 : Nat) : Int) := by
  unfold Builtin.Range.rangeSize
  rw [if_pos (by decide)]
  split <;> omega
theorem range4_small {n : Nat} (h : n ≤ 1000) : Builtin.Range.small 0 ((n : Int) - 3) 4 = true := by
  have f : ∀ x : Int, -2000 ≤ x → x ≤ 2000 → Builtin.Range.rangeFitsLong x = true := fun x a b => by
    unfold Builtin.Range.rangeFitsLong
    simp
    omega
  unfold Builtin.Range.small
  rw [range4_size, f _ (by omega) (by omega), f _ (by omega) (by omega), f _ (by omega) (by omega), f _ (by omega) (by omega), if_pos (by decide), f _ (by omega) (by omega)]
  simp
/-- one more row behind the ledger -/
def RowEl (r : R4) (nx : List (Addr × Obj)) (y : Value) (nx' : List (Addr × Obj)) : Prop := ∃ (t : Addr) (t1 t2 t3 t4 : Tok) (k : Nat), nx' = (t, tup4 (.int r.x t1) (.int r.y t2) (.int r.w t3) (.int r.h t4) k) :: nx ∧ y = .ref t ∧ ∀ p ∈ nx, p.1 < t
theorem allLt_mem {d : Addr} : ∀ {l : List (Addr × Obj)}, AllLt d l → ∀ p ∈ l, p.1 < d
  | [], _ => fun _ h => (nomatch h)
  | _ :: _, h => fun p hp => by
    rcases List.mem_cons.mp hp with rfl | hp
    · exact h.1
    · exact allLt_mem h.2 p hp
section
variable {h₀ h' : Heap} {L I C D : Addr} {m : Str → Option Value} {s₁ : Shared} {oI oC oD : Obj} {S : List (Addr × Obj) → Prop} {nx : List (Addr × Obj)} {tk : Nat}
theorem row_end {t9 : Addr} {a b c d : Int} {ta tb tc td : Tok} {k : Nat} {r : R4} (F : Fr h₀ L h' m) (N : News h₀ L h' ((t9, tup4 (.int a ta) (.int b tb) (.int c tc) (.int d td) k) :: (I, oI) :: (C, oC) :: (D, oD) :: nx)) (off : Off3 I C D nx) (h1 : @LT.lt Nat _ I t9 ∧ @LT.lt Nat _ C t9 ∧ @LT.lt Nat _ D t9 ∧ AllLt t9 nx)
    (hS : S ((t9, tup4 (.int a ta) (.int b tb) (.int c tc) (.int d td) k) :: nx)) (hr : r = ⟨a, b, c, d⟩) : CompEnd h₀ L m s₁ I oI C oC D oD S (fun y nx' => RowEl r nx y nx') (.ref t9) { s₁ with heap := h', toks := tk } := by
  subst hr
  refine CompEnd.intro F N ((t9, tup4 (.int a ta) (.int b tb) (.int c tc) (.int d td) k) :: nx) (fun p hp => ?_) ⟨⟨Nat.ne_of_gt h1.1, Nat.ne_of_gt h1.2.1, Nat.ne_of_gt h1.2.2.1⟩, off⟩ hS ⟨t9, ta, tb, tc, td, k, rfl, rfl, allLt_mem h1.2.2.2⟩
  simp only [List.mem_cons] at hp ⊢
  rcases hp with rfl | rfl | rfl | rfl | hp <;> simp [*]
end
section
variable {prog : Program} {w : World} {A : Around} {h₀ : Heap} {L : Addr} {m : Str → Option Value} {env : Env} {elt : Expr} {x : Str} {scope : Scope} {cl : List (Str × Addr)} {s : Shared} {S : List (Addr × Obj) → Prop} {Fin : List Value → List (Addr × Obj) → Prop} {news : List (Addr × Obj)} {P : Nat → Value → Prop} {n : Nat}
theorem comp_rows (g : Nat → R4)
    (turn : ∀ i v nx I oI C oC D m₂ ys h tk (E' : Value → Shared → Prop), i < n → P i v → (∀ p ∈ news, p ∈ nx) → NsObj oC m₂ → m₂ x = some v → Fr h₀ L h m → News h₀ L h ((I, oI) :: (C, oC) :: (D, lst ys) :: nx) → Off3 I C D nx → ((@Ne Nat I C) ∧ (@Ne Nat I D) ∧ (@Ne Nat C D)) →
      wpAny (model prog w) A (eval elt (compEnvC scope cl C env)) (CompEnd h₀ L m { s with heap := h, toks := tk } I oI C oC D (lst ys) S (fun y nx' => RowEl (g i) nx y nx')) E' { s with heap := h, toks := tk })
    (fin : ∀ ys tl, (∀ p ∈ tl, ∀ q ∈ news, q.1 < p.1) → DatAll tl ys (((List.range n).map g).map rowD) → Fin ys (tl ++ news)) : CompRest prog w A h₀ L m env elt x scope cl s S P Fin n 0 [] news := by
  have key : ∀ (j i : Nat) (ys : List Value) (tl : List (Addr × Obj)), i + j = n → (∀ p ∈ tl, ∀ q ∈ news, q.1 < p.1) → DatAll tl ys (((List.range i).map g).map rowD) → CompRest prog w A h₀ L m env elt x scope cl s S P Fin j i ys (tl ++ news) := by
    intro j
    induction j with
    | zero =>
      intro i ys tl hi hs hy
      have : i = n := by omega
      subst this
      exact CompRest.zero (fin ys tl hs hy)
    | succ j ih =>
      intro i ys tl hi hs hy
      refine CompRest.succ ?_
      intro v I oI C oC D m₂ h tk E' hv hC hx F N off ne
      refine wpAny_mono (turn i v (tl ++ news) I oI C oC D m₂ ys h tk E' (by omega) hv (fun p hp => List.mem_append_right _ hp) hC hx F N off ne) (fun y s₂ hq => ?_) fun _ _ e => e
      obtain ⟨h', tk', nw, e, F', N', off', hS, t, t1, t2, t3, t4, k, hnw, rfl, hlt⟩ := hq
      refine ⟨h', tk', nw, e, F', N', off', hS, ?_⟩
      rw [hnw]
      refine ih (i + 1) _ ((t, _) :: tl) (by omega) (fun p hp q hq => ?_) ?_
      · rcases List.mem_cons.mp hp with rfl | hp
        · exact hlt q (List.mem_append_right _ hq)
        · exact hs p hp q hq
      · rw [List.range_succ, List.map_append, List.map_append]
        exact datall_snoc (datall_mono (fun p hp => List.mem_cons_of_mem _ hp) hy) (row_close List.mem_cons_self)
  exact key n 0 [] [] (by omega) (fun p hp => by cases hp) (by simp only [List.range_zero, List.map_nil]; exact .nil)
theorem src_rows {Q : Value → Shared → Prop} {s₁ : Shared} {r : Addr} {ta tb tc : Tok} {vs : List Value} {ns : List Int} (hr : IsRange s₁.heap r 0 ((ns.length : Int) - 3) 4 ta tb tc) (hI : IntsAre vs ns) (h16 : ns.length ≤ 16) (hh : A.handled = none) (F : Fr h₀ L s₁.heap m) (N : News h₀ L s₁.heap news)
    (turn : ∀ (i : Nat) k (z0 z1 z2 z3 t : Tok) nx I oI C oC D m₂ ys h tk (E' : Value → Shared → Prop), 0 ≤ k → k < 1000 → vs[Int.toNat k]? = some (.int (ns.getD (4 * i) 0) z0) → vs[Int.toNat (k + 1)]? = some (.int (ns.getD (4 * i + 1) 0) z1) → vs[Int.toNat (k + 2)]? = some (.int (ns.getD (4 * i + 2) 0) z2) → vs[Int.toNat (k + 3)]? = some (.int (ns.getD (4 * i + 3) 0) z3) →
      (∀ p ∈ news, p ∈ nx) → NsObj oC m₂ → m₂ x = some (.int k t) → Fr h₀ L h m → News h₀ L h ((I, oI) :: (C, oC) :: (D, lst ys) :: nx) → Off3 I C D nx → ((@Ne Nat I C) ∧ (@Ne Nat I D) ∧ (@Ne Nat C D)) →
      wpAny (model prog w) A (eval elt (compEnvC scope cl C env)) (CompEnd h₀ L m { s₁ with heap := h, toks := tk } I oI C oC D (lst ys) (fun _ => True) (fun y nx' => RowEl (rowOf ns i) nx y nx')) E' { s₁ with heap := h, toks := tk })
    (fin : ∀ g ys tl, (∀ p ∈ tl, ∀ q ∈ news, q.1 < p.1) → DatAll tl ys (((List.range (ns.length / 4)).map (rowOf ns)).map rowD) → FinE h₀ L m { s₁ with heap := g } Q ys (tl ++ news)) :
    SrcStep prog w A h₀ L m env elt x scope cl Q (.ref r) s₁ := by
  refine SrcStep.intro hh F N hr (range4_small (by omega)) range4_size (by rw [sizeLine_eq]; omega) fun g => comp_rows (rowOf ns) ?_ (fin g)
  rintro i v nx I oI C oC D m₂ ys h tk E' hi ⟨t, rfl⟩ hs hC hx F N off ne
  have hk : ∀ j : Nat, j < 4 → ∃ z : Tok, vs[Int.toNat ((0 : Int) + (i : Int) * 4 + j)]? = some (.int (ns.getD (4 * i + j) 0) z) := fun j hj => by
    obtain ⟨z, hz⟩ := ints_at hI (i := 4 * i + j) (by omega)
    exact ⟨z, by rw [show Int.toNat ((0 : Int) + (i : Int) * 4 + j) = 4 * i + j by omega]; exact hz⟩
  obtain ⟨z0, h0⟩ := hk 0 (by omega)
  obtain ⟨z1, h1⟩ := hk 1 (by omega)
  obtain ⟨z2, h2⟩ := hk 2 (by omega)
  obtain ⟨z3, h3⟩ := hk 3 (by omega)
  exact turn i _ z0 z1 z2 z3 t nx I oI C oC D m₂ ys h tk E' (by omega) (by omega) (by simpa using h0) h1 h2 h3 hs hC hx F N off ne
end
end Mine
end
section
open PySem PySem.W PySem.Calls PyProof.Rows PySem.Spec PyProof.Rows.LCg
set_option maxRecDepth 100000
set_option linter.unusedVariables false
namespace Mine
/-- a part that is walked later -/
def Later (p : Prop) : Prop := p
section
variable {M : Model} {A : Around} {env : Env} {E : Value → Shared → Prop}
theorem execs_mid {st : Stmt} {rest : List Stmt} (Mid : Shared → Prop) {Q : Flow → Shared → Prop} {s : Shared} (h1 : wpAny M A (exec st env) (fun f s' => f = .next ∧ Mid s') E s) (h2 : Later (∀ s', Mid s' → wpAny M A (execs rest env) Q E s')) : wpAny M A (execs (st :: rest) env) Q E s :=
  wpAny_execs_cons (wpAny_mono h1 (fun f s' ⟨e, h⟩ => by subst e; exact h2 s' h) fun _ _ e => e)
end
def lawRows (ns : List Int) : List R4 := if ns.length / 4 < 2 then [⟨0, 0, 2, 2⟩, ⟨1, 1, 2, 2⟩] else (List.range (ns.length / 4)).map (rowOf ns)
/-- the law's state: its three cells ahead of the ledger -/
structure LawSt (h₀ : Heap) (L c1 c2 c3 : Addr) (lN lR : Addr) (ns : List Int) (rs : List R4) (nb : List (Addr × Obj)) (o1 o2 o3 : Obj) (vsN vsR : List Value) (kN kR : Nat) (m : Str → Option Value) (h : Heap) : Prop where
  F : Fr h₀ L h m
  N : News h₀ L h ((c3, o3) :: (c2, o2) :: (c1, o1) :: nb)
  d1 : o1.data = .cell (some (.ref lN))
  d2 : o2.data = .cell (some (.ref lR))
  off : ∀ p ∈ nb, p.1 ≠ c1 ∧ p.1 ≠ c2 ∧ p.1 ≠ c3
  mN : (lN, listOf vsN.toArray kN) ∈ nb
  iN : IntsAre vsN ns
  mR : (lR, listOf vsR.toArray kR) ∈ nb
  dR : DatAll nb vsR (rs.map rowD)
def MidA (s1 : Shared) (h₀ : Heap) (L c1 c2 c3 : Addr) (ns : List Int) (s' : Shared) : Prop :=
  ∃ lN lR nb o1 o2 o3 vsN vsR kN kR m h tk eC, s' = { s1 with heap := h, toks := tk } ∧ LawSt h₀ L c1 c2 c3 lN lR ns (lawRows ns) nb o1 o2 o3 vsN vsR kN kR m h ∧ o3.data = .cell eC
section
variable {h₀ h : Heap} {L : Addr}
theorem rows_start {D l3 c1 c2 c3 : Addr} {oD oN o1 o2 o3 : Obj} {tl : List (Addr × Obj)} (N : News h₀ L h ((D, oD) :: (tl ++ [(l3, oN), (c3, o3), (c2, o2), (c1, o1)]))) (o1' : Off1 D (tl ++ [(l3, oN), (c3, o3), (c2, o2), (c1, o1)])) (hlt : ∀ p ∈ tl, ∀ q ∈ [(l3, oN), (c3, o3), (c2, o2), (c1, o1)], q.1 < p.1) (hl : @LT.lt Nat _ c3 l3 ∧ @LT.lt Nat _ c2 l3 ∧ @LT.lt Nat _ c1 l3) :
    News h₀ L h ((c3, o3) :: (c2, o2) :: (c1, o1) :: (D, oD) :: (l3, oN) :: tl) ∧ (∀ p ∈ (D, oD) :: (l3, oN) :: tl, p.1 ≠ c1) ∧ (∀ p ∈ (D, oD) :: (l3, oN) :: tl, p.1 ≠ c2) ∧ (∀ p ∈ (D, oD) :: (l3, oN) :: tl, p.1 ≠ c3) := by
  have hD := off1_mem _ o1'
  refine ⟨fun p hp => N p ?_, ?_, ?_, ?_⟩
  · simp only [List.mem_cons, List.mem_append, List.not_mem_nil, or_false] at hp ⊢
    rcases hp with hp | hp | hp | hp | hp | hp <;> simp [hp]
  all_goals
    intro p hp
    rcases List.mem_cons.mp hp with rfl | hp
    · first
        | exact Ne.symm (hD _ (List.mem_append_right _ (.tail _ (.tail _ (.tail _ (.head _))))))
        | exact Ne.symm (hD _ (List.mem_append_right _ (.tail _ (.tail _ (.head _)))))
        | exact Ne.symm (hD _ (List.mem_append_right _ (.tail _ (.head _))))
    · rcases List.mem_cons.mp hp with rfl | hp
      · first
          | exact Nat.ne_of_gt hl.1
          | exact Nat.ne_of_gt hl.2.1
          | exact Nat.ne_of_gt hl.2.2
      · first
          | exact Nat.ne_of_gt (hlt p hp _ (.tail _ (.tail _ (.tail _ (.head _)))))
          | exact Nat.ne_of_gt (hlt p hp _ (.tail _ (.tail _ (.head _))))
          | exact Nat.ne_of_gt (hlt p hp _ (.tail _ (.head _)))
end
section
variable {s1 : Shared} {h₀ h : Heap} {L c1 c2 c3 : Addr} {m : Str → Option Value} {tk : Nat} {ns : List Int} {o1 o2 o3 oD : Obj} {lN D : Addr} {vsN ys : List Value} {kN : Nat} {tl : List (Addr × Obj)} {eC : Option Value}
theorem midA_long (F : Fr h₀ L h m) (N : News h₀ L h ((c3, o3) :: (c2, o2) :: (c1, o1) :: (D, lst ys) :: (lN, listOf vsN.toArray kN) :: tl)) (d1 : o1.data = .cell (some (.ref lN))) (d2 : o2.data = .cell (some (.ref D))) (d3 : o3.data = .cell eC) (n1 : ∀ p ∈ (D, lst ys) :: (lN, listOf vsN.toArray kN) :: tl, p.1 ≠ c1) (n2 : ∀ p ∈ (D, lst ys) :: (lN, listOf vsN.toArray kN) :: tl, p.1 ≠ c2) (n3 : ∀ p ∈ (D, lst ys) :: (lN, listOf vsN.toArray kN) :: tl, p.1 ≠ c3)
    (iN : IntsAre vsN ns) (hD : DatAll tl ys (((List.range (ns.length / 4)).map (rowOf ns)).map rowD)) (hl : ¬ ns.length / 4 < 2) : MidA s1 h₀ L c1 c2 c3 ns { s1 with heap := h, toks := tk } :=
  ⟨lN, D, _, o1, o2, o3, vsN, ys, kN, _, m, h, tk, eC, rfl, ⟨F, N, d1, d2, fun p hp => ⟨n1 p hp, n2 p hp, n3 p hp⟩, .tail _ (.head _), iN, .head _, by
    unfold lawRows
    rw [if_neg hl]
    exact datall_mono (fun p hp => .tail _ (.tail _ hp)) hD⟩, d3⟩
theorem midA_short {l t u : Addr} {t1 t2 t3 t4 u1 u2 u3 u4 : Tok} {k1 k2 k3 : Nat} (F : Fr h₀ L h m) (N : News h₀ L h ((l, listOf #[.ref t, .ref u] k3) :: (u, tup4 (.int 1 u1) (.int 1 u2) (.int 2 u3) (.int 2 u4) k2) :: (t, tup4 (.int 0 t1) (.int 0 t2) (.int 2 t3) (.int 2 t4) k1) :: (c3, o3) :: (c2, o2) :: (c1, o1) :: (D, oD) :: (lN, listOf vsN.toArray kN) :: tl)) (d1 : o1.data = .cell (some (.ref lN))) (d2 : o2.data = .cell (some (.ref l))) (d3 : o3.data = .cell eC)
    (n1 : ∀ p ∈ (D, oD) :: (lN, listOf vsN.toArray kN) :: tl, p.1 ≠ c1) (n2 : ∀ p ∈ (D, oD) :: (lN, listOf vsN.toArray kN) :: tl, p.1 ≠ c2) (n3 : ∀ p ∈ (D, oD) :: (lN, listOf vsN.toArray kN) :: tl, p.1 ≠ c3)
    (ll : (l ≠ c1 ∧ l ≠ c2 ∧ l ≠ c3) ∧ (u ≠ c1 ∧ u ≠ c2 ∧ u ≠ c3) ∧ (t ≠ c1 ∧ t ≠ c2 ∧ t ≠ c3)) (iN : IntsAre vsN ns) (hl : ns.length / 4 < 2) : MidA s1 h₀ L c1 c2 c3 ns { s1 with heap := h, toks := tk } := by
  refine ⟨lN, l, (l, listOf #[.ref t, .ref u] k3) :: (u, tup4 (.int 1 u1) (.int 1 u2) (.int 2 u3) (.int 2 u4) k2) :: (t, tup4 (.int 0 t1) (.int 0 t2) (.int 2 t3) (.int 2 t4) k1) :: (lN, listOf vsN.toArray kN) :: tl, o1, o2, o3, vsN, [.ref t, .ref u], kN, k3, m, h, tk, eC, rfl, ⟨F, fun p hp => N p ?_, d1, d2, fun p hp => ?_, .tail _ (.tail _ (.tail _ (.head _))), iN, .head _, ?_⟩, d3⟩
  · simp only [List.mem_cons] at hp ⊢
    rcases hp with hp | hp | hp | hp | hp | hp | hp | hp <;> simp [hp]
  · simp only [List.mem_cons] at hp
    rcases hp with rfl | rfl | rfl | hp
    · exact ll.1
    · exact ll.2.1
    · exact ll.2.2
    · have hp' : p ∈ (D, oD) :: (lN, listOf vsN.toArray kN) :: tl := List.mem_cons_of_mem _ (List.mem_cons.mpr hp)
      exact ⟨n1 p hp', n2 p hp', n3 p hp'⟩
  · unfold lawRows
    rw [if_pos hl]
    exact .cons (row_close (r := ⟨0, 0, 2, 2⟩) (.tail _ (.tail _ (.head _)))) (.cons (row_close (r := ⟨1, 1, 2, 2⟩) (.tail _ (.head _))) .nil)
end
theorem rows_two (ns : List Int) : 2 ≤ (lawRows ns).length := by
  unfold lawRows
  split
  · simp
  · simp; omega
theorem rows_four {ns : List Int} (h : ns.length ≤ 16) : (lawRows ns).length ≤ 4 := by
  unfold lawRows
  split
  · simp
  · simp; omega
def MidT (s1 : Shared) (h₀ : Heap) (L c1 c2 c3 : Addr) (lN lR : Addr) (ns : List Int) (rs : List R4) (nb : List (Addr × Obj)) (o1 o2 o3 : Obj) (vsN vsR : List Value) (kN kR : Nat) (m : Str → Option Value) (s' : Shared) : Prop :=
  ∃ h tk tv tt, s' = { s1 with heap := h, toks := tk } ∧ Fr h₀ L h (fun z => if z = "turn" then some (.int tv tt) else m z) ∧ News h₀ L h ((c3, o3) :: (c2, o2) :: (c1, o1) :: nb) ∧ 0 ≤ tv ∧ tv < rs.length
theorem rows_len {news : List (Addr × Obj)} {vs : List Value} {rs : List R4} (h : DatAll news vs (rs.map rowD)) : vs.length = rs.length := by
  rw [← List.length_map (f := rowD)]; exact h.length
theorem midT_of {s1 : Shared} {h₀ h : Heap} {L c1 c2 c3 lN lR : Addr} {ns : List Int} {rs : List R4} {nb : List (Addr × Obj)} {o1 o2 o3 : Obj} {vsN vsR : List Value} {kN kR : Nat} {m : Str → Option Value} {tk : Nat} {a : Int} {tt : Tok} (hr : 2 ≤ rs.length) (F : Fr h₀ L h (fun z => if z = "turn" then some (.int (Int.fmod a (rs.length : Int)) tt) else m z)) (N : News h₀ L h ((c3, o3) :: (c2, o2) :: (c1, o1) :: nb)) :
    MidT s1 h₀ L c1 c2 c3 lN lR ns rs nb o1 o2 o3 vsN vsR kN kR m { s1 with heap := h, toks := tk } :=
  ⟨h, tk, _, tt, rfl, F, N, Int.fmod_nonneg_of_pos _ (by omega), Int.fmod_lt_of_pos _ (by omega)⟩
end Mine
end
section
open PySem PySem.W PySem.Calls PyProof.Rows PySem.Spec PyProof.Rows.LCg
set_option maxRecDepth 100000
set_option linter.unusedVariables false
namespace Mine
abbrev rr0 : R4 := ⟨0, 0, 0, 0⟩
def pairAt (rs : List R4) (k : Nat) : List (R4 × R4) := if k / rs.length = k % rs.length then [] else [(rs.getD (k / rs.length) rr0, rs.getD (k % rs.length) rr0)]
def pairsUp (rs : List R4) : Nat → List (R4 × R4)
  | 0 => []
  | k + 1 => pairsUp rs k ++ pairAt rs k
abbrev ppD (p : R4 × R4) : Dat := .tuple [rowD p.1, rowD p.2]
def PRel (base : List (Addr × Obj)) (rs : List R4) (k : Nat) (ys : List Value) (nx : List (Addr × Obj)) : Prop :=
  ∃ tl, nx = tl ++ base ∧ (∀ p ∈ tl, ∀ q ∈ base, q.1 < p.1) ∧ DatAll nx ys ((pairsUp rs k).map ppD)
theorem prel_sub {base nx : List (Addr × Obj)} {rs : List R4} {k : Nat} {ys : List Value} (h : PRel base rs k ys nx) : ∀ p ∈ base, p ∈ nx := by
  obtain ⟨tl, rfl, _, _⟩ := h
  exact fun p hp => List.mem_append_right _ hp
theorem div_at {n i j : Nat} (hj : j < n) : (i * n + j) / n = i ∧ (i * n + j) % n = j := by
  have hn : 0 < n := by omega
  constructor
  · rw [Nat.mul_comm, Nat.mul_add_div hn, Nat.div_eq_of_lt hj, Nat.add_zero]
  · rw [Nat.mul_comm, Nat.mul_add_mod, Nat.mod_eq_of_lt hj]
section
variable {h₀ h' : Heap} {L I2 I1 C D : Addr} {m : Str → Option Value} {s₁ : Shared} {o2 o1 oC oD : Obj} {nx base : List (Addr × Obj)} {tk : Nat} {rs : List R4} {ys : List Value} {i j : Nat}
theorem end2_pair {t9 : Addr} {v1 v2 : Value} {k9 : Nat} (F : Fr h₀ L h' m) (N : News h₀ L h' ((t9, tup2 v1 v2 k9) :: (I2, o2) :: (I1, o1) :: (C, oC) :: (D, oD) :: nx)) (off3 : Off3 I1 C D nx) (off1 : Off1 I2 nx) (hl : @LT.lt Nat _ I2 t9 ∧ @LT.lt Nat _ I1 t9 ∧ @LT.lt Nat _ C t9 ∧ @LT.lt Nat _ D t9 ∧ AllLt t9 nx) (hrel : PRel base rs (i * rs.length + j) ys nx) (hj : j < rs.length)
    (d1 : DatIn nx v1 (rowD (rs.getD i rr0))) (d2 : DatIn nx v2 (rowD (rs.getD j rr0))) (hne : i ≠ j) :
    End2 h₀ L m s₁ I2 o2 I1 o1 C oC D oD (fun v nx' => PRel base rs (i * rs.length + j + 1) (ys ++ [v]) nx') (.ref t9) { s₁ with heap := h', toks := tk } := by
  obtain ⟨tl, rfl, hlt, hD⟩ := hrel
  have hall := allLt_mem hl.2.2.2.2
  refine ⟨h', tk, (t9, tup2 v1 v2 k9) :: (tl ++ base), rfl, F, fun p hp => N p ?_, ⟨⟨Nat.ne_of_gt hl.2.1, Nat.ne_of_gt hl.2.2.1, Nat.ne_of_gt hl.2.2.2.1⟩, off3⟩, ⟨Nat.ne_of_gt hl.1, off1⟩, (t9, tup2 v1 v2 k9) :: tl, rfl, fun p hp q hq => ?_, ?_⟩
  · simp only [List.mem_cons] at hp ⊢
    rcases hp with rfl | rfl | rfl | rfl | rfl | hp <;> simp [*]
  · rcases List.mem_cons.mp hp with rfl | hp
    · exact hall q (List.mem_append_right _ hq)
    · exact hlt p hp q hq
  · show DatAll _ _ (List.map ppD (pairsUp rs (i * rs.length + j) ++ pairAt rs (i * rs.length + j)))
    unfold pairAt
    rw [(div_at hj).1, (div_at hj).2, if_neg hne, List.map_append]
    have hs : ∀ p ∈ tl ++ base, p ∈ (t9, tup2 v1 v2 k9) :: (tl ++ base) := fun p hp => List.mem_cons_of_mem _ hp
    exact datall_snoc (datall_mono hs hD) (DatIn.tuple (vs := [v1, v2]) List.mem_cons_self (.cons (d1.mono hs) (.cons (d2.mono hs) .nil)))
theorem end2_skip (F : Fr h₀ L h' m) (N : News h₀ L h' ((I2, o2) :: (I1, o1) :: (C, oC) :: (D, oD) :: nx)) (off3 : Off3 I1 C D nx) (off1 : Off1 I2 nx) (hrel : PRel base rs (i * rs.length + j) ys nx) (hj : j < rs.length) (he : i = j) :
    End2 h₀ L m s₁ I2 o2 I1 o1 C oC D oD (fun _ nx' => PRel base rs (i * rs.length + j + 1) ys nx') .none { s₁ with heap := h', toks := tk } := by
  obtain ⟨tl, rfl, hlt, hD⟩ := hrel
  refine ⟨h', tk, tl ++ base, rfl, F, N, off3, off1, tl, rfl, hlt, ?_⟩
  show DatAll _ _ (List.map ppD (pairsUp rs (i * rs.length + j) ++ pairAt rs (i * rs.length + j)))
  unfold pairAt
  rw [(div_at hj).1, (div_at hj).2, if_pos he, List.append_nil]
  exact hD
end
def MidP (s1 : Shared) (h₀ : Heap) (L c1 c2 c3 : Addr) (rs : List R4) (nb : List (Addr × Obj)) (o1 o2 o3 : Obj) (m : Str → Option Value) (s' : Shared) : Prop :=
  ∃ h tk lP vsP kP nb', s' = { s1 with heap := h, toks := tk } ∧ Fr h₀ L h (fun z => if z = "pairs" then some (.ref lP) else m z) ∧ News h₀ L h ((c3, o3) :: (c2, o2) :: (c1, o1) :: nb') ∧ (∀ p ∈ nb, p ∈ nb') ∧ (∀ p ∈ nb', p.1 ≠ c1 ∧ p.1 ≠ c2 ∧ p.1 ≠ c3) ∧
    (lP, listOf vsP.toArray kP) ∈ nb' ∧ DatAll nb' vsP ((pairsUp rs (rs.length * rs.length)).map ppD)
def isSeq (o : Obj) : Prop := ∃ vs n, o.data = .seq vs n
mutual
theorem datIn_seq {X Y : List (Addr × Obj)} (h : ∀ p ∈ X, isSeq p.2 → p ∈ Y) : ∀ {v : Value} {d : Dat}, DatIn X v d → DatIn Y v d
  | _, _, .none => .none
  | _, _, .bool b => .bool b
  | _, _, .int i t => .int i t
  | _, _, .str x t => .str x t
  | _, _, .bytes b t => .bytes b t
  | _, _, .tuple m r => .tuple (h _ m ⟨_, _, rfl⟩) (datAll_seq h r)
  | _, _, .list m r => .list (h _ m ⟨_, _, rfl⟩) (datAll_seq h r)
theorem datAll_seq {X Y : List (Addr × Obj)} (h : ∀ p ∈ X, isSeq p.2 → p ∈ Y) : ∀ {vs : List Value} {ds : List Dat}, DatAll X vs ds → DatAll Y vs ds
  | _, _, .nil => .nil
  | _, _, .cons a r => .cons (datIn_seq h a) (datAll_seq h r)
end
theorem not_seq {o : Obj} {c : Option Value} (h : o.data = .cell c) : ¬ isSeq o := fun ⟨vs, n, e⟩ => by rw [h] at e; cases e
theorem midP_of {s1 : Shared} {h₀ h : Heap} {L c1 c2 c3 D : Addr} {rs : List R4} {nb nx : List (Addr × Obj)} {o1 o2 o3 : Obj} {m : Str → Option Value} {tk : Nat} {ys : List Value} {e1 e2 e3 : Option Value} (d1 : o1.data = .cell e1) (d2 : o2.data = .cell e2) (d3 : o3.data = .cell e3) (off : ∀ p ∈ nb, p.1 ≠ c1 ∧ p.1 ≠ c2 ∧ p.1 ≠ c3)
    (F : Fr h₀ L h (fun z => if z = "pairs" then some (.ref D) else m z)) (N : News h₀ L h ((D, lst ys) :: nx)) (o1' : Off1 D nx) (hr : PRel ((c3, o3) :: (c2, o2) :: (c1, o1) :: nb) rs (rs.length * rs.length) ys nx) : MidP s1 h₀ L c1 c2 c3 rs nb o1 o2 o3 m { s1 with heap := h, toks := tk } := by
  obtain ⟨tl, rfl, hlt, hD⟩ := hr
  have hoD := off1_mem _ o1'
  refine ⟨h, tk, D, ys, _, (D, lst ys) :: (tl ++ nb), rfl, F, fun p hp => N p ?_, fun p hp => .tail _ (List.mem_append_right _ hp), fun p hp => ?_, .head _, datAll_seq (fun p hp hs => ?_) hD⟩
  · simp only [List.mem_cons, List.mem_append] at hp ⊢
    rcases hp with hp | hp | hp | hp | hp | hp <;> simp [hp]
  · rcases List.mem_cons.mp hp with rfl | hp
    · exact ⟨Ne.symm (hoD _ (List.mem_append_right _ (.tail _ (.tail _ (.head _))))), Ne.symm (hoD _ (List.mem_append_right _ (.tail _ (.head _)))), Ne.symm (hoD _ (List.mem_append_right _ (.head _)))⟩
    · rcases List.mem_append.mp hp with hp | hp
      · exact ⟨Nat.ne_of_gt (hlt p hp _ (.tail _ (.tail _ (.head _)))), Nat.ne_of_gt (hlt p hp _ (.tail _ (.head _))), Nat.ne_of_gt (hlt p hp _ (.head _))⟩
      · exact off p hp
  · rcases List.mem_append.mp hp with hp | hp
    · exact .tail _ (List.mem_append_left _ hp)
    · rcases List.mem_cons.mp hp with rfl | hp
      · exact absurd hs (not_seq d3)
      · rcases List.mem_cons.mp hp with rfl | hp
        · exact absurd hs (not_seq d2)
        · rcases List.mem_cons.mp hp with rfl | hp
          · exact absurd hs (not_seq d1)
          · exact .tail _ (List.mem_append_right _ hp)
theorem row_at {nb : List (Addr × Obj)} {vs : List Value} {rs : List R4} (h : DatAll nb vs (rs.map rowD)) {i : Nat} (hi : i < rs.length) : ∃ v, vs[Int.toNat (i : Int)]? = some v ∧ DatIn nb v (rowD (rs.getD i rr0)) := by
  have hl := rows_len h
  have hv : i < vs.length := by omega
  obtain ⟨r, hr, hd⟩ := rows_get h (List.getElem?_eq_getElem hv)
  refine ⟨vs[i], by rw [Int.toNat_natCast]; exact List.getElem?_eq_getElem hv, ?_⟩
  rw [List.getD_eq_getElem?_getD, hr]
  exact hd
end Mine
end
section
open PySem PySem.W PySem.Calls PyProof.Rows PySem.Spec PyProof.Rows.LCg PyProof.Rows.LCp
set_option maxRecDepth 100000
set_option linter.unusedVariables false
namespace Mine
theorem pp_open {news : List (Addr × Obj)} {v : Value} {p : R4 × R4} (h : DatIn news v (ppD p)) : ∃ (a : Addr) (v1 v2 : Value) (n : Nat), v = .ref a ∧ (a, tup2 v1 v2 n) ∈ news ∧ DatIn news v1 (rowD p.1) ∧ DatIn news v2 (rowD p.2) := by
  obtain ⟨a, vs, n, rfl, hm, h⟩ := inv_tuple h
  obtain ⟨v1, _, rfl, h1, h⟩ := inv_cons h
  obtain ⟨v2, _, rfl, h2, h⟩ := inv_cons h
  obtain rfl := inv_nil h
  exact ⟨a, v1, v2, n, rfl, hm, h1, h2⟩
theorem pps_get {news : List (Addr × Obj)} {vs : List Value} {ps : List (R4 × R4)} (h : DatAll news vs (ps.map ppD)) {i : Nat} {v : Value} (hv : vs[i]? = some v) : ∃ p, ps[i]? = some p ∧ DatIn news v (ppD p) := by
  have hl := h.length
  rw [List.length_map] at hl
  have hi : i < ps.length := by rw [← hl]; exact (List.getElem?_eq_some_iff.mp hv).1
  obtain ⟨u, hu, hd⟩ := h.get (k := i) (by rw [List.length_map]; exact hi)
  rw [hv] at hu
  cases hu
  exact ⟨ps[i], List.getElem?_eq_getElem hi, by simpa using hd⟩
section
variable {prog : Program} {w : World} {A : Around} {E : Value → Shared → Prop} {h₀ : Heap} {L : Addr} {m : Str → Option Value} {env : Env} {elt : Expr} {x x₂ : Str} {scope : Scope} {cl : List (Str × Addr)} {s : Shared} {S : List (Addr × Obj) → Prop} {Fin : List Value → List (Addr × Obj) → Prop} {news : List (Addr × Obj)}
def BoolEl (b : Bool) (nx : List (Addr × Obj)) (y : Value) (nx' : List (Addr × Obj)) : Prop := nx' = nx ∧ y = .bool b
theorem pairs_comp {vs : List Value} {ps : List (R4 × R4)} (f : R4 × R4 → Bool) (hD : DatAll news vs (ps.map ppD))
    (turn : ∀ p t u (t1 t2 t3 t4 u1 u2 u3 u4 : Tok) (n k : Nat) I oI C oC D m₂ ys h tk (E' : Value → Shared → Prop), p ∈ ps → (t, tup4 (.int (R4.x p.1) t1) (.int p.1.y t2) (.int p.1.w t3) (.int p.1.h t4) n) ∈ news → (u, tup4 (.int (R4.x p.2) u1) (.int p.2.y u2) (.int p.2.w u3) (.int p.2.h u4) k) ∈ news → NsObj oC m₂ → m₂ x = some (.ref t) → m₂ x₂ = some (.ref u) → Fr h₀ L h m → News h₀ L h ((I, oI) :: (C, oC) :: (D, lst ys) :: news) → Off3 I C D news → ((@Ne Nat I C) ∧ (@Ne Nat I D) ∧ (@Ne Nat C D)) →
      wpAny (model prog w) A (eval elt (compEnvC scope cl C env)) (CompEnd h₀ L m { s with heap := h, toks := tk } I oI C oC D (lst ys) S (fun y nx' => BoolEl (f p) news y nx')) E' { s with heap := h, toks := tk })
    (fin : Fin ((ps.map f).map Value.bool) news) : CompRestP prog w A h₀ L m env elt x x₂ scope cl s S (fun i v => vs.toArray[i]? = some v) Fin vs.toArray.size 0 [] news := by
  have hl := hD.length
  rw [List.length_map] at hl
  have key : ∀ (j i : Nat) (ys : List Value), i + j = vs.length → ys = ((ps.take i).map f).map Value.bool → CompRestP prog w A h₀ L m env elt x x₂ scope cl s S (fun i v => vs.toArray[i]? = some v) Fin j i ys news := by
    intro j
    induction j with
    | zero =>
      intro i ys hi hy
      rw [List.take_of_length_le (by omega)] at hy
      rw [hy]
      exact CompRestP.zero fin
    | succ j ih =>
      intro i ys hi hy
      refine CompRestP.succ ?_
      intro v hv
      obtain ⟨p, hp, hd⟩ := pps_get hD (by simpa using hv)
      obtain ⟨a, v1, v2, n, rfl, hm, hd1, hd2⟩ := pp_open hd
      obtain ⟨t, t1, t2, t3, t4, n1, rfl, hm1⟩ := row_open hd1
      obtain ⟨u, u1, u2, u3, u4, n2, rfl, hm2⟩ := row_open hd2
      refine ⟨a, _, _, _, _, rfl, hm, rfl, rfl, ?_⟩
      intro I oI C oC D m₂ h tk E' hC hx hx2 F N off ne
      refine wpAny_mono (turn p t u t1 t2 t3 t4 u1 u2 u3 u4 n1 n2 I oI C oC D m₂ ys h tk E' (List.mem_of_getElem? hp) hm1 hm2 hC hx hx2 F N off ne) (fun y s₂ hq => ?_) fun _ _ e => e
      obtain ⟨h', tk', nw, e, F', N', off', hS, hn, hy'⟩ := hq
      rw [hn] at N' off' hS
      refine ⟨h', tk', news, e, F', N', off', hS, ?_⟩
      rw [hy']
      refine ih (i + 1) _ (by omega) ?_
      rw [hy, List.take_add_one, hp]
      simp
  rw [List.size_toArray]
  exact key vs.length 0 [] (by omega) (by simp)
end
theorem eq_bools (a b : Bool) : PySem.MeetsSeq.EqGives (.bool a) (.bool b) (a == b) := by
  intro prog w A E s Q h
  unfold eqBool
  show wpAny _ _ (if (Value.bool a == Value.bool b) = true then _ else _) Q E s
  by_cases hab : (Value.bool a == Value.bool b) = true
  · rw [if_pos hab]
    have e : a = b := by have := eq_of_beq hab; injection this
    subst e
    exact wpAny_bind (wpAny_rule (wpAny_pure (by simpa using h)))
  · rw [if_neg hab]
    exact wpAny_bind (SeqAt.RcAt.bool_bool a b _ _ _ _ (wpAny_truthy_bool h))
section
variable {prog : Program} {w : World} {A : Around} {E : Value → Shared → Prop} {s : Shared} {h₀ : Heap} {L : Addr} {news : List (Addr × Obj)} {Q : Value → Shared → Prop}
def isFalse : Value → Bool
  | .bool b => b == false
  | _ => false
theorem any_false (bs : List Bool) : (bs.map Value.bool).toArray.any isFalse = bs.any (· == false) := by
  rw [← Array.any_toList]
  simp [List.any_map, Function.comp_def, isFalse]
theorem in_boolsN {l : Addr} {bs : List Bool} {n : Nat} (N : News h₀ L s.heap news) (hm : (l, listOf (bs.map Value.bool).toArray n) ∈ news) (h : Q (.bool (bs.any (· == false))) s) : wpAny (model prog w) A (compareOp .In (.bool false) (.ref l)) Q E s := by
  refine SeqInW.in_listW isFalse (fun y hy => ?_) ⟨_, (N _ hm).1, rfl, n, rfl⟩ (by rw [any_false]; exact h)
  obtain ⟨b, hb, rfl⟩ := List.mem_map.mp (by simpa using hy : y ∈ bs.map Value.bool)
  exact eq_bools b false
theorem notIn_boolsN {l : Addr} {bs : List Bool} {n : Nat} (N : News h₀ L s.heap news) (hm : (l, listOf (bs.map Value.bool).toArray n) ∈ news) (h : Q (.bool (!bs.any (· == false))) s) : wpAny (model prog w) A (compareOp .NotIn (.bool false) (.ref l)) Q E s := by
  refine SeqInW.notIn_listW isFalse (fun y hy => ?_) ⟨_, (N _ hm).1, rfl, n, rfl⟩ (by rw [any_false]; exact h)
  obtain ⟨b, hb, rfl⟩ := List.mem_map.mp (by simpa using hy : y ∈ bs.map Value.bool)
  exact eq_bools b false
end
def Within (D : Int) (r : R4) : Prop := (-D ≤ r.x ∧ r.x ≤ D) ∧ (-D ≤ r.y ∧ r.y ≤ D) ∧ (1 ≤ r.w ∧ r.w ≤ D) ∧ (1 ≤ r.h ∧ r.h ≤ D)
theorem pairsUp_mem {rs : List R4} {p : R4 × R4} : ∀ {k : Nat}, k ≤ rs.length * rs.length → p ∈ pairsUp rs k → ∃ i j, i < rs.length ∧ j < rs.length ∧ i ≠ j ∧ p = (rs.getD i rr0, rs.getD j rr0)
  | 0, _, h => by cases h
  | k + 1, hk, h => by
    rcases List.mem_append.mp h with h | h
    · exact pairsUp_mem (by omega) h
    · unfold pairAt at h
      split at h
      · cases h
      · rename_i hne
        rw [List.mem_singleton] at h
        have hn : 0 < rs.length := by
          rcases Nat.eq_zero_or_pos rs.length with e | e
          · rw [e] at hk; omega
          · exact e
        exact ⟨_, _, Nat.div_lt_of_lt_mul (by omega), Nat.mod_lt _ hn, hne, h⟩
theorem pairsUp_has {rs : List R4} {i j : Nat} (hi : i < rs.length) (hj : j < rs.length) (hne : i ≠ j) : ∀ {k : Nat}, i * rs.length + j < k → (rs.getD i rr0, rs.getD j rr0) ∈ pairsUp rs k
  | 0, h => by omega
  | k + 1, h => by
    rcases Nat.lt_or_ge (i * rs.length + j) k with q | q
    · exact List.mem_append_left _ (pairsUp_has hi hj hne q)
    · have e : k = i * rs.length + j := by omega
      refine List.mem_append_right _ ?_
      unfold pairAt
      rw [e, (div_at hj).1, (div_at hj).2, if_neg hne]
      exact List.mem_singleton.mpr rfl
theorem getD_mem {rs : List R4} {i : Nat} (hi : i < rs.length) : rs.getD i rr0 ∈ rs := by
  rw [List.getD_eq_getElem?_getD, List.getElem?_eq_getElem hi]
  exact List.getElem_mem hi
theorem pair_within {D : Int} {rs : List R4} (hb : ∀ r ∈ rs, Within D r) {p : R4 × R4} (hp : p ∈ pairsUp rs (rs.length * rs.length)) : Within D p.1 ∧ Within D p.2 := by
  obtain ⟨i, j, hi, hj, _, rfl⟩ := pairsUp_mem (Nat.le_refl _) hp
  exact ⟨hb _ (getD_mem hi), hb _ (getD_mem hj)⟩
def MidC (s1 : Shared) (h₀ : Heap) (L c1 c2 c3 : Addr) (nb : List (Addr × Obj)) (o1 o2 o3 : Obj) (m : Str → Option Value) (s' : Shared) : Prop :=
  ∃ h tk, s' = { s1 with heap := h, toks := tk } ∧ Fr h₀ L h m ∧ News h₀ L h ((c3, o3) :: (c2, o2) :: (c1, o1) :: nb)
theorem pairsUp_len_le (rs : List R4) : ∀ k, (pairsUp rs k).length ≤ k
  | 0 => Nat.le_refl _
  | k + 1 => by
    show (pairsUp rs k ++ pairAt rs k).length ≤ _
    have := pairsUp_len_le rs k
    rw [List.length_append]
    have h2 : (pairAt rs k).length ≤ 1 := by unfold pairAt; split <;> simp
    omega
theorem pairsUp_len (rs : List R4) (h : rs.length ≤ 4) : (pairsUp rs (rs.length * rs.length)).length ≤ 16 := by
  have h1 := pairsUp_len_le rs (rs.length * rs.length)
  have h2 : rs.length * rs.length ≤ 4 * 4 := Nat.mul_le_mul h h
  omega
theorem any_true {α : Type} (ps : List α) (f : α → Bool) (h : ∀ p, f p = true) : (ps.map f).any (· == false) = false := by
  simp [h]
end Mine
end
namespace Mine
theorem offC8 : True := by
  w_top off
  trivial
theorem anewC8 : (1 : Nat) = 1 := by walk1
end Mine
section
open PySem PySem.W PySem.Calls PyProof.Rows
set_option maxRecDepth 100000
set_option linter.unusedVariables false
namespace Mine

def sharedO (e : Bool) (rs : List R4) : Option R4 :=
  if lmin (rs.map fun r => r.x + r.w) < lmax (rs.map fun r => r.x) ∨ lmin (rs.map fun r => r.y + r.h) < lmax (rs.map fun r => r.y) ∨ (e = false ∧ (lmin (rs.map fun r => r.x + r.w) = lmax (rs.map fun r => r.x) ∨ lmin (rs.map fun r => r.y + r.h) = lmax (rs.map fun r => r.y))) then none
  else some ⟨lmax (rs.map fun r => r.x), lmax (rs.map fun r => r.y), lmin (rs.map fun r => r.x + r.w) - lmax (rs.map fun r => r.x), lmin (rs.map fun r => r.y + r.h) - lmax (rs.map fun r => r.y)⟩
def oneL (e : Bool) : List R4 → Option R4
  | [] => none
  | r :: rs => oneV e r rs
theorem datall_take {news : List (Addr × Obj)} : ∀ {vs : List Value} {ds : List Dat} (k : Nat), DatAll news vs ds → DatAll news (vs.take k) (ds.take k)
  | _, _, 0, _ => by rw [List.take_zero, List.take_zero]; exact .nil
  | _, _, k + 1, .nil => .nil
  | _, _, k + 1, .cons a r => .cons a (datall_take k r)
theorem datall_drop {news : List (Addr × Obj)} : ∀ {vs : List Value} {ds : List Dat} (k : Nat), DatAll news vs ds → DatAll news (vs.drop k) (ds.drop k)
  | _, _, 0, h => h
  | _, _, k + 1, .nil => .nil
  | _, _, k + 1, .cons a r => datall_drop k r
theorem datall_app {news : List (Addr × Obj)} : ∀ {vs us : List Value} {ds es : List Dat}, DatAll news vs ds → DatAll news us es → DatAll news (vs ++ us) (ds ++ es)
  | _, _, _, _, .nil, h => h
  | _, _, _, _, .cons a r, h => .cons a (datall_app r h)
theorem datall_rot {news : List (Addr × Obj)} {vs : List Value} {rs : List R4} (k : Nat) (h : DatAll news vs (rs.map rowD)) : DatAll news (vs.drop k ++ vs.take k) ((rs.drop k ++ rs.take k).map rowD) := by
  rw [List.map_append, List.map_drop, List.map_take]
  exact datall_app (datall_drop k h) (datall_take k h)
section
variable {prog : Program} {w : World} {p : Program} {loose : List Str} {mean : ExcName → Option Value} {mg mb : Str → Option Value} {dp un : Nat} {gd : Option (List Code)} {env : Env} {outer : List Env} {A₀ : Around} {base h₀ : Heap} {L : Addr} {m : Str → Option Value} {news : List (Addr × Obj)} {s : Shared} {Q E : Value → Shared → Prop}
theorem shared_any (B : Below A₀ base outer h₀) (F : Fr h₀ L s.heap m) (X : (Mine.hd.heap_1 w.params).In h₀) (N : News h₀ L s.heap news) (T : Top p loose mean mg mb h₀) (hf : env.frame = some L) (hk : env.scope.kind = .function) (hdp : dp + 40 < recursionLimit) (hun : un + 300 < cLine)
    {l : Addr} {vs : List Value} {nl : Nat} {rs : List R4} {e : Bool} (ml : (l, listOf vs.toArray nl) ∈ news) (hD : DatAll news vs (rs.map rowD)) (hlen : rs.length ≤ 90) (hpos : 0 < rs.length)
    (hnone : sharedO e rs = none → ∀ h' tk', Fr h₀ L h' m → News h₀ L h' news → Q .none { s with heap := h', toks := tk' }) (hsome : ∀ q, sharedO e rs = some q → ∀ (t : Addr) (t1 t2 t3 t4 : Tok) (n : Nat) h' tk', Fr h₀ L h' m → News h₀ L h' ((t, tup4 (.int q.x t1) (.int q.y t2) (.int q.w t3) (.int q.h t4) n) :: news) → Q (.ref t) { s with heap := h', toks := tk' }) :
    wpAny (model prog w) { handled := none, depth := dp, frames := some (env :: outer), guards := gd, units := un } (call (.ref 226) [.ref l, .bool e]) Q E s := by
  have hl := rows_len hD
  refine shared_c B F X N T hf hk hdp hun ml hD (by omega) hpos (fun hc => hnone ?_) ?_
  · unfold sharedO; rw [if_pos hc]
  · intro hc t t1 t2 t3 t4 h' tk' F' N'
    have hs : sharedO e rs = some ⟨lmax (rs.map fun r => r.x), lmax (rs.map fun r => r.y), lmin (rs.map fun r => r.x + r.w) - lmax (rs.map fun r => r.x), lmin (rs.map fun r => r.y + r.h) - lmax (rs.map fun r => r.y)⟩ := by unfold sharedO; rw [if_neg hc]
    exact hsome _ hs t t1 t2 t3 t4 0 h' tk' F' N'

theorem one_any (B : Below A₀ base outer h₀) (F : Fr h₀ L s.heap m) (X : (Mine.hd.heap_1 w.params).In h₀) (N : News h₀ L s.heap news) (T : Top p loose mean mg mb h₀) (hf : env.frame = some L) (hk : env.scope.kind = .function) (hdp : dp + 60 < recursionLimit) (hun : un + 500 < cLine)
    {l : Addr} {vs : List Value} {nl : Nat} {rs : List R4} {e : Bool} (ml : (l, listOf vs.toArray nl) ∈ news) (hD : DatAll news vs (rs.map rowD)) (hlen : rs.length ≤ 90) (hpos : 0 < rs.length) (hw : ∀ r ∈ rs, 0 ≤ r.w ∧ 0 ≤ r.h)
    (hnone : oneL e rs = none → ∀ h' tk', Fr h₀ L h' m → News h₀ L h' news → Q .none { s with heap := h', toks := tk' }) (hsome : ∀ q, oneL e rs = some q → ∀ (t : Addr) (t1 t2 t3 t4 : Tok) (n : Nat) h' tk', Fr h₀ L h' m → News h₀ L h' ((t, tup4 (.int q.x t1) (.int q.y t2) (.int q.w t3) (.int q.h t4) n) :: news) → Q (.ref t) { s with heap := h', toks := tk' }) :
    wpAny (model prog w) { handled := none, depth := dp, frames := some (env :: outer), guards := gd, units := un } (call (.ref 233) [.ref l, .bool e]) Q E s := by
  obtain ⟨r0, rs, rfl⟩ : ∃ r0 rs', rs = r0 :: rs' := by
    cases rs with
    | nil => simp at hpos
    | cons r rs => exact ⟨r, rs, rfl⟩
  have hl := rows_len hD
  rw [List.map_cons] at hD
  cases hD with
  | cons h1 hD =>
    obtain ⟨t0, q1, q2, q3, q4, qn, rfl, mt⟩ := row_open h1
    refine one_c B F X N T hf hk hdp hun ml mt hD (by simp at hl hlen; omega) (hw r0 List.mem_cons_self).1 (hw r0 List.mem_cons_self).2 (fun r hr => hw r (List.mem_cons_of_mem _ hr)) fun v news' h' tk' F' N' hs hv => ?_
    cases ho : oneV e r0 rs with
    | none =>
      rw [ho] at hv
      cases hv
      exact hnone ho h' tk' F' fun p hp => N' p (hs p hp)
    | some q =>
      rw [ho] at hv
      obtain ⟨t, t1, t2, t3, t4, n, rfl, hm⟩ := row_open hv
      exact hsome q ho t t1 t2 t3 t4 n h' tk' F' fun p hp => by
        rcases List.mem_cons.mp hp with rfl | hp
        · exact N' _ hm
        · exact N' p (hs p hp)
end
end Mine
end
section
open PySem PySem.W PySem.Calls PyProof.Rows PySem.Spec PyProof.Rows.LCg
set_option maxRecDepth 100000
set_option linter.unusedVariables false
namespace Mine
abbrev frD (u1 u2 : Option Value) (m : Str → Option Value) : Str → Option Value := fun z => if z = "due" then u1 else if z = "meeting" then u2 else m z
theorem frD_of {u1 u2 : Option Value} {m m' : Str → Option Value} (h1 : m' "due" = u1) (h2 : m' "meeting" = u2) (h : ∀ z : Str, z ≠ "due" → z ≠ "meeting" → m' z = m z) : m' = frD u1 u2 m := by
  funext z
  unfold frD
  by_cases e1 : z = "due"
  · rw [if_pos e1, e1, h1]
  · rw [if_neg e1]
    by_cases e2 : z = "meeting"
    · rw [if_pos e2, e2, h2]
    · rw [if_neg e2]; exact h z e1 e2
def EdJ (l c1 c2 c3 : Addr) (ol o1 o2 : Obj) (nb : List (Addr × Obj)) (mm : Str → Option Value) (i : Nat) (m : Str → Option Value) (nx : List (Addr × Obj)) : Prop :=
  ∃ u1 u2 o3 c, m = frD u1 u2 mm ∧ nx = (l, ol) :: (c3, o3) :: (c2, o2) :: (c1, o1) :: nb ∧ o3.data = .cell c
def MidD (s1 : Shared) (h₀ : Heap) (L c1 c2 c3 : Addr) (nb : List (Addr × Obj)) (o1 o2 : Obj) (s' : Shared) : Prop :=
  ∃ h tk m o3 c, s' = { s1 with heap := h, toks := tk } ∧ Fr h₀ L h m ∧ News h₀ L h ((c3, o3) :: (c2, o2) :: (c1, o1) :: nb) ∧ o3.data = .cell c
section
variable {h₀ h' : Heap} {L l c1 c2 c3 : Addr} {ol o1 o2 o3 o3' : Obj} {nb own all : List (Addr × Obj)} {m' mm : Str → Option Value} {s₁ : Shared} {tk i : Nat} {u1 u2 : Option Value} {c : Option Value} {K : List (Addr × Obj) → Prop}
theorem ed_end (F : Fr h₀ L h' m') (N : News h₀ L h' all) (hm : m' = frD u1 u2 mm) (hsub : ∀ p ∈ (l, ol) :: (c3, o3') :: (c2, o2) :: (c1, o1) :: nb, p ∈ all) (ho : ∀ p ∈ own, p ∈ all) (hoff : OwnOff own (((l, ol) :: (c3, o3) :: (c2, o2) :: (c1, o1) :: nb).map (·.1))) (hc : o3'.data = .cell c) (hK : K ((l, ol) :: (c3, o3') :: (c2, o2) :: (c1, o1) :: nb)) :
    InvEndG h₀ L (fun m' nx => K nx ∧ EdJ l c1 c2 c3 ol o1 o2 nb mm (i + 1) m' nx) own s₁ { s₁ with heap := h', toks := tk } :=
  InvEndG.intro F N ⟨hK, u1, u2, o3', c, hm, rfl, hc⟩ hoff hsub ho
end
theorem off_big {own base nb : List (Addr × Obj)} {c3 : Addr} {o3 : Obj} (hoff : OwnOff own (base.map (·.1))) (hm : (c3, o3) ∈ base) (hn : ∀ p ∈ nb, p.1 ≠ c3) : ∀ p ∈ nb ++ own, p.1 ≠ c3 := by
  intro p hp
  rcases List.mem_append.mp hp with hp | hp
  · exact hn p hp
  · exact hoff p hp c3 (List.mem_map.mpr ⟨_, hm, rfl⟩)
def MidE (s2 : Shared) (h₀ : Heap) (L l c1 c2 c3 : Addr) (ol o1 o2 : Obj) (big : List (Addr × Obj)) (mm : Str → Option Value) (e : Bool) (rs : List R4) (bm : Bool) (s' : Shared) : Prop :=
  ∃ h tk o3 dv nd, s' = { s2 with heap := h, toks := tk } ∧ Fr h₀ L h (frD (some dv) (some (.bool bm)) mm) ∧ News h₀ L h ((l, ol) :: (c3, o3) :: (c2, o2) :: (c1, o1) :: nd) ∧ o3.data = .cell (some (.bool e)) ∧ (∀ p ∈ big, p ∈ nd) ∧ DatIn nd dv (toldD (sharedO e rs))
section
variable {s2 : Shared} {h₀ h : Heap} {L l c1 c2 c3 : Addr} {ol o1 o2 o3 : Obj} {big all : List (Addr × Obj)} {mm m' : Str → Option Value} {e bm : Bool} {rs : List R4} {tk : Nat}
theorem midE_none (hs : sharedO e rs = none) (F : Fr h₀ L h m') (N : News h₀ L h all) (hm : m' = frD (some .none) (some (.bool bm)) mm) (hsub : ∀ p ∈ (l, ol) :: (c3, o3) :: (c2, o2) :: (c1, o1) :: big, p ∈ all) (hc : o3.data = .cell (some (.bool e))) : MidE s2 h₀ L l c1 c2 c3 ol o1 o2 big mm e rs bm { s2 with heap := h, toks := tk } := by
  subst hm
  exact ⟨h, tk, o3, .none, big, rfl, F, fun p hp => N p (hsub p hp), hc, fun p hp => hp, by rw [hs]; exact .none⟩
theorem midE_some {q : R4} {t : Addr} {t1 t2 t3 t4 : Tok} {n : Nat} (hs : sharedO e rs = some q) (F : Fr h₀ L h m') (N : News h₀ L h all) (hm : m' = frD (some (.ref t)) (some (.bool bm)) mm) (hsub : ∀ p ∈ (l, ol) :: (c3, o3) :: (c2, o2) :: (c1, o1) :: big, p ∈ all) (ht : (t, tup4 (.int q.x t1) (.int q.y t2) (.int q.w t3) (.int q.h t4) n) ∈ all) (hc : o3.data = .cell (some (.bool e))) : MidE s2 h₀ L l c1 c2 c3 ol o1 o2 big mm e rs bm { s2 with heap := h, toks := tk } := by
  subst hm
  refine ⟨h, tk, o3, .ref t, (t, tup4 (.int q.x t1) (.int q.y t2) (.int q.w t3) (.int q.h t4) n) :: big, rfl, F, fun p hp => ?_, hc, fun p hp => .tail _ hp, by rw [hs]; exact row_close (.head _)⟩
  simp only [List.mem_cons] at hp
  rcases hp with rfl | rfl | rfl | rfl | rfl | hp
  · exact N _ (hsub _ (.head _))
  · exact N _ (hsub _ (.tail _ (.head _)))
  · exact N _ (hsub _ (.tail _ (.tail _ (.head _))))
  · exact N _ (hsub _ (.tail _ (.tail _ (.tail _ (.head _)))))
  · exact N _ ht
  · exact N _ (hsub _ (.tail _ (.tail _ (.tail _ (.tail _ hp)))))
end
def MidE0 (s2 : Shared) (h₀ : Heap) (L l c1 c2 c3 : Addr) (ol o1 o2 : Obj) (big : List (Addr × Obj)) (mm : Str → Option Value) (e : Bool) (rs : List R4) (s' : Shared) : Prop :=
  ∃ h tk o3 dv nd u3, s' = { s2 with heap := h, toks := tk } ∧ Fr h₀ L h (frD (some dv) u3 mm) ∧ News h₀ L h ((l, ol) :: (c3, o3) :: (c2, o2) :: (c1, o1) :: nd) ∧ o3.data = .cell (some (.bool e)) ∧ (∀ p ∈ big, p ∈ nd) ∧ DatIn nd dv (toldD (sharedO e rs))
section
variable {s2 : Shared} {h₀ h : Heap} {L l c1 c2 c3 : Addr} {ol o1 o2 o3 : Obj} {big nd all : List (Addr × Obj)} {mm m' : Str → Option Value} {e bm : Bool} {rs : List R4} {tk : Nat} {u3 : Option Value} {dv : Value}
theorem midE0_none (hs : sharedO e rs = none) (F : Fr h₀ L h m') (N : News h₀ L h all) (hm : m' = frD (some .none) u3 mm) (hsub : ∀ p ∈ (l, ol) :: (c3, o3) :: (c2, o2) :: (c1, o1) :: big, p ∈ all) (hc : o3.data = .cell (some (.bool e))) : MidE0 s2 h₀ L l c1 c2 c3 ol o1 o2 big mm e rs { s2 with heap := h, toks := tk } := by
  subst hm
  exact ⟨h, tk, o3, .none, big, u3, rfl, F, fun p hp => N p (hsub p hp), hc, fun p hp => hp, by rw [hs]; exact .none⟩
theorem midE0_some {q : R4} {t : Addr} {t1 t2 t3 t4 : Tok} {n : Nat} (hs : sharedO e rs = some q) (F : Fr h₀ L h m') (N : News h₀ L h all) (hm : m' = frD (some (.ref t)) u3 mm) (hsub : ∀ p ∈ (l, ol) :: (c3, o3) :: (c2, o2) :: (c1, o1) :: big, p ∈ all) (ht : (t, tup4 (.int q.x t1) (.int q.y t2) (.int q.w t3) (.int q.h t4) n) ∈ all) (hc : o3.data = .cell (some (.bool e))) : MidE0 s2 h₀ L l c1 c2 c3 ol o1 o2 big mm e rs { s2 with heap := h, toks := tk } := by
  subst hm
  refine ⟨h, tk, o3, .ref t, (t, tup4 (.int q.x t1) (.int q.y t2) (.int q.w t3) (.int q.h t4) n) :: big, u3, rfl, F, fun p hp => ?_, hc, fun p hp => .tail _ hp, by rw [hs]; exact row_close (.head _)⟩
  simp only [List.mem_cons] at hp
  rcases hp with rfl | rfl | rfl | rfl | rfl | hp
  · exact N _ (hsub _ (.head _))
  · exact N _ (hsub _ (.tail _ (.head _)))
  · exact N _ (hsub _ (.tail _ (.tail _ (.head _))))
  · exact N _ (hsub _ (.tail _ (.tail _ (.tail _ (.head _)))))
  · exact N _ ht
  · exact N _ (hsub _ (.tail _ (.tail _ (.tail _ (.tail _ hp)))))
theorem midE_of (F : Fr h₀ L h m') (N : News h₀ L h all) (hm : m' = frD (some dv) (some (.bool bm)) mm) (hsub : ∀ p ∈ (l, ol) :: (c3, o3) :: (c2, o2) :: (c1, o1) :: nd, p ∈ all) (hc : o3.data = .cell (some (.bool e))) (hb : ∀ p ∈ big, p ∈ nd) (hd : DatIn nd dv (toldD (sharedO e rs))) : MidE s2 h₀ L l c1 c2 c3 ol o1 o2 big mm e rs bm { s2 with heap := h, toks := tk } := by
  subst hm
  exact ⟨h, tk, o3, dv, nd, rfl, F, fun p hp => N p (hsub p hp), hc, hb, hd⟩
end
end Mine
end
section
open PySem PySem.W PySem.Calls PyProof.Rows PySem.Spec PyProof.Rows.LCg
set_option maxRecDepth 100000
set_option linter.unusedVariables false
namespace Mine
abbrev frS (us ua ur um ub ug ux : Option Value) (m : Str → Option Value) : Str → Option Value := fun z => if z = "shared" then us else if z = "area" then ua else if z = "row" then ur else if z = "more" then um else if z = "box" then ub else if z = "sign" then ug else if z = "rect" then ux else m z
theorem frS_of {us ua ur um ub ug ux : Option Value} {m m' : Str → Option Value} (h1 : m' "shared" = us) (h2 : m' "area" = ua) (h3 : m' "row" = ur) (h4 : m' "more" = um) (h5 : m' "box" = ub) (h6 : m' "sign" = ug) (h7 : m' "rect" = ux)
    (h : ∀ z : Str, z ≠ "shared" → z ≠ "area" → z ≠ "row" → z ≠ "more" → z ≠ "box" → z ≠ "sign" → z ≠ "rect" → m' z = m z) : m' = frS us ua ur um ub ug ux m := by
  funext z
  unfold frS
  by_cases e1 : z = "shared"
  · rw [if_pos e1, e1, h1]
  · rw [if_neg e1]
    by_cases e2 : z = "area"
    · rw [if_pos e2, e2, h2]
    · rw [if_neg e2]
      by_cases e3 : z = "row"
      · rw [if_pos e3, e3, h3]
      · rw [if_neg e3]
        by_cases e4 : z = "more"
        · rw [if_pos e4, e4, h4]
        · rw [if_neg e4]
          by_cases e5 : z = "box"
          · rw [if_pos e5, e5, h5]
          · rw [if_neg e5]
            by_cases e6 : z = "sign"
            · rw [if_pos e6, e6, h6]
            · rw [if_neg e6]
              by_cases e7 : z = "rect"
              · rw [if_pos e7, e7, h7]
              · rw [if_neg e7]
                exact h z e1 e2 e3 e4 e5 e6 e7
abbrev E4 := Option R4 × Int
def rectO (r : R4) : Option R4 → Option R4
  | none => some r
  | some q => isect false q r
def moreL (r : R4) (es : List E4) : List (R4 × Int) := es.filterMap fun e => (rectO r e.1).map fun q => (q, -e.2)
def addA (r : R4) (A : Int) (e : E4) : Int := match rectO r e.1 with
  | some q => A + e.2 * (q.w * q.h)
  | none => A
def areaL (r : R4) (A : Int) (es : List E4) : Int := es.foldl (addA r) A
def liftE (S : List (R4 × Int)) : List E4 := S.map fun e => (some e.1, e.2)
def allE (S : List (R4 × Int)) : List E4 := (none, 1) :: liftE S
def shStep (SA : List (R4 × Int) × Int) (r : R4) : List (R4 × Int) × Int := (SA.1 ++ moreL r (allE SA.1), areaL r SA.2 (allE SA.1))
def shU (rs : List R4) : List (R4 × Int) × Int := rs.foldl shStep ([], 0)
theorem shU_succ {rs : List R4} {i : Nat} {r : R4} (h : rs[i]? = some r) : shU (rs.take (i + 1)) = shStep (shU (rs.take i)) r := by
  unfold shU
  rw [List.take_add_one, h]
  simp
theorem moreL_none {r : R4} {es : List E4} {e : E4} {j : Nat} (h : es[j]? = some e) (hr : rectO r e.1 = none) : moreL r (es.take (j + 1)) = moreL r (es.take j) := by
  unfold moreL
  rw [List.take_add_one, h, List.filterMap_append]
  simp [hr]
theorem moreL_some {r q : R4} {es : List E4} {e : E4} {j : Nat} (h : es[j]? = some e) (hr : rectO r e.1 = some q) : moreL r (es.take (j + 1)) = moreL r (es.take j) ++ [(q, -e.2)] := by
  unfold moreL
  rw [List.take_add_one, h, List.filterMap_append]
  simp [hr]
theorem areaL_none {r : R4} {A : Int} {es : List E4} {e : E4} {j : Nat} (h : es[j]? = some e) (hr : rectO r e.1 = none) : areaL r A (es.take (j + 1)) = areaL r A (es.take j) := by
  unfold areaL
  rw [List.take_add_one, h, List.foldl_append]
  simp [addA, hr]
theorem areaL_some {r q : R4} {A : Int} {es : List E4} {e : E4} {j : Nat} (h : es[j]? = some e) (hr : rectO r e.1 = some q) : areaL r A (es.take (j + 1)) = areaL r A (es.take j) + e.2 * (q.w * q.h) := by
  unfold areaL
  rw [List.take_add_one, h, List.foldl_append]
  simp [addA, hr]
def BndS (D : Int) (S : List (R4 × Int)) : Prop := ∀ e ∈ S, (0 ≤ e.1.w ∧ e.1.w ≤ D) ∧ (0 ≤ e.1.h ∧ e.1.h ≤ D) ∧ (e.2 = 1 ∨ e.2 = -1)
def BndE (D : Int) (es : List E4) : Prop := ∀ e ∈ es, (∀ q, e.1 = some q → (0 ≤ q.w ∧ q.w ≤ D) ∧ (0 ≤ q.h ∧ q.h ≤ D)) ∧ (e.2 = 1 ∨ e.2 = -1)
theorem bndE_of {D : Int} {S : List (R4 × Int)} (h : BndS D S) : BndE D (allE S) := by
  intro e he
  rcases List.mem_cons.mp he with rfl | he
  · exact ⟨fun q h => (by cases h), .inl rfl⟩
  · obtain ⟨x, hx, rfl⟩ := List.mem_map.mp he
    obtain ⟨h1, h2, h3⟩ := h x hx
    exact ⟨fun q hq => by cases hq; exact ⟨h1, h2⟩, h3⟩
theorem isect_some {q r b : R4} (h : isect false q r = some b) : meets false q r = true ∧ b = both q r := by
  unfold isect at h
  by_cases hm : meets false q r = true
  · rw [if_pos hm] at h; exact ⟨hm, (Option.some.inj h).symm⟩
  · rw [if_neg hm] at h; cases h
theorem bnd_more {D : Int} {r : R4} {es : List E4} (hr : Within D r) (h : BndE D es) : BndS D (moreL r es) := by
  intro x hx
  obtain ⟨e, he, hx⟩ := List.mem_filterMap.mp hx
  obtain ⟨h1, h2⟩ := h e he
  unfold Within at hr
  cases ho : rectO r e.1 with
  | none => rw [ho] at hx; cases hx
  | some q =>
    rw [ho] at hx
    cases hx
    suffices hk : (0 ≤ q.w ∧ q.w ≤ D) ∧ (0 ≤ q.h ∧ q.h ≤ D) by
      refine ⟨hk.1, hk.2, ?_⟩
      show -e.2 = 1 ∨ -e.2 = -1
      omega
    · obtain ⟨b, sg⟩ := e
      cases b with
      | none => cases ho; omega
      | some b =>
        obtain ⟨hm, rfl⟩ := isect_some ho
        have := h1 b rfl
        unfold meets at hm
        simp only [Bool.false_eq_true, if_false, decide_eq_true_eq] at hm
        dsimp only [both]
        omega
theorem bnd_shU {D : Int} : ∀ {rs : List R4} {SA : List (R4 × Int) × Int}, (∀ r ∈ rs, Within D r) → BndS D SA.1 → BndS D (rs.foldl shStep SA).1
  | [], _, _, h => h
  | r :: rs, SA, hb, h => bnd_shU (rs := rs) (SA := shStep SA r) (fun x hx => hb x (.tail _ hx)) (fun e he => by
      rcases List.mem_append.mp he with he | he
      · exact h e he
      · exact bnd_more (hb r (.head _)) (bndE_of h) e he)
theorem bnd_sh {D : Int} {rs : List R4} (h : ∀ r ∈ rs, Within D r) (i : Nat) : BndS D (shU (rs.take i)).1 :=
  bnd_shU (fun r hr => h r (List.mem_of_mem_take hr)) (fun e he => by cases he)
/-- an element of the loop over the shared ones, in the ledger -/
def ElE (P : Params) (ld : List (Addr × Obj)) (v : Value) (e : E4) : Prop := ∃ t bv z n, v = .ref t ∧ (t, tup2 bv (.int e.2 z) n) ∈ ld ∧ OptR P ld bv e.1
theorem ElE.mono {P : Params} {ld ld' : List (Addr × Obj)} (hs : ∀ p ∈ ld, p ∈ ld') {v : Value} {e : E4} : ElE P ld v e → ElE P ld' v e
  | ⟨t, bv, z, n, h1, h2, h3⟩ => ⟨t, bv, z, n, h1, hs _ h2, h3.mono hs⟩
def AllE (P : Params) (ld : List (Addr × Obj)) (vs : List Value) (es : List E4) : Prop := vs.length = es.length ∧ ∀ (i : Nat) (v : Value), vs[i]? = some v → ∃ e, es[i]? = some e ∧ ElE P ld v e
theorem AllE.mono {P : Params} {ld ld' : List (Addr × Obj)} (hs : ∀ p ∈ ld, p ∈ ld') {vs : List Value} {es : List E4} (h : AllE P ld vs es) : AllE P ld' vs es :=
  ⟨h.1, fun i v hv => by obtain ⟨e, h1, h2⟩ := h.2 i v hv; exact ⟨e, h1, h2.mono hs⟩⟩
theorem AllE.nil {P : Params} {ld : List (Addr × Obj)} : AllE P ld [] [] := ⟨rfl, fun i v hv => by cases hv⟩
theorem AllE.app {P : Params} {ld : List (Addr × Obj)} {vs us : List Value} {es fs : List E4} (h : AllE P ld vs es) (k : AllE P ld us fs) : AllE P ld (vs ++ us) (es ++ fs) := by
  refine ⟨by rw [List.length_append, List.length_append, h.1, k.1], fun i v hv => ?_⟩
  by_cases hi : i < vs.length
  · rw [List.getElem?_append_left hi] at hv
    rw [List.getElem?_append_left (by rw [← h.1]; exact hi)]
    exact h.2 i v hv
  · rw [List.getElem?_append_right (by omega)] at hv
    rw [List.getElem?_append_right (by rw [← h.1]; omega), ← h.1]
    exact k.2 _ v hv
theorem AllE.one {P : Params} {ld : List (Addr × Obj)} {v : Value} {e : E4} (h : ElE P ld v e) : AllE P ld [v] [e] := by
  refine ⟨rfl, fun i u hu => ?_⟩
  match i, hu with
  | 0, hu => cases hu; exact ⟨e, rfl, h⟩
theorem liftE_app (S T : List (R4 × Int)) : liftE (S ++ T) = liftE S ++ liftE T := List.map_append
def ShJ (P : Params) (rs : List R4) (mm : Str → Option Value) (base : List (Addr × Obj)) (i : Nat) (m : Str → Option Value) (nx : List (Addr × Obj)) : Prop :=
  ∃ (S : Addr) (vsS : List Value) (kS : Nat) (t : Tok) (u1 u2 u3 u4 u5 : Option Value), m = frS (some (.ref S)) (some (.int (shU (rs.take i)).2 t)) u1 u2 u3 u4 u5 mm ∧ (∀ p ∈ base, p ∈ nx) ∧ (S, listOf vsS.toArray kS) ∈ nx ∧ AllE P nx vsS (liftE (shU (rs.take i)).1)
def InJ (P : Params) (r : R4) (es : List E4) (A0 : Int) (S row : Value) (M : Addr) (mm : Str → Option Value) (base : List (Addr × Obj)) (j : Nat) (m : Str → Option Value) (nx : List (Addr × Obj)) : Prop :=
  ∃ (ys : List Value) (k : Nat) (t : Tok) (fr : List (Addr × Obj)) (u3 u4 u5 : Option Value), m = frS (some S) (some (.int (areaL r A0 (es.take j)) t)) (some row) (some (.ref M)) u3 u4 u5 mm ∧ nx = (M, listOf ys.toArray k) :: (fr ++ base) ∧ (∀ p ∈ fr, @LT.lt Nat _ M p.1 ∧ ∀ q ∈ base, @LT.lt Nat _ q.1 p.1) ∧ AllE P fr ys (liftE (moreL r (es.take j)))
theorem moreL_len (r : R4) (es : List E4) : (moreL r es).length ≤ es.length := List.length_filterMap_le _ _
theorem shU_len : ∀ {rs : List R4} {SA : List (R4 × Int) × Int}, (rs.foldl shStep SA).1.length + 1 ≤ 2 ^ rs.length * (SA.1.length + 1)
  | [], _ => by simp
  | r :: rs, SA => by
    have h := shU_len (rs := rs) (SA := shStep SA r)
    have h2 : (shStep SA r).1.length + 1 ≤ 2 * (SA.1.length + 1) := by
      have := moreL_len r (allE SA.1)
      simp only [shStep, allE, liftE, List.length_append, List.length_cons, List.length_map] at this ⊢
      omega
    rw [List.foldl_cons, List.length_cons, Nat.pow_succ, Nat.mul_assoc]
    exact Nat.le_trans h (Nat.mul_le_mul_left _ h2)
theorem sh_len {rs : List R4} (h : rs.length ≤ 4) (i : Nat) : (shU (rs.take i)).1.length ≤ 15 := by
  have h1 := shU_len (rs := rs.take i) (SA := ([], 0))
  have h2 : (rs.take i).length ≤ 4 := by rw [List.length_take]; omega
  have h3 : 2 ^ (rs.take i).length ≤ 2 ^ 4 := Nat.pow_le_pow_right (by decide) h2
  unfold shU
  simp only [List.length_nil, Nat.zero_add, Nat.mul_one] at h1
  omega
theorem sign_mul {a b : Int} (h : a = 1 ∨ a = -1) : IntMulOk a b := by
  refine IntMulOk.of_left ?_
  rcases h with rfl | rfl <;> decide
theorem allLt_forall {d : Addr} : ∀ {l : List (Addr × Obj)}, AllLt d l → ∀ p ∈ l, @LT.lt Nat _ p.1 d
  | [], _, _, h => (nomatch h)
  | q :: l, h, p, hp => by
    rcases List.mem_cons.mp hp with rfl | hp
    · exact h.1
    · exact allLt_forall h.2 p hp
theorem more_len {r : R4} {SL : List (R4 × Int)} (j : Nat) : (liftE (moreL r ((allE SL).take j))).length ≤ SL.length + 1 := by
  have h := moreL_len r ((allE SL).take j)
  have h2 : ((allE SL).take j).length ≤ SL.length + 1 := by
    rw [List.length_take]
    simp only [allE, liftE, List.length_cons, List.length_map]
    omega
  unfold liftE
  rw [List.length_map]
  omega
section
variable {P : Params} {h₀ h' : Heap} {L M : Addr} {m' mm : Str → Option Value} {s₁ : Shared} {own base fr all big2 : List (Addr × Obj)} {tk k j : Nat} {K : List (Addr × Obj) → Prop} {r : R4} {es : List E4} {A0 : Int} {S row : Value} {ys : List Value} {t : Tok} {u3 u4 u5 : Option Value} {e : E4}
theorem in_none (he : es[j]? = some e) (hr : rectO r e.1 = none) (F : Fr h₀ L h' m') (N : News h₀ L h' all) (hm : m' = frS (some S) (some (.int (areaL r A0 (es.take j)) t)) (some row) (some (.ref M)) u3 u4 u5 mm)
    (hsub : ∀ p ∈ (M, listOf ys.toArray k) :: big2, p ∈ all) (b1 : ∀ p ∈ fr ++ base, p ∈ big2) (b2 : ∀ p ∈ own, p ∈ big2) (hoff : OwnOff own (((M, listOf ys.toArray k) :: (fr ++ base)).map (·.1))) (hnew : ∀ p ∈ fr, @LT.lt Nat _ M p.1 ∧ ∀ q ∈ base, @LT.lt Nat _ q.1 p.1) (hY : AllE P fr ys (liftE (moreL r (es.take j)))) (hK : ∀ o f, K ((M, o) :: (f ++ base))) :
    InvEndG h₀ L (fun m' nx => K nx ∧ InJ P r es A0 S row M mm base (j + 1) m' nx) own s₁ { s₁ with heap := h', toks := tk } :=
  InvEndG.intro F N (nx := (M, listOf ys.toArray k) :: (fr ++ base)) ⟨hK _ _, ys, k, t, fr, u3, u4, u5, by rw [areaL_none he hr]; exact hm, rfl, hnew, by rw [moreL_none he hr]; exact hY⟩ hoff (fun p hp => hsub p (by
    rcases List.mem_cons.mp hp with rfl | hp
    · exact .head _
    · exact .tail _ (b1 p hp))) fun p hp => hsub p (.tail _ (b2 p hp))
theorem in_some {q : R4} {tp a d : Addr} {z : Tok} {nT : Nat} {k1 k2 k3 k4 k5 kw kh kx ky : Tok} (he : es[j]? = some e) (hr : rectO r e.1 = some q) (F : Fr h₀ L h' m') (N : News h₀ L h' all) (hm : m' = frS (some S) (some (.int (areaL r A0 (es.take j) + e.2 * (q.w * q.h)) t)) (some row) (some (.ref M)) u3 u4 u5 mm)
    (mM : (M, listOf (ys.toArray.push (.ref tp)) k) ∈ all) (mt : (tp, tup2 (.ref a) (.int (-e.2) z) nT) ∈ all) (ma : (a, instObj 203 d) ∈ all) (md : (d, rdict P k1 k2 k3 k4 k5 (.int q.w kw) (.int q.h kh) (.int q.x kx) (.int q.y ky)) ∈ all)
    (hsub : ∀ p ∈ big2, p ∈ all) (b1 : ∀ p ∈ fr ++ base, p ∈ big2) (b2 : ∀ p ∈ own, p ∈ big2) {k' : Nat} (hoff : OwnOff own (((M, listOf ys.toArray k') :: (fr ++ base)).map (·.1))) (hnew : ∀ p ∈ fr, @LT.lt Nat _ M p.1 ∧ ∀ q ∈ base, @LT.lt Nat _ q.1 p.1) (hY : AllE P fr ys (liftE (moreL r (es.take j))))
    (f1 : AllLt tp big2) (f2 : @LT.lt Nat _ d a) (f3 : AllLt d big2) (fM : @LT.lt Nat _ M tp ∧ @LT.lt Nat _ M a ∧ @LT.lt Nat _ M d) (h1 : 0 ≤ q.w) (h2 : 0 ≤ q.h) (hK : ∀ o f, K ((M, o) :: (f ++ base))) :
    InvEndG h₀ L (fun m' nx => K nx ∧ InJ P r es A0 S row M mm base (j + 1) m' nx) own s₁ { s₁ with heap := h', toks := tk } := by
  have g : ∀ p ∈ (tp, tup2 (.ref a) (.int (-e.2) z) nT) :: (a, instObj 203 d) :: (d, rdict P k1 k2 k3 k4 k5 (.int q.w kw) (.int q.h kh) (.int q.x kx) (.int q.y ky)) :: fr, p ∈ fr ∨ (p ∈ all ∧ (@LT.lt Nat _ M p.1) ∧ ∀ q ∈ big2, @LT.lt Nat _ q.1 p.1) := fun p hp => by
    rcases List.mem_cons.mp hp with rfl | hp
    · exact .inr ⟨mt, fM.1, fun q hq => allLt_forall f1 q hq⟩
    · rcases List.mem_cons.mp hp with rfl | hp
      · exact .inr ⟨ma, fM.2.1, fun q hq => Nat.lt_trans (allLt_forall f3 q hq) f2⟩
      · rcases List.mem_cons.mp hp with rfl | hp
        · exact .inr ⟨md, fM.2.2, fun q hq => allLt_forall f3 q hq⟩
        · exact .inl hp
  refine InvEndG.intro F N (nx := (M, listOf (ys ++ [Value.ref tp]).toArray k) :: (((tp, tup2 (.ref a) (.int (-e.2) z) nT) :: (a, instObj 203 d) :: (d, rdict P k1 k2 k3 k4 k5 (.int q.w kw) (.int q.h kh) (.int q.x kx) (.int q.y ky)) :: fr) ++ base))
    ⟨hK _ _, ys ++ [Value.ref tp], k, t, _, u3, u4, u5, by rw [areaL_some he hr]; exact hm, rfl, fun p hp => ?_, ?_⟩ (fun p hp c hc => ?_) (fun p hp => ?_) fun p hp => hsub p (b2 p hp)
  · rcases g p hp with hp | hp
    · exact hnew p hp
    · exact ⟨hp.2.1, fun q hq => hp.2.2 q (b1 q (List.mem_append_right _ hq))⟩
  · rw [moreL_some he hr, liftE_app]
    exact (hY.mono fun p hp => .tail _ (.tail _ (.tail _ hp))).app (AllE.one ⟨tp, _, z, nT, rfl, .head _, h1, h2, a, d, k1, k2, k3, k4, k5, kw, kh, kx, ky, rfl, .tail _ (.head _), .tail _ (.tail _ (.head _))⟩)
  · rw [List.map_cons] at hc
    rcases List.mem_cons.mp hc with hc | hc
    · exact hoff p hp c (by rw [List.map_cons]; exact List.mem_cons.mpr (.inl hc))
    · obtain ⟨x, hx, rfl⟩ := List.mem_map.mp hc
      rcases List.mem_append.mp hx with hx | hx
      · rcases g x hx with hx | hx
        · exact hoff p hp _ (by rw [List.map_cons]; exact List.mem_cons_of_mem _ (List.mem_map.mpr ⟨x, List.mem_append_left _ hx, rfl⟩))
        · exact Nat.ne_of_lt (hx.2.2 p (b2 p hp))
      · exact hoff p hp _ (by rw [List.map_cons]; exact List.mem_cons_of_mem _ (List.mem_map.mpr ⟨x, List.mem_append_right _ hx, rfl⟩))
  · rcases List.mem_cons.mp hp with rfl | hp
    · rw [← List.push_toArray]; exact mM
    · rcases List.mem_append.mp hp with hp | hp
      · rcases g p hp with hp | hp
        · exact hsub p (b1 p (List.mem_append_left _ hp))
        · exact hp.1
      · exact hsub p (b1 p (List.mem_append_right _ hp))
theorem sh_end {rs : List R4} {i : Nat} {SL : List (R4 × Int)} {S' lR : Addr} {ol : Obj} {vsS zs : List Value} {nx base2 : List (Addr × Obj)} {ur um ub ug ux : Option Value} (hnext : shU (rs.take (i + 1)) = shStep (SL, A0) r) (F : Fr h₀ L h' m') (N : News h₀ L h' all) (hm : m' = frS (some (.ref S')) (some (.int (areaL r A0 (allE SL)) t)) ur um ub ug ux mm)
    (mS : (S', listOf zs.toArray k) ∈ all) (hz : zs = vsS ++ ys) (hfr : ∀ p ∈ fr ++ base2, p ∈ all) (hbig : ∀ p ∈ nx, p ∈ base2) (ho : ∀ p ∈ own, p ∈ base2) (f : AllLt S' (fr ++ base2)) (hnew : ∀ p ∈ fr, @LT.lt Nat _ M p.1 ∧ ∀ q ∈ base2, @LT.lt Nat _ q.1 p.1) (hoff : OwnOff own (nx.map (·.1))) (hbase : ∀ p ∈ base, p ∈ nx) (hEl : AllE P nx vsS (liftE SL)) (hY : AllE P fr ys (liftE (moreL r (allE SL)))) (hK : (lR, ol) ∈ nx) :
    InvEndG h₀ L (fun m' nx => (lR, ol) ∈ nx ∧ ShJ P rs mm base (i + 1) m' nx) own s₁ { s₁ with heap := h', toks := tk } := by
  subst hz
  have up : ∀ p ∈ nx, p ∈ (S', listOf (vsS ++ ys).toArray k) :: (fr ++ nx) := fun p hp => .tail _ (List.mem_append_right _ hp)
  refine InvEndG.intro F N (nx := (S', listOf (vsS ++ ys).toArray k) :: (fr ++ nx)) ⟨up _ hK, S', vsS ++ ys, k, t, ur, um, ub, ug, ux, by rw [hnext]; exact hm, fun p hp => up p (hbase p hp), .head _, ?_⟩ (fun p hp c hc => ?_) (fun p hp => ?_) fun p hp => hfr p (List.mem_append_right _ (ho p hp))
  · rw [hnext]
    show AllE P _ _ (liftE (SL ++ moreL r (allE SL)))
    rw [liftE_app]
    exact (hEl.mono up).app (hY.mono fun p hp => .tail _ (List.mem_append_left _ hp))
  · rw [List.map_cons] at hc
    rcases List.mem_cons.mp hc with rfl | hc
    · exact Nat.ne_of_lt (allLt_forall f p (List.mem_append_right _ (ho p hp)))
    · obtain ⟨x, hx, rfl⟩ := List.mem_map.mp hc
      rcases List.mem_append.mp hx with hx | hx
      · exact Nat.ne_of_lt ((hnew x hx).2 p (ho p hp))
      · exact hoff p hp _ (List.mem_map.mpr ⟨x, hx, rfl⟩)
  · rcases List.mem_cons.mp hp with rfl | hp
    · exact mS
    · rcases List.mem_append.mp hp with hp | hp
      · exact hfr p (List.mem_append_left _ hp)
      · exact hfr p (List.mem_append_right _ (hbig p hp))
end
theorem take_all {α : Type} {l : List α} {n : Nat} (h : l.length ≤ n) : l.take n = l := List.take_of_length_le h
theorem EndT.nextI {h₀ : Heap} {L : Addr} {J : (Str → Option Value) → List (Addr × Obj) → Prop} {own : List (Addr × Obj)} {s₁ s₂ : Shared} (h : InvEndG h₀ L J own s₁ s₂) : EndT h₀ L J own s₁ .next s₂ := h
theorem isect_no {q r : R4} (h : ¬ (q.y < r.y + r.h ∧ r.y < q.y + q.h ∧ q.x < r.x + r.w ∧ r.x < q.x + q.w)) : isect false q r = none := by
  unfold isect meets
  simp only [Bool.false_eq_true, if_false, decide_eq_true_eq]
  rw [if_neg h]
theorem isect_yes {q r : R4} (h : q.y < r.y + r.h ∧ r.y < q.y + q.h ∧ q.x < r.x + r.w ∧ r.x < q.x + q.w) : isect false q r = some (both q r) := by
  unfold isect meets
  simp only [Bool.false_eq_true, if_false, decide_eq_true_eq]
  rw [if_pos h]
theorem lt_last {d : Addr} {a : Addr} {l : List (Addr × Obj)} (h : @LT.lt Nat _ a d ∧ AllLt d l) : AllLt d l := h.2
theorem lt_last2 {d : Addr} {a b : Addr} {l : List (Addr × Obj)} (h : @LT.lt Nat _ a d ∧ @LT.lt Nat _ b d ∧ AllLt d l) : AllLt d l := h.2.2
theorem lt_last3 {d : Addr} {a b c : Addr} {l : List (Addr × Obj)} (h : @LT.lt Nat _ a d ∧ @LT.lt Nat _ b d ∧ @LT.lt Nat _ c d ∧ AllLt d l) : AllLt d l := h.2.2.2
theorem lt_last5 {d : Addr} {a b c e f : Addr} {l : List (Addr × Obj)} (h : @LT.lt Nat _ a d ∧ @LT.lt Nat _ b d ∧ @LT.lt Nat _ c d ∧ @LT.lt Nat _ e d ∧ @LT.lt Nat _ f d ∧ AllLt d l) : AllLt d l := h.2.2.2.2.2
end Mine
end
section
open PySem PySem.W PySem.Calls PyProof.Rows PySem.Spec
set_option linter.unusedVariables false
namespace Mine
def sumZ (a : Int) : Nat → (Int → Int) → Int
  | 0, _ => 0
  | n + 1, g => sumZ a n g + g (a + n)
theorem sumZ_congr {a : Int} {f g : Int → Int} : ∀ {n : Nat}, (∀ t, a ≤ t → t < a + n → f t = g t) → sumZ a n f = sumZ a n g
  | 0, _ => rfl
  | n + 1, h => by
    show sumZ a n f + _ = sumZ a n g + _
    rw [sumZ_congr (n := n) fun t h1 h2 => h t h1 (by omega), h (a + n) (by omega) (by omega)]
theorem sumZ_add {a : Int} {f g : Int → Int} : ∀ {n : Nat}, sumZ a n (fun t => f t + g t) = sumZ a n f + sumZ a n g
  | 0 => rfl
  | n + 1 => by
    show sumZ a n _ + (f (a + n) + g (a + n)) = sumZ a n f + _ + (sumZ a n g + _)
    rw [sumZ_add]; omega
theorem sumZ_mul {a : Int} {k : Int} {g : Int → Int} : ∀ {n : Nat}, sumZ a n (fun t => k * g t) = k * sumZ a n g
  | 0 => (Int.mul_zero k).symm
  | n + 1 => by
    show sumZ a n _ + _ = k * (sumZ a n g + _)
    rw [sumZ_mul, Int.mul_add]
theorem sumZ_const {a : Int} {k : Int} : ∀ {n : Nat}, sumZ a n (fun _ => k) = n * k
  | 0 => by show (0 : Int) = _; simp
  | n + 1 => by
    show sumZ a n _ + k = _
    rw [sumZ_const]
    have : ((n + 1 : Nat) : Int) = n + 1 := by omega
    rw [this, Int.add_mul, Int.one_mul]
theorem sumZ_zero {a : Int} {n : Nat} : sumZ a n (fun _ => 0) = 0 := by rw [sumZ_const, Int.mul_zero]
theorem sumZ_cat {a : Int} {g : Int → Int} {n : Nat} : ∀ {m : Nat}, sumZ a (n + m) g = sumZ a n g + sumZ (a + n) m g
  | 0 => by show sumZ a n g = _ + 0; omega
  | m + 1 => by
    show sumZ a (n + m) g + g (a + ((n + m : Nat) : Int)) = sumZ a n g + (sumZ (a + n) m g + g (a + n + m))
    rw [sumZ_cat (m := m), show (a + ((n + m : Nat) : Int)) = a + n + m by omega]
    omega
theorem cnt_sum {a : Int} {f : Int → Bool} : ∀ {n : Nat}, cnt a n f = sumZ a n (fun t => if f t = true then 1 else 0)
  | 0 => rfl
  | n + 1 => by
    show cnt a n f + _ = sumZ a n _ + _
    rw [cnt_sum]
def sumI (a b : Int) (g : Int → Int) : Int := sumZ a (b - a).toNat g
theorem sumI_cat {a b c : Int} {g : Int → Int} (h1 : a ≤ b) (h2 : b ≤ c) : sumI a c g = sumI a b g + sumI b c g := by
  unfold sumI
  rw [show (c - a).toNat = (b - a).toNat + (c - b).toNat by omega, sumZ_cat, show a + ((b - a).toNat : Int) = b by omega]
theorem sumI_const {a b : Int} {g : Int → Int} {k : Int} (h : a ≤ b) (hg : ∀ t, a ≤ t → t < b → g t = k) : sumI a b g = (b - a) * k := by
  unfold sumI
  rw [sumZ_congr (g := fun _ => k) fun t h1 h2 => hg t h1 (by omega), sumZ_const, show ((b - a).toNat : Int) = b - a by omega]
def sum2 (B : Nat) (g : Int → Int → Int) : Int := sumZ (-B) (2 * B) fun x => sumZ (-B) (2 * B) fun y => g x y
theorem sum2_congr {B : Nat} {f g : Int → Int → Int} (h : ∀ x y, f x y = g x y) : sum2 B f = sum2 B g :=
  sumZ_congr fun x _ _ => sumZ_congr fun y _ _ => h x y
theorem sum2_add {B : Nat} {f g : Int → Int → Int} : sum2 B (fun x y => f x y + g x y) = sum2 B f + sum2 B g := by
  unfold sum2
  rw [← sumZ_add]
  exact sumZ_congr fun x _ _ => sumZ_add
theorem sum2_mul {B : Nat} {k : Int} {g : Int → Int → Int} : sum2 B (fun x y => k * g x y) = k * sum2 B g := by
  unfold sum2
  rw [← sumZ_mul]
  exact sumZ_congr fun x _ _ => sumZ_mul
theorem sum2_zero {B : Nat} : sum2 B (fun _ _ => 0) = 0 := by
  unfold sum2
  rw [sumZ_congr (g := fun _ => 0) fun x _ _ => sumZ_zero, sumZ_zero]
def inC (q : R4) (x y : Int) : Bool := decide (q.x ≤ x ∧ x < q.x + q.w) && decide (q.y ≤ y ∧ y < q.y + q.h)
def indR (q : R4) (x y : Int) : Int := if inC q x y = true then 1 else 0
def Win (B : Nat) (q : R4) : Prop := (-(B : Int) ≤ q.x ∧ 0 ≤ q.w ∧ q.x + q.w ≤ B) ∧ (-(B : Int) ≤ q.y ∧ 0 ≤ q.h ∧ q.y + q.h ≤ B)
theorem area_ind {B : Nat} {q : R4} (h : Win B q) : sum2 B (indR q) = q.w * q.h := by
  unfold Win at h
  have e : ∀ x y, indR q x y = (if decide (q.x ≤ x ∧ x < q.x + q.w) = true then (1 : Int) else 0) * (if decide (q.y ≤ y ∧ y < q.y + q.h) = true then 1 else 0) := by
    intro x y
    unfold indR inC
    cases decide (q.x ≤ x ∧ x < q.x + q.w) <;> cases decide (q.y ≤ y ∧ y < q.y + q.h) <;> rfl
  have hy : sumZ (-B) (2 * B) (fun y => if decide (q.y ≤ y ∧ y < q.y + q.h) = true then (1 : Int) else 0) = q.h := by
    rw [← cnt_sum, cnt_iv_in (by omega) (by omega) (by omega)]; omega
  have hx : sumZ (-B) (2 * B) (fun x => if decide (q.x ≤ x ∧ x < q.x + q.w) = true then (1 : Int) else 0) = q.w := by
    rw [← cnt_sum, cnt_iv_in (by omega) (by omega) (by omega)]; omega
  rw [sum2_congr e]
  unfold sum2
  rw [sumZ_congr (g := fun x => q.h * (if decide (q.x ≤ x ∧ x < q.x + q.w) = true then (1 : Int) else 0)) fun x _ _ => by rw [sumZ_mul, hy, Int.mul_comm], sumZ_mul, hx, Int.mul_comm]
def wS : List (R4 × Int) → Int
  | [] => 0
  | e :: S => e.2 * (e.1.w * e.1.h) + wS S
def cS (x y : Int) : List (R4 × Int) → Int
  | [] => 0
  | e :: S => e.2 * indR e.1 x y + cS x y S
theorem wS_app {S T : List (R4 × Int)} : wS (S ++ T) = wS S + wS T := by
  induction S with
  | nil => show wS T = 0 + wS T; omega
  | cons e S ih => show _ + wS (S ++ T) = _ + wS S + wS T; rw [ih]; omega
theorem cS_app {x y : Int} {S T : List (R4 × Int)} : cS x y (S ++ T) = cS x y S + cS x y T := by
  induction S with
  | nil => show cS x y T = 0 + cS x y T; omega
  | cons e S ih => show _ + cS x y (S ++ T) = _ + cS x y S + cS x y T; rw [ih]; omega
theorem wS_cells {B : Nat} : ∀ {S : List (R4 × Int)}, (∀ e ∈ S, Win B e.1) → wS S = sum2 B (fun x y => cS x y S)
  | [], _ => sum2_zero.symm
  | e :: S, h => by
    show e.2 * (e.1.w * e.1.h) + wS S = sum2 B (fun x y => e.2 * indR e.1 x y + cS x y S)
    rw [sum2_add, sum2_mul, area_ind (h e (.head _)), wS_cells fun a ha => h a (.tail _ ha)]
theorem moreL_cons {r : R4} {e : E4} {es : List E4} : moreL r (e :: es) = (match rectO r e.1 with | some q => [(q, -e.2)] | none => []) ++ moreL r es := by
  unfold moreL
  rw [List.filterMap_cons]
  cases rectO r e.1 <;> rfl
theorem areaL_w {r : R4} : ∀ {es : List E4} {A : Int}, areaL r A es = A - wS (moreL r es)
  | [], A => by show A = A - 0; omega
  | e :: es, A => by
    show areaL r (addA r A e) es = _
    rw [areaL_w, moreL_cons, wS_app]
    unfold addA
    cases rectO r e.1 with
    | none => show A - _ = A - (0 + _); omega
    | some q =>
      show A + e.2 * (q.w * q.h) - _ = A - ((-e.2 * (q.w * q.h) + 0) + _)
      rw [Int.neg_mul]; omega
theorem shU_w : ∀ {rs : List R4} {SA : List (R4 × Int) × Int}, SA.2 = -wS SA.1 → (rs.foldl shStep SA).2 = -wS (rs.foldl shStep SA).1
  | [], _, h => h
  | r :: rs, SA, h => by
    refine shU_w (rs := rs) (SA := shStep SA r) ?_
    show areaL r SA.2 (allE SA.1) = -wS (SA.1 ++ moreL r (allE SA.1))
    rw [areaL_w, wS_app, h]; omega
theorem in_both {p v q u t : Int} : (max p q ≤ t ∧ t < max p q + (min (p + v) (q + u) - max p q)) ↔ (p ≤ t ∧ t < p + v) ∧ (q ≤ t ∧ t < q + u) := by
  rw [show max p q + (min (p + v) (q + u) - max p q) = min (p + v) (q + u) by omega, Int.max_le, Int.lt_min]
  constructor
  · rintro ⟨⟨a, b⟩, c, d⟩; exact ⟨⟨a, c⟩, b, d⟩
  · rintro ⟨⟨a, c⟩, b, d⟩; exact ⟨⟨a, b⟩, c, d⟩
theorem dec4 {A B C D : Prop} [Decidable A] [Decidable B] [Decidable C] [Decidable D] : (decide (A ∧ B) && decide (C ∧ D)) = (decide A && decide C && (decide B && decide D)) := by
  rw [Bool.decide_and, Bool.decide_and]
  cases decide A <;> cases decide B <;> cases decide C <;> rfl
theorem inC_both {q r : R4} {x y : Int} : inC (both q r) x y = (inC q x y && inC r x y) := by
  unfold inC both
  dsimp only
  rw [decide_eq_decide.mpr in_both, decide_eq_decide.mpr in_both]
  exact dec4
theorem inC_meets {q r : R4} {x y : Int} (hq : inC q x y = true) (hr : inC r x y = true) : meets false q r = true := by
  unfold inC at hq hr
  rw [Bool.and_eq_true, decide_eq_true_eq, decide_eq_true_eq] at hq hr
  unfold meets
  rw [if_neg Bool.false_ne_true, decide_eq_true_eq]
  exact ⟨Int.lt_of_le_of_lt hq.2.1 hr.2.2, Int.lt_of_le_of_lt hr.2.1 hq.2.2, Int.lt_of_le_of_lt hq.1.1 hr.1.2, Int.lt_of_le_of_lt hr.1.1 hq.1.2⟩
theorem ind_both {q r : R4} {x y : Int} : (match isect false q r with | some b => indR b x y | none => 0) = indR q x y * indR r x y := by
  unfold isect
  by_cases h : meets false q r = true
  · rw [if_pos h]
    show indR (both q r) x y = _
    unfold indR
    rw [inC_both]
    cases inC q x y <;> cases inC r x y <;> rfl
  · rw [if_neg h]
    show (0 : Int) = _
    unfold indR
    cases hq : inC q x y
    · exact (Int.zero_mul _).symm
    · cases hr : inC r x y
      · exact (Int.mul_zero _).symm
      · exact absurd (inC_meets hq hr) h
theorem cS_lift {r : R4} {x y : Int} : ∀ {S : List (R4 × Int)}, cS x y (moreL r (liftE S)) = -(indR r x y * cS x y S)
  | [] => by show (0 : Int) = -(_ * 0); omega
  | e :: S => by
    show cS x y (moreL r ((some e.1, e.2) :: liftE S)) = -(indR r x y * (e.2 * indR e.1 x y + cS x y S))
    rw [moreL_cons, cS_app, cS_lift]
    have hb := ind_both (q := e.1) (r := r) (x := x) (y := y)
    show cS x y (match isect false e.1 r with | some q => [(q, -e.2)] | none => []) + _ = _
    rw [Int.mul_add, Int.neg_add]
    congr 1
    cases hi : isect false e.1 r with
    | none =>
      rw [hi] at hb
      show (0 : Int) = -(indR r x y * (e.2 * indR e.1 x y))
      have hb' : (0 : Int) = indR e.1 x y * indR r x y := hb
      rw [show indR r x y * (e.2 * indR e.1 x y) = e.2 * (indR e.1 x y * indR r x y) by grind, ← hb']
      omega
    | some b =>
      rw [hi] at hb
      show -e.2 * indR b x y + 0 = -(indR r x y * (e.2 * indR e.1 x y))
      have hb' : indR b x y = indR e.1 x y * indR r x y := hb
      rw [hb']
      grind
theorem cS_step {SA : List (R4 × Int) × Int} {r : R4} {x y : Int} : 1 + cS x y (shStep SA r).1 = (1 + cS x y SA.1) * (1 - indR r x y) := by
  show 1 + cS x y (SA.1 ++ moreL r ((none, 1) :: liftE SA.1)) = _
  rw [cS_app, moreL_cons, cS_app, cS_lift]
  show 1 + (cS x y SA.1 + ((-1 * indR r x y + 0) + -(indR r x y * cS x y SA.1))) = _
  grind
theorem cS_any {x y : Int} : ∀ {rs : List R4} {SA : List (R4 × Int) × Int}, 1 + cS x y (rs.foldl shStep SA).1 = (1 + cS x y SA.1) * (if (rs.any fun r => inC r x y) = true then 0 else 1)
  | [], SA => by
    show 1 + cS x y SA.1 = _
    rw [List.any_nil, if_neg (by decide), Int.mul_one]
  | r :: rs, SA => by
    rw [List.foldl_cons, cS_any, cS_step, List.any_cons, Int.mul_assoc]
    congr 1
    unfold indR
    cases inC r x y <;> cases (rs.any fun r => inC r x y) <;> rfl
theorem win_more {B : Nat} {r : R4} {es : List E4} (hr : Win B r) (h : ∀ e ∈ es, ∀ q, e.1 = some q → Win B q) : ∀ e ∈ moreL r es, Win B e.1 := by
  intro a ha
  obtain ⟨e, he, ha⟩ := List.mem_filterMap.mp ha
  cases ho : rectO r e.1 with
  | none => rw [ho] at ha; cases ha
  | some q =>
    rw [ho] at ha
    cases ha
    show Win B q
    obtain ⟨b, sg⟩ := e
    cases b with
    | none => cases ho; exact hr
    | some b =>
      obtain ⟨hm, rfl⟩ := isect_some ho
      have hb := h _ he b rfl
      unfold meets at hm
      simp only [Bool.false_eq_true, if_false, decide_eq_true_eq] at hm
      unfold Win at hb hr ⊢
      dsimp only [both]
      omega
theorem win_shU {B : Nat} : ∀ {rs : List R4} {SA : List (R4 × Int) × Int}, (∀ r ∈ rs, Win B r) → (∀ e ∈ SA.1, Win B e.1) → ∀ e ∈ (rs.foldl shStep SA).1, Win B e.1
  | [], _, _, h => h
  | r :: rs, SA, hb, h => win_shU (rs := rs) (SA := shStep SA r) (fun x hx => hb x (.tail _ hx)) (fun e he => by
      rcases List.mem_append.mp he with he | he
      · exact h e he
      · refine win_more (hb r (.head _)) (fun a ha q hq => ?_) e he
        rcases List.mem_cons.mp ha with rfl | ha
        · cases hq
        · obtain ⟨z, hz, rfl⟩ := List.mem_map.mp ha
          cases hq
          exact h z hz)
theorem area_cells {B : Nat} {rs : List R4} (h : ∀ r ∈ rs, Win B r) : (shU rs).2 = sum2 B fun x y => if (rs.any fun r => inC r x y) = true then 1 else 0 := by
  unfold shU
  rw [shU_w (SA := ([], 0)) rfl, wS_cells (B := B) (win_shU h fun e he => by cases he), ← Int.one_mul (sum2 B _), ← Int.neg_mul, ← sum2_mul]
  refine sum2_congr fun x y => ?_
  have := cS_any (x := x) (y := y) (rs := rs) (SA := ([], 0))
  rw [show cS x y ([], (0 : Int)).1 = 0 from rfl] at this
  cases hq : (rs.any fun r => inC r x y) with
  | true => rw [hq, if_pos rfl] at this; rw [if_pos rfl]; omega
  | false => rw [hq, if_neg (by decide)] at this; rw [if_neg (by decide)]; omega
/-- a column's covered cells -/
def colC (B : Nat) (rs : List R4) (x : Int) : Int := cnt (-B) (2 * B) fun y => rs.any fun r => inC r x y
theorem cells_cols {B : Nat} {rs : List R4} : (sum2 B fun x y => if (rs.any fun r => inC r x y) = true then 1 else 0) = sumI (-B) B (colC B rs) := by
  unfold sum2 sumI colC
  rw [show ((B : Int) - -(B : Int)).toNat = 2 * B by omega]
  exact sumZ_congr fun x _ _ => cnt_sum.symm
theorem sorted_at {ss : List Int} (h : ss.Pairwise (· ≤ ·)) {i j : Nat} (hij : i ≤ j) (hj : j < ss.length) : ss.getD i 0 ≤ ss.getD j 0 := by
  rw [List.getD_eq_getElem?_getD, List.getD_eq_getElem?_getD, List.getElem?_eq_getElem (by omega), List.getElem?_eq_getElem hj]
  show ss[i] ≤ ss[j]
  rcases Nat.lt_or_eq_of_le hij with q | q
  · exact List.pairwise_iff_getElem.mp h i j (by omega) hj q
  · subst q; exact Int.le_refl _
theorem mem_at {ss : List Int} {k : Int} (h : k ∈ ss) : ∃ j, j < ss.length ∧ ss.getD j 0 = k := by
  obtain ⟨j, hj, e⟩ := List.mem_iff_getElem.mp h
  exact ⟨j, hj, by rw [List.getD_eq_getElem?_getD, List.getElem?_eq_getElem hj]; exact e⟩
theorem col_slab {B : Nat} {rs : List R4} {ss : List Int} (up : ss.Pairwise (· ≤ ·)) (h1 : ∀ r ∈ rs, r.x ∈ ss) (h2 : ∀ r ∈ rs, r.x + r.w ∈ ss) {i : Nat} (hi : i + 1 < ss.length) {x : Int} (hx : ss.getD i 0 ≤ x) (hx2 : x < ss.getD (i + 1) 0) :
    colC B rs x = covB B (slabP rs (ss.getD i 0) (ss.getD (i + 1) 0)) := by
  unfold colC covB
  refine cnt_congr fun y _ _ => ?_
  unfold inP slabP
  rw [Bool.eq_iff_iff, List.any_eq_true, List.any_eq_true]
  have key : ∀ k ∈ ss, (k ≤ ss.getD i 0 ∨ ss.getD (i + 1) 0 ≤ k) := fun k hk => by
    obtain ⟨j, hj, rfl⟩ := mem_at hk
    rcases Nat.lt_or_ge i j with q | q
    · exact .inr (sorted_at up (by omega) hj)
    · exact .inl (sorted_at up q (by omega))
  constructor
  · rintro ⟨r, hr, hin⟩
    unfold inC at hin
    simp only [Bool.and_eq_true, decide_eq_true_eq] at hin
    have k1 := key _ (h1 r hr)
    have k2 := key _ (h2 r hr)
    exact ⟨(r.y, r.y + r.h), List.mem_map.mpr ⟨r, List.mem_filter.mpr ⟨hr, by rw [decide_eq_true_eq]; omega⟩, rfl⟩, by rw [decide_eq_true_eq]; dsimp only; omega⟩
  · rintro ⟨p, hp, hin⟩
    obtain ⟨r, hr, rfl⟩ := List.mem_map.mp hp
    obtain ⟨hr, hc⟩ := List.mem_filter.mp hr
    simp only [decide_eq_true_eq] at hc hin
    refine ⟨r, hr, ?_⟩
    unfold inC
    simp only [Bool.and_eq_true, decide_eq_true_eq]
    omega
theorem cover_cols {B : Nat} {rs : List R4} {ss : List Int} (up : ss.Pairwise (· ≤ ·)) (h1 : ∀ r ∈ rs, r.x ∈ ss) (h2 : ∀ r ∈ rs, r.x + r.w ∈ ss) : ∀ {i : Nat}, i < ss.length → coverA B rs ss i = sumI (ss.getD 0 0) (ss.getD i 0) (colC B rs)
  | 0, _ => by
    show (0 : Int) = sumZ _ _ _
    rw [show (ss.getD 0 0 - ss.getD 0 0).toNat = 0 by omega]
    rfl
  | i + 1, hi => by
    show coverA B rs ss i + _ = _
    rw [cover_cols up h1 h2 (by omega), sumI_cat (b := ss.getD i 0) (sorted_at up (by omega) (by omega)) (sorted_at up (by omega) hi)]
    congr 1
    exact (sumI_const (sorted_at up (by omega) hi) fun x hx hx2 => col_slab up h1 h2 hi hx hx2).symm
theorem area_law {B : Nat} {rs : List R4} {ss : List Int} (hw : ∀ r ∈ rs, Win B r) (hpos : 0 < rs.length) (hm : ∀ k, k ∈ ss ↔ k ∈ (rs.map R4.x ++ rs.map fun r => r.x + r.w)) (up : ss.Pairwise (· ≤ ·)) : (shU rs).2 = coverA B rs ss (ss.length - 1) := by
  have h1 : ∀ r ∈ rs, r.x ∈ ss := fun r hr => (hm _).mpr (List.mem_append_left _ (List.mem_map.mpr ⟨r, hr, rfl⟩))
  have h2 : ∀ r ∈ rs, r.x + r.w ∈ ss := fun r hr => (hm _).mpr (List.mem_append_right _ (List.mem_map.mpr ⟨r, hr, rfl⟩))
  have hl : 0 < ss.length := List.length_pos_of_mem (h1 _ (List.getElem_mem hpos))
  have hin : ∀ k ∈ ss, -(B : Int) ≤ k ∧ k ≤ B := fun k hk => by
    rcases List.mem_append.mp ((hm k).mp hk) with h | h
    · obtain ⟨r, hr, rfl⟩ := List.mem_map.mp h
      have := hw r hr
      unfold Win at this
      omega
    · obtain ⟨r, hr, e⟩ := List.mem_map.mp h
      have := hw r hr
      unfold Win at this
      (try dsimp only at e)
      omega
  have hg : ∀ {i : Nat}, i < ss.length → -(B : Int) ≤ ss.getD i 0 ∧ ss.getD i 0 ≤ B := fun {i} hi => hin _ (by rw [List.getD_eq_getElem?_getD, List.getElem?_eq_getElem hi]; exact List.getElem_mem hi)
  have none_col : ∀ x, (x < ss.getD 0 0 ∨ ss.getD (ss.length - 1) 0 ≤ x) → colC B rs x = 0 := fun x hx => by
    unfold colC
    rw [show (fun y => rs.any fun r => inC r x y) = fun _ => false from ?_, cnt_false]
    funext y
    rw [List.any_eq_false]
    intro r hr hi
    unfold inC at hi
    simp only [Bool.and_eq_true, decide_eq_true_eq] at hi
    obtain ⟨j, hj, e⟩ := mem_at (h1 r hr)
    obtain ⟨k, hk, e2⟩ := mem_at (h2 r hr)
    have a1 := sorted_at up (Nat.zero_le j) hj
    have a2 := sorted_at up (show k ≤ ss.length - 1 by omega) (by omega)
    omega
  have hb0 := hg hl
  have hb1 := hg (show ss.length - 1 < ss.length by omega)
  have hle := sorted_at up (Nat.zero_le (ss.length - 1)) (by omega)
  rw [area_cells hw, cells_cols, cover_cols up h1 h2 (by omega), sumI_cat (b := ss.getD 0 0) (by omega) (by omega), sumI_cat (a := ss.getD 0 0) (b := ss.getD (ss.length - 1) 0) hle (by omega),
    sumI_const (a := -(B : Int)) (k := 0) (by omega) (fun t _ h => none_col t (.inl h)), sumI_const (a := ss.getD (ss.length - 1) 0) (k := 0) (by omega) (fun t h _ => none_col t (.inr h))]
  omega
end Mine
end
section
open PySem PySem.W PySem.Calls PyProof.Rows PySem.Spec
set_option linter.unusedVariables false
namespace Mine
theorem lmax_snoc {l : List Int} {a : Int} (h : 0 < l.length) : lmax (l ++ [a]) = max (lmax l) a := by
  refine (lmax_of ?_ ?_).symm
  · rcases Int.le_total (lmax l) a with q | q
    · rw [Int.max_eq_right q]; exact List.mem_append_right _ (.head _)
    · rw [Int.max_eq_left q]; exact List.mem_append_left _ (lmax_mem h)
  · intro b hb
    rcases List.mem_append.mp hb with hb | hb
    · have := lmax_ge b hb; omega
    · rw [List.mem_singleton.mp hb]; omega
theorem lmin_snoc {l : List Int} {a : Int} (h : 0 < l.length) : lmin (l ++ [a]) = min (lmin l) a := by
  refine (lmin_of ?_ ?_).symm
  · rcases Int.le_total (lmin l) a with q | q
    · rw [Int.min_eq_left q]; exact List.mem_append_left _ (lmin_mem h)
    · rw [Int.min_eq_right q]; exact List.mem_append_right _ (.head _)
  · intro b hb
    rcases List.mem_append.mp hb with hb | hb
    · have := lmin_le b hb; omega
    · rw [List.mem_singleton.mp hb]; omega
theorem lmax_perm {l l' : List Int} (h : l.Perm l') (hl : 0 < l.length) : lmax l = lmax l' :=
  lmax_of (h.mem_iff.mp (lmax_mem hl)) fun a ha => lmax_ge a (h.mem_iff.mpr ha)
theorem lmin_perm {l l' : List Int} (h : l.Perm l') (hl : 0 < l.length) : lmin l = lmin l' :=
  lmin_of (h.mem_iff.mp (lmin_mem hl)) fun a ha => lmin_le a (h.mem_iff.mpr ha)
theorem sharedO_perm {e : Bool} {rs rs' : List R4} (h : rs.Perm rs') (hl : 0 < rs.length) : sharedO e rs = sharedO e rs' := by
  unfold sharedO
  rw [lmax_perm (h.map _) (by rw [List.length_map]; exact hl), lmax_perm (h.map (fun r => r.y)) (by rw [List.length_map]; exact hl), lmin_perm (h.map (fun r => r.x + r.w)) (by rw [List.length_map]; exact hl), lmin_perm (h.map (fun r => r.y + r.h)) (by rw [List.length_map]; exact hl)]
theorem lt_snoc {L R a b : Int} (h : a ≤ b) : min R b < max L a ↔ R < L ∨ b < L ∨ R < a := by
  constructor
  · intro k; omega
  · rintro (k | k | k) <;> omega
theorem le_snoc {L R a b : Int} (h : a < b) : min R b ≤ max L a ↔ R ≤ L ∨ b ≤ L ∨ R ≤ a := by
  constructor
  · intro k; omega
  · rintro (k | k | k) <;> omega
theorem le_or {R L T B : Int} : (R < L ∨ T < B ∨ R = L ∨ T = B) ↔ R ≤ L ∨ T ≤ B := by
  constructor
  · rintro (k | k | k | k)
    · exact .inl (Int.le_of_lt k)
    · exact .inr (Int.le_of_lt k)
    · exact .inl (Int.le_of_eq k)
    · exact .inr (Int.le_of_eq k)
  · rintro (k | k)
    · rcases Int.lt_or_eq_of_le k with k | k
      · exact .inl k
      · exact .inr (.inr (.inl k))
    · rcases Int.lt_or_eq_of_le k with k | k
      · exact .inr (.inl k)
      · exact .inr (.inr (.inr k))
theorem shared_step {e : Bool} {pre : List R4} {r : R4} (hp : 0 < pre.length) (hw : 1 ≤ r.w) (hh : 1 ≤ r.h) : oneStep e (sharedO e pre) r = sharedO e (pre ++ [r]) := by
  unfold sharedO
  simp only [List.map_append, List.map_cons, List.map_nil]
  rw [lmax_snoc (by rw [List.length_map]; exact hp), lmax_snoc (by rw [List.length_map]; exact hp), lmin_snoc (by rw [List.length_map]; exact hp), lmin_snoc (by rw [List.length_map]; exact hp)]
  generalize lmax (pre.map fun r => r.x) = L
  generalize lmax (pre.map fun r => r.y) = B
  generalize lmin (pre.map fun r => r.x + r.w) = R
  generalize lmin (pre.map fun r => r.y + r.h) = T
  have eR : L + (R - L) = R := by omega
  have eT : B + (T - B) = T := by omega
  have jx : r.x < r.x + r.w := by omega
  have jy : r.y < r.y + r.h := by omega
  cases e with
  | true =>
    simp only [Bool.true_eq_false, false_and, or_false]
    by_cases h : R < L ∨ T < B
    · rw [if_pos h, if_pos (h.imp (fun k => (lt_snoc (Int.le_of_lt jx)).mpr (.inl k)) fun k => (lt_snoc (Int.le_of_lt jy)).mpr (.inl k))]; rfl
    · rw [if_neg h]
      show isect true _ r = _
      unfold isect meets both
      simp only [if_true, decide_eq_true_eq]
      rw [eR, eT]
      by_cases h2 : B ≤ r.y + r.h ∧ r.y ≤ T ∧ L ≤ r.x + r.w ∧ r.x ≤ R
      · rw [if_pos h2, if_neg]
        rintro (k | k)
        · rcases (lt_snoc (Int.le_of_lt jx)).mp k with k | k | k
          · exact h (.inl k)
          · exact Int.not_le.mpr k h2.2.2.1
          · exact Int.not_le.mpr k h2.2.2.2
        · rcases (lt_snoc (Int.le_of_lt jy)).mp k with k | k | k
          · exact h (.inr k)
          · exact Int.not_le.mpr k h2.1
          · exact Int.not_le.mpr k h2.2.1
      · rw [if_neg h2, if_pos]
        refine Classical.byContradiction fun k => h2 ⟨?_, ?_, ?_, ?_⟩
        · exact Int.not_lt.mp fun z => k (.inr ((lt_snoc (Int.le_of_lt jy)).mpr (.inr (.inl z))))
        · exact Int.not_lt.mp fun z => k (.inr ((lt_snoc (Int.le_of_lt jy)).mpr (.inr (.inr z))))
        · exact Int.not_lt.mp fun z => k (.inl ((lt_snoc (Int.le_of_lt jx)).mpr (.inr (.inl z))))
        · exact Int.not_lt.mp fun z => k (.inl ((lt_snoc (Int.le_of_lt jx)).mpr (.inr (.inr z))))
  | false =>
    simp only [true_and, le_or]
    by_cases h : R ≤ L ∨ T ≤ B
    · rw [if_pos h, if_pos (h.imp (fun k => (le_snoc jx).mpr (.inl k)) fun k => (le_snoc jy).mpr (.inl k))]; rfl
    · rw [if_neg h]
      show isect false _ r = _
      unfold isect meets both
      simp only [Bool.false_eq_true, if_false, decide_eq_true_eq]
      rw [eR, eT]
      by_cases h2 : B < r.y + r.h ∧ r.y < T ∧ L < r.x + r.w ∧ r.x < R
      · rw [if_pos h2, if_neg]
        rintro (k | k)
        · rcases (le_snoc jx).mp k with k | k | k
          · exact h (.inl k)
          · exact Int.not_lt.mpr k h2.2.2.1
          · exact Int.not_lt.mpr k h2.2.2.2
        · rcases (le_snoc jy).mp k with k | k | k
          · exact h (.inr k)
          · exact Int.not_lt.mpr k h2.1
          · exact Int.not_lt.mpr k h2.2.1
      · rw [if_neg h2, if_pos]
        refine Classical.byContradiction fun k => h2 ⟨?_, ?_, ?_, ?_⟩
        · exact Int.not_le.mp fun z => k (.inr ((le_snoc jy).mpr (.inr (.inl z))))
        · exact Int.not_le.mp fun z => k (.inr ((le_snoc jy).mpr (.inr (.inr z))))
        · exact Int.not_le.mp fun z => k (.inl ((le_snoc jx).mpr (.inr (.inl z))))
        · exact Int.not_le.mp fun z => k (.inl ((le_snoc jx).mpr (.inr (.inr z))))
theorem shared_one {e : Bool} {r : R4} (hw : 1 ≤ r.w) (hh : 1 ≤ r.h) : sharedO e [r] = some r := by
  unfold sharedO
  show (if r.x + r.w < r.x ∨ r.y + r.h < r.y ∨ (e = false ∧ (r.x + r.w = r.x ∨ r.y + r.h = r.y)) then none else some (⟨r.x, r.y, r.x + r.w - r.x, r.y + r.h - r.y⟩ : R4)) = _
  rw [if_neg (by omega), show r.x + r.w - r.x = r.w by omega, show r.y + r.h - r.y = r.h by omega]
theorem shared_fold {e : Bool} : ∀ {rs pre : List R4}, 0 < pre.length → (∀ r ∈ rs, 1 ≤ r.w ∧ 1 ≤ r.h) → rs.foldl (oneStep e) (sharedO e pre) = sharedO e (pre ++ rs)
  | [], pre, _, _ => by rw [List.append_nil]; rfl
  | r :: rs, pre, hp, h => by
    have hr := h r (.head _)
    rw [List.foldl_cons, shared_step hp hr.1 hr.2, shared_fold (by rw [List.length_append]; omega) fun a ha => h a (.tail _ ha), List.append_assoc]
    rfl
theorem one_shared {e : Bool} {rs : List R4} (hp : 0 < rs.length) (h : ∀ r ∈ rs, 1 ≤ r.w ∧ 1 ≤ r.h) : oneL e rs = sharedO e rs := by
  cases rs with
  | nil => simp at hp
  | cons r rs =>
    have hr := h r (.head _)
    show rs.foldl (oneStep e) (some r) = _
    rw [← shared_one (e := e) hr.1 hr.2, shared_fold (by simp) fun a ha => h a (.tail _ ha)]
    rfl
theorem one_rot {e : Bool} {rs : List R4} (k : Nat) (hp : 0 < rs.length) (h : ∀ r ∈ rs, 1 ≤ r.w ∧ 1 ≤ r.h) : oneL e (rs.drop k ++ rs.take k) = sharedO e rs := by
  have P : (rs.drop k ++ rs.take k).Perm rs := by
    refine List.perm_append_comm.trans ?_
    rw [List.take_append_drop]
  rw [one_shared (by rw [P.length_eq]; exact hp) fun r hr => h r (P.mem_iff.mp hr)]
  exact sharedO_perm P (by rw [P.length_eq]; exact hp)
theorem getD_at {rs : List R4} {r : R4} (h : r ∈ rs) : ∃ i, i < rs.length ∧ rs.getD i rr0 = r := by
  obtain ⟨i, hi, e⟩ := List.mem_iff_getElem.mp h
  exact ⟨i, hi, by rw [List.getD_eq_getElem?_getD, List.getElem?_eq_getElem hi]; exact e⟩
theorem pair_in {rs : List R4} {a b : R4} (ha : a ∈ rs) (hb : b ∈ rs) (hne : a ≠ b) : (a, b) ∈ pairsUp rs (rs.length * rs.length) := by
  obtain ⟨i, hi, rfl⟩ := getD_at ha
  obtain ⟨j, hj, rfl⟩ := getD_at hb
  refine pairsUp_has hi hj (fun e => hne (by rw [e])) ?_
  calc i * rs.length + j < i * rs.length + rs.length := by omega
    _ = (i + 1) * rs.length := by rw [Nat.add_mul, Nat.one_mul]
    _ ≤ rs.length * rs.length := Nat.mul_le_mul_right _ hi
theorem helly {e : Bool} {rs : List R4} (hp : 0 < rs.length) (h : ∀ r ∈ rs, 1 ≤ r.w ∧ 1 ≤ r.h) : ((pairsUp rs (rs.length * rs.length)).map fun p => meets e p.1 p.2).any (· == false) = (sharedO e rs).isNone := by
  rw [Bool.eq_iff_iff, List.any_eq_true]
  have hx : ∀ r ∈ rs, r.x ≤ lmax (rs.map fun r => r.x) := fun r hr => lmax_ge _ (List.mem_map.mpr ⟨r, hr, rfl⟩)
  have hy : ∀ r ∈ rs, r.y ≤ lmax (rs.map fun r => r.y) := fun r hr => lmax_ge _ (List.mem_map.mpr ⟨r, hr, rfl⟩)
  have hr : ∀ r ∈ rs, lmin (rs.map fun r => r.x + r.w) ≤ r.x + r.w := fun r hr => lmin_le _ (List.mem_map.mpr ⟨r, hr, rfl⟩)
  have ht : ∀ r ∈ rs, lmin (rs.map fun r => r.y + r.h) ≤ r.y + r.h := fun r hr => lmin_le _ (List.mem_map.mpr ⟨r, hr, rfl⟩)
  obtain ⟨a, ha, ea⟩ := List.mem_map.mp (lmax_mem (l := rs.map fun r => r.x) (by rw [List.length_map]; exact hp))
  obtain ⟨b, hb, eb⟩ := List.mem_map.mp (lmax_mem (l := rs.map fun r => r.y) (by rw [List.length_map]; exact hp))
  obtain ⟨c, hc, ec⟩ := List.mem_map.mp (lmin_mem (l := rs.map fun r => r.x + r.w) (by rw [List.length_map]; exact hp))
  obtain ⟨d, hd, ed⟩ := List.mem_map.mp (lmin_mem (l := rs.map fun r => r.y + r.h) (by rw [List.length_map]; exact hp))
  have hS : (sharedO e rs).isNone = true ↔ (lmin (rs.map fun r => r.x + r.w) < lmax (rs.map fun r => r.x) ∨ lmin (rs.map fun r => r.y + r.h) < lmax (rs.map fun r => r.y) ∨ (e = false ∧ (lmin (rs.map fun r => r.x + r.w) = lmax (rs.map fun r => r.x) ∨ lmin (rs.map fun r => r.y + r.h) = lmax (rs.map fun r => r.y)))) := by
    unfold sharedO
    split
    · next q => exact ⟨fun _ => q, fun _ => rfl⟩
    · next q => exact ⟨fun z => (by cases z), fun z => absurd z q⟩
  rw [hS]
  (try dsimp only at ea eb ec ed)
  generalize lmax (rs.map fun r => r.x) = L at *
  generalize lmax (rs.map fun r => r.y) = B at *
  generalize lmin (rs.map fun r => r.x + r.w) = R at *
  generalize lmin (rs.map fun r => r.y + r.h) = T at *
  constructor
  · rintro ⟨m, hm, hf⟩
    obtain ⟨p, hp2, rfl⟩ := List.mem_map.mp hm
    obtain ⟨i, j, hi, hj, _, rfl⟩ := pairsUp_mem (Nat.le_refl _) hp2
    have m1 := getD_mem hi
    have m2 := getD_mem hj
    dsimp only at hf
    generalize rs.getD i rr0 = u at *
    generalize rs.getD j rr0 = v at *
    have u1 := hx u m1; have u2 := hy u m1; have u3 := hr u m1; have u4 := ht u m1
    have v1 := hx v m2; have v2 := hy v m2; have v3 := hr v m2; have v4 := ht v m2
    have hf' : meets e u v = false := eq_of_beq hf
    unfold meets at hf'
    cases e with
    | true => simp only [if_true, decide_eq_false_iff_not] at hf'; simp only [Bool.true_eq_false, false_and, or_false]; omega
    | false => simp only [Bool.false_eq_true, if_false, decide_eq_false_iff_not] at hf'; simp only [true_and]; omega
  · intro hcond
    have a1 := h a ha; have b1 := h b hb; have c1 := h c hc; have d1 := h d hd
    have fin : ∀ u v : R4, u ∈ rs → v ∈ rs → u ≠ v → meets e u v = false → ∃ x, x ∈ (pairsUp rs (rs.length * rs.length)).map (fun p => meets e p.1 p.2) ∧ (x == false) = true := fun u v hu hv hne hm => ⟨false, List.mem_map.mpr ⟨(u, v), pair_in hu hv hne, hm⟩, rfl⟩
    by_cases hX : R < L ∨ (e = false ∧ R = L)
    · refine fin a c ha hc (fun q => by subst q; omega) ?_
      unfold meets
      cases e with
      | true => simp only [if_true, decide_eq_false_iff_not]; simp only [Bool.true_eq_false, false_and, or_false] at hX; omega
      | false => simp only [Bool.false_eq_true, if_false, decide_eq_false_iff_not]; omega
    · have hY : T < B ∨ (e = false ∧ T = B) := by
        rcases hcond with q | q | ⟨q, q2 | q2⟩
        · exact absurd (.inl q) hX
        · exact .inl q
        · exact absurd (.inr ⟨q, q2⟩) hX
        · exact .inr ⟨q, q2⟩
      refine fin b d hb hd (fun q => by subst q; omega) ?_
      unfold meets
      cases e with
      | true => simp only [if_true, decide_eq_false_iff_not]; simp only [Bool.true_eq_false, false_and, or_false] at hY; omega
      | false => simp only [Bool.false_eq_true, if_false, decide_eq_false_iff_not]; omega
theorem within_win {D : Int} {B : Nat} {r : R4} (h : Within D r) (hB : 2 * D ≤ B) : Win B r := by
  unfold Within at h
  unfold Win
  omega
end Mine
end
section
open PySem PySem.W PySem.Calls PyProof.Rows PySem.Spec
set_option linter.unusedVariables false
namespace Mine
theorem natAbs_of_bits {x : Int} {k : Nat} (h : Builtin.Int.intBits x ≤ k) : x.natAbs < 2 ^ k := by
  unfold Builtin.Int.intBits at h
  by_cases hx : x = 0
  · subst hx
    exact Nat.two_pow_pos k
  · rw [if_neg (by simpa using hx)] at h
    exact (Nat.log2_lt (by omega)).mp (by omega)
theorem bits_of_natAbs {x : Int} {k : Nat} (h : x.natAbs < 2 ^ k) : Builtin.Int.intBits x ≤ k := by
  unfold Builtin.Int.intBits
  by_cases hx : x = 0
  · subst hx
    exact Nat.zero_le _
  · rw [if_neg (by simpa using hx)]
    have := (Nat.log2_lt (n := x.natAbs) (k := k) (by omega)).mpr h
    omega
theorem mulable_pow {k : Nat} (hk : 2 * k + 6 ≤ bitsLine) : Mulable (6 * ((2 ^ k : Nat) : Int)) := by
  constructor
  intro a b a1 a2 b1 b2
  have e : (2 : Nat) ^ (k + 3) = 8 * 2 ^ k := by rw [Nat.pow_add]; omega
  have hp := Nat.two_pow_pos k
  have ha : Builtin.Int.intBits a ≤ k + 3 := bits_of_natAbs (by rw [e]; omega)
  have hb : Builtin.Int.intBits b ≤ k + 3 := bits_of_natAbs (by rw [e]; omega)
  unfold IntMulOk
  intro h
  rw [Bool.and_eq_true] at h
  have h2 := h.2
  unfold Builtin.Int.intTooBig at h2
  rw [decide_eq_true_eq] at h2
  omega
theorem law_bounds_k {ns : List Int} {k : Nat} (h1 : 1 ≤ k) (hk : 2 * k + 6 ≤ bitsLine) (h : ∀ x ∈ ns, Builtin.Int.intBits x ≤ k) : ∃ M D : Int, Mulable M ∧ 6 * D ≤ M ∧ ∀ r ∈ lawRows ns, Within D r := by
  have hp : 2 ≤ 2 ^ k := by
    obtain ⟨j, rfl⟩ : ∃ j, k = j + 1 := ⟨k - 1, by omega⟩
    have := Nat.two_pow_pos j
    rw [Nat.pow_succ]; omega
  have hx : ∀ i, (ns.getD i 0).natAbs < 2 ^ k := fun i => by
    rw [List.getD_eq_getElem?_getD]
    rcases Nat.lt_or_ge i ns.length with q | q
    · rw [List.getElem?_eq_getElem q]
      exact natAbs_of_bits (h _ (List.getElem_mem q))
    · rw [List.getElem?_eq_none q]
      exact Nat.two_pow_pos k
  refine ⟨_, ((2 ^ k : Nat) : Int), mulable_pow hk, Int.le_refl _, fun r hr => ?_⟩
  generalize 2 ^ k = P at hp hx
  unfold lawRows at hr
  split at hr
  · simp only [List.mem_cons, List.not_mem_nil, or_false] at hr
    unfold Within
    rcases hr with rfl | rfl <;> dsimp only <;> omega
  · obtain ⟨i, _, rfl⟩ := List.mem_map.mp hr
    unfold Within rowOf
    dsimp only
    have q1 := hx (4 * i); have q2 := hx (4 * i + 1); have q3 := hx (4 * i + 2); have q4 := hx (4 * i + 3)
    omega
theorem law_bounds {ns : List Int} (h : (PyData.list (List.map PyData.int ns)).layable0 = true) : ∃ M D : Int, Mulable M ∧ 6 * D ≤ M ∧ ∀ r ∈ lawRows (List.take 16 ns), Within D r :=
  law_bounds_k (k := 1048576) (by omega) (by unfold bitsLine; omega) fun x hx => intBits_le_of_item (List.mem_of_mem_take hx) h
end Mine
end
namespace Mine
theorem offD1 : True := by
  w_top off
  trivial
theorem anewD1 : (1 : Nat) = 1 := by walk1
end Mine
section
open PySem PySem.W PySem.Calls PyProof.Rows
set_option maxRecDepth 100000
set_option linter.unusedVariables false
namespace Mine
theorem fill20 : (fun (_ : OpenLaw × (Params → Frag)) => True) (PySem.Challenge.rw_ay0032_01, Mine.hd.heap_1) := by
  k_fill
  trivial
local macro_rules | `(tactic| k_qdec) => `(tactic| decide +kernel)
local macro_rules | `(tactic| k_room) => `(tactic| ktr_room)
local macro_rules | `(tactic| k_units) => `(tactic| ktr_units)
local macro_rules | `(tactic| k_all) => `(tactic| exact allLt_ne (by assumption))
local macro_rules | `(tactic| k_mem) => `(tactic| assumption)
local macro_rules | `(tactic| k_all) => `(tactic| assumption)
theorem datall_len {news : List (Addr × Obj)} {vs : List Value} {ds : List Dat} (h : DatAll news vs ds) : vs.length = ds.length := h.length
local macro_rules | `(tactic| mul_fits) => `(tactic| exact Mulable.ok (by assumption) (by omega) (by omega) (by omega) (by omega))
local macro_rules | `(tactic| mul_fits) => `(tactic| exact sign_mul (by assumption))
set_option maxHeartbeats 2000000 in
theorem law1 : PySem.Challenge.rw_ay0032_01.Holds := by
  apply Mine.hd
  k_go0
  all_goals (try k_fold)
  rename IntsAre _ _ => hI
  rename Heap.IsList _ _ _ => hL
  rename Shared => s1
  rename List Int => nsI
  have hvl := IntsAre.length hI
  have h63 := len63 hI (by omega)
  (repeat' (first | (k_unfold; (try dsimp only)) | (k_end; wrow_close) | ((with_reducible show wpAny _ _ (execs (Stmt.Assign _ (Expr.Call _ _ _ _) _ :: Stmt.Assign _ (Expr.Compare _ _ _ _) _ :: _) _) _ _ _); (refine' execs_mid (MidE0 s₂ s1.heap s1.heap.objs.size lE (s1.heap.objs.size + 1) (s1.heap.objs.size + 1 + 1) (s1.heap.objs.size + 1 + 1 + 1) (listOf [Value.bool false, Value.bool true].toArray 0) o1 o2 big (fun z => if z = "pairs" then some (.ref lP) else if z = "turn" then some (.int tv tt) else m z) e9 rs) ?_ ?_)) | ((with_reducible show wpAny _ _ (exec (Stmt.For ..) _) _ _ _); ((rename Fr _ _ _ _ => lF'); (with_unfolding_all refine' For_invTF lF' ?_ (by (intro _; rfl)); k_whole))) | ((with_reducible show wpAny _ _ (exec (Stmt.For ..) _) _ _ _); ((rename Fr _ _ _ _ => lF'); (with_unfolding_all refine' For_invTF lF' ?_ (by (intro _; rfl)); k_whole))) | ((with_reducible show wpAny _ _ (call (Value.builtin "list.append") [Value.ref _, Value.ref _]) _ _ _); k_dflt (refine' append_K (by k_asm) (by k_asm) (by k_upd) ?_ (by (rw [PySem.sizeLine_eq, List.size_toArray]; omega))); intro h9 F9 N9; (try k_sweep)) | ((with_reducible show wpAny _ _ (call (Value.ref 238) [Value.ref _]) _ _ _); k_dflt (refine' covered_c (by k_asm) (by k_asm) (by k_asm) (by k_asm) (by k_asm) (by exact rfl) (by exact rfl) (by ktr_room) (by ktr_units) (by assumption) (by assumption) (by assumption) (by k_mem) (by assumption) (by assumption) (by omega) (by assumption) ?_; k_whole; intro ss9 mem9 up9 t9 h9 d9 tk9 F9 N9; (try k_fold); (try k_sweep))) | ((with_reducible show wpAny _ _ (call (Value.ref 193) _ _) _ _ _); (k_dflt (refine' intersection_d (by k_asm) (by k_asm) (by k_asm) (by k_asm) (by k_asm) (by exact rfl) (by exact rfl) (by ktr_room) (by ktr_units) (by k_mem) (by k_mem) (by k_mem) (by k_mem) (by omega) (by omega) (by omega) (by omega) ?_ ?_; all_goals (k_whole; (first | (intro c9 a9 d9 k91 k92 k93 k94 k95 kw9 kh9 kx9 ky9 h9 tk9 F9 N9 l91 l92; (try k_lt l91); (try k_lt2 l92)) | (intro c9 h9 tk9 F9 N9)); (try dsimp only); (try k_fold); (try k_sweep))))) | ((with_reducible show wpAny _ _ (call (Value.ref 163) _ _) _ _ _); (k_dflt (refine' area_c (by k_asm) (by k_asm) (by k_asm) (by k_asm) (by k_asm) (by exact rfl) (by exact rfl) (by ktr_room) (by ktr_units) (by k_mem) (by k_mem) (by mul_fits) ?_; k_whole; intro t9 h9 tk9 F9 N9; (try dsimp only); (try k_fold); (try k_sweep)))) | ((with_reducible show wpAny _ _ (compareOp CmpOp.NotEq Value.none Value.none) _ _ _); (k_dflt (refine' dat_ne (by k_asm) (by exact DatIn.none) (by exact DatIn.none) (by rfl) (by rfl) (by ktr_units) ?_); (try simp only [decide_true, Bool.not_true]))) | ((with_reducible show wpAny _ _ (compareOp CmpOp.NotEq (Value.ref _) (Value.ref _)) _ _ _); k_dflt (refine' dat_ne (by k_asm) (by exact row_close (by k_mem)) (by exact row_close (by k_mem)) (by rfl) (by rfl) (by ktr_units) ?_); (try simp only [decide_true, Bool.not_true])) | ((with_reducible show wpAny _ _ (binaryOp _ (Value.ref _) (Value.ref _)) _ _ _); k_dflt (refine' kmk_add_lit (by k_asm) (by k_asm) (by exact News.isList (by k_asm) (by k_mem)) (by exact News.isList (by k_asm) (by k_mem)) (by exact rfl) ?_ (by (rw [PySem.sizeLine_eq]; simp only [List.toList_toArray, List.length_drop, List.length_take, List.length_cons, List.length_nil]; omega))); intro D' h' F' N' l1; (try k_lt l1); (try k_sweep)) | ((with_reducible show wpAny _ _ (subscriptTail (Expr.Name ..) (Expr.Slice ..) (Value.ref _) (Value.ref _)) _ _ _); (k_dflt (refine' kmk_slice_lit (by k_asm) (by k_asm) (by exact ⟨_, News.get (by k_asm) (by k_mem), rfl, _, rfl⟩) (by kmk_part) (by kmk_part) (by first | exact slice_from _ (by assumption) | exact slice_upto _ (by assumption)) ?_ (by with_unfolding_all rfl) (by kmk_pure) (by (rw [PySem.sizeLine_eq, List.size_toArray]; omega))); intro D' h' F' N' l1; (try k_lt l1); (try k_sweep))) | ((with_reducible show wpAny _ _ (call (Value.ref 233) _ _) _ _ _); (k_dflt (refine' one_any (by k_asm) (by k_asm) (by k_asm) (by k_asm) (by k_asm) (by exact rfl) (by exact rfl) (by ktr_room) (by ktr_units) (by k_mem) (by (first | exact datall_mono (by (intro p hp; repeat' (first | exact hp | refine List.mem_cons_of_mem _ ?_))) dR3 | exact datall_mono (by (intro p hp; repeat' (first | exact hp | refine List.mem_cons_of_mem _ ?_))) dRot)) (by (first | omega | (simp only [List.length_append, List.length_drop, List.length_take]; omega))) (by (first | omega | (simp only [List.length_append, List.length_drop, List.length_take]; omega))) (by (first | exact hwR | exact hwRot)) ?_ ?_; all_goals (k_whole; ((first | (intro q8 hd1 t8 s81 s82 s83 s84 n8 h9 tk9 F9 N9; ((first | rw [hone, hd0] at hd1 | rw [hone2, hd0] at hd1); cases hd1) <;> ((try k_fold); (try k_sweep))) | (intro hd1 h9 tk9 F9 N9; ((first | rw [hone, hd0] at hd1 | rw [hone2, hd0] at hd1); cases hd1) <;> ((try k_fold); (try k_sweep))))))))) | ((with_reducible show wpAny _ _ (call (Value.ref 226) _ _) _ _ _); (k_dflt (refine' shared_any (by k_asm) (by k_asm) (by k_asm) (by k_asm) (by k_asm) (by exact rfl) (by exact rfl) (by ktr_room) (by ktr_units) (by k_mem) (by (first | exact datall_mono (by (intro p hp; repeat' (first | exact hp | refine List.mem_cons_of_mem _ ?_))) dR3 | exact datall_mono (by (intro p hp; repeat' (first | exact hp | refine List.mem_cons_of_mem _ ?_))) dRot)) (by omega) (by omega) ?_ ?_; all_goals (k_whole; ((first | (intro q9 hd0 t9 s91 s92 s93 s94 n9 h9 tk9 F9 N9; (try k_fold); (try k_sweep)) | (intro hd0 h9 tk9 F9 N9; (try k_fold); (try k_sweep)))))))) | ((with_reducible show wpAny _ _ (call (Value.ref 185) _ _) _ _ _); (k_dflt (refine' intersects_c (by k_asm) (by k_asm) (by k_asm) (by k_asm) (by k_asm) (by exact rfl) (by exact rfl) (by ktr_room) (by ktr_units) (by k_mem) (by k_mem) (by k_mem) (by k_mem) ?_; k_whole; intro t9 h9 tk9 F9 N9; (try dsimp only); (try k_fold); (try k_sweep)))) | ((with_reducible show wpAny _ _ (call (Value.ref 214) _ _) _ _ _); (k_dflt (refine' box_c (by k_asm) (by k_asm) (by k_asm) (by k_asm) (by k_asm) (by exact rfl) (by exact rfl) (by ktr_room) (by ktr_units) (by k_mem) (by omega) (by omega) ?_; k_whole; intro a9 d9 k91 k92 k93 k94 k95 kw9 kh9 kx9 ky9 h9 tk9 F9 N9 l91 l92; (try k_lt l91); (try k_lt2 l92); (try dsimp only); (try k_fold); (try k_sweep)))) | ((with_reducible show wpAny _ _ (compareOp CmpOp.NotIn (Value.bool false) (Value.ref _)) _ _ _); k_dflt (refine' notIn_boolsN (by k_asm) (by k_mem) ?_)) | ((with_reducible show wpAny _ _ (compareOp CmpOp.In (Value.bool false) (Value.ref _)) _ _ _); k_dflt (refine' in_boolsN (by k_asm) (by k_mem) ?_)) | ((with_reducible show wpAny _ _ (call (Value.ref 245) _ _) _ _ _); (k_dflt (refine' pair_c (by k_asm) (by k_asm) (by k_asm) (by k_asm) (by k_asm) (by exact rfl) (by exact rfl) (by ktr_room) (by ktr_units) (by assumption) (by assumption) (by k_mem) (by k_mem) (by exact ⟨by omega, by omega⟩) (by exact ⟨by omega, by omega⟩) (by exact ⟨by omega, by omega⟩) (by exact ⟨by omega, by omega⟩) (by exact ⟨by omega, by omega⟩) (by exact ⟨by omega, by omega⟩) (by exact ⟨by omega, by omega⟩) (by exact ⟨by omega, by omega⟩) ?_; k_whole; intro h9 tk9 F9 N9; (try k_fold); (try k_sweep)))) | ((with_reducible show LCg.CompEnd ..); (k_dflt (refine' LCg.CompEnd.intro (by assumption) (by assumption) _ (by (intro p hp; repeat' (first | exact hp | refine List.mem_cons_of_mem _ ?_))) (by assumption) (by (exact Or.inr ⟨_, by k_mem, rfl, _, rfl⟩)) ⟨rfl, rfl⟩))) | ((with_reducible show LCp.SrcLP ..); (k_dflt (refine' LCp.SrcLP.ledger (by rfl) (by k_asm) (by k_asm) (by k_mem) (by (rw [PySem.sizeLine_eq, List.size_toArray]; omega)) ?_); ((intro g9; k_dflt (refine' pairs_comp pf9 (datall_mono (by intro p hp; repeat' (first | exact hp | refine List.mem_cons_of_mem _ ?_)) dP) (fun p9 t9 u9 t91 t92 t93 t94 u91 u92 u93 u94 n9 k9 I9 oI9 C9 oC9 D9 m29 ys9 h9 tk9 E9 hp9 mt9 mu9 hC9 hx9 hy9 F9 N9 off9 ne9 => ?_) ?_); (focus (obtain ⟨⟨⟨b1, b2⟩, ⟨b3, b4⟩, ⟨b5, b6⟩, b7, b8⟩, ⟨d1, d2⟩, ⟨d3, d4⟩, ⟨d5, d6⟩, d7, d8⟩ := pair_within hbR hp9)))))) | ((with_reducible show wpAny _ _ (eval (Expr.ListComp _ [⟨Expr.Tuple _ _ _, _, [], _⟩] _ _) _) _ _ _); k_dflt (refine LCp.ListComp_P (F₀ := by k_asm) (by with_unfolding_all rfl) (by decide) (by rfl) (by decide) (by rfl) (by rfl) (by decide) ?_)) | ((with_reducible show wpAny _ _ (truthy (Value.ref _)) _ _ _); k_dflt (refine' truthy_listN (by k_asm) (by k_mem) (by assumption) (by omega) ?_); intro tk9; (try k_sweep)) | ((with_reducible show wpAny _ _ (call (Value.builtin "len") [Value.ref _]) _ _ _); k_dflt (refine' len_listN (by k_asm) (by k_mem) (by exact rows_len (by assumption)) (by (first | omega | (simp only [List.length_map, List.length_range]; omega))) ?_); intro t9 tk9; (try k_sweep)) | ((with_reducible show wpAny _ _ (execs (Stmt.If (Expr.Compare (Expr.Call _ _ _ _) [CmpOp.Lt] _ _) _ _ _ :: _) _) _ _ _); (refine' execs_mid (MidA s1 s1.heap s1.heap.objs.size (s1.heap.objs.size + 1) (s1.heap.objs.size + 1 + 1) (s1.heap.objs.size + 1 + 1 + 1) (List.take 16 nsI)) ?_ ?_)) | ((with_reducible show LCg.CompEnd ..); (k_dflt (refine' row_end (by assumption) (by assumption) (by assumption) (by assumption) (by exact trivial) (by rfl)))) | ((with_reducible show SrcStep ..); ((rename IntsAre _ (List.take 16 _) => hI16); k_dflt (refine' src_rows (by assumption) hI16 (by (rw [List.length_take]; omega)) (by rfl) (by assumption) (by assumption) (fun i9 k9 z09 z19 z29 z39 t9 nx9 I9 oI9 C9 oC9 D9 m29 ys9 h9 tk9 E9 hk0 hk1 hx0 hx1 hx2 hx3 hs9 hC9 hx9 F9 N9 off9 ne9 => ?_) (fun g9 ys9 tl9 hlt9 hD9 D9 h9 tk9 F9 N9 o19 => ?_)); (focus ((have q1 := hs9 _ (.head _)); (have q2 := hs9 _ (.tail _ (.head _))); (have q3 := hs9 _ (.tail _ (.tail _ (.head _)))); (have q4 := hs9 _ (.tail _ (.tail _ (.tail _ (.head _)))))) ; skip); (rotate_left 1); (obtain ⟨N8, hne1, hne2, hne3⟩ := rows_start N9 o19 hlt9 (by assumption)); (clear N9); (rotate_right 1))) | ((with_reducible show wpAny _ _ (eval (Expr.ListComp _ [⟨Expr.Name _ _, _, [], _⟩] _ _) _) _ _ _); k_dflt (refine ListComp_step (F₀ := by k_asm) (by with_unfolding_all rfl) (by decide) (by rfl) (by decide) (by rfl) ?_)) | ((with_reducible show wpAny _ _ (subscriptTail _ _ (Value.ref _) (Value.int _ _)) _ _ _); k_dflt (refine' item_listN (by k_asm) (by k_mem) (by first | decide | omega) (by first | decide | omega) (by first | rfl | assumption) ?_; k_whole)) | ((with_reducible show wpAny _ _ (subscriptTail _ _ (Value.ref _) (Value.int _ _)) _ _ _); k_dflt (refine' item_tupleT (by exact News.isTup (by k_asm) (by k_mem)) (by decide) (by decide) (by rfl) (by rfl) ?_; k_whole)) | walk1 | (dsimp only; walk1) | (leave1; walk_say "STEP leave1"; try dsimp only) | fail "no step"))
  rotate_left 2
  rotate_right 2
  all_goals (first
    | (rename (_ < (2 : Int)) => hq; (rw [List.length_map, List.length_range] at hq); rename Fr _ _ _ _ => kF; rename News _ _ _ _ => kN; exact midA_short kF kN (by assumption) (by assumption) (by assumption) (by assumption) (by assumption) (by assumption) ⟨⟨neN (by omega), neN (by omega), neN (by omega)⟩, ⟨neN (by omega), neN (by omega), neN (by omega)⟩, ⟨neN (by omega), neN (by omega), neN (by omega)⟩⟩ (by assumption) (by omega))
    | (rename (¬ _ < (2 : Int)) => hq; (rw [List.length_map, List.length_range] at hq); rename Fr _ _ _ _ => kF; rename News _ _ _ _ => kN; exact midA_long kF kN (by assumption) (by assumption) (by assumption) (by assumption) (by assumption) (by assumption) (by assumption) (by assumption) (by omega))
    | skip)
  unfold Later
  rename (PyData.layable0 (PyData.list (List.map PyData.int nsI)) = true) => hLay
  have hbnd : ∃ M D : Int, Mulable M ∧ 6 * D ≤ M ∧ ∀ r ∈ lawRows (List.take 16 nsI), Within D r := law_bounds hLay
  clear hLay
  rename (Shared.gens _ = #[]) => kG0
  rename Frag.In _ _ => kX0
  rename Top _ _ _ _ _ _ => kT0
  rename Below _ _ _ _ => kB0
  rename_i x0 x1 x2 x3 x4 x5 x6 x7 x8 x9 x10 x11 x12 x13 x14 x15 x16 x17 x18 x19 x20 x21 x22 x23 x24 x25 x26 x27 x28 x29 x30 x31 x32 x33 x34 x35 x36 x37 x38 x39 x40 x41 x42 x43 x44 x45 x46 x47 x48 x49 x50 x51 x52 x53 x54 x55 x56 x57 x58 x59 x60 x61 x62 x63 x64 x65 x66 x67 x68
  (try clear hI16); (try clear hD9); (try clear hlt9); (try clear o19); (try clear hne1); (try clear hne2); (try clear hne3); (try clear N8); (try clear hI); (try clear hL); (try clear hvl); (try clear h63)
  (try clear x68); (try clear x67); (try clear x66); (try clear x65); (try clear x64); (try clear x63); (try clear x62); (try clear x61); (try clear x60); (try clear x59); (try clear x58); (try clear x57); (try clear x56); (try clear x55); (try clear x54); (try clear x53); (try clear x52); (try clear x51); (try clear x50); (try clear x49); (try clear x48); (try clear x47); (try clear x46); (try clear x45); (try clear x44); (try clear x43); (try clear x42); (try clear x41); (try clear x40); (try clear x39); (try clear x38); (try clear x37); (try clear x36); (try clear x35); (try clear x34); (try clear x33); (try clear x32); (try clear x31); (try clear x30); (try clear x29); (try clear x28); (try clear x27); (try clear x26); (try clear x25); (try clear x24); (try clear x23); (try clear x22); (try clear x21); (try clear x20); (try clear x19); (try clear x18); (try clear x17); (try clear x16); (try clear x15); (try clear x14); (try clear x13); (try clear x12); (try clear x11); (try clear x10); (try clear x9); (try clear x8); (try clear x7); (try clear x6); (try clear x5); (try clear x4); (try clear x3); (try clear x2); (try clear x1); (try clear x0)
  (try clear ys9); (try clear tl9); (try clear D9); (try clear h9); (try clear tk9); (try clear g9)
  rintro s' ⟨lN, lR, nb, o1, o2, o3, vsN, vsR, kN, kR, m, h, tk, eC, rfl, ⟨F, N, d1, d2, off, mN, iN, mR, dR⟩, d3⟩
  have hn16 : (List.take 16 nsI).length ≤ 16 := by rw [List.length_take]; omega
  generalize hns : List.take 16 nsI = nsN at iN dR hn16
  have hr2 := rows_two nsN
  have hr4 := rows_four (ns := nsN) hn16
  rw [hns] at hbnd
  generalize hrs : lawRows nsN = rs at dR hr2 hr4 hbnd
  obtain ⟨M, D, hM, hMD, hbR⟩ := hbnd
  have hlR := dR.length
  rw [List.length_map] at hlR
  have hlN := IntsAre.length iN
  refine execs_mid (MidT s1 s1.heap s1.heap.objs.size (s1.heap.objs.size + 1) (s1.heap.objs.size + 1 + 1) (s1.heap.objs.size + 1 + 1 + 1) lN lR nsN rs nb o1 o2 o3 vsN vsR kN kR m) ?_ ?_
  · rcases Nat.eq_zero_or_pos nsN.length with hz | hz
    · (repeat' (first | (k_unfold; (try dsimp only)) | (k_end; wrow_close) | ((with_reducible show wpAny _ _ (execs (Stmt.Assign _ (Expr.Call _ _ _ _) _ :: Stmt.Assign _ (Expr.Compare _ _ _ _) _ :: _) _) _ _ _); (refine' execs_mid (MidE0 s₂ s1.heap s1.heap.objs.size lE (s1.heap.objs.size + 1) (s1.heap.objs.size + 1 + 1) (s1.heap.objs.size + 1 + 1 + 1) (listOf [Value.bool false, Value.bool true].toArray 0) o1 o2 big (fun z => if z = "pairs" then some (.ref lP) else if z = "turn" then some (.int tv tt) else m z) e9 rs) ?_ ?_)) | ((with_reducible show wpAny _ _ (exec (Stmt.For ..) _) _ _ _); ((rename Fr _ _ _ _ => lF'); (with_unfolding_all refine' For_invTF lF' ?_ (by (intro _; rfl)); k_whole))) | ((with_reducible show wpAny _ _ (exec (Stmt.For ..) _) _ _ _); ((rename Fr _ _ _ _ => lF'); (with_unfolding_all refine' For_invTF lF' ?_ (by (intro _; rfl)); k_whole))) | ((with_reducible show wpAny _ _ (call (Value.builtin "list.append") [Value.ref _, Value.ref _]) _ _ _); k_dflt (refine' append_K (by k_asm) (by k_asm) (by k_upd) ?_ (by (rw [PySem.sizeLine_eq, List.size_toArray]; omega))); intro h9 F9 N9; (try k_sweep)) | ((with_reducible show wpAny _ _ (call (Value.ref 238) [Value.ref _]) _ _ _); k_dflt (refine' covered_c (by k_asm) (by k_asm) (by k_asm) (by k_asm) (by k_asm) (by exact rfl) (by exact rfl) (by ktr_room) (by ktr_units) (by assumption) (by assumption) (by assumption) (by k_mem) (by assumption) (by assumption) (by omega) (by assumption) ?_; k_whole; intro ss9 mem9 up9 t9 h9 d9 tk9 F9 N9; (try k_fold); (try k_sweep))) | ((with_reducible show wpAny _ _ (call (Value.ref 193) _ _) _ _ _); (k_dflt (refine' intersection_d (by k_asm) (by k_asm) (by k_asm) (by k_asm) (by k_asm) (by exact rfl) (by exact rfl) (by ktr_room) (by ktr_units) (by k_mem) (by k_mem) (by k_mem) (by k_mem) (by omega) (by omega) (by omega) (by omega) ?_ ?_; all_goals (k_whole; (first | (intro c9 a9 d9 k91 k92 k93 k94 k95 kw9 kh9 kx9 ky9 h9 tk9 F9 N9 l91 l92; (try k_lt l91); (try k_lt2 l92)) | (intro c9 h9 tk9 F9 N9)); (try dsimp only); (try k_fold); (try k_sweep))))) | ((with_reducible show wpAny _ _ (call (Value.ref 163) _ _) _ _ _); (k_dflt (refine' area_c (by k_asm) (by k_asm) (by k_asm) (by k_asm) (by k_asm) (by exact rfl) (by exact rfl) (by ktr_room) (by ktr_units) (by k_mem) (by k_mem) (by mul_fits) ?_; k_whole; intro t9 h9 tk9 F9 N9; (try dsimp only); (try k_fold); (try k_sweep)))) | ((with_reducible show wpAny _ _ (compareOp CmpOp.NotEq Value.none Value.none) _ _ _); (k_dflt (refine' dat_ne (by k_asm) (by exact DatIn.none) (by exact DatIn.none) (by rfl) (by rfl) (by ktr_units) ?_); (try simp only [decide_true, Bool.not_true]))) | ((with_reducible show wpAny _ _ (compareOp CmpOp.NotEq (Value.ref _) (Value.ref _)) _ _ _); k_dflt (refine' dat_ne (by k_asm) (by exact row_close (by k_mem)) (by exact row_close (by k_mem)) (by rfl) (by rfl) (by ktr_units) ?_); (try simp only [decide_true, Bool.not_true])) | ((with_reducible show wpAny _ _ (binaryOp _ (Value.ref _) (Value.ref _)) _ _ _); k_dflt (refine' kmk_add_lit (by k_asm) (by k_asm) (by exact News.isList (by k_asm) (by k_mem)) (by exact News.isList (by k_asm) (by k_mem)) (by exact rfl) ?_ (by (rw [PySem.sizeLine_eq]; simp only [List.toList_toArray, List.length_drop, List.length_take, List.length_cons, List.length_nil]; omega))); intro D' h' F' N' l1; (try k_lt l1); (try k_sweep)) | ((with_reducible show wpAny _ _ (subscriptTail (Expr.Name ..) (Expr.Slice ..) (Value.ref _) (Value.ref _)) _ _ _); (k_dflt (refine' kmk_slice_lit (by k_asm) (by k_asm) (by exact ⟨_, News.get (by k_asm) (by k_mem), rfl, _, rfl⟩) (by kmk_part) (by kmk_part) (by first | exact slice_from _ (by assumption) | exact slice_upto _ (by assumption)) ?_ (by with_unfolding_all rfl) (by kmk_pure) (by (rw [PySem.sizeLine_eq, List.size_toArray]; omega))); intro D' h' F' N' l1; (try k_lt l1); (try k_sweep))) | ((with_reducible show wpAny _ _ (call (Value.ref 233) _ _) _ _ _); (k_dflt (refine' one_any (by k_asm) (by k_asm) (by k_asm) (by k_asm) (by k_asm) (by exact rfl) (by exact rfl) (by ktr_room) (by ktr_units) (by k_mem) (by (first | exact datall_mono (by (intro p hp; repeat' (first | exact hp | refine List.mem_cons_of_mem _ ?_))) dR3 | exact datall_mono (by (intro p hp; repeat' (first | exact hp | refine List.mem_cons_of_mem _ ?_))) dRot)) (by (first | omega | (simp only [List.length_append, List.length_drop, List.length_take]; omega))) (by (first | omega | (simp only [List.length_append, List.length_drop, List.length_take]; omega))) (by (first | exact hwR | exact hwRot)) ?_ ?_; all_goals (k_whole; ((first | (intro q8 hd1 t8 s81 s82 s83 s84 n8 h9 tk9 F9 N9; ((first | rw [hone, hd0] at hd1 | rw [hone2, hd0] at hd1); cases hd1) <;> ((try k_fold); (try k_sweep))) | (intro hd1 h9 tk9 F9 N9; ((first | rw [hone, hd0] at hd1 | rw [hone2, hd0] at hd1); cases hd1) <;> ((try k_fold); (try k_sweep))))))))) | ((with_reducible show wpAny _ _ (call (Value.ref 226) _ _) _ _ _); (k_dflt (refine' shared_any (by k_asm) (by k_asm) (by k_asm) (by k_asm) (by k_asm) (by exact rfl) (by exact rfl) (by ktr_room) (by ktr_units) (by k_mem) (by (first | exact datall_mono (by (intro p hp; repeat' (first | exact hp | refine List.mem_cons_of_mem _ ?_))) dR3 | exact datall_mono (by (intro p hp; repeat' (first | exact hp | refine List.mem_cons_of_mem _ ?_))) dRot)) (by omega) (by omega) ?_ ?_; all_goals (k_whole; ((first | (intro q9 hd0 t9 s91 s92 s93 s94 n9 h9 tk9 F9 N9; (try k_fold); (try k_sweep)) | (intro hd0 h9 tk9 F9 N9; (try k_fold); (try k_sweep)))))))) | ((with_reducible show wpAny _ _ (call (Value.ref 185) _ _) _ _ _); (k_dflt (refine' intersects_c (by k_asm) (by k_asm) (by k_asm) (by k_asm) (by k_asm) (by exact rfl) (by exact rfl) (by ktr_room) (by ktr_units) (by k_mem) (by k_mem) (by k_mem) (by k_mem) ?_; k_whole; intro t9 h9 tk9 F9 N9; (try dsimp only); (try k_fold); (try k_sweep)))) | ((with_reducible show wpAny _ _ (call (Value.ref 214) _ _) _ _ _); (k_dflt (refine' box_c (by k_asm) (by k_asm) (by k_asm) (by k_asm) (by k_asm) (by exact rfl) (by exact rfl) (by ktr_room) (by ktr_units) (by k_mem) (by omega) (by omega) ?_; k_whole; intro a9 d9 k91 k92 k93 k94 k95 kw9 kh9 kx9 ky9 h9 tk9 F9 N9 l91 l92; (try k_lt l91); (try k_lt2 l92); (try dsimp only); (try k_fold); (try k_sweep)))) | ((with_reducible show wpAny _ _ (compareOp CmpOp.NotIn (Value.bool false) (Value.ref _)) _ _ _); k_dflt (refine' notIn_boolsN (by k_asm) (by k_mem) ?_)) | ((with_reducible show wpAny _ _ (compareOp CmpOp.In (Value.bool false) (Value.ref _)) _ _ _); k_dflt (refine' in_boolsN (by k_asm) (by k_mem) ?_)) | ((with_reducible show wpAny _ _ (call (Value.ref 245) _ _) _ _ _); (k_dflt (refine' pair_c (by k_asm) (by k_asm) (by k_asm) (by k_asm) (by k_asm) (by exact rfl) (by exact rfl) (by ktr_room) (by ktr_units) (by assumption) (by assumption) (by k_mem) (by k_mem) (by exact ⟨by omega, by omega⟩) (by exact ⟨by omega, by omega⟩) (by exact ⟨by omega, by omega⟩) (by exact ⟨by omega, by omega⟩) (by exact ⟨by omega, by omega⟩) (by exact ⟨by omega, by omega⟩) (by exact ⟨by omega, by omega⟩) (by exact ⟨by omega, by omega⟩) ?_; k_whole; intro h9 tk9 F9 N9; (try k_fold); (try k_sweep)))) | ((with_reducible show LCg.CompEnd ..); (k_dflt (refine' LCg.CompEnd.intro (by assumption) (by assumption) _ (by (intro p hp; repeat' (first | exact hp | refine List.mem_cons_of_mem _ ?_))) (by assumption) (by (exact Or.inr ⟨_, by k_mem, rfl, _, rfl⟩)) ⟨rfl, rfl⟩))) | ((with_reducible show LCp.SrcLP ..); (k_dflt (refine' LCp.SrcLP.ledger (by rfl) (by k_asm) (by k_asm) (by k_mem) (by (rw [PySem.sizeLine_eq, List.size_toArray]; omega)) ?_); ((intro g9; k_dflt (refine' pairs_comp pf9 (datall_mono (by intro p hp; repeat' (first | exact hp | refine List.mem_cons_of_mem _ ?_)) dP) (fun p9 t9 u9 t91 t92 t93 t94 u91 u92 u93 u94 n9 k9 I9 oI9 C9 oC9 D9 m29 ys9 h9 tk9 E9 hp9 mt9 mu9 hC9 hx9 hy9 F9 N9 off9 ne9 => ?_) ?_); (focus (obtain ⟨⟨⟨b1, b2⟩, ⟨b3, b4⟩, ⟨b5, b6⟩, b7, b8⟩, ⟨d1, d2⟩, ⟨d3, d4⟩, ⟨d5, d6⟩, d7, d8⟩ := pair_within hbR hp9)))))) | ((with_reducible show wpAny _ _ (eval (Expr.ListComp _ [⟨Expr.Tuple _ _ _, _, [], _⟩] _ _) _) _ _ _); k_dflt (refine LCp.ListComp_P (F₀ := by k_asm) (by with_unfolding_all rfl) (by decide) (by rfl) (by decide) (by rfl) (by rfl) (by decide) ?_)) | ((with_reducible show wpAny _ _ (truthy (Value.ref _)) _ _ _); k_dflt (refine' truthy_listN (by k_asm) (by k_mem) (by assumption) (by omega) ?_); intro tk9; (try k_sweep)) | ((with_reducible show wpAny _ _ (call (Value.builtin "len") [Value.ref _]) _ _ _); k_dflt (refine' len_listN (by k_asm) (by k_mem) (by exact rows_len (by assumption)) (by (first | omega | (simp only [List.length_map, List.length_range]; omega))) ?_); intro t9 tk9; (try k_sweep)) | ((with_reducible show wpAny _ _ (execs (Stmt.If (Expr.Compare (Expr.Call _ _ _ _) [CmpOp.Lt] _ _) _ _ _ :: _) _) _ _ _); (refine' execs_mid (MidA s1 s1.heap s1.heap.objs.size (s1.heap.objs.size + 1) (s1.heap.objs.size + 1 + 1) (s1.heap.objs.size + 1 + 1 + 1) (List.take 16 nsI)) ?_ ?_)) | ((with_reducible show LCg.CompEnd ..); (k_dflt (refine' row_end (by assumption) (by assumption) (by assumption) (by assumption) (by exact trivial) (by rfl)))) | ((with_reducible show SrcStep ..); ((rename IntsAre _ (List.take 16 _) => hI16); k_dflt (refine' src_rows (by assumption) hI16 (by (rw [List.length_take]; omega)) (by rfl) (by assumption) (by assumption) (fun i9 k9 z09 z19 z29 z39 t9 nx9 I9 oI9 C9 oC9 D9 m29 ys9 h9 tk9 E9 hk0 hk1 hx0 hx1 hx2 hx3 hs9 hC9 hx9 F9 N9 off9 ne9 => ?_) (fun g9 ys9 tl9 hlt9 hD9 D9 h9 tk9 F9 N9 o19 => ?_)); (focus ((have q1 := hs9 _ (.head _)); (have q2 := hs9 _ (.tail _ (.head _))); (have q3 := hs9 _ (.tail _ (.tail _ (.head _)))); (have q4 := hs9 _ (.tail _ (.tail _ (.tail _ (.head _)))))) ; skip); (rotate_left 1); (obtain ⟨N8, hne1, hne2, hne3⟩ := rows_start N9 o19 hlt9 (by assumption)); (clear N9); (rotate_right 1))) | ((with_reducible show wpAny _ _ (eval (Expr.ListComp _ [⟨Expr.Name _ _, _, [], _⟩] _ _) _) _ _ _); k_dflt (refine ListComp_step (F₀ := by k_asm) (by with_unfolding_all rfl) (by decide) (by rfl) (by decide) (by rfl) ?_)) | ((with_reducible show wpAny _ _ (subscriptTail _ _ (Value.ref _) (Value.int _ _)) _ _ _); k_dflt (refine' item_listN (by k_asm) (by k_mem) (by first | decide | omega) (by first | decide | omega) (by first | rfl | assumption) ?_; k_whole)) | ((with_reducible show wpAny _ _ (subscriptTail _ _ (Value.ref _) (Value.int _ _)) _ _ _); k_dflt (refine' item_tupleT (by exact News.isTup (by k_asm) (by k_mem)) (by decide) (by decide) (by rfl) (by rfl) ?_; k_whole)) | walk1 | (dsimp only; walk1) | (leave1; walk_say "STEP leave1"; try dsimp only) | fail "no step"))
      all_goals (first | trivial | (exfalso; omega) | (rename Fr _ _ _ _ => kF; rename News _ _ _ _ => kN; exact midT_of hr2 kF kN))
    · obtain ⟨z0, hz0⟩ := ints_at iN hz
      have hx0 : vsN[Int.toNat 0]? = some (.int (nsN.getD 0 0) z0) := hz0
      (repeat' (first | (k_unfold; (try dsimp only)) | (k_end; wrow_close) | ((with_reducible show wpAny _ _ (execs (Stmt.Assign _ (Expr.Call _ _ _ _) _ :: Stmt.Assign _ (Expr.Compare _ _ _ _) _ :: _) _) _ _ _); (refine' execs_mid (MidE0 s₂ s1.heap s1.heap.objs.size lE (s1.heap.objs.size + 1) (s1.heap.objs.size + 1 + 1) (s1.heap.objs.size + 1 + 1 + 1) (listOf [Value.bool false, Value.bool true].toArray 0) o1 o2 big (fun z => if z = "pairs" then some (.ref lP) else if z = "turn" then some (.int tv tt) else m z) e9 rs) ?_ ?_)) | ((with_reducible show wpAny _ _ (exec (Stmt.For ..) _) _ _ _); ((rename Fr _ _ _ _ => lF'); (with_unfolding_all refine' For_invTF lF' ?_ (by (intro _; rfl)); k_whole))) | ((with_reducible show wpAny _ _ (exec (Stmt.For ..) _) _ _ _); ((rename Fr _ _ _ _ => lF'); (with_unfolding_all refine' For_invTF lF' ?_ (by (intro _; rfl)); k_whole))) | ((with_reducible show wpAny _ _ (call (Value.builtin "list.append") [Value.ref _, Value.ref _]) _ _ _); k_dflt (refine' append_K (by k_asm) (by k_asm) (by k_upd) ?_ (by (rw [PySem.sizeLine_eq, List.size_toArray]; omega))); intro h9 F9 N9; (try k_sweep)) | ((with_reducible show wpAny _ _ (call (Value.ref 238) [Value.ref _]) _ _ _); k_dflt (refine' covered_c (by k_asm) (by k_asm) (by k_asm) (by k_asm) (by k_asm) (by exact rfl) (by exact rfl) (by ktr_room) (by ktr_units) (by assumption) (by assumption) (by assumption) (by k_mem) (by assumption) (by assumption) (by omega) (by assumption) ?_; k_whole; intro ss9 mem9 up9 t9 h9 d9 tk9 F9 N9; (try k_fold); (try k_sweep))) | ((with_reducible show wpAny _ _ (call (Value.ref 193) _ _) _ _ _); (k_dflt (refine' intersection_d (by k_asm) (by k_asm) (by k_asm) (by k_asm) (by k_asm) (by exact rfl) (by exact rfl) (by ktr_room) (by ktr_units) (by k_mem) (by k_mem) (by k_mem) (by k_mem) (by omega) (by omega) (by omega) (by omega) ?_ ?_; all_goals (k_whole; (first | (intro c9 a9 d9 k91 k92 k93 k94 k95 kw9 kh9 kx9 ky9 h9 tk9 F9 N9 l91 l92; (try k_lt l91); (try k_lt2 l92)) | (intro c9 h9 tk9 F9 N9)); (try dsimp only); (try k_fold); (try k_sweep))))) | ((with_reducible show wpAny _ _ (call (Value.ref 163) _ _) _ _ _); (k_dflt (refine' area_c (by k_asm) (by k_asm) (by k_asm) (by k_asm) (by k_asm) (by exact rfl) (by exact rfl) (by ktr_room) (by ktr_units) (by k_mem) (by k_mem) (by mul_fits) ?_; k_whole; intro t9 h9 tk9 F9 N9; (try dsimp only); (try k_fold); (try k_sweep)))) | ((with_reducible show wpAny _ _ (compareOp CmpOp.NotEq Value.none Value.none) _ _ _); (k_dflt (refine' dat_ne (by k_asm) (by exact DatIn.none) (by exact DatIn.none) (by rfl) (by rfl) (by ktr_units) ?_); (try simp only [decide_true, Bool.not_true]))) | ((with_reducible show wpAny _ _ (compareOp CmpOp.NotEq (Value.ref _) (Value.ref _)) _ _ _); k_dflt (refine' dat_ne (by k_asm) (by exact row_close (by k_mem)) (by exact row_close (by k_mem)) (by rfl) (by rfl) (by ktr_units) ?_); (try simp only [decide_true, Bool.not_true])) | ((with_reducible show wpAny _ _ (binaryOp _ (Value.ref _) (Value.ref _)) _ _ _); k_dflt (refine' kmk_add_lit (by k_asm) (by k_asm) (by exact News.isList (by k_asm) (by k_mem)) (by exact News.isList (by k_asm) (by k_mem)) (by exact rfl) ?_ (by (rw [PySem.sizeLine_eq]; simp only [List.toList_toArray, List.length_drop, List.length_take, List.length_cons, List.length_nil]; omega))); intro D' h' F' N' l1; (try k_lt l1); (try k_sweep)) | ((with_reducible show wpAny _ _ (subscriptTail (Expr.Name ..) (Expr.Slice ..) (Value.ref _) (Value.ref _)) _ _ _); (k_dflt (refine' kmk_slice_lit (by k_asm) (by k_asm) (by exact ⟨_, News.get (by k_asm) (by k_mem), rfl, _, rfl⟩) (by kmk_part) (by kmk_part) (by first | exact slice_from _ (by assumption) | exact slice_upto _ (by assumption)) ?_ (by with_unfolding_all rfl) (by kmk_pure) (by (rw [PySem.sizeLine_eq, List.size_toArray]; omega))); intro D' h' F' N' l1; (try k_lt l1); (try k_sweep))) | ((with_reducible show wpAny _ _ (call (Value.ref 233) _ _) _ _ _); (k_dflt (refine' one_any (by k_asm) (by k_asm) (by k_asm) (by k_asm) (by k_asm) (by exact rfl) (by exact rfl) (by ktr_room) (by ktr_units) (by k_mem) (by (first | exact datall_mono (by (intro p hp; repeat' (first | exact hp | refine List.mem_cons_of_mem _ ?_))) dR3 | exact datall_mono (by (intro p hp; repeat' (first | exact hp | refine List.mem_cons_of_mem _ ?_))) dRot)) (by (first | omega | (simp only [List.length_append, List.length_drop, List.length_take]; omega))) (by (first | omega | (simp only [List.length_append, List.length_drop, List.length_take]; omega))) (by (first | exact hwR | exact hwRot)) ?_ ?_; all_goals (k_whole; ((first | (intro q8 hd1 t8 s81 s82 s83 s84 n8 h9 tk9 F9 N9; ((first | rw [hone, hd0] at hd1 | rw [hone2, hd0] at hd1); cases hd1) <;> ((try k_fold); (try k_sweep))) | (intro hd1 h9 tk9 F9 N9; ((first | rw [hone, hd0] at hd1 | rw [hone2, hd0] at hd1); cases hd1) <;> ((try k_fold); (try k_sweep))))))))) | ((with_reducible show wpAny _ _ (call (Value.ref 226) _ _) _ _ _); (k_dflt (refine' shared_any (by k_asm) (by k_asm) (by k_asm) (by k_asm) (by k_asm) (by exact rfl) (by exact rfl) (by ktr_room) (by ktr_units) (by k_mem) (by (first | exact datall_mono (by (intro p hp; repeat' (first | exact hp | refine List.mem_cons_of_mem _ ?_))) dR3 | exact datall_mono (by (intro p hp; repeat' (first | exact hp | refine List.mem_cons_of_mem _ ?_))) dRot)) (by omega) (by omega) ?_ ?_; all_goals (k_whole; ((first | (intro q9 hd0 t9 s91 s92 s93 s94 n9 h9 tk9 F9 N9; (try k_fold); (try k_sweep)) | (intro hd0 h9 tk9 F9 N9; (try k_fold); (try k_sweep)))))))) | ((with_reducible show wpAny _ _ (call (Value.ref 185) _ _) _ _ _); (k_dflt (refine' intersects_c (by k_asm) (by k_asm) (by k_asm) (by k_asm) (by k_asm) (by exact rfl) (by exact rfl) (by ktr_room) (by ktr_units) (by k_mem) (by k_mem) (by k_mem) (by k_mem) ?_; k_whole; intro t9 h9 tk9 F9 N9; (try dsimp only); (try k_fold); (try k_sweep)))) | ((with_reducible show wpAny _ _ (call (Value.ref 214) _ _) _ _ _); (k_dflt (refine' box_c (by k_asm) (by k_asm) (by k_asm) (by k_asm) (by k_asm) (by exact rfl) (by exact rfl) (by ktr_room) (by ktr_units) (by k_mem) (by omega) (by omega) ?_; k_whole; intro a9 d9 k91 k92 k93 k94 k95 kw9 kh9 kx9 ky9 h9 tk9 F9 N9 l91 l92; (try k_lt l91); (try k_lt2 l92); (try dsimp only); (try k_fold); (try k_sweep)))) | ((with_reducible show wpAny _ _ (compareOp CmpOp.NotIn (Value.bool false) (Value.ref _)) _ _ _); k_dflt (refine' notIn_boolsN (by k_asm) (by k_mem) ?_)) | ((with_reducible show wpAny _ _ (compareOp CmpOp.In (Value.bool false) (Value.ref _)) _ _ _); k_dflt (refine' in_boolsN (by k_asm) (by k_mem) ?_)) | ((with_reducible show wpAny _ _ (call (Value.ref 245) _ _) _ _ _); (k_dflt (refine' pair_c (by k_asm) (by k_asm) (by k_asm) (by k_asm) (by k_asm) (by exact rfl) (by exact rfl) (by ktr_room) (by ktr_units) (by assumption) (by assumption) (by k_mem) (by k_mem) (by exact ⟨by omega, by omega⟩) (by exact ⟨by omega, by omega⟩) (by exact ⟨by omega, by omega⟩) (by exact ⟨by omega, by omega⟩) (by exact ⟨by omega, by omega⟩) (by exact ⟨by omega, by omega⟩) (by exact ⟨by omega, by omega⟩) (by exact ⟨by omega, by omega⟩) ?_; k_whole; intro h9 tk9 F9 N9; (try k_fold); (try k_sweep)))) | ((with_reducible show LCg.CompEnd ..); (k_dflt (refine' LCg.CompEnd.intro (by assumption) (by assumption) _ (by (intro p hp; repeat' (first | exact hp | refine List.mem_cons_of_mem _ ?_))) (by assumption) (by (exact Or.inr ⟨_, by k_mem, rfl, _, rfl⟩)) ⟨rfl, rfl⟩))) | ((with_reducible show LCp.SrcLP ..); (k_dflt (refine' LCp.SrcLP.ledger (by rfl) (by k_asm) (by k_asm) (by k_mem) (by (rw [PySem.sizeLine_eq, List.size_toArray]; omega)) ?_); ((intro g9; k_dflt (refine' pairs_comp pf9 (datall_mono (by intro p hp; repeat' (first | exact hp | refine List.mem_cons_of_mem _ ?_)) dP) (fun p9 t9 u9 t91 t92 t93 t94 u91 u92 u93 u94 n9 k9 I9 oI9 C9 oC9 D9 m29 ys9 h9 tk9 E9 hp9 mt9 mu9 hC9 hx9 hy9 F9 N9 off9 ne9 => ?_) ?_); (focus (obtain ⟨⟨⟨b1, b2⟩, ⟨b3, b4⟩, ⟨b5, b6⟩, b7, b8⟩, ⟨d1, d2⟩, ⟨d3, d4⟩, ⟨d5, d6⟩, d7, d8⟩ := pair_within hbR hp9)))))) | ((with_reducible show wpAny _ _ (eval (Expr.ListComp _ [⟨Expr.Tuple _ _ _, _, [], _⟩] _ _) _) _ _ _); k_dflt (refine LCp.ListComp_P (F₀ := by k_asm) (by with_unfolding_all rfl) (by decide) (by rfl) (by decide) (by rfl) (by rfl) (by decide) ?_)) | ((with_reducible show wpAny _ _ (truthy (Value.ref _)) _ _ _); k_dflt (refine' truthy_listN (by k_asm) (by k_mem) (by assumption) (by omega) ?_); intro tk9; (try k_sweep)) | ((with_reducible show wpAny _ _ (call (Value.builtin "len") [Value.ref _]) _ _ _); k_dflt (refine' len_listN (by k_asm) (by k_mem) (by exact rows_len (by assumption)) (by (first | omega | (simp only [List.length_map, List.length_range]; omega))) ?_); intro t9 tk9; (try k_sweep)) | ((with_reducible show wpAny _ _ (execs (Stmt.If (Expr.Compare (Expr.Call _ _ _ _) [CmpOp.Lt] _ _) _ _ _ :: _) _) _ _ _); (refine' execs_mid (MidA s1 s1.heap s1.heap.objs.size (s1.heap.objs.size + 1) (s1.heap.objs.size + 1 + 1) (s1.heap.objs.size + 1 + 1 + 1) (List.take 16 nsI)) ?_ ?_)) | ((with_reducible show LCg.CompEnd ..); (k_dflt (refine' row_end (by assumption) (by assumption) (by assumption) (by assumption) (by exact trivial) (by rfl)))) | ((with_reducible show SrcStep ..); ((rename IntsAre _ (List.take 16 _) => hI16); k_dflt (refine' src_rows (by assumption) hI16 (by (rw [List.length_take]; omega)) (by rfl) (by assumption) (by assumption) (fun i9 k9 z09 z19 z29 z39 t9 nx9 I9 oI9 C9 oC9 D9 m29 ys9 h9 tk9 E9 hk0 hk1 hx0 hx1 hx2 hx3 hs9 hC9 hx9 F9 N9 off9 ne9 => ?_) (fun g9 ys9 tl9 hlt9 hD9 D9 h9 tk9 F9 N9 o19 => ?_)); (focus ((have q1 := hs9 _ (.head _)); (have q2 := hs9 _ (.tail _ (.head _))); (have q3 := hs9 _ (.tail _ (.tail _ (.head _)))); (have q4 := hs9 _ (.tail _ (.tail _ (.tail _ (.head _)))))) ; skip); (rotate_left 1); (obtain ⟨N8, hne1, hne2, hne3⟩ := rows_start N9 o19 hlt9 (by assumption)); (clear N9); (rotate_right 1))) | ((with_reducible show wpAny _ _ (eval (Expr.ListComp _ [⟨Expr.Name _ _, _, [], _⟩] _ _) _) _ _ _); k_dflt (refine ListComp_step (F₀ := by k_asm) (by with_unfolding_all rfl) (by decide) (by rfl) (by decide) (by rfl) ?_)) | ((with_reducible show wpAny _ _ (subscriptTail _ _ (Value.ref _) (Value.int _ _)) _ _ _); k_dflt (refine' item_listN (by k_asm) (by k_mem) (by first | decide | omega) (by first | decide | omega) (by first | rfl | assumption) ?_; k_whole)) | ((with_reducible show wpAny _ _ (subscriptTail _ _ (Value.ref _) (Value.int _ _)) _ _ _); k_dflt (refine' item_tupleT (by exact News.isTup (by k_asm) (by k_mem)) (by decide) (by decide) (by rfl) (by rfl) ?_; k_whole)) | walk1 | (dsimp only; walk1) | (leave1; walk_say "STEP leave1"; try dsimp only) | fail "no step"))
      all_goals (first | trivial | (exfalso; omega) | (rename Fr _ _ _ _ => kF; rename News _ _ _ _ => kN; exact midT_of hr2 kF kN))
  clear F N
  unfold Later
  rintro s' ⟨h, tk, tv, tt, rfl, F, N, ht0, ht1⟩
  refine execs_mid (MidP s1 s1.heap s1.heap.objs.size (s1.heap.objs.size + 1) (s1.heap.objs.size + 1 + 1) (s1.heap.objs.size + 1 + 1 + 1) rs nb o1 o2 o3 (fun z => if z = "turn" then some (.int tv tt) else m z)) ?_ ?_
  · refine' Assign_comp2 F rfl (by with_unfolding_all rfl) (by with_unfolding_all rfl) (by decide) (by rfl) (by decide) (by rfl) (by rfl) (by decide) (by rfl) (by rfl) (by intro _ _; rfl) ?_
    (repeat' (first | (k_unfold; (try dsimp only)) | (k_end; wrow_close) | ((with_reducible show wpAny _ _ (execs (Stmt.Assign _ (Expr.Call _ _ _ _) _ :: Stmt.Assign _ (Expr.Compare _ _ _ _) _ :: _) _) _ _ _); (refine' execs_mid (MidE0 s₂ s1.heap s1.heap.objs.size lE (s1.heap.objs.size + 1) (s1.heap.objs.size + 1 + 1) (s1.heap.objs.size + 1 + 1 + 1) (listOf [Value.bool false, Value.bool true].toArray 0) o1 o2 big (fun z => if z = "pairs" then some (.ref lP) else if z = "turn" then some (.int tv tt) else m z) e9 rs) ?_ ?_)) | ((with_reducible show wpAny _ _ (exec (Stmt.For ..) _) _ _ _); ((rename Fr _ _ _ _ => lF'); (with_unfolding_all refine' For_invTF lF' ?_ (by (intro _; rfl)); k_whole))) | ((with_reducible show wpAny _ _ (exec (Stmt.For ..) _) _ _ _); ((rename Fr _ _ _ _ => lF'); (with_unfolding_all refine' For_invTF lF' ?_ (by (intro _; rfl)); k_whole))) | ((with_reducible show wpAny _ _ (call (Value.builtin "list.append") [Value.ref _, Value.ref _]) _ _ _); k_dflt (refine' append_K (by k_asm) (by k_asm) (by k_upd) ?_ (by (rw [PySem.sizeLine_eq, List.size_toArray]; omega))); intro h9 F9 N9; (try k_sweep)) | ((with_reducible show wpAny _ _ (call (Value.ref 238) [Value.ref _]) _ _ _); k_dflt (refine' covered_c (by k_asm) (by k_asm) (by k_asm) (by k_asm) (by k_asm) (by exact rfl) (by exact rfl) (by ktr_room) (by ktr_units) (by assumption) (by assumption) (by assumption) (by k_mem) (by assumption) (by assumption) (by omega) (by assumption) ?_; k_whole; intro ss9 mem9 up9 t9 h9 d9 tk9 F9 N9; (try k_fold); (try k_sweep))) | ((with_reducible show wpAny _ _ (call (Value.ref 193) _ _) _ _ _); (k_dflt (refine' intersection_d (by k_asm) (by k_asm) (by k_asm) (by k_asm) (by k_asm) (by exact rfl) (by exact rfl) (by ktr_room) (by ktr_units) (by k_mem) (by k_mem) (by k_mem) (by k_mem) (by omega) (by omega) (by omega) (by omega) ?_ ?_; all_goals (k_whole; (first | (intro c9 a9 d9 k91 k92 k93 k94 k95 kw9 kh9 kx9 ky9 h9 tk9 F9 N9 l91 l92; (try k_lt l91); (try k_lt2 l92)) | (intro c9 h9 tk9 F9 N9)); (try dsimp only); (try k_fold); (try k_sweep))))) | ((with_reducible show wpAny _ _ (call (Value.ref 163) _ _) _ _ _); (k_dflt (refine' area_c (by k_asm) (by k_asm) (by k_asm) (by k_asm) (by k_asm) (by exact rfl) (by exact rfl) (by ktr_room) (by ktr_units) (by k_mem) (by k_mem) (by mul_fits) ?_; k_whole; intro t9 h9 tk9 F9 N9; (try dsimp only); (try k_fold); (try k_sweep)))) | ((with_reducible show wpAny _ _ (compareOp CmpOp.NotEq Value.none Value.none) _ _ _); (k_dflt (refine' dat_ne (by k_asm) (by exact DatIn.none) (by exact DatIn.none) (by rfl) (by rfl) (by ktr_units) ?_); (try simp only [decide_true, Bool.not_true]))) | ((with_reducible show wpAny _ _ (compareOp CmpOp.NotEq (Value.ref _) (Value.ref _)) _ _ _); k_dflt (refine' dat_ne (by k_asm) (by exact row_close (by k_mem)) (by exact row_close (by k_mem)) (by rfl) (by rfl) (by ktr_units) ?_); (try simp only [decide_true, Bool.not_true])) | ((with_reducible show wpAny _ _ (binaryOp _ (Value.ref _) (Value.ref _)) _ _ _); k_dflt (refine' kmk_add_lit (by k_asm) (by k_asm) (by exact News.isList (by k_asm) (by k_mem)) (by exact News.isList (by k_asm) (by k_mem)) (by exact rfl) ?_ (by (rw [PySem.sizeLine_eq]; simp only [List.toList_toArray, List.length_drop, List.length_take, List.length_cons, List.length_nil]; omega))); intro D' h' F' N' l1; (try k_lt l1); (try k_sweep)) | ((with_reducible show wpAny _ _ (subscriptTail (Expr.Name ..) (Expr.Slice ..) (Value.ref _) (Value.ref _)) _ _ _); (k_dflt (refine' kmk_slice_lit (by k_asm) (by k_asm) (by exact ⟨_, News.get (by k_asm) (by k_mem), rfl, _, rfl⟩) (by kmk_part) (by kmk_part) (by first | exact slice_from _ (by assumption) | exact slice_upto _ (by assumption)) ?_ (by with_unfolding_all rfl) (by kmk_pure) (by (rw [PySem.sizeLine_eq, List.size_toArray]; omega))); intro D' h' F' N' l1; (try k_lt l1); (try k_sweep))) | ((with_reducible show wpAny _ _ (call (Value.ref 233) _ _) _ _ _); (k_dflt (refine' one_any (by k_asm) (by k_asm) (by k_asm) (by k_asm) (by k_asm) (by exact rfl) (by exact rfl) (by ktr_room) (by ktr_units) (by k_mem) (by (first | exact datall_mono (by (intro p hp; repeat' (first | exact hp | refine List.mem_cons_of_mem _ ?_))) dR3 | exact datall_mono (by (intro p hp; repeat' (first | exact hp | refine List.mem_cons_of_mem _ ?_))) dRot)) (by (first | omega | (simp only [List.length_append, List.length_drop, List.length_take]; omega))) (by (first | omega | (simp only [List.length_append, List.length_drop, List.length_take]; omega))) (by (first | exact hwR | exact hwRot)) ?_ ?_; all_goals (k_whole; ((first | (intro q8 hd1 t8 s81 s82 s83 s84 n8 h9 tk9 F9 N9; ((first | rw [hone, hd0] at hd1 | rw [hone2, hd0] at hd1); cases hd1) <;> ((try k_fold); (try k_sweep))) | (intro hd1 h9 tk9 F9 N9; ((first | rw [hone, hd0] at hd1 | rw [hone2, hd0] at hd1); cases hd1) <;> ((try k_fold); (try k_sweep))))))))) | ((with_reducible show wpAny _ _ (call (Value.ref 226) _ _) _ _ _); (k_dflt (refine' shared_any (by k_asm) (by k_asm) (by k_asm) (by k_asm) (by k_asm) (by exact rfl) (by exact rfl) (by ktr_room) (by ktr_units) (by k_mem) (by (first | exact datall_mono (by (intro p hp; repeat' (first | exact hp | refine List.mem_cons_of_mem _ ?_))) dR3 | exact datall_mono (by (intro p hp; repeat' (first | exact hp | refine List.mem_cons_of_mem _ ?_))) dRot)) (by omega) (by omega) ?_ ?_; all_goals (k_whole; ((first | (intro q9 hd0 t9 s91 s92 s93 s94 n9 h9 tk9 F9 N9; (try k_fold); (try k_sweep)) | (intro hd0 h9 tk9 F9 N9; (try k_fold); (try k_sweep)))))))) | ((with_reducible show wpAny _ _ (call (Value.ref 185) _ _) _ _ _); (k_dflt (refine' intersects_c (by k_asm) (by k_asm) (by k_asm) (by k_asm) (by k_asm) (by exact rfl) (by exact rfl) (by ktr_room) (by ktr_units) (by k_mem) (by k_mem) (by k_mem) (by k_mem) ?_; k_whole; intro t9 h9 tk9 F9 N9; (try dsimp only); (try k_fold); (try k_sweep)))) | ((with_reducible show wpAny _ _ (call (Value.ref 214) _ _) _ _ _); (k_dflt (refine' box_c (by k_asm) (by k_asm) (by k_asm) (by k_asm) (by k_asm) (by exact rfl) (by exact rfl) (by ktr_room) (by ktr_units) (by k_mem) (by omega) (by omega) ?_; k_whole; intro a9 d9 k91 k92 k93 k94 k95 kw9 kh9 kx9 ky9 h9 tk9 F9 N9 l91 l92; (try k_lt l91); (try k_lt2 l92); (try dsimp only); (try k_fold); (try k_sweep)))) | ((with_reducible show wpAny _ _ (compareOp CmpOp.NotIn (Value.bool false) (Value.ref _)) _ _ _); k_dflt (refine' notIn_boolsN (by k_asm) (by k_mem) ?_)) | ((with_reducible show wpAny _ _ (compareOp CmpOp.In (Value.bool false) (Value.ref _)) _ _ _); k_dflt (refine' in_boolsN (by k_asm) (by k_mem) ?_)) | ((with_reducible show wpAny _ _ (call (Value.ref 245) _ _) _ _ _); (k_dflt (refine' pair_c (by k_asm) (by k_asm) (by k_asm) (by k_asm) (by k_asm) (by exact rfl) (by exact rfl) (by ktr_room) (by ktr_units) (by assumption) (by assumption) (by k_mem) (by k_mem) (by exact ⟨by omega, by omega⟩) (by exact ⟨by omega, by omega⟩) (by exact ⟨by omega, by omega⟩) (by exact ⟨by omega, by omega⟩) (by exact ⟨by omega, by omega⟩) (by exact ⟨by omega, by omega⟩) (by exact ⟨by omega, by omega⟩) (by exact ⟨by omega, by omega⟩) ?_; k_whole; intro h9 tk9 F9 N9; (try k_fold); (try k_sweep)))) | ((with_reducible show LCg.CompEnd ..); (k_dflt (refine' LCg.CompEnd.intro (by assumption) (by assumption) _ (by (intro p hp; repeat' (first | exact hp | refine List.mem_cons_of_mem _ ?_))) (by assumption) (by (exact Or.inr ⟨_, by k_mem, rfl, _, rfl⟩)) ⟨rfl, rfl⟩))) | ((with_reducible show LCp.SrcLP ..); (k_dflt (refine' LCp.SrcLP.ledger (by rfl) (by k_asm) (by k_asm) (by k_mem) (by (rw [PySem.sizeLine_eq, List.size_toArray]; omega)) ?_); ((intro g9; k_dflt (refine' pairs_comp pf9 (datall_mono (by intro p hp; repeat' (first | exact hp | refine List.mem_cons_of_mem _ ?_)) dP) (fun p9 t9 u9 t91 t92 t93 t94 u91 u92 u93 u94 n9 k9 I9 oI9 C9 oC9 D9 m29 ys9 h9 tk9 E9 hp9 mt9 mu9 hC9 hx9 hy9 F9 N9 off9 ne9 => ?_) ?_); (focus (obtain ⟨⟨⟨b1, b2⟩, ⟨b3, b4⟩, ⟨b5, b6⟩, b7, b8⟩, ⟨d1, d2⟩, ⟨d3, d4⟩, ⟨d5, d6⟩, d7, d8⟩ := pair_within hbR hp9)))))) | ((with_reducible show wpAny _ _ (eval (Expr.ListComp _ [⟨Expr.Tuple _ _ _, _, [], _⟩] _ _) _) _ _ _); k_dflt (refine LCp.ListComp_P (F₀ := by k_asm) (by with_unfolding_all rfl) (by decide) (by rfl) (by decide) (by rfl) (by rfl) (by decide) ?_)) | ((with_reducible show wpAny _ _ (truthy (Value.ref _)) _ _ _); k_dflt (refine' truthy_listN (by k_asm) (by k_mem) (by assumption) (by omega) ?_); intro tk9; (try k_sweep)) | ((with_reducible show wpAny _ _ (call (Value.builtin "len") [Value.ref _]) _ _ _); k_dflt (refine' len_listN (by k_asm) (by k_mem) (by exact rows_len (by assumption)) (by (first | omega | (simp only [List.length_map, List.length_range]; omega))) ?_); intro t9 tk9; (try k_sweep)) | ((with_reducible show wpAny _ _ (execs (Stmt.If (Expr.Compare (Expr.Call _ _ _ _) [CmpOp.Lt] _ _) _ _ _ :: _) _) _ _ _); (refine' execs_mid (MidA s1 s1.heap s1.heap.objs.size (s1.heap.objs.size + 1) (s1.heap.objs.size + 1 + 1) (s1.heap.objs.size + 1 + 1 + 1) (List.take 16 nsI)) ?_ ?_)) | ((with_reducible show LCg.CompEnd ..); (k_dflt (refine' row_end (by assumption) (by assumption) (by assumption) (by assumption) (by exact trivial) (by rfl)))) | ((with_reducible show SrcStep ..); ((rename IntsAre _ (List.take 16 _) => hI16); k_dflt (refine' src_rows (by assumption) hI16 (by (rw [List.length_take]; omega)) (by rfl) (by assumption) (by assumption) (fun i9 k9 z09 z19 z29 z39 t9 nx9 I9 oI9 C9 oC9 D9 m29 ys9 h9 tk9 E9 hk0 hk1 hx0 hx1 hx2 hx3 hs9 hC9 hx9 F9 N9 off9 ne9 => ?_) (fun g9 ys9 tl9 hlt9 hD9 D9 h9 tk9 F9 N9 o19 => ?_)); (focus ((have q1 := hs9 _ (.head _)); (have q2 := hs9 _ (.tail _ (.head _))); (have q3 := hs9 _ (.tail _ (.tail _ (.head _)))); (have q4 := hs9 _ (.tail _ (.tail _ (.tail _ (.head _)))))) ; skip); (rotate_left 1); (obtain ⟨N8, hne1, hne2, hne3⟩ := rows_start N9 o19 hlt9 (by assumption)); (clear N9); (rotate_right 1))) | ((with_reducible show wpAny _ _ (eval (Expr.ListComp _ [⟨Expr.Name _ _, _, [], _⟩] _ _) _) _ _ _); k_dflt (refine ListComp_step (F₀ := by k_asm) (by with_unfolding_all rfl) (by decide) (by rfl) (by decide) (by rfl) ?_)) | ((with_reducible show wpAny _ _ (subscriptTail _ _ (Value.ref _) (Value.int _ _)) _ _ _); k_dflt (refine' item_listN (by k_asm) (by k_mem) (by first | decide | omega) (by first | decide | omega) (by first | rfl | assumption) ?_; k_whole)) | ((with_reducible show wpAny _ _ (subscriptTail _ _ (Value.ref _) (Value.int _ _)) _ _ _); k_dflt (refine' item_tupleT (by exact News.isTup (by k_asm) (by k_mem)) (by decide) (by decide) (by rfl) (by rfl) ?_; k_whole)) | walk1 | (dsimp only; walk1) | (leave1; walk_say "STEP leave1"; try dsimp only) | fail "no step"))
    rename Fr _ _ _ _ => kF
    rename News _ _ _ _ => kN
    rename IsRange _ _ _ _ _ _ _ _ => kR
    refine ⟨_, _, _, _, _, rs.length, PRel ((s1.heap.objs.size + 1 + 1 + 1, o3) :: (s1.heap.objs.size + 1 + 1, o2) :: (s1.heap.objs.size + 1, o1) :: nb) rs, rfl, rfl, by omega, kF, kN, kR, ⟨[], rfl, (by intro p hp; cases hp), .nil⟩, fun g => ⟨?it, ?turn, ?fin⟩⟩
    case it =>
      intro i nx ys I1 o1' C oC D m₂ t h tk E' hi hrel hC hx F N off ne
      have hs := prel_sub hrel
      have q1 := hs _ (.tail _ (.head _))
      have q2 := hs _ (.tail _ (.tail _ (.tail _ mR)))
      (repeat' (first | (k_unfold; (try dsimp only)) | (k_end; wrow_close) | ((with_reducible show wpAny _ _ (execs (Stmt.Assign _ (Expr.Call _ _ _ _) _ :: Stmt.Assign _ (Expr.Compare _ _ _ _) _ :: _) _) _ _ _); (refine' execs_mid (MidE0 s₂ s1.heap s1.heap.objs.size lE (s1.heap.objs.size + 1) (s1.heap.objs.size + 1 + 1) (s1.heap.objs.size + 1 + 1 + 1) (listOf [Value.bool false, Value.bool true].toArray 0) o1 o2 big (fun z => if z = "pairs" then some (.ref lP) else if z = "turn" then some (.int tv tt) else m z) e9 rs) ?_ ?_)) | ((with_reducible show wpAny _ _ (exec (Stmt.For ..) _) _ _ _); ((rename Fr _ _ _ _ => lF'); (with_unfolding_all refine' For_invTF lF' ?_ (by (intro _; rfl)); k_whole))) | ((with_reducible show wpAny _ _ (exec (Stmt.For ..) _) _ _ _); ((rename Fr _ _ _ _ => lF'); (with_unfolding_all refine' For_invTF lF' ?_ (by (intro _; rfl)); k_whole))) | ((with_reducible show wpAny _ _ (call (Value.builtin "list.append") [Value.ref _, Value.ref _]) _ _ _); k_dflt (refine' append_K (by k_asm) (by k_asm) (by k_upd) ?_ (by (rw [PySem.sizeLine_eq, List.size_toArray]; omega))); intro h9 F9 N9; (try k_sweep)) | ((with_reducible show wpAny _ _ (call (Value.ref 238) [Value.ref _]) _ _ _); k_dflt (refine' covered_c (by k_asm) (by k_asm) (by k_asm) (by k_asm) (by k_asm) (by exact rfl) (by exact rfl) (by ktr_room) (by ktr_units) (by assumption) (by assumption) (by assumption) (by k_mem) (by assumption) (by assumption) (by omega) (by assumption) ?_; k_whole; intro ss9 mem9 up9 t9 h9 d9 tk9 F9 N9; (try k_fold); (try k_sweep))) | ((with_reducible show wpAny _ _ (call (Value.ref 193) _ _) _ _ _); (k_dflt (refine' intersection_d (by k_asm) (by k_asm) (by k_asm) (by k_asm) (by k_asm) (by exact rfl) (by exact rfl) (by ktr_room) (by ktr_units) (by k_mem) (by k_mem) (by k_mem) (by k_mem) (by omega) (by omega) (by omega) (by omega) ?_ ?_; all_goals (k_whole; (first | (intro c9 a9 d9 k91 k92 k93 k94 k95 kw9 kh9 kx9 ky9 h9 tk9 F9 N9 l91 l92; (try k_lt l91); (try k_lt2 l92)) | (intro c9 h9 tk9 F9 N9)); (try dsimp only); (try k_fold); (try k_sweep))))) | ((with_reducible show wpAny _ _ (call (Value.ref 163) _ _) _ _ _); (k_dflt (refine' area_c (by k_asm) (by k_asm) (by k_asm) (by k_asm) (by k_asm) (by exact rfl) (by exact rfl) (by ktr_room) (by ktr_units) (by k_mem) (by k_mem) (by mul_fits) ?_; k_whole; intro t9 h9 tk9 F9 N9; (try dsimp only); (try k_fold); (try k_sweep)))) | ((with_reducible show wpAny _ _ (compareOp CmpOp.NotEq Value.none Value.none) _ _ _); (k_dflt (refine' dat_ne (by k_asm) (by exact DatIn.none) (by exact DatIn.none) (by rfl) (by rfl) (by ktr_units) ?_); (try simp only [decide_true, Bool.not_true]))) | ((with_reducible show wpAny _ _ (compareOp CmpOp.NotEq (Value.ref _) (Value.ref _)) _ _ _); k_dflt (refine' dat_ne (by k_asm) (by exact row_close (by k_mem)) (by exact row_close (by k_mem)) (by rfl) (by rfl) (by ktr_units) ?_); (try simp only [decide_true, Bool.not_true])) | ((with_reducible show wpAny _ _ (binaryOp _ (Value.ref _) (Value.ref _)) _ _ _); k_dflt (refine' kmk_add_lit (by k_asm) (by k_asm) (by exact News.isList (by k_asm) (by k_mem)) (by exact News.isList (by k_asm) (by k_mem)) (by exact rfl) ?_ (by (rw [PySem.sizeLine_eq]; simp only [List.toList_toArray, List.length_drop, List.length_take, List.length_cons, List.length_nil]; omega))); intro D' h' F' N' l1; (try k_lt l1); (try k_sweep)) | ((with_reducible show wpAny _ _ (subscriptTail (Expr.Name ..) (Expr.Slice ..) (Value.ref _) (Value.ref _)) _ _ _); (k_dflt (refine' kmk_slice_lit (by k_asm) (by k_asm) (by exact ⟨_, News.get (by k_asm) (by k_mem), rfl, _, rfl⟩) (by kmk_part) (by kmk_part) (by first | exact slice_from _ (by assumption) | exact slice_upto _ (by assumption)) ?_ (by with_unfolding_all rfl) (by kmk_pure) (by (rw [PySem.sizeLine_eq, List.size_toArray]; omega))); intro D' h' F' N' l1; (try k_lt l1); (try k_sweep))) | ((with_reducible show wpAny _ _ (call (Value.ref 233) _ _) _ _ _); (k_dflt (refine' one_any (by k_asm) (by k_asm) (by k_asm) (by k_asm) (by k_asm) (by exact rfl) (by exact rfl) (by ktr_room) (by ktr_units) (by k_mem) (by (first | exact datall_mono (by (intro p hp; repeat' (first | exact hp | refine List.mem_cons_of_mem _ ?_))) dR3 | exact datall_mono (by (intro p hp; repeat' (first | exact hp | refine List.mem_cons_of_mem _ ?_))) dRot)) (by (first | omega | (simp only [List.length_append, List.length_drop, List.length_take]; omega))) (by (first | omega | (simp only [List.length_append, List.length_drop, List.length_take]; omega))) (by (first | exact hwR | exact hwRot)) ?_ ?_; all_goals (k_whole; ((first | (intro q8 hd1 t8 s81 s82 s83 s84 n8 h9 tk9 F9 N9; ((first | rw [hone, hd0] at hd1 | rw [hone2, hd0] at hd1); cases hd1) <;> ((try k_fold); (try k_sweep))) | (intro hd1 h9 tk9 F9 N9; ((first | rw [hone, hd0] at hd1 | rw [hone2, hd0] at hd1); cases hd1) <;> ((try k_fold); (try k_sweep))))))))) | ((with_reducible show wpAny _ _ (call (Value.ref 226) _ _) _ _ _); (k_dflt (refine' shared_any (by k_asm) (by k_asm) (by k_asm) (by k_asm) (by k_asm) (by exact rfl) (by exact rfl) (by ktr_room) (by ktr_units) (by k_mem) (by (first | exact datall_mono (by (intro p hp; repeat' (first | exact hp | refine List.mem_cons_of_mem _ ?_))) dR3 | exact datall_mono (by (intro p hp; repeat' (first | exact hp | refine List.mem_cons_of_mem _ ?_))) dRot)) (by omega) (by omega) ?_ ?_; all_goals (k_whole; ((first | (intro q9 hd0 t9 s91 s92 s93 s94 n9 h9 tk9 F9 N9; (try k_fold); (try k_sweep)) | (intro hd0 h9 tk9 F9 N9; (try k_fold); (try k_sweep)))))))) | ((with_reducible show wpAny _ _ (call (Value.ref 185) _ _) _ _ _); (k_dflt (refine' intersects_c (by k_asm) (by k_asm) (by k_asm) (by k_asm) (by k_asm) (by exact rfl) (by exact rfl) (by ktr_room) (by ktr_units) (by k_mem) (by k_mem) (by k_mem) (by k_mem) ?_; k_whole; intro t9 h9 tk9 F9 N9; (try dsimp only); (try k_fold); (try k_sweep)))) | ((with_reducible show wpAny _ _ (call (Value.ref 214) _ _) _ _ _); (k_dflt (refine' box_c (by k_asm) (by k_asm) (by k_asm) (by k_asm) (by k_asm) (by exact rfl) (by exact rfl) (by ktr_room) (by ktr_units) (by k_mem) (by omega) (by omega) ?_; k_whole; intro a9 d9 k91 k92 k93 k94 k95 kw9 kh9 kx9 ky9 h9 tk9 F9 N9 l91 l92; (try k_lt l91); (try k_lt2 l92); (try dsimp only); (try k_fold); (try k_sweep)))) | ((with_reducible show wpAny _ _ (compareOp CmpOp.NotIn (Value.bool false) (Value.ref _)) _ _ _); k_dflt (refine' notIn_boolsN (by k_asm) (by k_mem) ?_)) | ((with_reducible show wpAny _ _ (compareOp CmpOp.In (Value.bool false) (Value.ref _)) _ _ _); k_dflt (refine' in_boolsN (by k_asm) (by k_mem) ?_)) | ((with_reducible show wpAny _ _ (call (Value.ref 245) _ _) _ _ _); (k_dflt (refine' pair_c (by k_asm) (by k_asm) (by k_asm) (by k_asm) (by k_asm) (by exact rfl) (by exact rfl) (by ktr_room) (by ktr_units) (by assumption) (by assumption) (by k_mem) (by k_mem) (by exact ⟨by omega, by omega⟩) (by exact ⟨by omega, by omega⟩) (by exact ⟨by omega, by omega⟩) (by exact ⟨by omega, by omega⟩) (by exact ⟨by omega, by omega⟩) (by exact ⟨by omega, by omega⟩) (by exact ⟨by omega, by omega⟩) (by exact ⟨by omega, by omega⟩) ?_; k_whole; intro h9 tk9 F9 N9; (try k_fold); (try k_sweep)))) | ((with_reducible show LCg.CompEnd ..); (k_dflt (refine' LCg.CompEnd.intro (by assumption) (by assumption) _ (by (intro p hp; repeat' (first | exact hp | refine List.mem_cons_of_mem _ ?_))) (by assumption) (by (exact Or.inr ⟨_, by k_mem, rfl, _, rfl⟩)) ⟨rfl, rfl⟩))) | ((with_reducible show LCp.SrcLP ..); (k_dflt (refine' LCp.SrcLP.ledger (by rfl) (by k_asm) (by k_asm) (by k_mem) (by (rw [PySem.sizeLine_eq, List.size_toArray]; omega)) ?_); ((intro g9; k_dflt (refine' pairs_comp pf9 (datall_mono (by intro p hp; repeat' (first | exact hp | refine List.mem_cons_of_mem _ ?_)) dP) (fun p9 t9 u9 t91 t92 t93 t94 u91 u92 u93 u94 n9 k9 I9 oI9 C9 oC9 D9 m29 ys9 h9 tk9 E9 hp9 mt9 mu9 hC9 hx9 hy9 F9 N9 off9 ne9 => ?_) ?_); (focus (obtain ⟨⟨⟨b1, b2⟩, ⟨b3, b4⟩, ⟨b5, b6⟩, b7, b8⟩, ⟨d1, d2⟩, ⟨d3, d4⟩, ⟨d5, d6⟩, d7, d8⟩ := pair_within hbR hp9)))))) | ((with_reducible show wpAny _ _ (eval (Expr.ListComp _ [⟨Expr.Tuple _ _ _, _, [], _⟩] _ _) _) _ _ _); k_dflt (refine LCp.ListComp_P (F₀ := by k_asm) (by with_unfolding_all rfl) (by decide) (by rfl) (by decide) (by rfl) (by rfl) (by decide) ?_)) | ((with_reducible show wpAny _ _ (truthy (Value.ref _)) _ _ _); k_dflt (refine' truthy_listN (by k_asm) (by k_mem) (by assumption) (by omega) ?_); intro tk9; (try k_sweep)) | ((with_reducible show wpAny _ _ (call (Value.builtin "len") [Value.ref _]) _ _ _); k_dflt (refine' len_listN (by k_asm) (by k_mem) (by exact rows_len (by assumption)) (by (first | omega | (simp only [List.length_map, List.length_range]; omega))) ?_); intro t9 tk9; (try k_sweep)) | ((with_reducible show wpAny _ _ (execs (Stmt.If (Expr.Compare (Expr.Call _ _ _ _) [CmpOp.Lt] _ _) _ _ _ :: _) _) _ _ _); (refine' execs_mid (MidA s1 s1.heap s1.heap.objs.size (s1.heap.objs.size + 1) (s1.heap.objs.size + 1 + 1) (s1.heap.objs.size + 1 + 1 + 1) (List.take 16 nsI)) ?_ ?_)) | ((with_reducible show LCg.CompEnd ..); (k_dflt (refine' row_end (by assumption) (by assumption) (by assumption) (by assumption) (by exact trivial) (by rfl)))) | ((with_reducible show SrcStep ..); ((rename IntsAre _ (List.take 16 _) => hI16); k_dflt (refine' src_rows (by assumption) hI16 (by (rw [List.length_take]; omega)) (by rfl) (by assumption) (by assumption) (fun i9 k9 z09 z19 z29 z39 t9 nx9 I9 oI9 C9 oC9 D9 m29 ys9 h9 tk9 E9 hk0 hk1 hx0 hx1 hx2 hx3 hs9 hC9 hx9 F9 N9 off9 ne9 => ?_) (fun g9 ys9 tl9 hlt9 hD9 D9 h9 tk9 F9 N9 o19 => ?_)); (focus ((have q1 := hs9 _ (.head _)); (have q2 := hs9 _ (.tail _ (.head _))); (have q3 := hs9 _ (.tail _ (.tail _ (.head _)))); (have q4 := hs9 _ (.tail _ (.tail _ (.tail _ (.head _)))))) ; skip); (rotate_left 1); (obtain ⟨N8, hne1, hne2, hne3⟩ := rows_start N9 o19 hlt9 (by assumption)); (clear N9); (rotate_right 1))) | ((with_reducible show wpAny _ _ (eval (Expr.ListComp _ [⟨Expr.Name _ _, _, [], _⟩] _ _) _) _ _ _); k_dflt (refine ListComp_step (F₀ := by k_asm) (by with_unfolding_all rfl) (by decide) (by rfl) (by decide) (by rfl) ?_)) | ((with_reducible show wpAny _ _ (subscriptTail _ _ (Value.ref _) (Value.int _ _)) _ _ _); k_dflt (refine' item_listN (by k_asm) (by k_mem) (by first | decide | omega) (by first | decide | omega) (by first | rfl | assumption) ?_; k_whole)) | ((with_reducible show wpAny _ _ (subscriptTail _ _ (Value.ref _) (Value.int _ _)) _ _ _); k_dflt (refine' item_tupleT (by exact News.isTup (by k_asm) (by k_mem)) (by decide) (by decide) (by rfl) (by rfl) ?_; k_whole)) | walk1 | (dsimp only; walk1) | (leave1; walk_say "STEP leave1"; try dsimp only) | fail "no step"))
      all_goals (try (with_reducible exact nx))
      all_goals assumption
    case turn =>
      intro i j nx ys I2 o2' I1 o1' C oC D m₂ t u h tk E' hi hj hrel hC hx hy F N off3 off1 ap
      have hs := prel_sub hrel
      have q1 := hs _ (.tail _ (.head _))
      have q2 := hs _ (.tail _ (.tail _ (.tail _ mR)))
      obtain ⟨vi, hvi, di⟩ := row_at dR hi
      obtain ⟨vj, hvj, dj⟩ := row_at dR hj
      have di' := di.mono (fun p hp => hs p (.tail _ (.tail _ (.tail _ hp))))
      have dj' := dj.mono (fun p hp => hs p (.tail _ (.tail _ (.tail _ hp))))
      (repeat' (first | (k_unfold; (try dsimp only)) | (k_end; wrow_close) | ((with_reducible show wpAny _ _ (execs (Stmt.Assign _ (Expr.Call _ _ _ _) _ :: Stmt.Assign _ (Expr.Compare _ _ _ _) _ :: _) _) _ _ _); (refine' execs_mid (MidE0 s₂ s1.heap s1.heap.objs.size lE (s1.heap.objs.size + 1) (s1.heap.objs.size + 1 + 1) (s1.heap.objs.size + 1 + 1 + 1) (listOf [Value.bool false, Value.bool true].toArray 0) o1 o2 big (fun z => if z = "pairs" then some (.ref lP) else if z = "turn" then some (.int tv tt) else m z) e9 rs) ?_ ?_)) | ((with_reducible show wpAny _ _ (exec (Stmt.For ..) _) _ _ _); ((rename Fr _ _ _ _ => lF'); (with_unfolding_all refine' For_invTF lF' ?_ (by (intro _; rfl)); k_whole))) | ((with_reducible show wpAny _ _ (exec (Stmt.For ..) _) _ _ _); ((rename Fr _ _ _ _ => lF'); (with_unfolding_all refine' For_invTF lF' ?_ (by (intro _; rfl)); k_whole))) | ((with_reducible show wpAny _ _ (call (Value.builtin "list.append") [Value.ref _, Value.ref _]) _ _ _); k_dflt (refine' append_K (by k_asm) (by k_asm) (by k_upd) ?_ (by (rw [PySem.sizeLine_eq, List.size_toArray]; omega))); intro h9 F9 N9; (try k_sweep)) | ((with_reducible show wpAny _ _ (call (Value.ref 238) [Value.ref _]) _ _ _); k_dflt (refine' covered_c (by k_asm) (by k_asm) (by k_asm) (by k_asm) (by k_asm) (by exact rfl) (by exact rfl) (by ktr_room) (by ktr_units) (by assumption) (by assumption) (by assumption) (by k_mem) (by assumption) (by assumption) (by omega) (by assumption) ?_; k_whole; intro ss9 mem9 up9 t9 h9 d9 tk9 F9 N9; (try k_fold); (try k_sweep))) | ((with_reducible show wpAny _ _ (call (Value.ref 193) _ _) _ _ _); (k_dflt (refine' intersection_d (by k_asm) (by k_asm) (by k_asm) (by k_asm) (by k_asm) (by exact rfl) (by exact rfl) (by ktr_room) (by ktr_units) (by k_mem) (by k_mem) (by k_mem) (by k_mem) (by omega) (by omega) (by omega) (by omega) ?_ ?_; all_goals (k_whole; (first | (intro c9 a9 d9 k91 k92 k93 k94 k95 kw9 kh9 kx9 ky9 h9 tk9 F9 N9 l91 l92; (try k_lt l91); (try k_lt2 l92)) | (intro c9 h9 tk9 F9 N9)); (try dsimp only); (try k_fold); (try k_sweep))))) | ((with_reducible show wpAny _ _ (call (Value.ref 163) _ _) _ _ _); (k_dflt (refine' area_c (by k_asm) (by k_asm) (by k_asm) (by k_asm) (by k_asm) (by exact rfl) (by exact rfl) (by ktr_room) (by ktr_units) (by k_mem) (by k_mem) (by mul_fits) ?_; k_whole; intro t9 h9 tk9 F9 N9; (try dsimp only); (try k_fold); (try k_sweep)))) | ((with_reducible show wpAny _ _ (compareOp CmpOp.NotEq Value.none Value.none) _ _ _); (k_dflt (refine' dat_ne (by k_asm) (by exact DatIn.none) (by exact DatIn.none) (by rfl) (by rfl) (by ktr_units) ?_); (try simp only [decide_true, Bool.not_true]))) | ((with_reducible show wpAny _ _ (compareOp CmpOp.NotEq (Value.ref _) (Value.ref _)) _ _ _); k_dflt (refine' dat_ne (by k_asm) (by exact row_close (by k_mem)) (by exact row_close (by k_mem)) (by rfl) (by rfl) (by ktr_units) ?_); (try simp only [decide_true, Bool.not_true])) | ((with_reducible show wpAny _ _ (binaryOp _ (Value.ref _) (Value.ref _)) _ _ _); k_dflt (refine' kmk_add_lit (by k_asm) (by k_asm) (by exact News.isList (by k_asm) (by k_mem)) (by exact News.isList (by k_asm) (by k_mem)) (by exact rfl) ?_ (by (rw [PySem.sizeLine_eq]; simp only [List.toList_toArray, List.length_drop, List.length_take, List.length_cons, List.length_nil]; omega))); intro D' h' F' N' l1; (try k_lt l1); (try k_sweep)) | ((with_reducible show wpAny _ _ (subscriptTail (Expr.Name ..) (Expr.Slice ..) (Value.ref _) (Value.ref _)) _ _ _); (k_dflt (refine' kmk_slice_lit (by k_asm) (by k_asm) (by exact ⟨_, News.get (by k_asm) (by k_mem), rfl, _, rfl⟩) (by kmk_part) (by kmk_part) (by first | exact slice_from _ (by assumption) | exact slice_upto _ (by assumption)) ?_ (by with_unfolding_all rfl) (by kmk_pure) (by (rw [PySem.sizeLine_eq, List.size_toArray]; omega))); intro D' h' F' N' l1; (try k_lt l1); (try k_sweep))) | ((with_reducible show wpAny _ _ (call (Value.ref 233) _ _) _ _ _); (k_dflt (refine' one_any (by k_asm) (by k_asm) (by k_asm) (by k_asm) (by k_asm) (by exact rfl) (by exact rfl) (by ktr_room) (by ktr_units) (by k_mem) (by (first | exact datall_mono (by (intro p hp; repeat' (first | exact hp | refine List.mem_cons_of_mem _ ?_))) dR3 | exact datall_mono (by (intro p hp; repeat' (first | exact hp | refine List.mem_cons_of_mem _ ?_))) dRot)) (by (first | omega | (simp only [List.length_append, List.length_drop, List.length_take]; omega))) (by (first | omega | (simp only [List.length_append, List.length_drop, List.length_take]; omega))) (by (first | exact hwR | exact hwRot)) ?_ ?_; all_goals (k_whole; ((first | (intro q8 hd1 t8 s81 s82 s83 s84 n8 h9 tk9 F9 N9; ((first | rw [hone, hd0] at hd1 | rw [hone2, hd0] at hd1); cases hd1) <;> ((try k_fold); (try k_sweep))) | (intro hd1 h9 tk9 F9 N9; ((first | rw [hone, hd0] at hd1 | rw [hone2, hd0] at hd1); cases hd1) <;> ((try k_fold); (try k_sweep))))))))) | ((with_reducible show wpAny _ _ (call (Value.ref 226) _ _) _ _ _); (k_dflt (refine' shared_any (by k_asm) (by k_asm) (by k_asm) (by k_asm) (by k_asm) (by exact rfl) (by exact rfl) (by ktr_room) (by ktr_units) (by k_mem) (by (first | exact datall_mono (by (intro p hp; repeat' (first | exact hp | refine List.mem_cons_of_mem _ ?_))) dR3 | exact datall_mono (by (intro p hp; repeat' (first | exact hp | refine List.mem_cons_of_mem _ ?_))) dRot)) (by omega) (by omega) ?_ ?_; all_goals (k_whole; ((first | (intro q9 hd0 t9 s91 s92 s93 s94 n9 h9 tk9 F9 N9; (try k_fold); (try k_sweep)) | (intro hd0 h9 tk9 F9 N9; (try k_fold); (try k_sweep)))))))) | ((with_reducible show wpAny _ _ (call (Value.ref 185) _ _) _ _ _); (k_dflt (refine' intersects_c (by k_asm) (by k_asm) (by k_asm) (by k_asm) (by k_asm) (by exact rfl) (by exact rfl) (by ktr_room) (by ktr_units) (by k_mem) (by k_mem) (by k_mem) (by k_mem) ?_; k_whole; intro t9 h9 tk9 F9 N9; (try dsimp only); (try k_fold); (try k_sweep)))) | ((with_reducible show wpAny _ _ (call (Value.ref 214) _ _) _ _ _); (k_dflt (refine' box_c (by k_asm) (by k_asm) (by k_asm) (by k_asm) (by k_asm) (by exact rfl) (by exact rfl) (by ktr_room) (by ktr_units) (by k_mem) (by omega) (by omega) ?_; k_whole; intro a9 d9 k91 k92 k93 k94 k95 kw9 kh9 kx9 ky9 h9 tk9 F9 N9 l91 l92; (try k_lt l91); (try k_lt2 l92); (try dsimp only); (try k_fold); (try k_sweep)))) | ((with_reducible show wpAny _ _ (compareOp CmpOp.NotIn (Value.bool false) (Value.ref _)) _ _ _); k_dflt (refine' notIn_boolsN (by k_asm) (by k_mem) ?_)) | ((with_reducible show wpAny _ _ (compareOp CmpOp.In (Value.bool false) (Value.ref _)) _ _ _); k_dflt (refine' in_boolsN (by k_asm) (by k_mem) ?_)) | ((with_reducible show wpAny _ _ (call (Value.ref 245) _ _) _ _ _); (k_dflt (refine' pair_c (by k_asm) (by k_asm) (by k_asm) (by k_asm) (by k_asm) (by exact rfl) (by exact rfl) (by ktr_room) (by ktr_units) (by assumption) (by assumption) (by k_mem) (by k_mem) (by exact ⟨by omega, by omega⟩) (by exact ⟨by omega, by omega⟩) (by exact ⟨by omega, by omega⟩) (by exact ⟨by omega, by omega⟩) (by exact ⟨by omega, by omega⟩) (by exact ⟨by omega, by omega⟩) (by exact ⟨by omega, by omega⟩) (by exact ⟨by omega, by omega⟩) ?_; k_whole; intro h9 tk9 F9 N9; (try k_fold); (try k_sweep)))) | ((with_reducible show LCg.CompEnd ..); (k_dflt (refine' LCg.CompEnd.intro (by assumption) (by assumption) _ (by (intro p hp; repeat' (first | exact hp | refine List.mem_cons_of_mem _ ?_))) (by assumption) (by (exact Or.inr ⟨_, by k_mem, rfl, _, rfl⟩)) ⟨rfl, rfl⟩))) | ((with_reducible show LCp.SrcLP ..); (k_dflt (refine' LCp.SrcLP.ledger (by rfl) (by k_asm) (by k_asm) (by k_mem) (by (rw [PySem.sizeLine_eq, List.size_toArray]; omega)) ?_); ((intro g9; k_dflt (refine' pairs_comp pf9 (datall_mono (by intro p hp; repeat' (first | exact hp | refine List.mem_cons_of_mem _ ?_)) dP) (fun p9 t9 u9 t91 t92 t93 t94 u91 u92 u93 u94 n9 k9 I9 oI9 C9 oC9 D9 m29 ys9 h9 tk9 E9 hp9 mt9 mu9 hC9 hx9 hy9 F9 N9 off9 ne9 => ?_) ?_); (focus (obtain ⟨⟨⟨b1, b2⟩, ⟨b3, b4⟩, ⟨b5, b6⟩, b7, b8⟩, ⟨d1, d2⟩, ⟨d3, d4⟩, ⟨d5, d6⟩, d7, d8⟩ := pair_within hbR hp9)))))) | ((with_reducible show wpAny _ _ (eval (Expr.ListComp _ [⟨Expr.Tuple _ _ _, _, [], _⟩] _ _) _) _ _ _); k_dflt (refine LCp.ListComp_P (F₀ := by k_asm) (by with_unfolding_all rfl) (by decide) (by rfl) (by decide) (by rfl) (by rfl) (by decide) ?_)) | ((with_reducible show wpAny _ _ (truthy (Value.ref _)) _ _ _); k_dflt (refine' truthy_listN (by k_asm) (by k_mem) (by assumption) (by omega) ?_); intro tk9; (try k_sweep)) | ((with_reducible show wpAny _ _ (call (Value.builtin "len") [Value.ref _]) _ _ _); k_dflt (refine' len_listN (by k_asm) (by k_mem) (by exact rows_len (by assumption)) (by (first | omega | (simp only [List.length_map, List.length_range]; omega))) ?_); intro t9 tk9; (try k_sweep)) | ((with_reducible show wpAny _ _ (execs (Stmt.If (Expr.Compare (Expr.Call _ _ _ _) [CmpOp.Lt] _ _) _ _ _ :: _) _) _ _ _); (refine' execs_mid (MidA s1 s1.heap s1.heap.objs.size (s1.heap.objs.size + 1) (s1.heap.objs.size + 1 + 1) (s1.heap.objs.size + 1 + 1 + 1) (List.take 16 nsI)) ?_ ?_)) | ((with_reducible show LCg.CompEnd ..); (k_dflt (refine' row_end (by assumption) (by assumption) (by assumption) (by assumption) (by exact trivial) (by rfl)))) | ((with_reducible show SrcStep ..); ((rename IntsAre _ (List.take 16 _) => hI16); k_dflt (refine' src_rows (by assumption) hI16 (by (rw [List.length_take]; omega)) (by rfl) (by assumption) (by assumption) (fun i9 k9 z09 z19 z29 z39 t9 nx9 I9 oI9 C9 oC9 D9 m29 ys9 h9 tk9 E9 hk0 hk1 hx0 hx1 hx2 hx3 hs9 hC9 hx9 F9 N9 off9 ne9 => ?_) (fun g9 ys9 tl9 hlt9 hD9 D9 h9 tk9 F9 N9 o19 => ?_)); (focus ((have q1 := hs9 _ (.head _)); (have q2 := hs9 _ (.tail _ (.head _))); (have q3 := hs9 _ (.tail _ (.tail _ (.head _)))); (have q4 := hs9 _ (.tail _ (.tail _ (.tail _ (.head _)))))) ; skip); (rotate_left 1); (obtain ⟨N8, hne1, hne2, hne3⟩ := rows_start N9 o19 hlt9 (by assumption)); (clear N9); (rotate_right 1))) | ((with_reducible show wpAny _ _ (eval (Expr.ListComp _ [⟨Expr.Name _ _, _, [], _⟩] _ _) _) _ _ _); k_dflt (refine ListComp_step (F₀ := by k_asm) (by with_unfolding_all rfl) (by decide) (by rfl) (by decide) (by rfl) ?_)) | ((with_reducible show wpAny _ _ (subscriptTail _ _ (Value.ref _) (Value.int _ _)) _ _ _); k_dflt (refine' item_listN (by k_asm) (by k_mem) (by first | decide | omega) (by first | decide | omega) (by first | rfl | assumption) ?_; k_whole)) | ((with_reducible show wpAny _ _ (subscriptTail _ _ (Value.ref _) (Value.int _ _)) _ _ _); k_dflt (refine' item_tupleT (by exact News.isTup (by k_asm) (by k_mem)) (by decide) (by decide) (by rfl) (by rfl) ?_; k_whole)) | walk1 | (dsimp only; walk1) | (leave1; walk_say "STEP leave1"; try dsimp only) | fail "no step"))
      all_goals (rename Fr _ _ _ _ => kF; rename News _ _ _ _ => kN)
      all_goals (first
        | exact end2_pair kF kN off3 off1 (by assumption) hrel hj di' dj' (by omega)
        | exact end2_skip kF kN off3 off1 hrel hj (by omega))
    case fin =>
      intro ys nx hrel D h tk F N o1'
      exact ⟨rfl, midP_of d1 d2 d3 off F N o1' hrel⟩
  clear F N
  unfold Later
  rintro s' ⟨h, tk, lP, vsP, kP, nb2, rfl, F, N, hsub, off2, mP, dP⟩
  have dR2 := datall_mono hsub dR
  have mR2 := hsub _ mR
  have hlP := dP.length
  rw [List.length_map] at hlP
  have hlP2 := pairsUp_len rs hr4
  refine execs_mid (MidC s1 s1.heap s1.heap.objs.size (s1.heap.objs.size + 1) (s1.heap.objs.size + 1 + 1) (s1.heap.objs.size + 1 + 1 + 1) nb2 o1 o2 o3 (fun z => if z = "pairs" then some (.ref lP) else if z = "turn" then some (.int tv tt) else m z)) ?_ ?_
  · let pf9 : R4 × R4 → Bool := fun _ => true
    (repeat' (first | (k_unfold; (try dsimp only)) | (k_end; wrow_close) | ((with_reducible show wpAny _ _ (execs (Stmt.Assign _ (Expr.Call _ _ _ _) _ :: Stmt.Assign _ (Expr.Compare _ _ _ _) _ :: _) _) _ _ _); (refine' execs_mid (MidE0 s₂ s1.heap s1.heap.objs.size lE (s1.heap.objs.size + 1) (s1.heap.objs.size + 1 + 1) (s1.heap.objs.size + 1 + 1 + 1) (listOf [Value.bool false, Value.bool true].toArray 0) o1 o2 big (fun z => if z = "pairs" then some (.ref lP) else if z = "turn" then some (.int tv tt) else m z) e9 rs) ?_ ?_)) | ((with_reducible show wpAny _ _ (exec (Stmt.For ..) _) _ _ _); ((rename Fr _ _ _ _ => lF'); (with_unfolding_all refine' For_invTF lF' ?_ (by (intro _; rfl)); k_whole))) | ((with_reducible show wpAny _ _ (exec (Stmt.For ..) _) _ _ _); ((rename Fr _ _ _ _ => lF'); (with_unfolding_all refine' For_invTF lF' ?_ (by (intro _; rfl)); k_whole))) | ((with_reducible show wpAny _ _ (call (Value.builtin "list.append") [Value.ref _, Value.ref _]) _ _ _); k_dflt (refine' append_K (by k_asm) (by k_asm) (by k_upd) ?_ (by (rw [PySem.sizeLine_eq, List.size_toArray]; omega))); intro h9 F9 N9; (try k_sweep)) | ((with_reducible show wpAny _ _ (call (Value.ref 238) [Value.ref _]) _ _ _); k_dflt (refine' covered_c (by k_asm) (by k_asm) (by k_asm) (by k_asm) (by k_asm) (by exact rfl) (by exact rfl) (by ktr_room) (by ktr_units) (by assumption) (by assumption) (by assumption) (by k_mem) (by assumption) (by assumption) (by omega) (by assumption) ?_; k_whole; intro ss9 mem9 up9 t9 h9 d9 tk9 F9 N9; (try k_fold); (try k_sweep))) | ((with_reducible show wpAny _ _ (call (Value.ref 193) _ _) _ _ _); (k_dflt (refine' intersection_d (by k_asm) (by k_asm) (by k_asm) (by k_asm) (by k_asm) (by exact rfl) (by exact rfl) (by ktr_room) (by ktr_units) (by k_mem) (by k_mem) (by k_mem) (by k_mem) (by omega) (by omega) (by omega) (by omega) ?_ ?_; all_goals (k_whole; (first | (intro c9 a9 d9 k91 k92 k93 k94 k95 kw9 kh9 kx9 ky9 h9 tk9 F9 N9 l91 l92; (try k_lt l91); (try k_lt2 l92)) | (intro c9 h9 tk9 F9 N9)); (try dsimp only); (try k_fold); (try k_sweep))))) | ((with_reducible show wpAny _ _ (call (Value.ref 163) _ _) _ _ _); (k_dflt (refine' area_c (by k_asm) (by k_asm) (by k_asm) (by k_asm) (by k_asm) (by exact rfl) (by exact rfl) (by ktr_room) (by ktr_units) (by k_mem) (by k_mem) (by mul_fits) ?_; k_whole; intro t9 h9 tk9 F9 N9; (try dsimp only); (try k_fold); (try k_sweep)))) | ((with_reducible show wpAny _ _ (compareOp CmpOp.NotEq Value.none Value.none) _ _ _); (k_dflt (refine' dat_ne (by k_asm) (by exact DatIn.none) (by exact DatIn.none) (by rfl) (by rfl) (by ktr_units) ?_); (try simp only [decide_true, Bool.not_true]))) | ((with_reducible show wpAny _ _ (compareOp CmpOp.NotEq (Value.ref _) (Value.ref _)) _ _ _); k_dflt (refine' dat_ne (by k_asm) (by exact row_close (by k_mem)) (by exact row_close (by k_mem)) (by rfl) (by rfl) (by ktr_units) ?_); (try simp only [decide_true, Bool.not_true])) | ((with_reducible show wpAny _ _ (binaryOp _ (Value.ref _) (Value.ref _)) _ _ _); k_dflt (refine' kmk_add_lit (by k_asm) (by k_asm) (by exact News.isList (by k_asm) (by k_mem)) (by exact News.isList (by k_asm) (by k_mem)) (by exact rfl) ?_ (by (rw [PySem.sizeLine_eq]; simp only [List.toList_toArray, List.length_drop, List.length_take, List.length_cons, List.length_nil]; omega))); intro D' h' F' N' l1; (try k_lt l1); (try k_sweep)) | ((with_reducible show wpAny _ _ (subscriptTail (Expr.Name ..) (Expr.Slice ..) (Value.ref _) (Value.ref _)) _ _ _); (k_dflt (refine' kmk_slice_lit (by k_asm) (by k_asm) (by exact ⟨_, News.get (by k_asm) (by k_mem), rfl, _, rfl⟩) (by kmk_part) (by kmk_part) (by first | exact slice_from _ (by assumption) | exact slice_upto _ (by assumption)) ?_ (by with_unfolding_all rfl) (by kmk_pure) (by (rw [PySem.sizeLine_eq, List.size_toArray]; omega))); intro D' h' F' N' l1; (try k_lt l1); (try k_sweep))) | ((with_reducible show wpAny _ _ (call (Value.ref 233) _ _) _ _ _); (k_dflt (refine' one_any (by k_asm) (by k_asm) (by k_asm) (by k_asm) (by k_asm) (by exact rfl) (by exact rfl) (by ktr_room) (by ktr_units) (by k_mem) (by (first | exact datall_mono (by (intro p hp; repeat' (first | exact hp | refine List.mem_cons_of_mem _ ?_))) dR3 | exact datall_mono (by (intro p hp; repeat' (first | exact hp | refine List.mem_cons_of_mem _ ?_))) dRot)) (by (first | omega | (simp only [List.length_append, List.length_drop, List.length_take]; omega))) (by (first | omega | (simp only [List.length_append, List.length_drop, List.length_take]; omega))) (by (first | exact hwR | exact hwRot)) ?_ ?_; all_goals (k_whole; ((first | (intro q8 hd1 t8 s81 s82 s83 s84 n8 h9 tk9 F9 N9; ((first | rw [hone, hd0] at hd1 | rw [hone2, hd0] at hd1); cases hd1) <;> ((try k_fold); (try k_sweep))) | (intro hd1 h9 tk9 F9 N9; ((first | rw [hone, hd0] at hd1 | rw [hone2, hd0] at hd1); cases hd1) <;> ((try k_fold); (try k_sweep))))))))) | ((with_reducible show wpAny _ _ (call (Value.ref 226) _ _) _ _ _); (k_dflt (refine' shared_any (by k_asm) (by k_asm) (by k_asm) (by k_asm) (by k_asm) (by exact rfl) (by exact rfl) (by ktr_room) (by ktr_units) (by k_mem) (by (first | exact datall_mono (by (intro p hp; repeat' (first | exact hp | refine List.mem_cons_of_mem _ ?_))) dR3 | exact datall_mono (by (intro p hp; repeat' (first | exact hp | refine List.mem_cons_of_mem _ ?_))) dRot)) (by omega) (by omega) ?_ ?_; all_goals (k_whole; ((first | (intro q9 hd0 t9 s91 s92 s93 s94 n9 h9 tk9 F9 N9; (try k_fold); (try k_sweep)) | (intro hd0 h9 tk9 F9 N9; (try k_fold); (try k_sweep)))))))) | ((with_reducible show wpAny _ _ (call (Value.ref 185) _ _) _ _ _); (k_dflt (refine' intersects_c (by k_asm) (by k_asm) (by k_asm) (by k_asm) (by k_asm) (by exact rfl) (by exact rfl) (by ktr_room) (by ktr_units) (by k_mem) (by k_mem) (by k_mem) (by k_mem) ?_; k_whole; intro t9 h9 tk9 F9 N9; (try dsimp only); (try k_fold); (try k_sweep)))) | ((with_reducible show wpAny _ _ (call (Value.ref 214) _ _) _ _ _); (k_dflt (refine' box_c (by k_asm) (by k_asm) (by k_asm) (by k_asm) (by k_asm) (by exact rfl) (by exact rfl) (by ktr_room) (by ktr_units) (by k_mem) (by omega) (by omega) ?_; k_whole; intro a9 d9 k91 k92 k93 k94 k95 kw9 kh9 kx9 ky9 h9 tk9 F9 N9 l91 l92; (try k_lt l91); (try k_lt2 l92); (try dsimp only); (try k_fold); (try k_sweep)))) | ((with_reducible show wpAny _ _ (compareOp CmpOp.NotIn (Value.bool false) (Value.ref _)) _ _ _); k_dflt (refine' notIn_boolsN (by k_asm) (by k_mem) ?_)) | ((with_reducible show wpAny _ _ (compareOp CmpOp.In (Value.bool false) (Value.ref _)) _ _ _); k_dflt (refine' in_boolsN (by k_asm) (by k_mem) ?_)) | ((with_reducible show wpAny _ _ (call (Value.ref 245) _ _) _ _ _); (k_dflt (refine' pair_c (by k_asm) (by k_asm) (by k_asm) (by k_asm) (by k_asm) (by exact rfl) (by exact rfl) (by ktr_room) (by ktr_units) (by assumption) (by assumption) (by k_mem) (by k_mem) (by exact ⟨by omega, by omega⟩) (by exact ⟨by omega, by omega⟩) (by exact ⟨by omega, by omega⟩) (by exact ⟨by omega, by omega⟩) (by exact ⟨by omega, by omega⟩) (by exact ⟨by omega, by omega⟩) (by exact ⟨by omega, by omega⟩) (by exact ⟨by omega, by omega⟩) ?_; k_whole; intro h9 tk9 F9 N9; (try k_fold); (try k_sweep)))) | ((with_reducible show LCg.CompEnd ..); (k_dflt (refine' LCg.CompEnd.intro (by assumption) (by assumption) _ (by (intro p hp; repeat' (first | exact hp | refine List.mem_cons_of_mem _ ?_))) (by assumption) (by (exact Or.inr ⟨_, by k_mem, rfl, _, rfl⟩)) ⟨rfl, rfl⟩))) | ((with_reducible show LCp.SrcLP ..); (k_dflt (refine' LCp.SrcLP.ledger (by rfl) (by k_asm) (by k_asm) (by k_mem) (by (rw [PySem.sizeLine_eq, List.size_toArray]; omega)) ?_); ((intro g9; k_dflt (refine' pairs_comp pf9 (datall_mono (by intro p hp; repeat' (first | exact hp | refine List.mem_cons_of_mem _ ?_)) dP) (fun p9 t9 u9 t91 t92 t93 t94 u91 u92 u93 u94 n9 k9 I9 oI9 C9 oC9 D9 m29 ys9 h9 tk9 E9 hp9 mt9 mu9 hC9 hx9 hy9 F9 N9 off9 ne9 => ?_) ?_); (focus (obtain ⟨⟨⟨b1, b2⟩, ⟨b3, b4⟩, ⟨b5, b6⟩, b7, b8⟩, ⟨d1, d2⟩, ⟨d3, d4⟩, ⟨d5, d6⟩, d7, d8⟩ := pair_within hbR hp9)))))) | ((with_reducible show wpAny _ _ (eval (Expr.ListComp _ [⟨Expr.Tuple _ _ _, _, [], _⟩] _ _) _) _ _ _); k_dflt (refine LCp.ListComp_P (F₀ := by k_asm) (by with_unfolding_all rfl) (by decide) (by rfl) (by decide) (by rfl) (by rfl) (by decide) ?_)) | ((with_reducible show wpAny _ _ (truthy (Value.ref _)) _ _ _); k_dflt (refine' truthy_listN (by k_asm) (by k_mem) (by assumption) (by omega) ?_); intro tk9; (try k_sweep)) | ((with_reducible show wpAny _ _ (call (Value.builtin "len") [Value.ref _]) _ _ _); k_dflt (refine' len_listN (by k_asm) (by k_mem) (by exact rows_len (by assumption)) (by (first | omega | (simp only [List.length_map, List.length_range]; omega))) ?_); intro t9 tk9; (try k_sweep)) | ((with_reducible show wpAny _ _ (execs (Stmt.If (Expr.Compare (Expr.Call _ _ _ _) [CmpOp.Lt] _ _) _ _ _ :: _) _) _ _ _); (refine' execs_mid (MidA s1 s1.heap s1.heap.objs.size (s1.heap.objs.size + 1) (s1.heap.objs.size + 1 + 1) (s1.heap.objs.size + 1 + 1 + 1) (List.take 16 nsI)) ?_ ?_)) | ((with_reducible show LCg.CompEnd ..); (k_dflt (refine' row_end (by assumption) (by assumption) (by assumption) (by assumption) (by exact trivial) (by rfl)))) | ((with_reducible show SrcStep ..); ((rename IntsAre _ (List.take 16 _) => hI16); k_dflt (refine' src_rows (by assumption) hI16 (by (rw [List.length_take]; omega)) (by rfl) (by assumption) (by assumption) (fun i9 k9 z09 z19 z29 z39 t9 nx9 I9 oI9 C9 oC9 D9 m29 ys9 h9 tk9 E9 hk0 hk1 hx0 hx1 hx2 hx3 hs9 hC9 hx9 F9 N9 off9 ne9 => ?_) (fun g9 ys9 tl9 hlt9 hD9 D9 h9 tk9 F9 N9 o19 => ?_)); (focus ((have q1 := hs9 _ (.head _)); (have q2 := hs9 _ (.tail _ (.head _))); (have q3 := hs9 _ (.tail _ (.tail _ (.head _)))); (have q4 := hs9 _ (.tail _ (.tail _ (.tail _ (.head _)))))) ; skip); (rotate_left 1); (obtain ⟨N8, hne1, hne2, hne3⟩ := rows_start N9 o19 hlt9 (by assumption)); (clear N9); (rotate_right 1))) | ((with_reducible show wpAny _ _ (eval (Expr.ListComp _ [⟨Expr.Name _ _, _, [], _⟩] _ _) _) _ _ _); k_dflt (refine ListComp_step (F₀ := by k_asm) (by with_unfolding_all rfl) (by decide) (by rfl) (by decide) (by rfl) ?_)) | ((with_reducible show wpAny _ _ (subscriptTail _ _ (Value.ref _) (Value.int _ _)) _ _ _); k_dflt (refine' item_listN (by k_asm) (by k_mem) (by first | decide | omega) (by first | decide | omega) (by first | rfl | assumption) ?_; k_whole)) | ((with_reducible show wpAny _ _ (subscriptTail _ _ (Value.ref _) (Value.int _ _)) _ _ _); k_dflt (refine' item_tupleT (by exact News.isTup (by k_asm) (by k_mem)) (by decide) (by decide) (by rfl) (by rfl) ?_; k_whole)) | walk1 | (dsimp only; walk1) | (leave1; walk_say "STEP leave1"; try dsimp only) | fail "no step"))
    all_goals (first
      | (exfalso; rename (List.any _ _ = true) => hq; exact Bool.noConfusion (hq.symm.trans (any_true _ pf9 (fun _ => rfl))))
      | (rename Fr _ _ _ _ => kF; rename News _ _ _ _ => kN; exact ⟨_, _, rfl, kF, fun p hp => kN p (.tail _ hp)⟩)
      | fail "left")
  clear F N
  unfold Later
  rintro s' ⟨h, tk, rfl, F, N⟩
  --CLEAN
  refine execs_mid (MidD s1 s1.heap s1.heap.objs.size (s1.heap.objs.size + 1) (s1.heap.objs.size + 1 + 1) (s1.heap.objs.size + 1 + 1 + 1) nb2 o1 o2) ?_ ?_
  · (repeat' (first | (k_unfold; (try dsimp only)) | (k_end; wrow_close) | ((with_reducible show wpAny _ _ (execs (Stmt.Assign _ (Expr.Call _ _ _ _) _ :: Stmt.Assign _ (Expr.Compare _ _ _ _) _ :: _) _) _ _ _); (refine' execs_mid (MidE0 s₂ s1.heap s1.heap.objs.size lE (s1.heap.objs.size + 1) (s1.heap.objs.size + 1 + 1) (s1.heap.objs.size + 1 + 1 + 1) (listOf [Value.bool false, Value.bool true].toArray 0) o1 o2 big (fun z => if z = "pairs" then some (.ref lP) else if z = "turn" then some (.int tv tt) else m z) e9 rs) ?_ ?_)) | ((with_reducible show wpAny _ _ (exec (Stmt.For ..) _) _ _ _); ((rename Fr _ _ _ _ => lF'); (with_unfolding_all refine' For_invTF lF' ?_ (by (intro _; rfl)); k_whole))) | ((with_reducible show wpAny _ _ (exec (Stmt.For ..) _) _ _ _); ((rename Fr _ _ _ _ => lF'); (with_unfolding_all refine' For_invTF lF' ?_ (by (intro _; rfl)); k_whole))) | ((with_reducible show wpAny _ _ (call (Value.builtin "list.append") [Value.ref _, Value.ref _]) _ _ _); k_dflt (refine' append_K (by k_asm) (by k_asm) (by k_upd) ?_ (by (rw [PySem.sizeLine_eq, List.size_toArray]; omega))); intro h9 F9 N9; (try k_sweep)) | ((with_reducible show wpAny _ _ (call (Value.ref 238) [Value.ref _]) _ _ _); k_dflt (refine' covered_c (by k_asm) (by k_asm) (by k_asm) (by k_asm) (by k_asm) (by exact rfl) (by exact rfl) (by ktr_room) (by ktr_units) (by assumption) (by assumption) (by assumption) (by k_mem) (by assumption) (by assumption) (by omega) (by assumption) ?_; k_whole; intro ss9 mem9 up9 t9 h9 d9 tk9 F9 N9; (try k_fold); (try k_sweep))) | ((with_reducible show wpAny _ _ (call (Value.ref 193) _ _) _ _ _); (k_dflt (refine' intersection_d (by k_asm) (by k_asm) (by k_asm) (by k_asm) (by k_asm) (by exact rfl) (by exact rfl) (by ktr_room) (by ktr_units) (by k_mem) (by k_mem) (by k_mem) (by k_mem) (by omega) (by omega) (by omega) (by omega) ?_ ?_; all_goals (k_whole; (first | (intro c9 a9 d9 k91 k92 k93 k94 k95 kw9 kh9 kx9 ky9 h9 tk9 F9 N9 l91 l92; (try k_lt l91); (try k_lt2 l92)) | (intro c9 h9 tk9 F9 N9)); (try dsimp only); (try k_fold); (try k_sweep))))) | ((with_reducible show wpAny _ _ (call (Value.ref 163) _ _) _ _ _); (k_dflt (refine' area_c (by k_asm) (by k_asm) (by k_asm) (by k_asm) (by k_asm) (by exact rfl) (by exact rfl) (by ktr_room) (by ktr_units) (by k_mem) (by k_mem) (by mul_fits) ?_; k_whole; intro t9 h9 tk9 F9 N9; (try dsimp only); (try k_fold); (try k_sweep)))) | ((with_reducible show wpAny _ _ (compareOp CmpOp.NotEq Value.none Value.none) _ _ _); (k_dflt (refine' dat_ne (by k_asm) (by exact DatIn.none) (by exact DatIn.none) (by rfl) (by rfl) (by ktr_units) ?_); (try simp only [decide_true, Bool.not_true]))) | ((with_reducible show wpAny _ _ (compareOp CmpOp.NotEq (Value.ref _) (Value.ref _)) _ _ _); k_dflt (refine' dat_ne (by k_asm) (by exact row_close (by k_mem)) (by exact row_close (by k_mem)) (by rfl) (by rfl) (by ktr_units) ?_); (try simp only [decide_true, Bool.not_true])) | ((with_reducible show wpAny _ _ (binaryOp _ (Value.ref _) (Value.ref _)) _ _ _); k_dflt (refine' kmk_add_lit (by k_asm) (by k_asm) (by exact News.isList (by k_asm) (by k_mem)) (by exact News.isList (by k_asm) (by k_mem)) (by exact rfl) ?_ (by (rw [PySem.sizeLine_eq]; simp only [List.toList_toArray, List.length_drop, List.length_take, List.length_cons, List.length_nil]; omega))); intro D' h' F' N' l1; (try k_lt l1); (try k_sweep)) | ((with_reducible show wpAny _ _ (subscriptTail (Expr.Name ..) (Expr.Slice ..) (Value.ref _) (Value.ref _)) _ _ _); (k_dflt (refine' kmk_slice_lit (by k_asm) (by k_asm) (by exact ⟨_, News.get (by k_asm) (by k_mem), rfl, _, rfl⟩) (by kmk_part) (by kmk_part) (by first | exact slice_from _ (by assumption) | exact slice_upto _ (by assumption)) ?_ (by with_unfolding_all rfl) (by kmk_pure) (by (rw [PySem.sizeLine_eq, List.size_toArray]; omega))); intro D' h' F' N' l1; (try k_lt l1); (try k_sweep))) | ((with_reducible show wpAny _ _ (call (Value.ref 233) _ _) _ _ _); (k_dflt (refine' one_any (by k_asm) (by k_asm) (by k_asm) (by k_asm) (by k_asm) (by exact rfl) (by exact rfl) (by ktr_room) (by ktr_units) (by k_mem) (by (first | exact datall_mono (by (intro p hp; repeat' (first | exact hp | refine List.mem_cons_of_mem _ ?_))) dR3 | exact datall_mono (by (intro p hp; repeat' (first | exact hp | refine List.mem_cons_of_mem _ ?_))) dRot)) (by (first | omega | (simp only [List.length_append, List.length_drop, List.length_take]; omega))) (by (first | omega | (simp only [List.length_append, List.length_drop, List.length_take]; omega))) (by (first | exact hwR | exact hwRot)) ?_ ?_; all_goals (k_whole; ((first | (intro q8 hd1 t8 s81 s82 s83 s84 n8 h9 tk9 F9 N9; ((first | rw [hone, hd0] at hd1 | rw [hone2, hd0] at hd1); cases hd1) <;> ((try k_fold); (try k_sweep))) | (intro hd1 h9 tk9 F9 N9; ((first | rw [hone, hd0] at hd1 | rw [hone2, hd0] at hd1); cases hd1) <;> ((try k_fold); (try k_sweep))))))))) | ((with_reducible show wpAny _ _ (call (Value.ref 226) _ _) _ _ _); (k_dflt (refine' shared_any (by k_asm) (by k_asm) (by k_asm) (by k_asm) (by k_asm) (by exact rfl) (by exact rfl) (by ktr_room) (by ktr_units) (by k_mem) (by (first | exact datall_mono (by (intro p hp; repeat' (first | exact hp | refine List.mem_cons_of_mem _ ?_))) dR3 | exact datall_mono (by (intro p hp; repeat' (first | exact hp | refine List.mem_cons_of_mem _ ?_))) dRot)) (by omega) (by omega) ?_ ?_; all_goals (k_whole; ((first | (intro q9 hd0 t9 s91 s92 s93 s94 n9 h9 tk9 F9 N9; (try k_fold); (try k_sweep)) | (intro hd0 h9 tk9 F9 N9; (try k_fold); (try k_sweep)))))))) | ((with_reducible show wpAny _ _ (call (Value.ref 185) _ _) _ _ _); (k_dflt (refine' intersects_c (by k_asm) (by k_asm) (by k_asm) (by k_asm) (by k_asm) (by exact rfl) (by exact rfl) (by ktr_room) (by ktr_units) (by k_mem) (by k_mem) (by k_mem) (by k_mem) ?_; k_whole; intro t9 h9 tk9 F9 N9; (try dsimp only); (try k_fold); (try k_sweep)))) | ((with_reducible show wpAny _ _ (call (Value.ref 214) _ _) _ _ _); (k_dflt (refine' box_c (by k_asm) (by k_asm) (by k_asm) (by k_asm) (by k_asm) (by exact rfl) (by exact rfl) (by ktr_room) (by ktr_units) (by k_mem) (by omega) (by omega) ?_; k_whole; intro a9 d9 k91 k92 k93 k94 k95 kw9 kh9 kx9 ky9 h9 tk9 F9 N9 l91 l92; (try k_lt l91); (try k_lt2 l92); (try dsimp only); (try k_fold); (try k_sweep)))) | ((with_reducible show wpAny _ _ (compareOp CmpOp.NotIn (Value.bool false) (Value.ref _)) _ _ _); k_dflt (refine' notIn_boolsN (by k_asm) (by k_mem) ?_)) | ((with_reducible show wpAny _ _ (compareOp CmpOp.In (Value.bool false) (Value.ref _)) _ _ _); k_dflt (refine' in_boolsN (by k_asm) (by k_mem) ?_)) | ((with_reducible show wpAny _ _ (call (Value.ref 245) _ _) _ _ _); (k_dflt (refine' pair_c (by k_asm) (by k_asm) (by k_asm) (by k_asm) (by k_asm) (by exact rfl) (by exact rfl) (by ktr_room) (by ktr_units) (by assumption) (by assumption) (by k_mem) (by k_mem) (by exact ⟨by omega, by omega⟩) (by exact ⟨by omega, by omega⟩) (by exact ⟨by omega, by omega⟩) (by exact ⟨by omega, by omega⟩) (by exact ⟨by omega, by omega⟩) (by exact ⟨by omega, by omega⟩) (by exact ⟨by omega, by omega⟩) (by exact ⟨by omega, by omega⟩) ?_; k_whole; intro h9 tk9 F9 N9; (try k_fold); (try k_sweep)))) | ((with_reducible show LCg.CompEnd ..); (k_dflt (refine' LCg.CompEnd.intro (by assumption) (by assumption) _ (by (intro p hp; repeat' (first | exact hp | refine List.mem_cons_of_mem _ ?_))) (by assumption) (by (exact Or.inr ⟨_, by k_mem, rfl, _, rfl⟩)) ⟨rfl, rfl⟩))) | ((with_reducible show LCp.SrcLP ..); (k_dflt (refine' LCp.SrcLP.ledger (by rfl) (by k_asm) (by k_asm) (by k_mem) (by (rw [PySem.sizeLine_eq, List.size_toArray]; omega)) ?_); ((intro g9; k_dflt (refine' pairs_comp pf9 (datall_mono (by intro p hp; repeat' (first | exact hp | refine List.mem_cons_of_mem _ ?_)) dP) (fun p9 t9 u9 t91 t92 t93 t94 u91 u92 u93 u94 n9 k9 I9 oI9 C9 oC9 D9 m29 ys9 h9 tk9 E9 hp9 mt9 mu9 hC9 hx9 hy9 F9 N9 off9 ne9 => ?_) ?_); (focus (obtain ⟨⟨⟨b1, b2⟩, ⟨b3, b4⟩, ⟨b5, b6⟩, b7, b8⟩, ⟨d1, d2⟩, ⟨d3, d4⟩, ⟨d5, d6⟩, d7, d8⟩ := pair_within hbR hp9)))))) | ((with_reducible show wpAny _ _ (eval (Expr.ListComp _ [⟨Expr.Tuple _ _ _, _, [], _⟩] _ _) _) _ _ _); k_dflt (refine LCp.ListComp_P (F₀ := by k_asm) (by with_unfolding_all rfl) (by decide) (by rfl) (by decide) (by rfl) (by rfl) (by decide) ?_)) | ((with_reducible show wpAny _ _ (truthy (Value.ref _)) _ _ _); k_dflt (refine' truthy_listN (by k_asm) (by k_mem) (by assumption) (by omega) ?_); intro tk9; (try k_sweep)) | ((with_reducible show wpAny _ _ (call (Value.builtin "len") [Value.ref _]) _ _ _); k_dflt (refine' len_listN (by k_asm) (by k_mem) (by exact rows_len (by assumption)) (by (first | omega | (simp only [List.length_map, List.length_range]; omega))) ?_); intro t9 tk9; (try k_sweep)) | ((with_reducible show wpAny _ _ (execs (Stmt.If (Expr.Compare (Expr.Call _ _ _ _) [CmpOp.Lt] _ _) _ _ _ :: _) _) _ _ _); (refine' execs_mid (MidA s1 s1.heap s1.heap.objs.size (s1.heap.objs.size + 1) (s1.heap.objs.size + 1 + 1) (s1.heap.objs.size + 1 + 1 + 1) (List.take 16 nsI)) ?_ ?_)) | ((with_reducible show LCg.CompEnd ..); (k_dflt (refine' row_end (by assumption) (by assumption) (by assumption) (by assumption) (by exact trivial) (by rfl)))) | ((with_reducible show SrcStep ..); ((rename IntsAre _ (List.take 16 _) => hI16); k_dflt (refine' src_rows (by assumption) hI16 (by (rw [List.length_take]; omega)) (by rfl) (by assumption) (by assumption) (fun i9 k9 z09 z19 z29 z39 t9 nx9 I9 oI9 C9 oC9 D9 m29 ys9 h9 tk9 E9 hk0 hk1 hx0 hx1 hx2 hx3 hs9 hC9 hx9 F9 N9 off9 ne9 => ?_) (fun g9 ys9 tl9 hlt9 hD9 D9 h9 tk9 F9 N9 o19 => ?_)); (focus ((have q1 := hs9 _ (.head _)); (have q2 := hs9 _ (.tail _ (.head _))); (have q3 := hs9 _ (.tail _ (.tail _ (.head _)))); (have q4 := hs9 _ (.tail _ (.tail _ (.tail _ (.head _)))))) ; skip); (rotate_left 1); (obtain ⟨N8, hne1, hne2, hne3⟩ := rows_start N9 o19 hlt9 (by assumption)); (clear N9); (rotate_right 1))) | ((with_reducible show wpAny _ _ (eval (Expr.ListComp _ [⟨Expr.Name _ _, _, [], _⟩] _ _) _) _ _ _); k_dflt (refine ListComp_step (F₀ := by k_asm) (by with_unfolding_all rfl) (by decide) (by rfl) (by decide) (by rfl) ?_)) | ((with_reducible show wpAny _ _ (subscriptTail _ _ (Value.ref _) (Value.int _ _)) _ _ _); k_dflt (refine' item_listN (by k_asm) (by k_mem) (by first | decide | omega) (by first | decide | omega) (by first | rfl | assumption) ?_; k_whole)) | ((with_reducible show wpAny _ _ (subscriptTail _ _ (Value.ref _) (Value.int _ _)) _ _ _); k_dflt (refine' item_tupleT (by exact News.isTup (by k_asm) (by k_mem)) (by decide) (by decide) (by rfl) (by rfl) ?_; k_whole)) | walk1 | (dsimp only; walk1) | (leave1; walk_say "STEP leave1"; try dsimp only) | fail "no step"))
    rename Fr _ _ _ _ => kF
    rename News _ _ _ _ => kN
    rename Addr => lE
    refine' iterT_list (vs := [.bool false, .bool true]) (nn := 0) (EdJ lE (s1.heap.objs.size + 1) (s1.heap.objs.size + 1 + 1) (s1.heap.objs.size + 1 + 1 + 1) (listOf [Value.bool false, Value.bool true].toArray 0) o1 o2 nb2 (fun z => if z = "pairs" then some (.ref lP) else if z = "turn" then some (.int tv tt) else m z)) ?hh (.head _) kF kN ?hj (.inr ⟨_, _, rfl⟩) ?turn ?done
    case hh => rfl
    case hj => exact ⟨_, _, o3, eC, frD_of rfl rfl (fun _ _ _ => rfl), rfl, d3⟩
    case turn =>
      rintro i v m₁ nx s₂ own hv hoff hl2 ⟨u1, u2, o3', c, rfl, hnx, hc⟩ F₁ N₁
      rw [hnx] at N₁ hoff hl2
      clear hnx
      obtain ⟨e9, rfl⟩ : ∃ e : Bool, v = .bool e := by
        match i, hv with
        | 0, hv => exact ⟨false, (Option.some.inj hv).symm⟩
        | 1, hv => exact ⟨true, (Option.some.inj hv).symm⟩
      have hb3 := off_big hoff (.tail _ (.head _)) (fun p hp => (off2 p hp).2.2)
      have b1 : ∀ p ∈ nb2, p ∈ nb2 ++ own := fun p hp => List.mem_append_left _ hp
      have b2 : ∀ p ∈ own, p ∈ nb2 ++ own := fun p hp => List.mem_append_right _ hp
      simp only [List.cons_append] at N₁
      generalize nb2 ++ own = big at N₁ b1 b2 hb3
      have sub4 : ∀ (a b c d : Addr × Obj), ∀ p ∈ a :: b :: c :: d :: nb2, p ∈ a :: b :: c :: d :: big := fun a b c d p hp => by
        simp only [List.mem_cons] at hp ⊢
        rcases hp with hp | hp | hp | hp | hp
        · exact .inl hp
        · exact .inr (.inl hp)
        · exact .inr (.inr (.inl hp))
        · exact .inr (.inr (.inr (.inl hp)))
        · exact .inr (.inr (.inr (.inr (b1 p hp))))
      have mR3 := b1 _ mR2
      have mP3 := b1 _ mP
      have dP := datall_mono b1 dP
      have dR3 := datall_mono b1 dR2
      have dRot := datall_rot (Int.toNat tv) dR3
      have hwR : ∀ r ∈ rs, 0 ≤ r.w ∧ 0 ≤ r.h := fun r hr => by
        have := hbR r hr
        unfold Within at this
        omega
      have hwRot : ∀ r ∈ List.drop (Int.toNat tv) rs ++ List.take (Int.toNat tv) rs, 0 ≤ r.w ∧ 0 ≤ r.h := fun r hr => hwR r (by
        rcases List.mem_append.mp hr with hr | hr
        · exact List.mem_of_mem_drop hr
        · exact List.mem_of_mem_take hr)
      have hw1 : ∀ r ∈ rs, 1 ≤ r.w ∧ 1 ≤ r.h := fun r hr => ⟨(hbR r hr).2.2.1.1, (hbR r hr).2.2.2.1⟩
      have hone : oneL e9 rs = sharedO e9 rs := one_shared (by omega) hw1
      have hone2 : oneL e9 (List.drop (Int.toNat tv) rs ++ List.take (Int.toNat tv) rs) = sharedO e9 rs := one_rot _ (by omega) hw1
      let pf9 : R4 × R4 → Bool := fun p => meets e9 p.1 p.2
      have hall : ((pairsUp rs (rs.length * rs.length)).map pf9).any (· == false) = (sharedO e9 rs).isNone := helly (by omega) hw1
      (repeat' (first | (k_unfold; (try dsimp only)) | (k_end; wrow_close) | ((with_reducible show wpAny _ _ (execs (Stmt.Assign _ (Expr.Call _ _ _ _) _ :: Stmt.Assign _ (Expr.Compare _ _ _ _) _ :: _) _) _ _ _); (refine' execs_mid (MidE0 s₂ s1.heap s1.heap.objs.size lE (s1.heap.objs.size + 1) (s1.heap.objs.size + 1 + 1) (s1.heap.objs.size + 1 + 1 + 1) (listOf [Value.bool false, Value.bool true].toArray 0) o1 o2 big (fun z => if z = "pairs" then some (.ref lP) else if z = "turn" then some (.int tv tt) else m z) e9 rs) ?_ ?_)) | ((with_reducible show wpAny _ _ (exec (Stmt.For ..) _) _ _ _); ((rename Fr _ _ _ _ => lF'); (with_unfolding_all refine' For_invTF lF' ?_ (by (intro _; rfl)); k_whole))) | ((with_reducible show wpAny _ _ (exec (Stmt.For ..) _) _ _ _); ((rename Fr _ _ _ _ => lF'); (with_unfolding_all refine' For_invTF lF' ?_ (by (intro _; rfl)); k_whole))) | ((with_reducible show wpAny _ _ (call (Value.builtin "list.append") [Value.ref _, Value.ref _]) _ _ _); k_dflt (refine' append_K (by k_asm) (by k_asm) (by k_upd) ?_ (by (rw [PySem.sizeLine_eq, List.size_toArray]; omega))); intro h9 F9 N9; (try k_sweep)) | ((with_reducible show wpAny _ _ (call (Value.ref 238) [Value.ref _]) _ _ _); k_dflt (refine' covered_c (by k_asm) (by k_asm) (by k_asm) (by k_asm) (by k_asm) (by exact rfl) (by exact rfl) (by ktr_room) (by ktr_units) (by assumption) (by assumption) (by assumption) (by k_mem) (by assumption) (by assumption) (by omega) (by assumption) ?_; k_whole; intro ss9 mem9 up9 t9 h9 d9 tk9 F9 N9; (try k_fold); (try k_sweep))) | ((with_reducible show wpAny _ _ (call (Value.ref 193) _ _) _ _ _); (k_dflt (refine' intersection_d (by k_asm) (by k_asm) (by k_asm) (by k_asm) (by k_asm) (by exact rfl) (by exact rfl) (by ktr_room) (by ktr_units) (by k_mem) (by k_mem) (by k_mem) (by k_mem) (by omega) (by omega) (by omega) (by omega) ?_ ?_; all_goals (k_whole; (first | (intro c9 a9 d9 k91 k92 k93 k94 k95 kw9 kh9 kx9 ky9 h9 tk9 F9 N9 l91 l92; (try k_lt l91); (try k_lt2 l92)) | (intro c9 h9 tk9 F9 N9)); (try dsimp only); (try k_fold); (try k_sweep))))) | ((with_reducible show wpAny _ _ (call (Value.ref 163) _ _) _ _ _); (k_dflt (refine' area_c (by k_asm) (by k_asm) (by k_asm) (by k_asm) (by k_asm) (by exact rfl) (by exact rfl) (by ktr_room) (by ktr_units) (by k_mem) (by k_mem) (by mul_fits) ?_; k_whole; intro t9 h9 tk9 F9 N9; (try dsimp only); (try k_fold); (try k_sweep)))) | ((with_reducible show wpAny _ _ (compareOp CmpOp.NotEq Value.none Value.none) _ _ _); (k_dflt (refine' dat_ne (by k_asm) (by exact DatIn.none) (by exact DatIn.none) (by rfl) (by rfl) (by ktr_units) ?_); (try simp only [decide_true, Bool.not_true]))) | ((with_reducible show wpAny _ _ (compareOp CmpOp.NotEq (Value.ref _) (Value.ref _)) _ _ _); k_dflt (refine' dat_ne (by k_asm) (by exact row_close (by k_mem)) (by exact row_close (by k_mem)) (by rfl) (by rfl) (by ktr_units) ?_); (try simp only [decide_true, Bool.not_true])) | ((with_reducible show wpAny _ _ (binaryOp _ (Value.ref _) (Value.ref _)) _ _ _); k_dflt (refine' kmk_add_lit (by k_asm) (by k_asm) (by exact News.isList (by k_asm) (by k_mem)) (by exact News.isList (by k_asm) (by k_mem)) (by exact rfl) ?_ (by (rw [PySem.sizeLine_eq]; simp only [List.toList_toArray, List.length_drop, List.length_take, List.length_cons, List.length_nil]; omega))); intro D' h' F' N' l1; (try k_lt l1); (try k_sweep)) | ((with_reducible show wpAny _ _ (subscriptTail (Expr.Name ..) (Expr.Slice ..) (Value.ref _) (Value.ref _)) _ _ _); (k_dflt (refine' kmk_slice_lit (by k_asm) (by k_asm) (by exact ⟨_, News.get (by k_asm) (by k_mem), rfl, _, rfl⟩) (by kmk_part) (by kmk_part) (by first | exact slice_from _ (by assumption) | exact slice_upto _ (by assumption)) ?_ (by with_unfolding_all rfl) (by kmk_pure) (by (rw [PySem.sizeLine_eq, List.size_toArray]; omega))); intro D' h' F' N' l1; (try k_lt l1); (try k_sweep))) | ((with_reducible show wpAny _ _ (call (Value.ref 233) _ _) _ _ _); (k_dflt (refine' one_any (by k_asm) (by k_asm) (by k_asm) (by k_asm) (by k_asm) (by exact rfl) (by exact rfl) (by ktr_room) (by ktr_units) (by k_mem) (by (first | exact datall_mono (by (intro p hp; repeat' (first | exact hp | refine List.mem_cons_of_mem _ ?_))) dR3 | exact datall_mono (by (intro p hp; repeat' (first | exact hp | refine List.mem_cons_of_mem _ ?_))) dRot)) (by (first | omega | (simp only [List.length_append, List.length_drop, List.length_take]; omega))) (by (first | omega | (simp only [List.length_append, List.length_drop, List.length_take]; omega))) (by (first | exact hwR | exact hwRot)) ?_ ?_; all_goals (k_whole; ((first | (intro q8 hd1 t8 s81 s82 s83 s84 n8 h9 tk9 F9 N9; ((first | rw [hone, hd0] at hd1 | rw [hone2, hd0] at hd1); cases hd1) <;> ((try k_fold); (try k_sweep))) | (intro hd1 h9 tk9 F9 N9; ((first | rw [hone, hd0] at hd1 | rw [hone2, hd0] at hd1); cases hd1) <;> ((try k_fold); (try k_sweep))))))))) | ((with_reducible show wpAny _ _ (call (Value.ref 226) _ _) _ _ _); (k_dflt (refine' shared_any (by k_asm) (by k_asm) (by k_asm) (by k_asm) (by k_asm) (by exact rfl) (by exact rfl) (by ktr_room) (by ktr_units) (by k_mem) (by (first | exact datall_mono (by (intro p hp; repeat' (first | exact hp | refine List.mem_cons_of_mem _ ?_))) dR3 | exact datall_mono (by (intro p hp; repeat' (first | exact hp | refine List.mem_cons_of_mem _ ?_))) dRot)) (by omega) (by omega) ?_ ?_; all_goals (k_whole; ((first | (intro q9 hd0 t9 s91 s92 s93 s94 n9 h9 tk9 F9 N9; (try k_fold); (try k_sweep)) | (intro hd0 h9 tk9 F9 N9; (try k_fold); (try k_sweep)))))))) | ((with_reducible show wpAny _ _ (call (Value.ref 185) _ _) _ _ _); (k_dflt (refine' intersects_c (by k_asm) (by k_asm) (by k_asm) (by k_asm) (by k_asm) (by exact rfl) (by exact rfl) (by ktr_room) (by ktr_units) (by k_mem) (by k_mem) (by k_mem) (by k_mem) ?_; k_whole; intro t9 h9 tk9 F9 N9; (try dsimp only); (try k_fold); (try k_sweep)))) | ((with_reducible show wpAny _ _ (call (Value.ref 214) _ _) _ _ _); (k_dflt (refine' box_c (by k_asm) (by k_asm) (by k_asm) (by k_asm) (by k_asm) (by exact rfl) (by exact rfl) (by ktr_room) (by ktr_units) (by k_mem) (by omega) (by omega) ?_; k_whole; intro a9 d9 k91 k92 k93 k94 k95 kw9 kh9 kx9 ky9 h9 tk9 F9 N9 l91 l92; (try k_lt l91); (try k_lt2 l92); (try dsimp only); (try k_fold); (try k_sweep)))) | ((with_reducible show wpAny _ _ (compareOp CmpOp.NotIn (Value.bool false) (Value.ref _)) _ _ _); k_dflt (refine' notIn_boolsN (by k_asm) (by k_mem) ?_)) | ((with_reducible show wpAny _ _ (compareOp CmpOp.In (Value.bool false) (Value.ref _)) _ _ _); k_dflt (refine' in_boolsN (by k_asm) (by k_mem) ?_)) | ((with_reducible show wpAny _ _ (call (Value.ref 245) _ _) _ _ _); (k_dflt (refine' pair_c (by k_asm) (by k_asm) (by k_asm) (by k_asm) (by k_asm) (by exact rfl) (by exact rfl) (by ktr_room) (by ktr_units) (by assumption) (by assumption) (by k_mem) (by k_mem) (by exact ⟨by omega, by omega⟩) (by exact ⟨by omega, by omega⟩) (by exact ⟨by omega, by omega⟩) (by exact ⟨by omega, by omega⟩) (by exact ⟨by omega, by omega⟩) (by exact ⟨by omega, by omega⟩) (by exact ⟨by omega, by omega⟩) (by exact ⟨by omega, by omega⟩) ?_; k_whole; intro h9 tk9 F9 N9; (try k_fold); (try k_sweep)))) | ((with_reducible show LCg.CompEnd ..); (k_dflt (refine' LCg.CompEnd.intro (by assumption) (by assumption) _ (by (intro p hp; repeat' (first | exact hp | refine List.mem_cons_of_mem _ ?_))) (by assumption) (by (exact Or.inr ⟨_, by k_mem, rfl, _, rfl⟩)) ⟨rfl, rfl⟩))) | ((with_reducible show LCp.SrcLP ..); (k_dflt (refine' LCp.SrcLP.ledger (by rfl) (by k_asm) (by k_asm) (by k_mem) (by (rw [PySem.sizeLine_eq, List.size_toArray]; omega)) ?_); ((intro g9; k_dflt (refine' pairs_comp pf9 (datall_mono (by intro p hp; repeat' (first | exact hp | refine List.mem_cons_of_mem _ ?_)) dP) (fun p9 t9 u9 t91 t92 t93 t94 u91 u92 u93 u94 n9 k9 I9 oI9 C9 oC9 D9 m29 ys9 h9 tk9 E9 hp9 mt9 mu9 hC9 hx9 hy9 F9 N9 off9 ne9 => ?_) ?_); (focus (obtain ⟨⟨⟨b1, b2⟩, ⟨b3, b4⟩, ⟨b5, b6⟩, b7, b8⟩, ⟨d1, d2⟩, ⟨d3, d4⟩, ⟨d5, d6⟩, d7, d8⟩ := pair_within hbR hp9)))))) | ((with_reducible show wpAny _ _ (eval (Expr.ListComp _ [⟨Expr.Tuple _ _ _, _, [], _⟩] _ _) _) _ _ _); k_dflt (refine LCp.ListComp_P (F₀ := by k_asm) (by with_unfolding_all rfl) (by decide) (by rfl) (by decide) (by rfl) (by rfl) (by decide) ?_)) | ((with_reducible show wpAny _ _ (truthy (Value.ref _)) _ _ _); k_dflt (refine' truthy_listN (by k_asm) (by k_mem) (by assumption) (by omega) ?_); intro tk9; (try k_sweep)) | ((with_reducible show wpAny _ _ (call (Value.builtin "len") [Value.ref _]) _ _ _); k_dflt (refine' len_listN (by k_asm) (by k_mem) (by exact rows_len (by assumption)) (by (first | omega | (simp only [List.length_map, List.length_range]; omega))) ?_); intro t9 tk9; (try k_sweep)) | ((with_reducible show wpAny _ _ (execs (Stmt.If (Expr.Compare (Expr.Call _ _ _ _) [CmpOp.Lt] _ _) _ _ _ :: _) _) _ _ _); (refine' execs_mid (MidA s1 s1.heap s1.heap.objs.size (s1.heap.objs.size + 1) (s1.heap.objs.size + 1 + 1) (s1.heap.objs.size + 1 + 1 + 1) (List.take 16 nsI)) ?_ ?_)) | ((with_reducible show LCg.CompEnd ..); (k_dflt (refine' row_end (by assumption) (by assumption) (by assumption) (by assumption) (by exact trivial) (by rfl)))) | ((with_reducible show SrcStep ..); ((rename IntsAre _ (List.take 16 _) => hI16); k_dflt (refine' src_rows (by assumption) hI16 (by (rw [List.length_take]; omega)) (by rfl) (by assumption) (by assumption) (fun i9 k9 z09 z19 z29 z39 t9 nx9 I9 oI9 C9 oC9 D9 m29 ys9 h9 tk9 E9 hk0 hk1 hx0 hx1 hx2 hx3 hs9 hC9 hx9 F9 N9 off9 ne9 => ?_) (fun g9 ys9 tl9 hlt9 hD9 D9 h9 tk9 F9 N9 o19 => ?_)); (focus ((have q1 := hs9 _ (.head _)); (have q2 := hs9 _ (.tail _ (.head _))); (have q3 := hs9 _ (.tail _ (.tail _ (.head _)))); (have q4 := hs9 _ (.tail _ (.tail _ (.tail _ (.head _)))))) ; skip); (rotate_left 1); (obtain ⟨N8, hne1, hne2, hne3⟩ := rows_start N9 o19 hlt9 (by assumption)); (clear N9); (rotate_right 1))) | ((with_reducible show wpAny _ _ (eval (Expr.ListComp _ [⟨Expr.Name _ _, _, [], _⟩] _ _) _) _ _ _); k_dflt (refine ListComp_step (F₀ := by k_asm) (by with_unfolding_all rfl) (by decide) (by rfl) (by decide) (by rfl) ?_)) | ((with_reducible show wpAny _ _ (subscriptTail _ _ (Value.ref _) (Value.int _ _)) _ _ _); k_dflt (refine' item_listN (by k_asm) (by k_mem) (by first | decide | omega) (by first | decide | omega) (by first | rfl | assumption) ?_; k_whole)) | ((with_reducible show wpAny _ _ (subscriptTail _ _ (Value.ref _) (Value.int _ _)) _ _ _); k_dflt (refine' item_tupleT (by exact News.isTup (by k_asm) (by k_mem)) (by decide) (by decide) (by rfl) (by rfl) ?_; k_whole)) | walk1 | (dsimp only; walk1) | (leave1; walk_say "STEP leave1"; try dsimp only) | fail "no step"))
      all_goals (first
        | exact True.intro
        | (rename Fr _ _ _ _ => kF; rename News _ _ _ _ => kN; first
            | exact midE0_none hd0 kF kN (frD_of rfl rfl (by intro z e1 e2; simp [frD, e1, e2])) (by intro p hp; repeat' (first | exact hp | refine List.mem_cons_of_mem _ ?_)) (by assumption)
            | exact midE0_some hd0 kF kN (frD_of rfl rfl (by intro z e1 e2; simp [frD, e1, e2])) (by intro p hp; repeat' (first | exact hp | refine List.mem_cons_of_mem _ ?_)) (by k_mem) (by assumption))
        | skip)
      unfold Later
      rintro s' ⟨h, tk, o4, dv, nd, u3, rfl, F3, N3, hc3, hbn, hdv⟩
      have mR3 := hbn _ mR3
      have mP3 := hbn _ mP3
      have dP := datall_mono hbn dP
      have dR3 := datall_mono hbn dR3
      refine execs_mid (MidE s₂ s1.heap s1.heap.objs.size lE (s1.heap.objs.size + 1) (s1.heap.objs.size + 1 + 1) (s1.heap.objs.size + 1 + 1 + 1) (listOf [Value.bool false, Value.bool true].toArray 0) o1 o2 big (fun z => if z = "pairs" then some (.ref lP) else if z = "turn" then some (.int tv tt) else m z) e9 rs (!((List.map pf9 (pairsUp rs (rs.length * rs.length))).any (· == false)))) ?_ ?_
      · (repeat' (first | (k_unfold; (try dsimp only)) | (k_end; wrow_close) | ((with_reducible show wpAny _ _ (execs (Stmt.Assign _ (Expr.Call _ _ _ _) _ :: Stmt.Assign _ (Expr.Compare _ _ _ _) _ :: _) _) _ _ _); (refine' execs_mid (MidE0 s₂ s1.heap s1.heap.objs.size lE (s1.heap.objs.size + 1) (s1.heap.objs.size + 1 + 1) (s1.heap.objs.size + 1 + 1 + 1) (listOf [Value.bool false, Value.bool true].toArray 0) o1 o2 big (fun z => if z = "pairs" then some (.ref lP) else if z = "turn" then some (.int tv tt) else m z) e9 rs) ?_ ?_)) | ((with_reducible show wpAny _ _ (exec (Stmt.For ..) _) _ _ _); ((rename Fr _ _ _ _ => lF'); (with_unfolding_all refine' For_invTF lF' ?_ (by (intro _; rfl)); k_whole))) | ((with_reducible show wpAny _ _ (exec (Stmt.For ..) _) _ _ _); ((rename Fr _ _ _ _ => lF'); (with_unfolding_all refine' For_invTF lF' ?_ (by (intro _; rfl)); k_whole))) | ((with_reducible show wpAny _ _ (call (Value.builtin "list.append") [Value.ref _, Value.ref _]) _ _ _); k_dflt (refine' append_K (by k_asm) (by k_asm) (by k_upd) ?_ (by (rw [PySem.sizeLine_eq, List.size_toArray]; omega))); intro h9 F9 N9; (try k_sweep)) | ((with_reducible show wpAny _ _ (call (Value.ref 238) [Value.ref _]) _ _ _); k_dflt (refine' covered_c (by k_asm) (by k_asm) (by k_asm) (by k_asm) (by k_asm) (by exact rfl) (by exact rfl) (by ktr_room) (by ktr_units) (by assumption) (by assumption) (by assumption) (by k_mem) (by assumption) (by assumption) (by omega) (by assumption) ?_; k_whole; intro ss9 mem9 up9 t9 h9 d9 tk9 F9 N9; (try k_fold); (try k_sweep))) | ((with_reducible show wpAny _ _ (call (Value.ref 193) _ _) _ _ _); (k_dflt (refine' intersection_d (by k_asm) (by k_asm) (by k_asm) (by k_asm) (by k_asm) (by exact rfl) (by exact rfl) (by ktr_room) (by ktr_units) (by k_mem) (by k_mem) (by k_mem) (by k_mem) (by omega) (by omega) (by omega) (by omega) ?_ ?_; all_goals (k_whole; (first | (intro c9 a9 d9 k91 k92 k93 k94 k95 kw9 kh9 kx9 ky9 h9 tk9 F9 N9 l91 l92; (try k_lt l91); (try k_lt2 l92)) | (intro c9 h9 tk9 F9 N9)); (try dsimp only); (try k_fold); (try k_sweep))))) | ((with_reducible show wpAny _ _ (call (Value.ref 163) _ _) _ _ _); (k_dflt (refine' area_c (by k_asm) (by k_asm) (by k_asm) (by k_asm) (by k_asm) (by exact rfl) (by exact rfl) (by ktr_room) (by ktr_units) (by k_mem) (by k_mem) (by mul_fits) ?_; k_whole; intro t9 h9 tk9 F9 N9; (try dsimp only); (try k_fold); (try k_sweep)))) | ((with_reducible show wpAny _ _ (compareOp CmpOp.NotEq Value.none Value.none) _ _ _); (k_dflt (refine' dat_ne (by k_asm) (by exact DatIn.none) (by exact DatIn.none) (by rfl) (by rfl) (by ktr_units) ?_); (try simp only [decide_true, Bool.not_true]))) | ((with_reducible show wpAny _ _ (compareOp CmpOp.NotEq (Value.ref _) (Value.ref _)) _ _ _); k_dflt (refine' dat_ne (by k_asm) (by exact row_close (by k_mem)) (by exact row_close (by k_mem)) (by rfl) (by rfl) (by ktr_units) ?_); (try simp only [decide_true, Bool.not_true])) | ((with_reducible show wpAny _ _ (binaryOp _ (Value.ref _) (Value.ref _)) _ _ _); k_dflt (refine' kmk_add_lit (by k_asm) (by k_asm) (by exact News.isList (by k_asm) (by k_mem)) (by exact News.isList (by k_asm) (by k_mem)) (by exact rfl) ?_ (by (rw [PySem.sizeLine_eq]; simp only [List.toList_toArray, List.length_drop, List.length_take, List.length_cons, List.length_nil]; omega))); intro D' h' F' N' l1; (try k_lt l1); (try k_sweep)) | ((with_reducible show wpAny _ _ (subscriptTail (Expr.Name ..) (Expr.Slice ..) (Value.ref _) (Value.ref _)) _ _ _); (k_dflt (refine' kmk_slice_lit (by k_asm) (by k_asm) (by exact ⟨_, News.get (by k_asm) (by k_mem), rfl, _, rfl⟩) (by kmk_part) (by kmk_part) (by first | exact slice_from _ (by assumption) | exact slice_upto _ (by assumption)) ?_ (by with_unfolding_all rfl) (by kmk_pure) (by (rw [PySem.sizeLine_eq, List.size_toArray]; omega))); intro D' h' F' N' l1; (try k_lt l1); (try k_sweep))) | ((with_reducible show wpAny _ _ (call (Value.ref 233) _ _) _ _ _); (k_dflt (refine' one_any (by k_asm) (by k_asm) (by k_asm) (by k_asm) (by k_asm) (by exact rfl) (by exact rfl) (by ktr_room) (by ktr_units) (by k_mem) (by (first | exact datall_mono (by (intro p hp; repeat' (first | exact hp | refine List.mem_cons_of_mem _ ?_))) dR3 | exact datall_mono (by (intro p hp; repeat' (first | exact hp | refine List.mem_cons_of_mem _ ?_))) dRot)) (by (first | omega | (simp only [List.length_append, List.length_drop, List.length_take]; omega))) (by (first | omega | (simp only [List.length_append, List.length_drop, List.length_take]; omega))) (by (first | exact hwR | exact hwRot)) ?_ ?_; all_goals (k_whole; ((first | (intro q8 hd1 t8 s81 s82 s83 s84 n8 h9 tk9 F9 N9; ((first | rw [hone, hd0] at hd1 | rw [hone2, hd0] at hd1); cases hd1) <;> ((try k_fold); (try k_sweep))) | (intro hd1 h9 tk9 F9 N9; ((first | rw [hone, hd0] at hd1 | rw [hone2, hd0] at hd1); cases hd1) <;> ((try k_fold); (try k_sweep))))))))) | ((with_reducible show wpAny _ _ (call (Value.ref 226) _ _) _ _ _); (k_dflt (refine' shared_any (by k_asm) (by k_asm) (by k_asm) (by k_asm) (by k_asm) (by exact rfl) (by exact rfl) (by ktr_room) (by ktr_units) (by k_mem) (by (first | exact datall_mono (by (intro p hp; repeat' (first | exact hp | refine List.mem_cons_of_mem _ ?_))) dR3 | exact datall_mono (by (intro p hp; repeat' (first | exact hp | refine List.mem_cons_of_mem _ ?_))) dRot)) (by omega) (by omega) ?_ ?_; all_goals (k_whole; ((first | (intro q9 hd0 t9 s91 s92 s93 s94 n9 h9 tk9 F9 N9; (try k_fold); (try k_sweep)) | (intro hd0 h9 tk9 F9 N9; (try k_fold); (try k_sweep)))))))) | ((with_reducible show wpAny _ _ (call (Value.ref 185) _ _) _ _ _); (k_dflt (refine' intersects_c (by k_asm) (by k_asm) (by k_asm) (by k_asm) (by k_asm) (by exact rfl) (by exact rfl) (by ktr_room) (by ktr_units) (by k_mem) (by k_mem) (by k_mem) (by k_mem) ?_; k_whole; intro t9 h9 tk9 F9 N9; (try dsimp only); (try k_fold); (try k_sweep)))) | ((with_reducible show wpAny _ _ (call (Value.ref 214) _ _) _ _ _); (k_dflt (refine' box_c (by k_asm) (by k_asm) (by k_asm) (by k_asm) (by k_asm) (by exact rfl) (by exact rfl) (by ktr_room) (by ktr_units) (by k_mem) (by omega) (by omega) ?_; k_whole; intro a9 d9 k91 k92 k93 k94 k95 kw9 kh9 kx9 ky9 h9 tk9 F9 N9 l91 l92; (try k_lt l91); (try k_lt2 l92); (try dsimp only); (try k_fold); (try k_sweep)))) | ((with_reducible show wpAny _ _ (compareOp CmpOp.NotIn (Value.bool false) (Value.ref _)) _ _ _); k_dflt (refine' notIn_boolsN (by k_asm) (by k_mem) ?_)) | ((with_reducible show wpAny _ _ (compareOp CmpOp.In (Value.bool false) (Value.ref _)) _ _ _); k_dflt (refine' in_boolsN (by k_asm) (by k_mem) ?_)) | ((with_reducible show wpAny _ _ (call (Value.ref 245) _ _) _ _ _); (k_dflt (refine' pair_c (by k_asm) (by k_asm) (by k_asm) (by k_asm) (by k_asm) (by exact rfl) (by exact rfl) (by ktr_room) (by ktr_units) (by assumption) (by assumption) (by k_mem) (by k_mem) (by exact ⟨by omega, by omega⟩) (by exact ⟨by omega, by omega⟩) (by exact ⟨by omega, by omega⟩) (by exact ⟨by omega, by omega⟩) (by exact ⟨by omega, by omega⟩) (by exact ⟨by omega, by omega⟩) (by exact ⟨by omega, by omega⟩) (by exact ⟨by omega, by omega⟩) ?_; k_whole; intro h9 tk9 F9 N9; (try k_fold); (try k_sweep)))) | ((with_reducible show LCg.CompEnd ..); (k_dflt (refine' LCg.CompEnd.intro (by assumption) (by assumption) _ (by (intro p hp; repeat' (first | exact hp | refine List.mem_cons_of_mem _ ?_))) (by assumption) (by (exact Or.inr ⟨_, by k_mem, rfl, _, rfl⟩)) ⟨rfl, rfl⟩))) | ((with_reducible show LCp.SrcLP ..); (k_dflt (refine' LCp.SrcLP.ledger (by rfl) (by k_asm) (by k_asm) (by k_mem) (by (rw [PySem.sizeLine_eq, List.size_toArray]; omega)) ?_); ((intro g9; k_dflt (refine' pairs_comp pf9 (datall_mono (by intro p hp; repeat' (first | exact hp | refine List.mem_cons_of_mem _ ?_)) dP) (fun p9 t9 u9 t91 t92 t93 t94 u91 u92 u93 u94 n9 k9 I9 oI9 C9 oC9 D9 m29 ys9 h9 tk9 E9 hp9 mt9 mu9 hC9 hx9 hy9 F9 N9 off9 ne9 => ?_) ?_); (focus (obtain ⟨⟨⟨b1, b2⟩, ⟨b3, b4⟩, ⟨b5, b6⟩, b7, b8⟩, ⟨d1, d2⟩, ⟨d3, d4⟩, ⟨d5, d6⟩, d7, d8⟩ := pair_within hbR hp9)))))) | ((with_reducible show wpAny _ _ (eval (Expr.ListComp _ [⟨Expr.Tuple _ _ _, _, [], _⟩] _ _) _) _ _ _); k_dflt (refine LCp.ListComp_P (F₀ := by k_asm) (by with_unfolding_all rfl) (by decide) (by rfl) (by decide) (by rfl) (by rfl) (by decide) ?_)) | ((with_reducible show wpAny _ _ (truthy (Value.ref _)) _ _ _); k_dflt (refine' truthy_listN (by k_asm) (by k_mem) (by assumption) (by omega) ?_); intro tk9; (try k_sweep)) | ((with_reducible show wpAny _ _ (call (Value.builtin "len") [Value.ref _]) _ _ _); k_dflt (refine' len_listN (by k_asm) (by k_mem) (by exact rows_len (by assumption)) (by (first | omega | (simp only [List.length_map, List.length_range]; omega))) ?_); intro t9 tk9; (try k_sweep)) | ((with_reducible show wpAny _ _ (execs (Stmt.If (Expr.Compare (Expr.Call _ _ _ _) [CmpOp.Lt] _ _) _ _ _ :: _) _) _ _ _); (refine' execs_mid (MidA s1 s1.heap s1.heap.objs.size (s1.heap.objs.size + 1) (s1.heap.objs.size + 1 + 1) (s1.heap.objs.size + 1 + 1 + 1) (List.take 16 nsI)) ?_ ?_)) | ((with_reducible show LCg.CompEnd ..); (k_dflt (refine' row_end (by assumption) (by assumption) (by assumption) (by assumption) (by exact trivial) (by rfl)))) | ((with_reducible show SrcStep ..); ((rename IntsAre _ (List.take 16 _) => hI16); k_dflt (refine' src_rows (by assumption) hI16 (by (rw [List.length_take]; omega)) (by rfl) (by assumption) (by assumption) (fun i9 k9 z09 z19 z29 z39 t9 nx9 I9 oI9 C9 oC9 D9 m29 ys9 h9 tk9 E9 hk0 hk1 hx0 hx1 hx2 hx3 hs9 hC9 hx9 F9 N9 off9 ne9 => ?_) (fun g9 ys9 tl9 hlt9 hD9 D9 h9 tk9 F9 N9 o19 => ?_)); (focus ((have q1 := hs9 _ (.head _)); (have q2 := hs9 _ (.tail _ (.head _))); (have q3 := hs9 _ (.tail _ (.tail _ (.head _)))); (have q4 := hs9 _ (.tail _ (.tail _ (.tail _ (.head _)))))) ; skip); (rotate_left 1); (obtain ⟨N8, hne1, hne2, hne3⟩ := rows_start N9 o19 hlt9 (by assumption)); (clear N9); (rotate_right 1))) | ((with_reducible show wpAny _ _ (eval (Expr.ListComp _ [⟨Expr.Name _ _, _, [], _⟩] _ _) _) _ _ _); k_dflt (refine ListComp_step (F₀ := by k_asm) (by with_unfolding_all rfl) (by decide) (by rfl) (by decide) (by rfl) ?_)) | ((with_reducible show wpAny _ _ (subscriptTail _ _ (Value.ref _) (Value.int _ _)) _ _ _); k_dflt (refine' item_listN (by k_asm) (by k_mem) (by first | decide | omega) (by first | decide | omega) (by first | rfl | assumption) ?_; k_whole)) | ((with_reducible show wpAny _ _ (subscriptTail _ _ (Value.ref _) (Value.int _ _)) _ _ _); k_dflt (refine' item_tupleT (by exact News.isTup (by k_asm) (by k_mem)) (by decide) (by decide) (by rfl) (by rfl) ?_; k_whole)) | walk1 | (dsimp only; walk1) | (leave1; walk_say "STEP leave1"; try dsimp only) | fail "no step"))
        all_goals (first | exact True.intro | skip)
        all_goals (rename Fr _ _ _ _ => kF; rename News _ _ _ _ => kN; exact midE_of kF kN (frD_of rfl rfl (by intro z e1 e2; simp [frD, e1, e2])) (by intro p hp; repeat' (first | exact hp | refine List.mem_cons_of_mem _ ?_)) hc3 hbn hdv)
      · clear F3 N3
        unfold Later
        rintro s' ⟨h, tk, o5, dv, nd, rfl, F3, N3, hc3, hbn2, hdv⟩
        have b5 : ∀ p ∈ own, p ∈ nd := fun p hp => hbn2 p (b2 p hp)
        have b6 : ∀ p ∈ nb2, p ∈ nd := fun p hp => hbn2 p (b1 p hp)
        have hsub5 : ∀ p ∈ (lE, listOf [Value.bool false, Value.bool true].toArray 0) :: (s1.heap.objs.size + 1 + 1 + 1, o5) :: (s1.heap.objs.size + 1 + 1, o2) :: (s1.heap.objs.size + 1, o1) :: nb2, p ∈ (lE, listOf [Value.bool false, Value.bool true].toArray 0) :: (s1.heap.objs.size + 1 + 1 + 1, o5) :: (s1.heap.objs.size + 1 + 1, o2) :: (s1.heap.objs.size + 1, o1) :: nd := fun p hp => by
          simp only [List.mem_cons] at hp ⊢
          rcases hp with hp | hp | hp | hp | hp
          · exact .inl hp
          · exact .inr (.inl hp)
          · exact .inr (.inr (.inl hp))
          · exact .inr (.inr (.inr (.inl hp)))
          · exact .inr (.inr (.inr (.inr (b6 p hp))))
        have mR4 := b6 _ mR2
        have dR3 := datall_mono b6 dR2
        have dRot := datall_rot (Int.toNat tv) dR3
        clear hbn mR3 mP3 dP sub4
        cases hd0 : sharedO e9 rs with
        | none =>
          rw [hd0] at hdv hall
          cases hdv
          rw [hall] at F3
          simp only [Option.isNone_none, Option.isNone_some, Bool.not_true, Bool.not_false] at F3
          (repeat' (first | (k_unfold; (try dsimp only)) | (k_end; wrow_close) | ((with_reducible show wpAny _ _ (execs (Stmt.Assign _ (Expr.Call _ _ _ _) _ :: Stmt.Assign _ (Expr.Compare _ _ _ _) _ :: _) _) _ _ _); (refine' execs_mid (MidE0 s₂ s1.heap s1.heap.objs.size lE (s1.heap.objs.size + 1) (s1.heap.objs.size + 1 + 1) (s1.heap.objs.size + 1 + 1 + 1) (listOf [Value.bool false, Value.bool true].toArray 0) o1 o2 big (fun z => if z = "pairs" then some (.ref lP) else if z = "turn" then some (.int tv tt) else m z) e9 rs) ?_ ?_)) | ((with_reducible show wpAny _ _ (exec (Stmt.For ..) _) _ _ _); ((rename Fr _ _ _ _ => lF'); (with_unfolding_all refine' For_invTF lF' ?_ (by (intro _; rfl)); k_whole))) | ((with_reducible show wpAny _ _ (exec (Stmt.For ..) _) _ _ _); ((rename Fr _ _ _ _ => lF'); (with_unfolding_all refine' For_invTF lF' ?_ (by (intro _; rfl)); k_whole))) | ((with_reducible show wpAny _ _ (call (Value.builtin "list.append") [Value.ref _, Value.ref _]) _ _ _); k_dflt (refine' append_K (by k_asm) (by k_asm) (by k_upd) ?_ (by (rw [PySem.sizeLine_eq, List.size_toArray]; omega))); intro h9 F9 N9; (try k_sweep)) | ((with_reducible show wpAny _ _ (call (Value.ref 238) [Value.ref _]) _ _ _); k_dflt (refine' covered_c (by k_asm) (by k_asm) (by k_asm) (by k_asm) (by k_asm) (by exact rfl) (by exact rfl) (by ktr_room) (by ktr_units) (by assumption) (by assumption) (by assumption) (by k_mem) (by assumption) (by assumption) (by omega) (by assumption) ?_; k_whole; intro ss9 mem9 up9 t9 h9 d9 tk9 F9 N9; (try k_fold); (try k_sweep))) | ((with_reducible show wpAny _ _ (call (Value.ref 193) _ _) _ _ _); (k_dflt (refine' intersection_d (by k_asm) (by k_asm) (by k_asm) (by k_asm) (by k_asm) (by exact rfl) (by exact rfl) (by ktr_room) (by ktr_units) (by k_mem) (by k_mem) (by k_mem) (by k_mem) (by omega) (by omega) (by omega) (by omega) ?_ ?_; all_goals (k_whole; (first | (intro c9 a9 d9 k91 k92 k93 k94 k95 kw9 kh9 kx9 ky9 h9 tk9 F9 N9 l91 l92; (try k_lt l91); (try k_lt2 l92)) | (intro c9 h9 tk9 F9 N9)); (try dsimp only); (try k_fold); (try k_sweep))))) | ((with_reducible show wpAny _ _ (call (Value.ref 163) _ _) _ _ _); (k_dflt (refine' area_c (by k_asm) (by k_asm) (by k_asm) (by k_asm) (by k_asm) (by exact rfl) (by exact rfl) (by ktr_room) (by ktr_units) (by k_mem) (by k_mem) (by mul_fits) ?_; k_whole; intro t9 h9 tk9 F9 N9; (try dsimp only); (try k_fold); (try k_sweep)))) | ((with_reducible show wpAny _ _ (compareOp CmpOp.NotEq Value.none Value.none) _ _ _); (k_dflt (refine' dat_ne (by k_asm) (by exact DatIn.none) (by exact DatIn.none) (by rfl) (by rfl) (by ktr_units) ?_); (try simp only [decide_true, Bool.not_true]))) | ((with_reducible show wpAny _ _ (compareOp CmpOp.NotEq (Value.ref _) (Value.ref _)) _ _ _); k_dflt (refine' dat_ne (by k_asm) (by exact row_close (by k_mem)) (by exact row_close (by k_mem)) (by rfl) (by rfl) (by ktr_units) ?_); (try simp only [decide_true, Bool.not_true])) | ((with_reducible show wpAny _ _ (binaryOp _ (Value.ref _) (Value.ref _)) _ _ _); k_dflt (refine' kmk_add_lit (by k_asm) (by k_asm) (by exact News.isList (by k_asm) (by k_mem)) (by exact News.isList (by k_asm) (by k_mem)) (by exact rfl) ?_ (by (rw [PySem.sizeLine_eq]; simp only [List.toList_toArray, List.length_drop, List.length_take, List.length_cons, List.length_nil]; omega))); intro D' h' F' N' l1; (try k_lt l1); (try k_sweep)) | ((with_reducible show wpAny _ _ (subscriptTail (Expr.Name ..) (Expr.Slice ..) (Value.ref _) (Value.ref _)) _ _ _); (k_dflt (refine' kmk_slice_lit (by k_asm) (by k_asm) (by exact ⟨_, News.get (by k_asm) (by k_mem), rfl, _, rfl⟩) (by kmk_part) (by kmk_part) (by first | exact slice_from _ (by assumption) | exact slice_upto _ (by assumption)) ?_ (by with_unfolding_all rfl) (by kmk_pure) (by (rw [PySem.sizeLine_eq, List.size_toArray]; omega))); intro D' h' F' N' l1; (try k_lt l1); (try k_sweep))) | ((with_reducible show wpAny _ _ (call (Value.ref 233) _ _) _ _ _); (k_dflt (refine' one_any (by k_asm) (by k_asm) (by k_asm) (by k_asm) (by k_asm) (by exact rfl) (by exact rfl) (by ktr_room) (by ktr_units) (by k_mem) (by (first | exact datall_mono (by (intro p hp; repeat' (first | exact hp | refine List.mem_cons_of_mem _ ?_))) dR3 | exact datall_mono (by (intro p hp; repeat' (first | exact hp | refine List.mem_cons_of_mem _ ?_))) dRot)) (by (first | omega | (simp only [List.length_append, List.length_drop, List.length_take]; omega))) (by (first | omega | (simp only [List.length_append, List.length_drop, List.length_take]; omega))) (by (first | exact hwR | exact hwRot)) ?_ ?_; all_goals (k_whole; ((first | (intro q8 hd1 t8 s81 s82 s83 s84 n8 h9 tk9 F9 N9; ((first | rw [hone, hd0] at hd1 | rw [hone2, hd0] at hd1); cases hd1) <;> ((try k_fold); (try k_sweep))) | (intro hd1 h9 tk9 F9 N9; ((first | rw [hone, hd0] at hd1 | rw [hone2, hd0] at hd1); cases hd1) <;> ((try k_fold); (try k_sweep))))))))) | ((with_reducible show wpAny _ _ (call (Value.ref 226) _ _) _ _ _); (k_dflt (refine' shared_any (by k_asm) (by k_asm) (by k_asm) (by k_asm) (by k_asm) (by exact rfl) (by exact rfl) (by ktr_room) (by ktr_units) (by k_mem) (by (first | exact datall_mono (by (intro p hp; repeat' (first | exact hp | refine List.mem_cons_of_mem _ ?_))) dR3 | exact datall_mono (by (intro p hp; repeat' (first | exact hp | refine List.mem_cons_of_mem _ ?_))) dRot)) (by omega) (by omega) ?_ ?_; all_goals (k_whole; ((first | (intro q9 hd0 t9 s91 s92 s93 s94 n9 h9 tk9 F9 N9; (try k_fold); (try k_sweep)) | (intro hd0 h9 tk9 F9 N9; (try k_fold); (try k_sweep)))))))) | ((with_reducible show wpAny _ _ (call (Value.ref 185) _ _) _ _ _); (k_dflt (refine' intersects_c (by k_asm) (by k_asm) (by k_asm) (by k_asm) (by k_asm) (by exact rfl) (by exact rfl) (by ktr_room) (by ktr_units) (by k_mem) (by k_mem) (by k_mem) (by k_mem) ?_; k_whole; intro t9 h9 tk9 F9 N9; (try dsimp only); (try k_fold); (try k_sweep)))) | ((with_reducible show wpAny _ _ (call (Value.ref 214) _ _) _ _ _); (k_dflt (refine' box_c (by k_asm) (by k_asm) (by k_asm) (by k_asm) (by k_asm) (by exact rfl) (by exact rfl) (by ktr_room) (by ktr_units) (by k_mem) (by omega) (by omega) ?_; k_whole; intro a9 d9 k91 k92 k93 k94 k95 kw9 kh9 kx9 ky9 h9 tk9 F9 N9 l91 l92; (try k_lt l91); (try k_lt2 l92); (try dsimp only); (try k_fold); (try k_sweep)))) | ((with_reducible show wpAny _ _ (compareOp CmpOp.NotIn (Value.bool false) (Value.ref _)) _ _ _); k_dflt (refine' notIn_boolsN (by k_asm) (by k_mem) ?_)) | ((with_reducible show wpAny _ _ (compareOp CmpOp.In (Value.bool false) (Value.ref _)) _ _ _); k_dflt (refine' in_boolsN (by k_asm) (by k_mem) ?_)) | ((with_reducible show wpAny _ _ (call (Value.ref 245) _ _) _ _ _); (k_dflt (refine' pair_c (by k_asm) (by k_asm) (by k_asm) (by k_asm) (by k_asm) (by exact rfl) (by exact rfl) (by ktr_room) (by ktr_units) (by assumption) (by assumption) (by k_mem) (by k_mem) (by exact ⟨by omega, by omega⟩) (by exact ⟨by omega, by omega⟩) (by exact ⟨by omega, by omega⟩) (by exact ⟨by omega, by omega⟩) (by exact ⟨by omega, by omega⟩) (by exact ⟨by omega, by omega⟩) (by exact ⟨by omega, by omega⟩) (by exact ⟨by omega, by omega⟩) ?_; k_whole; intro h9 tk9 F9 N9; (try k_fold); (try k_sweep)))) | ((with_reducible show LCg.CompEnd ..); (k_dflt (refine' LCg.CompEnd.intro (by assumption) (by assumption) _ (by (intro p hp; repeat' (first | exact hp | refine List.mem_cons_of_mem _ ?_))) (by assumption) (by (exact Or.inr ⟨_, by k_mem, rfl, _, rfl⟩)) ⟨rfl, rfl⟩))) | ((with_reducible show LCp.SrcLP ..); (k_dflt (refine' LCp.SrcLP.ledger (by rfl) (by k_asm) (by k_asm) (by k_mem) (by (rw [PySem.sizeLine_eq, List.size_toArray]; omega)) ?_); ((intro g9; k_dflt (refine' pairs_comp pf9 (datall_mono (by intro p hp; repeat' (first | exact hp | refine List.mem_cons_of_mem _ ?_)) dP) (fun p9 t9 u9 t91 t92 t93 t94 u91 u92 u93 u94 n9 k9 I9 oI9 C9 oC9 D9 m29 ys9 h9 tk9 E9 hp9 mt9 mu9 hC9 hx9 hy9 F9 N9 off9 ne9 => ?_) ?_); (focus (obtain ⟨⟨⟨b1, b2⟩, ⟨b3, b4⟩, ⟨b5, b6⟩, b7, b8⟩, ⟨d1, d2⟩, ⟨d3, d4⟩, ⟨d5, d6⟩, d7, d8⟩ := pair_within hbR hp9)))))) | ((with_reducible show wpAny _ _ (eval (Expr.ListComp _ [⟨Expr.Tuple _ _ _, _, [], _⟩] _ _) _) _ _ _); k_dflt (refine LCp.ListComp_P (F₀ := by k_asm) (by with_unfolding_all rfl) (by decide) (by rfl) (by decide) (by rfl) (by rfl) (by decide) ?_)) | ((with_reducible show wpAny _ _ (truthy (Value.ref _)) _ _ _); k_dflt (refine' truthy_listN (by k_asm) (by k_mem) (by assumption) (by omega) ?_); intro tk9; (try k_sweep)) | ((with_reducible show wpAny _ _ (call (Value.builtin "len") [Value.ref _]) _ _ _); k_dflt (refine' len_listN (by k_asm) (by k_mem) (by exact rows_len (by assumption)) (by (first | omega | (simp only [List.length_map, List.length_range]; omega))) ?_); intro t9 tk9; (try k_sweep)) | ((with_reducible show wpAny _ _ (execs (Stmt.If (Expr.Compare (Expr.Call _ _ _ _) [CmpOp.Lt] _ _) _ _ _ :: _) _) _ _ _); (refine' execs_mid (MidA s1 s1.heap s1.heap.objs.size (s1.heap.objs.size + 1) (s1.heap.objs.size + 1 + 1) (s1.heap.objs.size + 1 + 1 + 1) (List.take 16 nsI)) ?_ ?_)) | ((with_reducible show LCg.CompEnd ..); (k_dflt (refine' row_end (by assumption) (by assumption) (by assumption) (by assumption) (by exact trivial) (by rfl)))) | ((with_reducible show SrcStep ..); ((rename IntsAre _ (List.take 16 _) => hI16); k_dflt (refine' src_rows (by assumption) hI16 (by (rw [List.length_take]; omega)) (by rfl) (by assumption) (by assumption) (fun i9 k9 z09 z19 z29 z39 t9 nx9 I9 oI9 C9 oC9 D9 m29 ys9 h9 tk9 E9 hk0 hk1 hx0 hx1 hx2 hx3 hs9 hC9 hx9 F9 N9 off9 ne9 => ?_) (fun g9 ys9 tl9 hlt9 hD9 D9 h9 tk9 F9 N9 o19 => ?_)); (focus ((have q1 := hs9 _ (.head _)); (have q2 := hs9 _ (.tail _ (.head _))); (have q3 := hs9 _ (.tail _ (.tail _ (.head _)))); (have q4 := hs9 _ (.tail _ (.tail _ (.tail _ (.head _)))))) ; skip); (rotate_left 1); (obtain ⟨N8, hne1, hne2, hne3⟩ := rows_start N9 o19 hlt9 (by assumption)); (clear N9); (rotate_right 1))) | ((with_reducible show wpAny _ _ (eval (Expr.ListComp _ [⟨Expr.Name _ _, _, [], _⟩] _ _) _) _ _ _); k_dflt (refine ListComp_step (F₀ := by k_asm) (by with_unfolding_all rfl) (by decide) (by rfl) (by decide) (by rfl) ?_)) | ((with_reducible show wpAny _ _ (subscriptTail _ _ (Value.ref _) (Value.int _ _)) _ _ _); k_dflt (refine' item_listN (by k_asm) (by k_mem) (by first | decide | omega) (by first | decide | omega) (by first | rfl | assumption) ?_; k_whole)) | ((with_reducible show wpAny _ _ (subscriptTail _ _ (Value.ref _) (Value.int _ _)) _ _ _); k_dflt (refine' item_tupleT (by exact News.isTup (by k_asm) (by k_mem)) (by decide) (by decide) (by rfl) (by rfl) ?_; k_whole)) | walk1 | (dsimp only; walk1) | (leave1; walk_say "STEP leave1"; try dsimp only) | fail "no step"))
          all_goals (first
          | exact True.intro
          | (rename Fr _ _ _ _ => kF; rename News _ _ _ _ => kN; exact ed_end kF kN (frD_of rfl rfl (by intro z e1 e2; simp [frD, e1, e2])) (by intro p hp; (replace hp := hsub5 p hp); (repeat' (first | exact hp | refine List.mem_cons_of_mem _ ?_))) (by intro p hp; (replace hp := b5 p hp); (repeat' (first | exact hp | refine List.mem_cons_of_mem _ ?_))) hoff hc3 (.head _))
          | (exfalso; simp_all; done)
          | fail "left")
        | some q =>
          rw [hd0] at hdv hall
          obtain ⟨tq, w1, w2, w3, w4, nq, rfl, mq⟩ := row_open hdv
          rw [hall] at F3
          simp only [Option.isNone_none, Option.isNone_some, Bool.not_true, Bool.not_false] at F3
          (repeat' (first | (k_unfold; (try dsimp only)) | (k_end; wrow_close) | ((with_reducible show wpAny _ _ (execs (Stmt.Assign _ (Expr.Call _ _ _ _) _ :: Stmt.Assign _ (Expr.Compare _ _ _ _) _ :: _) _) _ _ _); (refine' execs_mid (MidE0 s₂ s1.heap s1.heap.objs.size lE (s1.heap.objs.size + 1) (s1.heap.objs.size + 1 + 1) (s1.heap.objs.size + 1 + 1 + 1) (listOf [Value.bool false, Value.bool true].toArray 0) o1 o2 big (fun z => if z = "pairs" then some (.ref lP) else if z = "turn" then some (.int tv tt) else m z) e9 rs) ?_ ?_)) | ((with_reducible show wpAny _ _ (exec (Stmt.For ..) _) _ _ _); ((rename Fr _ _ _ _ => lF'); (with_unfolding_all refine' For_invTF lF' ?_ (by (intro _; rfl)); k_whole))) | ((with_reducible show wpAny _ _ (exec (Stmt.For ..) _) _ _ _); ((rename Fr _ _ _ _ => lF'); (with_unfolding_all refine' For_invTF lF' ?_ (by (intro _; rfl)); k_whole))) | ((with_reducible show wpAny _ _ (call (Value.builtin "list.append") [Value.ref _, Value.ref _]) _ _ _); k_dflt (refine' append_K (by k_asm) (by k_asm) (by k_upd) ?_ (by (rw [PySem.sizeLine_eq, List.size_toArray]; omega))); intro h9 F9 N9; (try k_sweep)) | ((with_reducible show wpAny _ _ (call (Value.ref 238) [Value.ref _]) _ _ _); k_dflt (refine' covered_c (by k_asm) (by k_asm) (by k_asm) (by k_asm) (by k_asm) (by exact rfl) (by exact rfl) (by ktr_room) (by ktr_units) (by assumption) (by assumption) (by assumption) (by k_mem) (by assumption) (by assumption) (by omega) (by assumption) ?_; k_whole; intro ss9 mem9 up9 t9 h9 d9 tk9 F9 N9; (try k_fold); (try k_sweep))) | ((with_reducible show wpAny _ _ (call (Value.ref 193) _ _) _ _ _); (k_dflt (refine' intersection_d (by k_asm) (by k_asm) (by k_asm) (by k_asm) (by k_asm) (by exact rfl) (by exact rfl) (by ktr_room) (by ktr_units) (by k_mem) (by k_mem) (by k_mem) (by k_mem) (by omega) (by omega) (by omega) (by omega) ?_ ?_; all_goals (k_whole; (first | (intro c9 a9 d9 k91 k92 k93 k94 k95 kw9 kh9 kx9 ky9 h9 tk9 F9 N9 l91 l92; (try k_lt l91); (try k_lt2 l92)) | (intro c9 h9 tk9 F9 N9)); (try dsimp only); (try k_fold); (try k_sweep))))) | ((with_reducible show wpAny _ _ (call (Value.ref 163) _ _) _ _ _); (k_dflt (refine' area_c (by k_asm) (by k_asm) (by k_asm) (by k_asm) (by k_asm) (by exact rfl) (by exact rfl) (by ktr_room) (by ktr_units) (by k_mem) (by k_mem) (by mul_fits) ?_; k_whole; intro t9 h9 tk9 F9 N9; (try dsimp only); (try k_fold); (try k_sweep)))) | ((with_reducible show wpAny _ _ (compareOp CmpOp.NotEq Value.none Value.none) _ _ _); (k_dflt (refine' dat_ne (by k_asm) (by exact DatIn.none) (by exact DatIn.none) (by rfl) (by rfl) (by ktr_units) ?_); (try simp only [decide_true, Bool.not_true]))) | ((with_reducible show wpAny _ _ (compareOp CmpOp.NotEq (Value.ref _) (Value.ref _)) _ _ _); k_dflt (refine' dat_ne (by k_asm) (by exact row_close (by k_mem)) (by exact row_close (by k_mem)) (by rfl) (by rfl) (by ktr_units) ?_); (try simp only [decide_true, Bool.not_true])) | ((with_reducible show wpAny _ _ (binaryOp _ (Value.ref _) (Value.ref _)) _ _ _); k_dflt (refine' kmk_add_lit (by k_asm) (by k_asm) (by exact News.isList (by k_asm) (by k_mem)) (by exact News.isList (by k_asm) (by k_mem)) (by exact rfl) ?_ (by (rw [PySem.sizeLine_eq]; simp only [List.toList_toArray, List.length_drop, List.length_take, List.length_cons, List.length_nil]; omega))); intro D' h' F' N' l1; (try k_lt l1); (try k_sweep)) | ((with_reducible show wpAny _ _ (subscriptTail (Expr.Name ..) (Expr.Slice ..) (Value.ref _) (Value.ref _)) _ _ _); (k_dflt (refine' kmk_slice_lit (by k_asm) (by k_asm) (by exact ⟨_, News.get (by k_asm) (by k_mem), rfl, _, rfl⟩) (by kmk_part) (by kmk_part) (by first | exact slice_from _ (by assumption) | exact slice_upto _ (by assumption)) ?_ (by with_unfolding_all rfl) (by kmk_pure) (by (rw [PySem.sizeLine_eq, List.size_toArray]; omega))); intro D' h' F' N' l1; (try k_lt l1); (try k_sweep))) | ((with_reducible show wpAny _ _ (call (Value.ref 233) _ _) _ _ _); (k_dflt (refine' one_any (by k_asm) (by k_asm) (by k_asm) (by k_asm) (by k_asm) (by exact rfl) (by exact rfl) (by ktr_room) (by ktr_units) (by k_mem) (by (first | exact datall_mono (by (intro p hp; repeat' (first | exact hp | refine List.mem_cons_of_mem _ ?_))) dR3 | exact datall_mono (by (intro p hp; repeat' (first | exact hp | refine List.mem_cons_of_mem _ ?_))) dRot)) (by (first | omega | (simp only [List.length_append, List.length_drop, List.length_take]; omega))) (by (first | omega | (simp only [List.length_append, List.length_drop, List.length_take]; omega))) (by (first | exact hwR | exact hwRot)) ?_ ?_; all_goals (k_whole; ((first | (intro q8 hd1 t8 s81 s82 s83 s84 n8 h9 tk9 F9 N9; ((first | rw [hone, hd0] at hd1 | rw [hone2, hd0] at hd1); cases hd1) <;> ((try k_fold); (try k_sweep))) | (intro hd1 h9 tk9 F9 N9; ((first | rw [hone, hd0] at hd1 | rw [hone2, hd0] at hd1); cases hd1) <;> ((try k_fold); (try k_sweep))))))))) | ((with_reducible show wpAny _ _ (call (Value.ref 226) _ _) _ _ _); (k_dflt (refine' shared_any (by k_asm) (by k_asm) (by k_asm) (by k_asm) (by k_asm) (by exact rfl) (by exact rfl) (by ktr_room) (by ktr_units) (by k_mem) (by (first | exact datall_mono (by (intro p hp; repeat' (first | exact hp | refine List.mem_cons_of_mem _ ?_))) dR3 | exact datall_mono (by (intro p hp; repeat' (first | exact hp | refine List.mem_cons_of_mem _ ?_))) dRot)) (by omega) (by omega) ?_ ?_; all_goals (k_whole; ((first | (intro q9 hd0 t9 s91 s92 s93 s94 n9 h9 tk9 F9 N9; (try k_fold); (try k_sweep)) | (intro hd0 h9 tk9 F9 N9; (try k_fold); (try k_sweep)))))))) | ((with_reducible show wpAny _ _ (call (Value.ref 185) _ _) _ _ _); (k_dflt (refine' intersects_c (by k_asm) (by k_asm) (by k_asm) (by k_asm) (by k_asm) (by exact rfl) (by exact rfl) (by ktr_room) (by ktr_units) (by k_mem) (by k_mem) (by k_mem) (by k_mem) ?_; k_whole; intro t9 h9 tk9 F9 N9; (try dsimp only); (try k_fold); (try k_sweep)))) | ((with_reducible show wpAny _ _ (call (Value.ref 214) _ _) _ _ _); (k_dflt (refine' box_c (by k_asm) (by k_asm) (by k_asm) (by k_asm) (by k_asm) (by exact rfl) (by exact rfl) (by ktr_room) (by ktr_units) (by k_mem) (by omega) (by omega) ?_; k_whole; intro a9 d9 k91 k92 k93 k94 k95 kw9 kh9 kx9 ky9 h9 tk9 F9 N9 l91 l92; (try k_lt l91); (try k_lt2 l92); (try dsimp only); (try k_fold); (try k_sweep)))) | ((with_reducible show wpAny _ _ (compareOp CmpOp.NotIn (Value.bool false) (Value.ref _)) _ _ _); k_dflt (refine' notIn_boolsN (by k_asm) (by k_mem) ?_)) | ((with_reducible show wpAny _ _ (compareOp CmpOp.In (Value.bool false) (Value.ref _)) _ _ _); k_dflt (refine' in_boolsN (by k_asm) (by k_mem) ?_)) | ((with_reducible show wpAny _ _ (call (Value.ref 245) _ _) _ _ _); (k_dflt (refine' pair_c (by k_asm) (by k_asm) (by k_asm) (by k_asm) (by k_asm) (by exact rfl) (by exact rfl) (by ktr_room) (by ktr_units) (by assumption) (by assumption) (by k_mem) (by k_mem) (by exact ⟨by omega, by omega⟩) (by exact ⟨by omega, by omega⟩) (by exact ⟨by omega, by omega⟩) (by exact ⟨by omega, by omega⟩) (by exact ⟨by omega, by omega⟩) (by exact ⟨by omega, by omega⟩) (by exact ⟨by omega, by omega⟩) (by exact ⟨by omega, by omega⟩) ?_; k_whole; intro h9 tk9 F9 N9; (try k_fold); (try k_sweep)))) | ((with_reducible show LCg.CompEnd ..); (k_dflt (refine' LCg.CompEnd.intro (by assumption) (by assumption) _ (by (intro p hp; repeat' (first | exact hp | refine List.mem_cons_of_mem _ ?_))) (by assumption) (by (exact Or.inr ⟨_, by k_mem, rfl, _, rfl⟩)) ⟨rfl, rfl⟩))) | ((with_reducible show LCp.SrcLP ..); (k_dflt (refine' LCp.SrcLP.ledger (by rfl) (by k_asm) (by k_asm) (by k_mem) (by (rw [PySem.sizeLine_eq, List.size_toArray]; omega)) ?_); ((intro g9; k_dflt (refine' pairs_comp pf9 (datall_mono (by intro p hp; repeat' (first | exact hp | refine List.mem_cons_of_mem _ ?_)) dP) (fun p9 t9 u9 t91 t92 t93 t94 u91 u92 u93 u94 n9 k9 I9 oI9 C9 oC9 D9 m29 ys9 h9 tk9 E9 hp9 mt9 mu9 hC9 hx9 hy9 F9 N9 off9 ne9 => ?_) ?_); (focus (obtain ⟨⟨⟨b1, b2⟩, ⟨b3, b4⟩, ⟨b5, b6⟩, b7, b8⟩, ⟨d1, d2⟩, ⟨d3, d4⟩, ⟨d5, d6⟩, d7, d8⟩ := pair_within hbR hp9)))))) | ((with_reducible show wpAny _ _ (eval (Expr.ListComp _ [⟨Expr.Tuple _ _ _, _, [], _⟩] _ _) _) _ _ _); k_dflt (refine LCp.ListComp_P (F₀ := by k_asm) (by with_unfolding_all rfl) (by decide) (by rfl) (by decide) (by rfl) (by rfl) (by decide) ?_)) | ((with_reducible show wpAny _ _ (truthy (Value.ref _)) _ _ _); k_dflt (refine' truthy_listN (by k_asm) (by k_mem) (by assumption) (by omega) ?_); intro tk9; (try k_sweep)) | ((with_reducible show wpAny _ _ (call (Value.builtin "len") [Value.ref _]) _ _ _); k_dflt (refine' len_listN (by k_asm) (by k_mem) (by exact rows_len (by assumption)) (by (first | omega | (simp only [List.length_map, List.length_range]; omega))) ?_); intro t9 tk9; (try k_sweep)) | ((with_reducible show wpAny _ _ (execs (Stmt.If (Expr.Compare (Expr.Call _ _ _ _) [CmpOp.Lt] _ _) _ _ _ :: _) _) _ _ _); (refine' execs_mid (MidA s1 s1.heap s1.heap.objs.size (s1.heap.objs.size + 1) (s1.heap.objs.size + 1 + 1) (s1.heap.objs.size + 1 + 1 + 1) (List.take 16 nsI)) ?_ ?_)) | ((with_reducible show LCg.CompEnd ..); (k_dflt (refine' row_end (by assumption) (by assumption) (by assumption) (by assumption) (by exact trivial) (by rfl)))) | ((with_reducible show SrcStep ..); ((rename IntsAre _ (List.take 16 _) => hI16); k_dflt (refine' src_rows (by assumption) hI16 (by (rw [List.length_take]; omega)) (by rfl) (by assumption) (by assumption) (fun i9 k9 z09 z19 z29 z39 t9 nx9 I9 oI9 C9 oC9 D9 m29 ys9 h9 tk9 E9 hk0 hk1 hx0 hx1 hx2 hx3 hs9 hC9 hx9 F9 N9 off9 ne9 => ?_) (fun g9 ys9 tl9 hlt9 hD9 D9 h9 tk9 F9 N9 o19 => ?_)); (focus ((have q1 := hs9 _ (.head _)); (have q2 := hs9 _ (.tail _ (.head _))); (have q3 := hs9 _ (.tail _ (.tail _ (.head _)))); (have q4 := hs9 _ (.tail _ (.tail _ (.tail _ (.head _)))))) ; skip); (rotate_left 1); (obtain ⟨N8, hne1, hne2, hne3⟩ := rows_start N9 o19 hlt9 (by assumption)); (clear N9); (rotate_right 1))) | ((with_reducible show wpAny _ _ (eval (Expr.ListComp _ [⟨Expr.Name _ _, _, [], _⟩] _ _) _) _ _ _); k_dflt (refine ListComp_step (F₀ := by k_asm) (by with_unfolding_all rfl) (by decide) (by rfl) (by decide) (by rfl) ?_)) | ((with_reducible show wpAny _ _ (subscriptTail _ _ (Value.ref _) (Value.int _ _)) _ _ _); k_dflt (refine' item_listN (by k_asm) (by k_mem) (by first | decide | omega) (by first | decide | omega) (by first | rfl | assumption) ?_; k_whole)) | ((with_reducible show wpAny _ _ (subscriptTail _ _ (Value.ref _) (Value.int _ _)) _ _ _); k_dflt (refine' item_tupleT (by exact News.isTup (by k_asm) (by k_mem)) (by decide) (by decide) (by rfl) (by rfl) ?_; k_whole)) | walk1 | (dsimp only; walk1) | (leave1; walk_say "STEP leave1"; try dsimp only) | fail "no step"))
          all_goals (first
          | exact True.intro
          | (rename Fr _ _ _ _ => kF; rename News _ _ _ _ => kN; exact ed_end kF kN (frD_of rfl rfl (by intro z e1 e2; simp [frD, e1, e2])) (by intro p hp; (replace hp := hsub5 p hp); (repeat' (first | exact hp | refine List.mem_cons_of_mem _ ?_))) (by intro p hp; (replace hp := b5 p hp); (repeat' (first | exact hp | refine List.mem_cons_of_mem _ ?_))) hoff hc3 (.head _))
          | (exfalso; simp_all; done)
          | fail "left")
    case done =>
      rintro m₁ nx h tk hl2 ⟨u1, u2, o3', c, rfl, hnx, hc⟩ F₁ N₁
      rw [hnx] at N₁
      exact ⟨rfl, h, tk, _, o3', c, rfl, F₁, fun p hp => N₁ p (.tail _ hp), hc⟩
  clear F N
  unfold Later
  rintro s' ⟨h, tk, mD, oD3, cD, rfl, F, N, hcD⟩
  (try clear dP); (try clear mP); (try clear hlP); (try clear hlP2); (try clear hsub); (try clear dR); (try clear mR); (try clear off)
  obtain ⟨Bd, hBd⟩ : ∃ Bd : Nat, 2 * D ≤ Bd := ⟨(2 * D).toNat, by omega⟩
  (repeat' (first | (k_unfold; (try dsimp only)) | (k_end; wrow_close) | ((with_reducible show wpAny _ _ (execs (Stmt.Assign _ (Expr.Call _ _ _ _) _ :: Stmt.Assign _ (Expr.Compare _ _ _ _) _ :: _) _) _ _ _); (refine' execs_mid (MidE0 s₂ s1.heap s1.heap.objs.size lE (s1.heap.objs.size + 1) (s1.heap.objs.size + 1 + 1) (s1.heap.objs.size + 1 + 1 + 1) (listOf [Value.bool false, Value.bool true].toArray 0) o1 o2 big (fun z => if z = "pairs" then some (.ref lP) else if z = "turn" then some (.int tv tt) else m z) e9 rs) ?_ ?_)) | ((with_reducible show wpAny _ _ (exec (Stmt.For ..) _) _ _ _); ((rename Fr _ _ _ _ => lF'); (with_unfolding_all refine' For_invTF lF' ?_ (by (intro _; rfl)); k_whole))) | ((with_reducible show wpAny _ _ (exec (Stmt.For ..) _) _ _ _); ((rename Fr _ _ _ _ => lF'); (with_unfolding_all refine' For_invTF lF' ?_ (by (intro _; rfl)); k_whole))) | ((with_reducible show wpAny _ _ (call (Value.builtin "list.append") [Value.ref _, Value.ref _]) _ _ _); k_dflt (refine' append_K (by k_asm) (by k_asm) (by k_upd) ?_ (by (rw [PySem.sizeLine_eq, List.size_toArray]; omega))); intro h9 F9 N9; (try k_sweep)) | ((with_reducible show wpAny _ _ (call (Value.ref 238) [Value.ref _]) _ _ _); k_dflt (refine' covered_c (by k_asm) (by k_asm) (by k_asm) (by k_asm) (by k_asm) (by exact rfl) (by exact rfl) (by ktr_room) (by ktr_units) (by assumption) (by assumption) (by assumption) (by k_mem) (by assumption) (by assumption) (by omega) (by assumption) ?_; k_whole; intro ss9 mem9 up9 t9 h9 d9 tk9 F9 N9; (try k_fold); (try k_sweep))) | ((with_reducible show wpAny _ _ (call (Value.ref 193) _ _) _ _ _); (k_dflt (refine' intersection_d (by k_asm) (by k_asm) (by k_asm) (by k_asm) (by k_asm) (by exact rfl) (by exact rfl) (by ktr_room) (by ktr_units) (by k_mem) (by k_mem) (by k_mem) (by k_mem) (by omega) (by omega) (by omega) (by omega) ?_ ?_; all_goals (k_whole; (first | (intro c9 a9 d9 k91 k92 k93 k94 k95 kw9 kh9 kx9 ky9 h9 tk9 F9 N9 l91 l92; (try k_lt l91); (try k_lt2 l92)) | (intro c9 h9 tk9 F9 N9)); (try dsimp only); (try k_fold); (try k_sweep))))) | ((with_reducible show wpAny _ _ (call (Value.ref 163) _ _) _ _ _); (k_dflt (refine' area_c (by k_asm) (by k_asm) (by k_asm) (by k_asm) (by k_asm) (by exact rfl) (by exact rfl) (by ktr_room) (by ktr_units) (by k_mem) (by k_mem) (by mul_fits) ?_; k_whole; intro t9 h9 tk9 F9 N9; (try dsimp only); (try k_fold); (try k_sweep)))) | ((with_reducible show wpAny _ _ (compareOp CmpOp.NotEq Value.none Value.none) _ _ _); (k_dflt (refine' dat_ne (by k_asm) (by exact DatIn.none) (by exact DatIn.none) (by rfl) (by rfl) (by ktr_units) ?_); (try simp only [decide_true, Bool.not_true]))) | ((with_reducible show wpAny _ _ (compareOp CmpOp.NotEq (Value.ref _) (Value.ref _)) _ _ _); k_dflt (refine' dat_ne (by k_asm) (by exact row_close (by k_mem)) (by exact row_close (by k_mem)) (by rfl) (by rfl) (by ktr_units) ?_); (try simp only [decide_true, Bool.not_true])) | ((with_reducible show wpAny _ _ (binaryOp _ (Value.ref _) (Value.ref _)) _ _ _); k_dflt (refine' kmk_add_lit (by k_asm) (by k_asm) (by exact News.isList (by k_asm) (by k_mem)) (by exact News.isList (by k_asm) (by k_mem)) (by exact rfl) ?_ (by (rw [PySem.sizeLine_eq]; simp only [List.toList_toArray, List.length_drop, List.length_take, List.length_cons, List.length_nil]; omega))); intro D' h' F' N' l1; (try k_lt l1); (try k_sweep)) | ((with_reducible show wpAny _ _ (subscriptTail (Expr.Name ..) (Expr.Slice ..) (Value.ref _) (Value.ref _)) _ _ _); (k_dflt (refine' kmk_slice_lit (by k_asm) (by k_asm) (by exact ⟨_, News.get (by k_asm) (by k_mem), rfl, _, rfl⟩) (by kmk_part) (by kmk_part) (by first | exact slice_from _ (by assumption) | exact slice_upto _ (by assumption)) ?_ (by with_unfolding_all rfl) (by kmk_pure) (by (rw [PySem.sizeLine_eq, List.size_toArray]; omega))); intro D' h' F' N' l1; (try k_lt l1); (try k_sweep))) | ((with_reducible show wpAny _ _ (call (Value.ref 233) _ _) _ _ _); (k_dflt (refine' one_any (by k_asm) (by k_asm) (by k_asm) (by k_asm) (by k_asm) (by exact rfl) (by exact rfl) (by ktr_room) (by ktr_units) (by k_mem) (by (first | exact datall_mono (by (intro p hp; repeat' (first | exact hp | refine List.mem_cons_of_mem _ ?_))) dR3 | exact datall_mono (by (intro p hp; repeat' (first | exact hp | refine List.mem_cons_of_mem _ ?_))) dRot)) (by (first | omega | (simp only [List.length_append, List.length_drop, List.length_take]; omega))) (by (first | omega | (simp only [List.length_append, List.length_drop, List.length_take]; omega))) (by (first | exact hwR | exact hwRot)) ?_ ?_; all_goals (k_whole; ((first | (intro q8 hd1 t8 s81 s82 s83 s84 n8 h9 tk9 F9 N9; ((first | rw [hone, hd0] at hd1 | rw [hone2, hd0] at hd1); cases hd1) <;> ((try k_fold); (try k_sweep))) | (intro hd1 h9 tk9 F9 N9; ((first | rw [hone, hd0] at hd1 | rw [hone2, hd0] at hd1); cases hd1) <;> ((try k_fold); (try k_sweep))))))))) | ((with_reducible show wpAny _ _ (call (Value.ref 226) _ _) _ _ _); (k_dflt (refine' shared_any (by k_asm) (by k_asm) (by k_asm) (by k_asm) (by k_asm) (by exact rfl) (by exact rfl) (by ktr_room) (by ktr_units) (by k_mem) (by (first | exact datall_mono (by (intro p hp; repeat' (first | exact hp | refine List.mem_cons_of_mem _ ?_))) dR3 | exact datall_mono (by (intro p hp; repeat' (first | exact hp | refine List.mem_cons_of_mem _ ?_))) dRot)) (by omega) (by omega) ?_ ?_; all_goals (k_whole; ((first | (intro q9 hd0 t9 s91 s92 s93 s94 n9 h9 tk9 F9 N9; (try k_fold); (try k_sweep)) | (intro hd0 h9 tk9 F9 N9; (try k_fold); (try k_sweep)))))))) | ((with_reducible show wpAny _ _ (call (Value.ref 185) _ _) _ _ _); (k_dflt (refine' intersects_c (by k_asm) (by k_asm) (by k_asm) (by k_asm) (by k_asm) (by exact rfl) (by exact rfl) (by ktr_room) (by ktr_units) (by k_mem) (by k_mem) (by k_mem) (by k_mem) ?_; k_whole; intro t9 h9 tk9 F9 N9; (try dsimp only); (try k_fold); (try k_sweep)))) | ((with_reducible show wpAny _ _ (call (Value.ref 214) _ _) _ _ _); (k_dflt (refine' box_c (by k_asm) (by k_asm) (by k_asm) (by k_asm) (by k_asm) (by exact rfl) (by exact rfl) (by ktr_room) (by ktr_units) (by k_mem) (by omega) (by omega) ?_; k_whole; intro a9 d9 k91 k92 k93 k94 k95 kw9 kh9 kx9 ky9 h9 tk9 F9 N9 l91 l92; (try k_lt l91); (try k_lt2 l92); (try dsimp only); (try k_fold); (try k_sweep)))) | ((with_reducible show wpAny _ _ (compareOp CmpOp.NotIn (Value.bool false) (Value.ref _)) _ _ _); k_dflt (refine' notIn_boolsN (by k_asm) (by k_mem) ?_)) | ((with_reducible show wpAny _ _ (compareOp CmpOp.In (Value.bool false) (Value.ref _)) _ _ _); k_dflt (refine' in_boolsN (by k_asm) (by k_mem) ?_)) | ((with_reducible show wpAny _ _ (call (Value.ref 245) _ _) _ _ _); (k_dflt (refine' pair_c (by k_asm) (by k_asm) (by k_asm) (by k_asm) (by k_asm) (by exact rfl) (by exact rfl) (by ktr_room) (by ktr_units) (by assumption) (by assumption) (by k_mem) (by k_mem) (by exact ⟨by omega, by omega⟩) (by exact ⟨by omega, by omega⟩) (by exact ⟨by omega, by omega⟩) (by exact ⟨by omega, by omega⟩) (by exact ⟨by omega, by omega⟩) (by exact ⟨by omega, by omega⟩) (by exact ⟨by omega, by omega⟩) (by exact ⟨by omega, by omega⟩) ?_; k_whole; intro h9 tk9 F9 N9; (try k_fold); (try k_sweep)))) | ((with_reducible show LCg.CompEnd ..); (k_dflt (refine' LCg.CompEnd.intro (by assumption) (by assumption) _ (by (intro p hp; repeat' (first | exact hp | refine List.mem_cons_of_mem _ ?_))) (by assumption) (by (exact Or.inr ⟨_, by k_mem, rfl, _, rfl⟩)) ⟨rfl, rfl⟩))) | ((with_reducible show LCp.SrcLP ..); (k_dflt (refine' LCp.SrcLP.ledger (by rfl) (by k_asm) (by k_asm) (by k_mem) (by (rw [PySem.sizeLine_eq, List.size_toArray]; omega)) ?_); ((intro g9; k_dflt (refine' pairs_comp pf9 (datall_mono (by intro p hp; repeat' (first | exact hp | refine List.mem_cons_of_mem _ ?_)) dP) (fun p9 t9 u9 t91 t92 t93 t94 u91 u92 u93 u94 n9 k9 I9 oI9 C9 oC9 D9 m29 ys9 h9 tk9 E9 hp9 mt9 mu9 hC9 hx9 hy9 F9 N9 off9 ne9 => ?_) ?_); (focus (obtain ⟨⟨⟨b1, b2⟩, ⟨b3, b4⟩, ⟨b5, b6⟩, b7, b8⟩, ⟨d1, d2⟩, ⟨d3, d4⟩, ⟨d5, d6⟩, d7, d8⟩ := pair_within hbR hp9)))))) | ((with_reducible show wpAny _ _ (eval (Expr.ListComp _ [⟨Expr.Tuple _ _ _, _, [], _⟩] _ _) _) _ _ _); k_dflt (refine LCp.ListComp_P (F₀ := by k_asm) (by with_unfolding_all rfl) (by decide) (by rfl) (by decide) (by rfl) (by rfl) (by decide) ?_)) | ((with_reducible show wpAny _ _ (truthy (Value.ref _)) _ _ _); k_dflt (refine' truthy_listN (by k_asm) (by k_mem) (by assumption) (by omega) ?_); intro tk9; (try k_sweep)) | ((with_reducible show wpAny _ _ (call (Value.builtin "len") [Value.ref _]) _ _ _); k_dflt (refine' len_listN (by k_asm) (by k_mem) (by exact rows_len (by assumption)) (by (first | omega | (simp only [List.length_map, List.length_range]; omega))) ?_); intro t9 tk9; (try k_sweep)) | ((with_reducible show wpAny _ _ (execs (Stmt.If (Expr.Compare (Expr.Call _ _ _ _) [CmpOp.Lt] _ _) _ _ _ :: _) _) _ _ _); (refine' execs_mid (MidA s1 s1.heap s1.heap.objs.size (s1.heap.objs.size + 1) (s1.heap.objs.size + 1 + 1) (s1.heap.objs.size + 1 + 1 + 1) (List.take 16 nsI)) ?_ ?_)) | ((with_reducible show LCg.CompEnd ..); (k_dflt (refine' row_end (by assumption) (by assumption) (by assumption) (by assumption) (by exact trivial) (by rfl)))) | ((with_reducible show SrcStep ..); ((rename IntsAre _ (List.take 16 _) => hI16); k_dflt (refine' src_rows (by assumption) hI16 (by (rw [List.length_take]; omega)) (by rfl) (by assumption) (by assumption) (fun i9 k9 z09 z19 z29 z39 t9 nx9 I9 oI9 C9 oC9 D9 m29 ys9 h9 tk9 E9 hk0 hk1 hx0 hx1 hx2 hx3 hs9 hC9 hx9 F9 N9 off9 ne9 => ?_) (fun g9 ys9 tl9 hlt9 hD9 D9 h9 tk9 F9 N9 o19 => ?_)); (focus ((have q1 := hs9 _ (.head _)); (have q2 := hs9 _ (.tail _ (.head _))); (have q3 := hs9 _ (.tail _ (.tail _ (.head _)))); (have q4 := hs9 _ (.tail _ (.tail _ (.tail _ (.head _)))))) ; skip); (rotate_left 1); (obtain ⟨N8, hne1, hne2, hne3⟩ := rows_start N9 o19 hlt9 (by assumption)); (clear N9); (rotate_right 1))) | ((with_reducible show wpAny _ _ (eval (Expr.ListComp _ [⟨Expr.Name _ _, _, [], _⟩] _ _) _) _ _ _); k_dflt (refine ListComp_step (F₀ := by k_asm) (by with_unfolding_all rfl) (by decide) (by rfl) (by decide) (by rfl) ?_)) | ((with_reducible show wpAny _ _ (subscriptTail _ _ (Value.ref _) (Value.int _ _)) _ _ _); k_dflt (refine' item_listN (by k_asm) (by k_mem) (by first | decide | omega) (by first | decide | omega) (by first | rfl | assumption) ?_; k_whole)) | ((with_reducible show wpAny _ _ (subscriptTail _ _ (Value.ref _) (Value.int _ _)) _ _ _); k_dflt (refine' item_tupleT (by exact News.isTup (by k_asm) (by k_mem)) (by decide) (by decide) (by rfl) (by rfl) ?_; k_whole)) | walk1 | (dsimp only; walk1) | (leave1; walk_say "STEP leave1"; try dsimp only) | fail "no step"))
  rename Fr _ _ _ _ => kF
  rename News _ _ _ _ => kN
  refine' iterT_list (vs := vsR) (nn := kR) (ShJ x0.params rs mD ((s1.heap.objs.size + 1 + 1 + 1, oD3) :: (s1.heap.objs.size + 1 + 1, o2) :: (s1.heap.objs.size + 1, o1) :: nb2)) ?hh ?hl kF kN ?hj (.inr ⟨_, _, rfl⟩) ?turn ?done
  case hh => rfl
  case hl => exact .tail _ (.tail _ (.tail _ (.tail _ (.tail _ mR2))))
  case hj => exact ⟨_, [], 0, _, _, _, _, _, _, frS_of rfl rfl rfl rfl rfl rfl rfl (by intro z e1 e2 e3 e4 e5 e6 e7; simp [e1, e2]), fun p hp => .tail _ (.tail _ hp), .tail _ (.head _), AllE.nil⟩
  case turn =>
    rintro i v m₁ nx s₂ own hv hoff hl2 ⟨S, vsS, kS, tA, u1, u2, u3, u4, u5, rfl, hbase, hS, hEl⟩ F₁ N₁
    obtain ⟨r, hr, hd⟩ := rows_get dR2 hv
    obtain ⟨t, t1, t2, t3, t4, n, rfl, hm⟩ := row_open hd
    have hrD := hbR r (List.mem_of_getElem? hr)
    unfold Within at hrD
    obtain ⟨⟨r1, r2⟩, ⟨r3, r4⟩, ⟨r5, r6⟩, r7, r8⟩ := hrD
    have hbE := bndE_of (bnd_sh hbR i)
    have hlS := sh_len hr4 i
    have hnext := shU_succ hr
    generalize shU (rs.take i) = SA at F₁ hEl hbE hlS hnext
    obtain ⟨SL, A0⟩ := SA
    dsimp only at F₁ hEl hbE hlS
    have hlv := hEl.1
    unfold liftE at hlv
    rw [List.length_map] at hlv
    have w0 : ∀ p ∈ nx, p ∈ nx ++ own := fun p hp => List.mem_append_left _ hp
    have w5 : ∀ p ∈ own, p ∈ nx ++ own := fun p hp => List.mem_append_right _ hp
    generalize nx ++ own = big at N₁ w0 w5
    have qS := w0 _ hS
    have qm := w0 _ (hbase _ (.tail _ (.tail _ (.tail _ hm))))
    have qE := hEl.mono w0
    clear kF kN
    (repeat' (first | (k_unfold; (try dsimp only)) | (k_end; wrow_close) | ((with_reducible show wpAny _ _ (execs (Stmt.Assign _ (Expr.Call _ _ _ _) _ :: Stmt.Assign _ (Expr.Compare _ _ _ _) _ :: _) _) _ _ _); (refine' execs_mid (MidE0 s₂ s1.heap s1.heap.objs.size lE (s1.heap.objs.size + 1) (s1.heap.objs.size + 1 + 1) (s1.heap.objs.size + 1 + 1 + 1) (listOf [Value.bool false, Value.bool true].toArray 0) o1 o2 big (fun z => if z = "pairs" then some (.ref lP) else if z = "turn" then some (.int tv tt) else m z) e9 rs) ?_ ?_)) | ((with_reducible show wpAny _ _ (exec (Stmt.For ..) _) _ _ _); ((rename Fr _ _ _ _ => lF'); (with_unfolding_all refine' For_invTF lF' ?_ (by (intro _; rfl)); k_whole))) | ((with_reducible show wpAny _ _ (exec (Stmt.For ..) _) _ _ _); ((rename Fr _ _ _ _ => lF'); (with_unfolding_all refine' For_invTF lF' ?_ (by (intro _; rfl)); k_whole))) | ((with_reducible show wpAny _ _ (call (Value.builtin "list.append") [Value.ref _, Value.ref _]) _ _ _); k_dflt (refine' append_K (by k_asm) (by k_asm) (by k_upd) ?_ (by (rw [PySem.sizeLine_eq, List.size_toArray]; omega))); intro h9 F9 N9; (try k_sweep)) | ((with_reducible show wpAny _ _ (call (Value.ref 238) [Value.ref _]) _ _ _); k_dflt (refine' covered_c (by k_asm) (by k_asm) (by k_asm) (by k_asm) (by k_asm) (by exact rfl) (by exact rfl) (by ktr_room) (by ktr_units) (by assumption) (by assumption) (by assumption) (by k_mem) (by assumption) (by assumption) (by omega) (by assumption) ?_; k_whole; intro ss9 mem9 up9 t9 h9 d9 tk9 F9 N9; (try k_fold); (try k_sweep))) | ((with_reducible show wpAny _ _ (call (Value.ref 193) _ _) _ _ _); (k_dflt (refine' intersection_d (by k_asm) (by k_asm) (by k_asm) (by k_asm) (by k_asm) (by exact rfl) (by exact rfl) (by ktr_room) (by ktr_units) (by k_mem) (by k_mem) (by k_mem) (by k_mem) (by omega) (by omega) (by omega) (by omega) ?_ ?_; all_goals (k_whole; (first | (intro c9 a9 d9 k91 k92 k93 k94 k95 kw9 kh9 kx9 ky9 h9 tk9 F9 N9 l91 l92; (try k_lt l91); (try k_lt2 l92)) | (intro c9 h9 tk9 F9 N9)); (try dsimp only); (try k_fold); (try k_sweep))))) | ((with_reducible show wpAny _ _ (call (Value.ref 163) _ _) _ _ _); (k_dflt (refine' area_c (by k_asm) (by k_asm) (by k_asm) (by k_asm) (by k_asm) (by exact rfl) (by exact rfl) (by ktr_room) (by ktr_units) (by k_mem) (by k_mem) (by mul_fits) ?_; k_whole; intro t9 h9 tk9 F9 N9; (try dsimp only); (try k_fold); (try k_sweep)))) | ((with_reducible show wpAny _ _ (compareOp CmpOp.NotEq Value.none Value.none) _ _ _); (k_dflt (refine' dat_ne (by k_asm) (by exact DatIn.none) (by exact DatIn.none) (by rfl) (by rfl) (by ktr_units) ?_); (try simp only [decide_true, Bool.not_true]))) | ((with_reducible show wpAny _ _ (compareOp CmpOp.NotEq (Value.ref _) (Value.ref _)) _ _ _); k_dflt (refine' dat_ne (by k_asm) (by exact row_close (by k_mem)) (by exact row_close (by k_mem)) (by rfl) (by rfl) (by ktr_units) ?_); (try simp only [decide_true, Bool.not_true])) | ((with_reducible show wpAny _ _ (binaryOp _ (Value.ref _) (Value.ref _)) _ _ _); k_dflt (refine' kmk_add_lit (by k_asm) (by k_asm) (by exact News.isList (by k_asm) (by k_mem)) (by exact News.isList (by k_asm) (by k_mem)) (by exact rfl) ?_ (by (rw [PySem.sizeLine_eq]; simp only [List.toList_toArray, List.length_drop, List.length_take, List.length_cons, List.length_nil]; omega))); intro D' h' F' N' l1; (try k_lt l1); (try k_sweep)) | ((with_reducible show wpAny _ _ (subscriptTail (Expr.Name ..) (Expr.Slice ..) (Value.ref _) (Value.ref _)) _ _ _); (k_dflt (refine' kmk_slice_lit (by k_asm) (by k_asm) (by exact ⟨_, News.get (by k_asm) (by k_mem), rfl, _, rfl⟩) (by kmk_part) (by kmk_part) (by first | exact slice_from _ (by assumption) | exact slice_upto _ (by assumption)) ?_ (by with_unfolding_all rfl) (by kmk_pure) (by (rw [PySem.sizeLine_eq, List.size_toArray]; omega))); intro D' h' F' N' l1; (try k_lt l1); (try k_sweep))) | ((with_reducible show wpAny _ _ (call (Value.ref 233) _ _) _ _ _); (k_dflt (refine' one_any (by k_asm) (by k_asm) (by k_asm) (by k_asm) (by k_asm) (by exact rfl) (by exact rfl) (by ktr_room) (by ktr_units) (by k_mem) (by (first | exact datall_mono (by (intro p hp; repeat' (first | exact hp | refine List.mem_cons_of_mem _ ?_))) dR3 | exact datall_mono (by (intro p hp; repeat' (first | exact hp | refine List.mem_cons_of_mem _ ?_))) dRot)) (by (first | omega | (simp only [List.length_append, List.length_drop, List.length_take]; omega))) (by (first | omega | (simp only [List.length_append, List.length_drop, List.length_take]; omega))) (by (first | exact hwR | exact hwRot)) ?_ ?_; all_goals (k_whole; ((first | (intro q8 hd1 t8 s81 s82 s83 s84 n8 h9 tk9 F9 N9; ((first | rw [hone, hd0] at hd1 | rw [hone2, hd0] at hd1); cases hd1) <;> ((try k_fold); (try k_sweep))) | (intro hd1 h9 tk9 F9 N9; ((first | rw [hone, hd0] at hd1 | rw [hone2, hd0] at hd1); cases hd1) <;> ((try k_fold); (try k_sweep))))))))) | ((with_reducible show wpAny _ _ (call (Value.ref 226) _ _) _ _ _); (k_dflt (refine' shared_any (by k_asm) (by k_asm) (by k_asm) (by k_asm) (by k_asm) (by exact rfl) (by exact rfl) (by ktr_room) (by ktr_units) (by k_mem) (by (first | exact datall_mono (by (intro p hp; repeat' (first | exact hp | refine List.mem_cons_of_mem _ ?_))) dR3 | exact datall_mono (by (intro p hp; repeat' (first | exact hp | refine List.mem_cons_of_mem _ ?_))) dRot)) (by omega) (by omega) ?_ ?_; all_goals (k_whole; ((first | (intro q9 hd0 t9 s91 s92 s93 s94 n9 h9 tk9 F9 N9; (try k_fold); (try k_sweep)) | (intro hd0 h9 tk9 F9 N9; (try k_fold); (try k_sweep)))))))) | ((with_reducible show wpAny _ _ (call (Value.ref 185) _ _) _ _ _); (k_dflt (refine' intersects_c (by k_asm) (by k_asm) (by k_asm) (by k_asm) (by k_asm) (by exact rfl) (by exact rfl) (by ktr_room) (by ktr_units) (by k_mem) (by k_mem) (by k_mem) (by k_mem) ?_; k_whole; intro t9 h9 tk9 F9 N9; (try dsimp only); (try k_fold); (try k_sweep)))) | ((with_reducible show wpAny _ _ (call (Value.ref 214) _ _) _ _ _); (k_dflt (refine' box_c (by k_asm) (by k_asm) (by k_asm) (by k_asm) (by k_asm) (by exact rfl) (by exact rfl) (by ktr_room) (by ktr_units) (by k_mem) (by omega) (by omega) ?_; k_whole; intro a9 d9 k91 k92 k93 k94 k95 kw9 kh9 kx9 ky9 h9 tk9 F9 N9 l91 l92; (try k_lt l91); (try k_lt2 l92); (try dsimp only); (try k_fold); (try k_sweep)))) | ((with_reducible show wpAny _ _ (compareOp CmpOp.NotIn (Value.bool false) (Value.ref _)) _ _ _); k_dflt (refine' notIn_boolsN (by k_asm) (by k_mem) ?_)) | ((with_reducible show wpAny _ _ (compareOp CmpOp.In (Value.bool false) (Value.ref _)) _ _ _); k_dflt (refine' in_boolsN (by k_asm) (by k_mem) ?_)) | ((with_reducible show wpAny _ _ (call (Value.ref 245) _ _) _ _ _); (k_dflt (refine' pair_c (by k_asm) (by k_asm) (by k_asm) (by k_asm) (by k_asm) (by exact rfl) (by exact rfl) (by ktr_room) (by ktr_units) (by assumption) (by assumption) (by k_mem) (by k_mem) (by exact ⟨by omega, by omega⟩) (by exact ⟨by omega, by omega⟩) (by exact ⟨by omega, by omega⟩) (by exact ⟨by omega, by omega⟩) (by exact ⟨by omega, by omega⟩) (by exact ⟨by omega, by omega⟩) (by exact ⟨by omega, by omega⟩) (by exact ⟨by omega, by omega⟩) ?_; k_whole; intro h9 tk9 F9 N9; (try k_fold); (try k_sweep)))) | ((with_reducible show LCg.CompEnd ..); (k_dflt (refine' LCg.CompEnd.intro (by assumption) (by assumption) _ (by (intro p hp; repeat' (first | exact hp | refine List.mem_cons_of_mem _ ?_))) (by assumption) (by (exact Or.inr ⟨_, by k_mem, rfl, _, rfl⟩)) ⟨rfl, rfl⟩))) | ((with_reducible show LCp.SrcLP ..); (k_dflt (refine' LCp.SrcLP.ledger (by rfl) (by k_asm) (by k_asm) (by k_mem) (by (rw [PySem.sizeLine_eq, List.size_toArray]; omega)) ?_); ((intro g9; k_dflt (refine' pairs_comp pf9 (datall_mono (by intro p hp; repeat' (first | exact hp | refine List.mem_cons_of_mem _ ?_)) dP) (fun p9 t9 u9 t91 t92 t93 t94 u91 u92 u93 u94 n9 k9 I9 oI9 C9 oC9 D9 m29 ys9 h9 tk9 E9 hp9 mt9 mu9 hC9 hx9 hy9 F9 N9 off9 ne9 => ?_) ?_); (focus (obtain ⟨⟨⟨b1, b2⟩, ⟨b3, b4⟩, ⟨b5, b6⟩, b7, b8⟩, ⟨d1, d2⟩, ⟨d3, d4⟩, ⟨d5, d6⟩, d7, d8⟩ := pair_within hbR hp9)))))) | ((with_reducible show wpAny _ _ (eval (Expr.ListComp _ [⟨Expr.Tuple _ _ _, _, [], _⟩] _ _) _) _ _ _); k_dflt (refine LCp.ListComp_P (F₀ := by k_asm) (by with_unfolding_all rfl) (by decide) (by rfl) (by decide) (by rfl) (by rfl) (by decide) ?_)) | ((with_reducible show wpAny _ _ (truthy (Value.ref _)) _ _ _); k_dflt (refine' truthy_listN (by k_asm) (by k_mem) (by assumption) (by omega) ?_); intro tk9; (try k_sweep)) | ((with_reducible show wpAny _ _ (call (Value.builtin "len") [Value.ref _]) _ _ _); k_dflt (refine' len_listN (by k_asm) (by k_mem) (by exact rows_len (by assumption)) (by (first | omega | (simp only [List.length_map, List.length_range]; omega))) ?_); intro t9 tk9; (try k_sweep)) | ((with_reducible show wpAny _ _ (execs (Stmt.If (Expr.Compare (Expr.Call _ _ _ _) [CmpOp.Lt] _ _) _ _ _ :: _) _) _ _ _); (refine' execs_mid (MidA s1 s1.heap s1.heap.objs.size (s1.heap.objs.size + 1) (s1.heap.objs.size + 1 + 1) (s1.heap.objs.size + 1 + 1 + 1) (List.take 16 nsI)) ?_ ?_)) | ((with_reducible show LCg.CompEnd ..); (k_dflt (refine' row_end (by assumption) (by assumption) (by assumption) (by assumption) (by exact trivial) (by rfl)))) | ((with_reducible show SrcStep ..); ((rename IntsAre _ (List.take 16 _) => hI16); k_dflt (refine' src_rows (by assumption) hI16 (by (rw [List.length_take]; omega)) (by rfl) (by assumption) (by assumption) (fun i9 k9 z09 z19 z29 z39 t9 nx9 I9 oI9 C9 oC9 D9 m29 ys9 h9 tk9 E9 hk0 hk1 hx0 hx1 hx2 hx3 hs9 hC9 hx9 F9 N9 off9 ne9 => ?_) (fun g9 ys9 tl9 hlt9 hD9 D9 h9 tk9 F9 N9 o19 => ?_)); (focus ((have q1 := hs9 _ (.head _)); (have q2 := hs9 _ (.tail _ (.head _))); (have q3 := hs9 _ (.tail _ (.tail _ (.head _)))); (have q4 := hs9 _ (.tail _ (.tail _ (.tail _ (.head _)))))) ; skip); (rotate_left 1); (obtain ⟨N8, hne1, hne2, hne3⟩ := rows_start N9 o19 hlt9 (by assumption)); (clear N9); (rotate_right 1))) | ((with_reducible show wpAny _ _ (eval (Expr.ListComp _ [⟨Expr.Name _ _, _, [], _⟩] _ _) _) _ _ _); k_dflt (refine ListComp_step (F₀ := by k_asm) (by with_unfolding_all rfl) (by decide) (by rfl) (by decide) (by rfl) ?_)) | ((with_reducible show wpAny _ _ (subscriptTail _ _ (Value.ref _) (Value.int _ _)) _ _ _); k_dflt (refine' item_listN (by k_asm) (by k_mem) (by first | decide | omega) (by first | decide | omega) (by first | rfl | assumption) ?_; k_whole)) | ((with_reducible show wpAny _ _ (subscriptTail _ _ (Value.ref _) (Value.int _ _)) _ _ _); k_dflt (refine' item_tupleT (by exact News.isTup (by k_asm) (by k_mem)) (by decide) (by decide) (by rfl) (by rfl) ?_; k_whole)) | walk1 | (dsimp only; walk1) | (leave1; walk_say "STEP leave1"; try dsimp only) | fail "no step"))
    rename_i hA tkA lM hB f0 hC lT hD f1 lL hE f2
    revert D' h' F' N' l1
    intro lE hF kF kN f3
    have qE2 : AllE x0.params ((lE, listOf (Value.ref lT :: vsS).toArray 0) :: (lL, listOf [Value.ref lT].toArray 0) :: (lT, tup2 .none (.int 1 tk) 0) :: big) (.ref lT :: vsS) (allE SL) := AllE.app (vs := [_]) (AllE.one (e := (none, 1)) ⟨lT, .none, tk, 0, rfl, .tail _ (.tail _ (.head _)), rfl⟩) (qE.mono fun p hp => .tail _ (.tail _ (.tail _ hp)))
    have hne0 : ∀ p ∈ (lE, listOf (Value.ref lT :: vsS).toArray 0) :: (lL, listOf [Value.ref lT].toArray 0) :: (lT, tup2 .none (.int 1 tk) 0) :: big, p.1 ≠ lM := fun p hp => by
      rcases List.mem_cons.mp hp with rfl | hp
      · exact Nat.ne_of_gt f3.2.2.1
      · rcases List.mem_cons.mp hp with rfl | hp
        · exact Nat.ne_of_gt f2.2.1
        · rcases List.mem_cons.mp hp with rfl | hp
          · exact Nat.ne_of_gt f1.1
          · exact Nat.ne_of_lt (f0 p hp)
    have N2 : News s1.heap s1.heap.objs.size hF ((lM, listOf [].toArray 0) :: (lE, listOf (Value.ref lT :: vsS).toArray 0) :: (lL, listOf [Value.ref lT].toArray 0) :: (lT, tup2 .none (.int 1 tk) 0) :: big) := fun p hp => kN p (by
      simp only [List.mem_cons] at hp
      rcases hp with rfl | rfl | rfl | rfl | hp
      · exact .tail _ (.tail _ (.tail _ (.head _)))
      · exact .head _
      · exact .tail _ (.head _)
      · exact .tail _ (.tail _ (.head _))
      · exact .tail _ (.tail _ (.tail _ (.tail _ hp))))
    have w6 : ∀ p ∈ big, p ∈ (lE, listOf (Value.ref lT :: vsS).toArray 0) :: (lL, listOf [Value.ref lT].toArray 0) :: (lT, tup2 .none (.int 1 tk) 0) :: big := fun p hp => .tail _ (.tail _ (.tail _ hp))
    have hlE := List.Mem.head (a := (lE, listOf (Value.ref lT :: vsS).toArray 0)) ((lL, listOf [Value.ref lT].toArray 0) :: (lT, tup2 .none (.int 1 tk) 0) :: big)
    have f4 : ∀ p ∈ big, p.1 ≠ lE := fun p hp => Nat.ne_of_lt (allLt_forall f3.2.2.2 p hp)
    clear kN
    generalize (lE, listOf (Value.ref lT :: vsS).toArray 0) :: (lL, listOf [Value.ref lT].toArray 0) :: (lT, tup2 .none (.int 1 tk) 0) :: big = base2 at qE2 hne0 N2 w6 hlE
    have qm2 := w6 _ qm
    refine' iterT_list (vs := .ref lT :: vsS) (nn := 0) (InJ x0.params r (allE SL) A0 (.ref S) (.ref t) lM mD base2) ?hh2 (.tail _ hlE) kF N2 ?hj2 (.inl ⟨_, _, _, rfl⟩) ?turn2 ?done2
    case hh2 => rfl
    case hj2 => exact ⟨[], 0, _, [], _, _, _, frS_of rfl rfl rfl rfl rfl rfl rfl (by intro z e1 e2 e3 e4 e5 e6 e7; simp [frS, e1, e2, e3, e4, e5, e6, e7]), rfl, (fun p hp => by cases hp), AllE.nil⟩
    case turn2 =>
      rintro j v₂ m₂ nx2 s₃ own2 hv2 hoff2 hl3 ⟨ys, ky, tA2, fr, v3, v4, v5, rfl, hnx, hnew, hY⟩ F₂ N₂
      rw [hnx] at N₂ hoff2 hl3
      clear hnx
      obtain ⟨e, he, tE, bv, zE, nE, rfl, hmE, hO⟩ := qE2.2 j v₂ hv2
      have hbe := hbE _ (List.mem_of_getElem? he)
      have hlY := hY.1
      have hlY2 := more_len (r := r) (SL := SL) j
      rw [← hlY] at hlY2
      have hKE : ∀ (o : Obj) (f : List (Addr × Obj)), (lE, listOf (Value.ref lT :: vsS).toArray 0) ∈ (lM, o) :: (f ++ base2) := fun _ _ => .tail _ (List.mem_append_right _ hlE)
      have hne2 : ∀ p ∈ (fr ++ base2) ++ own2, p.1 ≠ lM := fun p hp => by
        rcases List.mem_append.mp hp with hp | hp
        · rcases List.mem_append.mp hp with hp | hp
          · exact Nat.ne_of_gt (hnew p hp).1
          · exact hne0 p hp
        · exact hoff2 p hp lM (List.mem_map.mpr ⟨_, .head _, rfl⟩)
      have b1 : ∀ p ∈ fr ++ base2, p ∈ (fr ++ base2) ++ own2 := fun p hp => List.mem_append_left _ hp
      have b2 : ∀ p ∈ own2, p ∈ (fr ++ base2) ++ own2 := fun p hp => List.mem_append_right _ hp
      simp only [List.cons_append] at N₂
      generalize (fr ++ base2) ++ own2 = big2 at N₂ hne2 b1 b2
      have p1 := b1 _ (List.mem_append_right _ hmE)
      have p2 := b1 _ (List.mem_append_right _ qm2)
      obtain ⟨b, sg⟩ := e
      dsimp only at hbe hO p1
      obtain ⟨hbe1, hbe2⟩ := hbe
      clear kF N2 F₁ N₁ hnext
      cases b with
      | none =>
        have hbv : bv = .none := hO
        subst hbv
        (repeat' (first | (k_unfold; (try dsimp only)) | (k_end; wrow_close) | ((with_reducible show wpAny _ _ (execs (Stmt.Assign _ (Expr.Call _ _ _ _) _ :: Stmt.Assign _ (Expr.Compare _ _ _ _) _ :: _) _) _ _ _); (refine' execs_mid (MidE0 s₂ s1.heap s1.heap.objs.size lE (s1.heap.objs.size + 1) (s1.heap.objs.size + 1 + 1) (s1.heap.objs.size + 1 + 1 + 1) (listOf [Value.bool false, Value.bool true].toArray 0) o1 o2 big (fun z => if z = "pairs" then some (.ref lP) else if z = "turn" then some (.int tv tt) else m z) e9 rs) ?_ ?_)) | ((with_reducible show wpAny _ _ (exec (Stmt.For ..) _) _ _ _); ((rename Fr _ _ _ _ => lF'); (with_unfolding_all refine' For_invTF lF' ?_ (by (intro _; rfl)); k_whole))) | ((with_reducible show wpAny _ _ (exec (Stmt.For ..) _) _ _ _); ((rename Fr _ _ _ _ => lF'); (with_unfolding_all refine' For_invTF lF' ?_ (by (intro _; rfl)); k_whole))) | ((with_reducible show wpAny _ _ (call (Value.builtin "list.append") [Value.ref _, Value.ref _]) _ _ _); k_dflt (refine' append_K (by k_asm) (by k_asm) (by k_upd) ?_ (by (rw [PySem.sizeLine_eq, List.size_toArray]; omega))); intro h9 F9 N9; (try k_sweep)) | ((with_reducible show wpAny _ _ (call (Value.ref 238) [Value.ref _]) _ _ _); k_dflt (refine' covered_c (by k_asm) (by k_asm) (by k_asm) (by k_asm) (by k_asm) (by exact rfl) (by exact rfl) (by ktr_room) (by ktr_units) (by assumption) (by assumption) (by assumption) (by k_mem) (by assumption) (by assumption) (by omega) (by assumption) ?_; k_whole; intro ss9 mem9 up9 t9 h9 d9 tk9 F9 N9; (try k_fold); (try k_sweep))) | ((with_reducible show wpAny _ _ (call (Value.ref 193) _ _) _ _ _); (k_dflt (refine' intersection_d (by k_asm) (by k_asm) (by k_asm) (by k_asm) (by k_asm) (by exact rfl) (by exact rfl) (by ktr_room) (by ktr_units) (by k_mem) (by k_mem) (by k_mem) (by k_mem) (by omega) (by omega) (by omega) (by omega) ?_ ?_; all_goals (k_whole; (first | (intro c9 a9 d9 k91 k92 k93 k94 k95 kw9 kh9 kx9 ky9 h9 tk9 F9 N9 l91 l92; (try k_lt l91); (try k_lt2 l92)) | (intro c9 h9 tk9 F9 N9)); (try dsimp only); (try k_fold); (try k_sweep))))) | ((with_reducible show wpAny _ _ (call (Value.ref 163) _ _) _ _ _); (k_dflt (refine' area_c (by k_asm) (by k_asm) (by k_asm) (by k_asm) (by k_asm) (by exact rfl) (by exact rfl) (by ktr_room) (by ktr_units) (by k_mem) (by k_mem) (by mul_fits) ?_; k_whole; intro t9 h9 tk9 F9 N9; (try dsimp only); (try k_fold); (try k_sweep)))) | ((with_reducible show wpAny _ _ (compareOp CmpOp.NotEq Value.none Value.none) _ _ _); (k_dflt (refine' dat_ne (by k_asm) (by exact DatIn.none) (by exact DatIn.none) (by rfl) (by rfl) (by ktr_units) ?_); (try simp only [decide_true, Bool.not_true]))) | ((with_reducible show wpAny _ _ (compareOp CmpOp.NotEq (Value.ref _) (Value.ref _)) _ _ _); k_dflt (refine' dat_ne (by k_asm) (by exact row_close (by k_mem)) (by exact row_close (by k_mem)) (by rfl) (by rfl) (by ktr_units) ?_); (try simp only [decide_true, Bool.not_true])) | ((with_reducible show wpAny _ _ (binaryOp _ (Value.ref _) (Value.ref _)) _ _ _); k_dflt (refine' kmk_add_lit (by k_asm) (by k_asm) (by exact News.isList (by k_asm) (by k_mem)) (by exact News.isList (by k_asm) (by k_mem)) (by exact rfl) ?_ (by (rw [PySem.sizeLine_eq]; simp only [List.toList_toArray, List.length_drop, List.length_take, List.length_cons, List.length_nil]; omega))); intro D' h' F' N' l1; (try k_lt l1); (try k_sweep)) | ((with_reducible show wpAny _ _ (subscriptTail (Expr.Name ..) (Expr.Slice ..) (Value.ref _) (Value.ref _)) _ _ _); (k_dflt (refine' kmk_slice_lit (by k_asm) (by k_asm) (by exact ⟨_, News.get (by k_asm) (by k_mem), rfl, _, rfl⟩) (by kmk_part) (by kmk_part) (by first | exact slice_from _ (by assumption) | exact slice_upto _ (by assumption)) ?_ (by with_unfolding_all rfl) (by kmk_pure) (by (rw [PySem.sizeLine_eq, List.size_toArray]; omega))); intro D' h' F' N' l1; (try k_lt l1); (try k_sweep))) | ((with_reducible show wpAny _ _ (call (Value.ref 233) _ _) _ _ _); (k_dflt (refine' one_any (by k_asm) (by k_asm) (by k_asm) (by k_asm) (by k_asm) (by exact rfl) (by exact rfl) (by ktr_room) (by ktr_units) (by k_mem) (by (first | exact datall_mono (by (intro p hp; repeat' (first | exact hp | refine List.mem_cons_of_mem _ ?_))) dR3 | exact datall_mono (by (intro p hp; repeat' (first | exact hp | refine List.mem_cons_of_mem _ ?_))) dRot)) (by (first | omega | (simp only [List.length_append, List.length_drop, List.length_take]; omega))) (by (first | omega | (simp only [List.length_append, List.length_drop, List.length_take]; omega))) (by (first | exact hwR | exact hwRot)) ?_ ?_; all_goals (k_whole; ((first | (intro q8 hd1 t8 s81 s82 s83 s84 n8 h9 tk9 F9 N9; ((first | rw [hone, hd0] at hd1 | rw [hone2, hd0] at hd1); cases hd1) <;> ((try k_fold); (try k_sweep))) | (intro hd1 h9 tk9 F9 N9; ((first | rw [hone, hd0] at hd1 | rw [hone2, hd0] at hd1); cases hd1) <;> ((try k_fold); (try k_sweep))))))))) | ((with_reducible show wpAny _ _ (call (Value.ref 226) _ _) _ _ _); (k_dflt (refine' shared_any (by k_asm) (by k_asm) (by k_asm) (by k_asm) (by k_asm) (by exact rfl) (by exact rfl) (by ktr_room) (by ktr_units) (by k_mem) (by (first | exact datall_mono (by (intro p hp; repeat' (first | exact hp | refine List.mem_cons_of_mem _ ?_))) dR3 | exact datall_mono (by (intro p hp; repeat' (first | exact hp | refine List.mem_cons_of_mem _ ?_))) dRot)) (by omega) (by omega) ?_ ?_; all_goals (k_whole; ((first | (intro q9 hd0 t9 s91 s92 s93 s94 n9 h9 tk9 F9 N9; (try k_fold); (try k_sweep)) | (intro hd0 h9 tk9 F9 N9; (try k_fold); (try k_sweep)))))))) | ((with_reducible show wpAny _ _ (call (Value.ref 185) _ _) _ _ _); (k_dflt (refine' intersects_c (by k_asm) (by k_asm) (by k_asm) (by k_asm) (by k_asm) (by exact rfl) (by exact rfl) (by ktr_room) (by ktr_units) (by k_mem) (by k_mem) (by k_mem) (by k_mem) ?_; k_whole; intro t9 h9 tk9 F9 N9; (try dsimp only); (try k_fold); (try k_sweep)))) | ((with_reducible show wpAny _ _ (call (Value.ref 214) _ _) _ _ _); (k_dflt (refine' box_c (by k_asm) (by k_asm) (by k_asm) (by k_asm) (by k_asm) (by exact rfl) (by exact rfl) (by ktr_room) (by ktr_units) (by k_mem) (by omega) (by omega) ?_; k_whole; intro a9 d9 k91 k92 k93 k94 k95 kw9 kh9 kx9 ky9 h9 tk9 F9 N9 l91 l92; (try k_lt l91); (try k_lt2 l92); (try dsimp only); (try k_fold); (try k_sweep)))) | ((with_reducible show wpAny _ _ (compareOp CmpOp.NotIn (Value.bool false) (Value.ref _)) _ _ _); k_dflt (refine' notIn_boolsN (by k_asm) (by k_mem) ?_)) | ((with_reducible show wpAny _ _ (compareOp CmpOp.In (Value.bool false) (Value.ref _)) _ _ _); k_dflt (refine' in_boolsN (by k_asm) (by k_mem) ?_)) | ((with_reducible show wpAny _ _ (call (Value.ref 245) _ _) _ _ _); (k_dflt (refine' pair_c (by k_asm) (by k_asm) (by k_asm) (by k_asm) (by k_asm) (by exact rfl) (by exact rfl) (by ktr_room) (by ktr_units) (by assumption) (by assumption) (by k_mem) (by k_mem) (by exact ⟨by omega, by omega⟩) (by exact ⟨by omega, by omega⟩) (by exact ⟨by omega, by omega⟩) (by exact ⟨by omega, by omega⟩) (by exact ⟨by omega, by omega⟩) (by exact ⟨by omega, by omega⟩) (by exact ⟨by omega, by omega⟩) (by exact ⟨by omega, by omega⟩) ?_; k_whole; intro h9 tk9 F9 N9; (try k_fold); (try k_sweep)))) | ((with_reducible show LCg.CompEnd ..); (k_dflt (refine' LCg.CompEnd.intro (by assumption) (by assumption) _ (by (intro p hp; repeat' (first | exact hp | refine List.mem_cons_of_mem _ ?_))) (by assumption) (by (exact Or.inr ⟨_, by k_mem, rfl, _, rfl⟩)) ⟨rfl, rfl⟩))) | ((with_reducible show LCp.SrcLP ..); (k_dflt (refine' LCp.SrcLP.ledger (by rfl) (by k_asm) (by k_asm) (by k_mem) (by (rw [PySem.sizeLine_eq, List.size_toArray]; omega)) ?_); ((intro g9; k_dflt (refine' pairs_comp pf9 (datall_mono (by intro p hp; repeat' (first | exact hp | refine List.mem_cons_of_mem _ ?_)) dP) (fun p9 t9 u9 t91 t92 t93 t94 u91 u92 u93 u94 n9 k9 I9 oI9 C9 oC9 D9 m29 ys9 h9 tk9 E9 hp9 mt9 mu9 hC9 hx9 hy9 F9 N9 off9 ne9 => ?_) ?_); (focus (obtain ⟨⟨⟨b1, b2⟩, ⟨b3, b4⟩, ⟨b5, b6⟩, b7, b8⟩, ⟨d1, d2⟩, ⟨d3, d4⟩, ⟨d5, d6⟩, d7, d8⟩ := pair_within hbR hp9)))))) | ((with_reducible show wpAny _ _ (eval (Expr.ListComp _ [⟨Expr.Tuple _ _ _, _, [], _⟩] _ _) _) _ _ _); k_dflt (refine LCp.ListComp_P (F₀ := by k_asm) (by with_unfolding_all rfl) (by decide) (by rfl) (by decide) (by rfl) (by rfl) (by decide) ?_)) | ((with_reducible show wpAny _ _ (truthy (Value.ref _)) _ _ _); k_dflt (refine' truthy_listN (by k_asm) (by k_mem) (by assumption) (by omega) ?_); intro tk9; (try k_sweep)) | ((with_reducible show wpAny _ _ (call (Value.builtin "len") [Value.ref _]) _ _ _); k_dflt (refine' len_listN (by k_asm) (by k_mem) (by exact rows_len (by assumption)) (by (first | omega | (simp only [List.length_map, List.length_range]; omega))) ?_); intro t9 tk9; (try k_sweep)) | ((with_reducible show wpAny _ _ (execs (Stmt.If (Expr.Compare (Expr.Call _ _ _ _) [CmpOp.Lt] _ _) _ _ _ :: _) _) _ _ _); (refine' execs_mid (MidA s1 s1.heap s1.heap.objs.size (s1.heap.objs.size + 1) (s1.heap.objs.size + 1 + 1) (s1.heap.objs.size + 1 + 1 + 1) (List.take 16 nsI)) ?_ ?_)) | ((with_reducible show LCg.CompEnd ..); (k_dflt (refine' row_end (by assumption) (by assumption) (by assumption) (by assumption) (by exact trivial) (by rfl)))) | ((with_reducible show SrcStep ..); ((rename IntsAre _ (List.take 16 _) => hI16); k_dflt (refine' src_rows (by assumption) hI16 (by (rw [List.length_take]; omega)) (by rfl) (by assumption) (by assumption) (fun i9 k9 z09 z19 z29 z39 t9 nx9 I9 oI9 C9 oC9 D9 m29 ys9 h9 tk9 E9 hk0 hk1 hx0 hx1 hx2 hx3 hs9 hC9 hx9 F9 N9 off9 ne9 => ?_) (fun g9 ys9 tl9 hlt9 hD9 D9 h9 tk9 F9 N9 o19 => ?_)); (focus ((have q1 := hs9 _ (.head _)); (have q2 := hs9 _ (.tail _ (.head _))); (have q3 := hs9 _ (.tail _ (.tail _ (.head _)))); (have q4 := hs9 _ (.tail _ (.tail _ (.tail _ (.head _)))))) ; skip); (rotate_left 1); (obtain ⟨N8, hne1, hne2, hne3⟩ := rows_start N9 o19 hlt9 (by assumption)); (clear N9); (rotate_right 1))) | ((with_reducible show wpAny _ _ (eval (Expr.ListComp _ [⟨Expr.Name _ _, _, [], _⟩] _ _) _) _ _ _); k_dflt (refine ListComp_step (F₀ := by k_asm) (by with_unfolding_all rfl) (by decide) (by rfl) (by decide) (by rfl) ?_)) | ((with_reducible show wpAny _ _ (subscriptTail _ _ (Value.ref _) (Value.int _ _)) _ _ _); k_dflt (refine' item_listN (by k_asm) (by k_mem) (by first | decide | omega) (by first | decide | omega) (by first | rfl | assumption) ?_; k_whole)) | ((with_reducible show wpAny _ _ (subscriptTail _ _ (Value.ref _) (Value.int _ _)) _ _ _); k_dflt (refine' item_tupleT (by exact News.isTup (by k_asm) (by k_mem)) (by decide) (by decide) (by rfl) (by rfl) ?_; k_whole)) | walk1 | (dsimp only; walk1) | (leave1; walk_say "STEP leave1"; try dsimp only) | fail "no step"))
        all_goals (rename Fr _ _ _ _ => kF; rename News _ _ _ _ => kN)
        all_goals (first
          | exact EndT.nextI (in_some he (q := r) rfl kF kN (frS_of rfl rfl rfl rfl rfl rfl rfl (by intro z e1 e2 e3 e4 e5 e6 e7; simp [frS, e1, e2, e3, e4, e5, e6, e7])) (by k_mem) (by k_mem) (by k_mem) (by k_mem) (by intro p hp; repeat' (first | exact hp | refine List.mem_cons_of_mem _ ?_)) b1 b2 hoff2 hnew hY (by first | assumption | exact lt_last (by assumption) | exact lt_last2 (by assumption) | exact lt_last3 (by assumption) | exact lt_last5 (by assumption)) (by assumption) (by first | assumption | exact lt_last (by assumption) | exact lt_last2 (by assumption) | exact lt_last3 (by assumption) | exact lt_last5 (by assumption)) ⟨by omega, by omega, by omega⟩ (by omega) (by omega) hKE)
          | fail "left")
      | some q =>
        obtain ⟨hq1, hq2, ar, dr, k1, k2, k3, k4, k5, kw, kh, kx, ky', rfl, ma, md⟩ := hO
        obtain ⟨⟨h1, h2⟩, h3, h4⟩ := hbe1 q rfl
        have p3 := b1 _ (List.mem_append_right _ ma)
        have p4 := b1 _ (List.mem_append_right _ md)
        (repeat' (first | (k_unfold; (try dsimp only)) | (k_end; wrow_close) | ((with_reducible show wpAny _ _ (execs (Stmt.Assign _ (Expr.Call _ _ _ _) _ :: Stmt.Assign _ (Expr.Compare _ _ _ _) _ :: _) _) _ _ _); (refine' execs_mid (MidE0 s₂ s1.heap s1.heap.objs.size lE (s1.heap.objs.size + 1) (s1.heap.objs.size + 1 + 1) (s1.heap.objs.size + 1 + 1 + 1) (listOf [Value.bool false, Value.bool true].toArray 0) o1 o2 big (fun z => if z = "pairs" then some (.ref lP) else if z = "turn" then some (.int tv tt) else m z) e9 rs) ?_ ?_)) | ((with_reducible show wpAny _ _ (exec (Stmt.For ..) _) _ _ _); ((rename Fr _ _ _ _ => lF'); (with_unfolding_all refine' For_invTF lF' ?_ (by (intro _; rfl)); k_whole))) | ((with_reducible show wpAny _ _ (exec (Stmt.For ..) _) _ _ _); ((rename Fr _ _ _ _ => lF'); (with_unfolding_all refine' For_invTF lF' ?_ (by (intro _; rfl)); k_whole))) | ((with_reducible show wpAny _ _ (call (Value.builtin "list.append") [Value.ref _, Value.ref _]) _ _ _); k_dflt (refine' append_K (by k_asm) (by k_asm) (by k_upd) ?_ (by (rw [PySem.sizeLine_eq, List.size_toArray]; omega))); intro h9 F9 N9; (try k_sweep)) | ((with_reducible show wpAny _ _ (call (Value.ref 238) [Value.ref _]) _ _ _); k_dflt (refine' covered_c (by k_asm) (by k_asm) (by k_asm) (by k_asm) (by k_asm) (by exact rfl) (by exact rfl) (by ktr_room) (by ktr_units) (by assumption) (by assumption) (by assumption) (by k_mem) (by assumption) (by assumption) (by omega) (by assumption) ?_; k_whole; intro ss9 mem9 up9 t9 h9 d9 tk9 F9 N9; (try k_fold); (try k_sweep))) | ((with_reducible show wpAny _ _ (call (Value.ref 193) _ _) _ _ _); (k_dflt (refine' intersection_d (by k_asm) (by k_asm) (by k_asm) (by k_asm) (by k_asm) (by exact rfl) (by exact rfl) (by ktr_room) (by ktr_units) (by k_mem) (by k_mem) (by k_mem) (by k_mem) (by omega) (by omega) (by omega) (by omega) ?_ ?_; all_goals (k_whole; (first | (intro c9 a9 d9 k91 k92 k93 k94 k95 kw9 kh9 kx9 ky9 h9 tk9 F9 N9 l91 l92; (try k_lt l91); (try k_lt2 l92)) | (intro c9 h9 tk9 F9 N9)); (try dsimp only); (try k_fold); (try k_sweep))))) | ((with_reducible show wpAny _ _ (call (Value.ref 163) _ _) _ _ _); (k_dflt (refine' area_c (by k_asm) (by k_asm) (by k_asm) (by k_asm) (by k_asm) (by exact rfl) (by exact rfl) (by ktr_room) (by ktr_units) (by k_mem) (by k_mem) (by mul_fits) ?_; k_whole; intro t9 h9 tk9 F9 N9; (try dsimp only); (try k_fold); (try k_sweep)))) | ((with_reducible show wpAny _ _ (compareOp CmpOp.NotEq Value.none Value.none) _ _ _); (k_dflt (refine' dat_ne (by k_asm) (by exact DatIn.none) (by exact DatIn.none) (by rfl) (by rfl) (by ktr_units) ?_); (try simp only [decide_true, Bool.not_true]))) | ((with_reducible show wpAny _ _ (compareOp CmpOp.NotEq (Value.ref _) (Value.ref _)) _ _ _); k_dflt (refine' dat_ne (by k_asm) (by exact row_close (by k_mem)) (by exact row_close (by k_mem)) (by rfl) (by rfl) (by ktr_units) ?_); (try simp only [decide_true, Bool.not_true])) | ((with_reducible show wpAny _ _ (binaryOp _ (Value.ref _) (Value.ref _)) _ _ _); k_dflt (refine' kmk_add_lit (by k_asm) (by k_asm) (by exact News.isList (by k_asm) (by k_mem)) (by exact News.isList (by k_asm) (by k_mem)) (by exact rfl) ?_ (by (rw [PySem.sizeLine_eq]; simp only [List.toList_toArray, List.length_drop, List.length_take, List.length_cons, List.length_nil]; omega))); intro D' h' F' N' l1; (try k_lt l1); (try k_sweep)) | ((with_reducible show wpAny _ _ (subscriptTail (Expr.Name ..) (Expr.Slice ..) (Value.ref _) (Value.ref _)) _ _ _); (k_dflt (refine' kmk_slice_lit (by k_asm) (by k_asm) (by exact ⟨_, News.get (by k_asm) (by k_mem), rfl, _, rfl⟩) (by kmk_part) (by kmk_part) (by first | exact slice_from _ (by assumption) | exact slice_upto _ (by assumption)) ?_ (by with_unfolding_all rfl) (by kmk_pure) (by (rw [PySem.sizeLine_eq, List.size_toArray]; omega))); intro D' h' F' N' l1; (try k_lt l1); (try k_sweep))) | ((with_reducible show wpAny _ _ (call (Value.ref 233) _ _) _ _ _); (k_dflt (refine' one_any (by k_asm) (by k_asm) (by k_asm) (by k_asm) (by k_asm) (by exact rfl) (by exact rfl) (by ktr_room) (by ktr_units) (by k_mem) (by (first | exact datall_mono (by (intro p hp; repeat' (first | exact hp | refine List.mem_cons_of_mem _ ?_))) dR3 | exact datall_mono (by (intro p hp; repeat' (first | exact hp | refine List.mem_cons_of_mem _ ?_))) dRot)) (by (first | omega | (simp only [List.length_append, List.length_drop, List.length_take]; omega))) (by (first | omega | (simp only [List.length_append, List.length_drop, List.length_take]; omega))) (by (first | exact hwR | exact hwRot)) ?_ ?_; all_goals (k_whole; ((first | (intro q8 hd1 t8 s81 s82 s83 s84 n8 h9 tk9 F9 N9; ((first | rw [hone, hd0] at hd1 | rw [hone2, hd0] at hd1); cases hd1) <;> ((try k_fold); (try k_sweep))) | (intro hd1 h9 tk9 F9 N9; ((first | rw [hone, hd0] at hd1 | rw [hone2, hd0] at hd1); cases hd1) <;> ((try k_fold); (try k_sweep))))))))) | ((with_reducible show wpAny _ _ (call (Value.ref 226) _ _) _ _ _); (k_dflt (refine' shared_any (by k_asm) (by k_asm) (by k_asm) (by k_asm) (by k_asm) (by exact rfl) (by exact rfl) (by ktr_room) (by ktr_units) (by k_mem) (by (first | exact datall_mono (by (intro p hp; repeat' (first | exact hp | refine List.mem_cons_of_mem _ ?_))) dR3 | exact datall_mono (by (intro p hp; repeat' (first | exact hp | refine List.mem_cons_of_mem _ ?_))) dRot)) (by omega) (by omega) ?_ ?_; all_goals (k_whole; ((first | (intro q9 hd0 t9 s91 s92 s93 s94 n9 h9 tk9 F9 N9; (try k_fold); (try k_sweep)) | (intro hd0 h9 tk9 F9 N9; (try k_fold); (try k_sweep)))))))) | ((with_reducible show wpAny _ _ (call (Value.ref 185) _ _) _ _ _); (k_dflt (refine' intersects_c (by k_asm) (by k_asm) (by k_asm) (by k_asm) (by k_asm) (by exact rfl) (by exact rfl) (by ktr_room) (by ktr_units) (by k_mem) (by k_mem) (by k_mem) (by k_mem) ?_; k_whole; intro t9 h9 tk9 F9 N9; (try dsimp only); (try k_fold); (try k_sweep)))) | ((with_reducible show wpAny _ _ (call (Value.ref 214) _ _) _ _ _); (k_dflt (refine' box_c (by k_asm) (by k_asm) (by k_asm) (by k_asm) (by k_asm) (by exact rfl) (by exact rfl) (by ktr_room) (by ktr_units) (by k_mem) (by omega) (by omega) ?_; k_whole; intro a9 d9 k91 k92 k93 k94 k95 kw9 kh9 kx9 ky9 h9 tk9 F9 N9 l91 l92; (try k_lt l91); (try k_lt2 l92); (try dsimp only); (try k_fold); (try k_sweep)))) | ((with_reducible show wpAny _ _ (compareOp CmpOp.NotIn (Value.bool false) (Value.ref _)) _ _ _); k_dflt (refine' notIn_boolsN (by k_asm) (by k_mem) ?_)) | ((with_reducible show wpAny _ _ (compareOp CmpOp.In (Value.bool false) (Value.ref _)) _ _ _); k_dflt (refine' in_boolsN (by k_asm) (by k_mem) ?_)) | ((with_reducible show wpAny _ _ (call (Value.ref 245) _ _) _ _ _); (k_dflt (refine' pair_c (by k_asm) (by k_asm) (by k_asm) (by k_asm) (by k_asm) (by exact rfl) (by exact rfl) (by ktr_room) (by ktr_units) (by assumption) (by assumption) (by k_mem) (by k_mem) (by exact ⟨by omega, by omega⟩) (by exact ⟨by omega, by omega⟩) (by exact ⟨by omega, by omega⟩) (by exact ⟨by omega, by omega⟩) (by exact ⟨by omega, by omega⟩) (by exact ⟨by omega, by omega⟩) (by exact ⟨by omega, by omega⟩) (by exact ⟨by omega, by omega⟩) ?_; k_whole; intro h9 tk9 F9 N9; (try k_fold); (try k_sweep)))) | ((with_reducible show LCg.CompEnd ..); (k_dflt (refine' LCg.CompEnd.intro (by assumption) (by assumption) _ (by (intro p hp; repeat' (first | exact hp | refine List.mem_cons_of_mem _ ?_))) (by assumption) (by (exact Or.inr ⟨_, by k_mem, rfl, _, rfl⟩)) ⟨rfl, rfl⟩))) | ((with_reducible show LCp.SrcLP ..); (k_dflt (refine' LCp.SrcLP.ledger (by rfl) (by k_asm) (by k_asm) (by k_mem) (by (rw [PySem.sizeLine_eq, List.size_toArray]; omega)) ?_); ((intro g9; k_dflt (refine' pairs_comp pf9 (datall_mono (by intro p hp; repeat' (first | exact hp | refine List.mem_cons_of_mem _ ?_)) dP) (fun p9 t9 u9 t91 t92 t93 t94 u91 u92 u93 u94 n9 k9 I9 oI9 C9 oC9 D9 m29 ys9 h9 tk9 E9 hp9 mt9 mu9 hC9 hx9 hy9 F9 N9 off9 ne9 => ?_) ?_); (focus (obtain ⟨⟨⟨b1, b2⟩, ⟨b3, b4⟩, ⟨b5, b6⟩, b7, b8⟩, ⟨d1, d2⟩, ⟨d3, d4⟩, ⟨d5, d6⟩, d7, d8⟩ := pair_within hbR hp9)))))) | ((with_reducible show wpAny _ _ (eval (Expr.ListComp _ [⟨Expr.Tuple _ _ _, _, [], _⟩] _ _) _) _ _ _); k_dflt (refine LCp.ListComp_P (F₀ := by k_asm) (by with_unfolding_all rfl) (by decide) (by rfl) (by decide) (by rfl) (by rfl) (by decide) ?_)) | ((with_reducible show wpAny _ _ (truthy (Value.ref _)) _ _ _); k_dflt (refine' truthy_listN (by k_asm) (by k_mem) (by assumption) (by omega) ?_); intro tk9; (try k_sweep)) | ((with_reducible show wpAny _ _ (call (Value.builtin "len") [Value.ref _]) _ _ _); k_dflt (refine' len_listN (by k_asm) (by k_mem) (by exact rows_len (by assumption)) (by (first | omega | (simp only [List.length_map, List.length_range]; omega))) ?_); intro t9 tk9; (try k_sweep)) | ((with_reducible show wpAny _ _ (execs (Stmt.If (Expr.Compare (Expr.Call _ _ _ _) [CmpOp.Lt] _ _) _ _ _ :: _) _) _ _ _); (refine' execs_mid (MidA s1 s1.heap s1.heap.objs.size (s1.heap.objs.size + 1) (s1.heap.objs.size + 1 + 1) (s1.heap.objs.size + 1 + 1 + 1) (List.take 16 nsI)) ?_ ?_)) | ((with_reducible show LCg.CompEnd ..); (k_dflt (refine' row_end (by assumption) (by assumption) (by assumption) (by assumption) (by exact trivial) (by rfl)))) | ((with_reducible show SrcStep ..); ((rename IntsAre _ (List.take 16 _) => hI16); k_dflt (refine' src_rows (by assumption) hI16 (by (rw [List.length_take]; omega)) (by rfl) (by assumption) (by assumption) (fun i9 k9 z09 z19 z29 z39 t9 nx9 I9 oI9 C9 oC9 D9 m29 ys9 h9 tk9 E9 hk0 hk1 hx0 hx1 hx2 hx3 hs9 hC9 hx9 F9 N9 off9 ne9 => ?_) (fun g9 ys9 tl9 hlt9 hD9 D9 h9 tk9 F9 N9 o19 => ?_)); (focus ((have q1 := hs9 _ (.head _)); (have q2 := hs9 _ (.tail _ (.head _))); (have q3 := hs9 _ (.tail _ (.tail _ (.head _)))); (have q4 := hs9 _ (.tail _ (.tail _ (.tail _ (.head _)))))) ; skip); (rotate_left 1); (obtain ⟨N8, hne1, hne2, hne3⟩ := rows_start N9 o19 hlt9 (by assumption)); (clear N9); (rotate_right 1))) | ((with_reducible show wpAny _ _ (eval (Expr.ListComp _ [⟨Expr.Name _ _, _, [], _⟩] _ _) _) _ _ _); k_dflt (refine ListComp_step (F₀ := by k_asm) (by with_unfolding_all rfl) (by decide) (by rfl) (by decide) (by rfl) ?_)) | ((with_reducible show wpAny _ _ (subscriptTail _ _ (Value.ref _) (Value.int _ _)) _ _ _); k_dflt (refine' item_listN (by k_asm) (by k_mem) (by first | decide | omega) (by first | decide | omega) (by first | rfl | assumption) ?_; k_whole)) | ((with_reducible show wpAny _ _ (subscriptTail _ _ (Value.ref _) (Value.int _ _)) _ _ _); k_dflt (refine' item_tupleT (by exact News.isTup (by k_asm) (by k_mem)) (by decide) (by decide) (by rfl) (by rfl) ?_; k_whole)) | walk1 | (dsimp only; walk1) | (leave1; walk_say "STEP leave1"; try dsimp only) | fail "no step"))
        all_goals (rename Fr _ _ _ _ => kF; rename News _ _ _ _ => kN)
        all_goals (first
          | exact EndT.nextI (in_none he (isect_no (by assumption)) kF kN (frS_of rfl rfl rfl rfl rfl rfl rfl (by intro z e1 e2 e3 e4 e5 e6 e7; simp [frS, e1, e2, e3, e4, e5, e6, e7])) (by intro p hp; repeat' (first | exact hp | refine List.mem_cons_of_mem _ ?_)) b1 b2 hoff2 hnew hY hKE)
          | exact EndT.nextI (in_some he (q := both q r) (isect_yes (by assumption)) kF kN (frS_of rfl rfl rfl rfl rfl rfl rfl (by intro z e1 e2 e3 e4 e5 e6 e7; simp [frS, e1, e2, e3, e4, e5, e6, e7])) (by k_mem) (by k_mem) (by k_mem) (by k_mem) (by intro p hp; repeat' (first | exact hp | refine List.mem_cons_of_mem _ ?_)) b1 b2 hoff2 hnew hY (by first | assumption | exact lt_last (by assumption) | exact lt_last2 (by assumption) | exact lt_last3 (by assumption) | exact lt_last5 (by assumption)) (by assumption) (by first | assumption | exact lt_last (by assumption) | exact lt_last2 (by assumption) | exact lt_last3 (by assumption) | exact lt_last5 (by assumption)) ⟨by omega, by omega, by omega⟩ (by dsimp only [both]; omega) (by dsimp only [both]; omega) hKE)
          | fail "left")
    case done2 =>
      rintro m₂ nx2 h₂ tk₂ hl3 ⟨ys, ky, tA2, fr, v3, v4, v5, rfl, hnx, hnew, hY⟩ F₂ N₂
      rw [hnx] at N₂ hl3
      clear hnx kF N2
      rw [take_all (show (allE SL).length ≤ (Value.ref lT :: vsS).length by rw [← qE2.1]; exact Nat.le_refl _)] at F₂ hY
      have hlY := hY.1
      have hlY2 := more_len (r := r) (SL := SL) (allE SL).length
      rw [take_all (Nat.le_refl _), ← hlY] at hlY2
      have p1 : (S, listOf vsS.toArray kS) ∈ fr ++ base2 := List.mem_append_right _ (w6 _ qS)
      (repeat' (first | (k_unfold; (try dsimp only)) | (k_end; wrow_close) | ((with_reducible show wpAny _ _ (execs (Stmt.Assign _ (Expr.Call _ _ _ _) _ :: Stmt.Assign _ (Expr.Compare _ _ _ _) _ :: _) _) _ _ _); (refine' execs_mid (MidE0 s₂ s1.heap s1.heap.objs.size lE (s1.heap.objs.size + 1) (s1.heap.objs.size + 1 + 1) (s1.heap.objs.size + 1 + 1 + 1) (listOf [Value.bool false, Value.bool true].toArray 0) o1 o2 big (fun z => if z = "pairs" then some (.ref lP) else if z = "turn" then some (.int tv tt) else m z) e9 rs) ?_ ?_)) | ((with_reducible show wpAny _ _ (exec (Stmt.For ..) _) _ _ _); ((rename Fr _ _ _ _ => lF'); (with_unfolding_all refine' For_invTF lF' ?_ (by (intro _; rfl)); k_whole))) | ((with_reducible show wpAny _ _ (exec (Stmt.For ..) _) _ _ _); ((rename Fr _ _ _ _ => lF'); (with_unfolding_all refine' For_invTF lF' ?_ (by (intro _; rfl)); k_whole))) | ((with_reducible show wpAny _ _ (call (Value.builtin "list.append") [Value.ref _, Value.ref _]) _ _ _); k_dflt (refine' append_K (by k_asm) (by k_asm) (by k_upd) ?_ (by (rw [PySem.sizeLine_eq, List.size_toArray]; omega))); intro h9 F9 N9; (try k_sweep)) | ((with_reducible show wpAny _ _ (call (Value.ref 238) [Value.ref _]) _ _ _); k_dflt (refine' covered_c (by k_asm) (by k_asm) (by k_asm) (by k_asm) (by k_asm) (by exact rfl) (by exact rfl) (by ktr_room) (by ktr_units) (by assumption) (by assumption) (by assumption) (by k_mem) (by assumption) (by assumption) (by omega) (by assumption) ?_; k_whole; intro ss9 mem9 up9 t9 h9 d9 tk9 F9 N9; (try k_fold); (try k_sweep))) | ((with_reducible show wpAny _ _ (call (Value.ref 193) _ _) _ _ _); (k_dflt (refine' intersection_d (by k_asm) (by k_asm) (by k_asm) (by k_asm) (by k_asm) (by exact rfl) (by exact rfl) (by ktr_room) (by ktr_units) (by k_mem) (by k_mem) (by k_mem) (by k_mem) (by omega) (by omega) (by omega) (by omega) ?_ ?_; all_goals (k_whole; (first | (intro c9 a9 d9 k91 k92 k93 k94 k95 kw9 kh9 kx9 ky9 h9 tk9 F9 N9 l91 l92; (try k_lt l91); (try k_lt2 l92)) | (intro c9 h9 tk9 F9 N9)); (try dsimp only); (try k_fold); (try k_sweep))))) | ((with_reducible show wpAny _ _ (call (Value.ref 163) _ _) _ _ _); (k_dflt (refine' area_c (by k_asm) (by k_asm) (by k_asm) (by k_asm) (by k_asm) (by exact rfl) (by exact rfl) (by ktr_room) (by ktr_units) (by k_mem) (by k_mem) (by mul_fits) ?_; k_whole; intro t9 h9 tk9 F9 N9; (try dsimp only); (try k_fold); (try k_sweep)))) | ((with_reducible show wpAny _ _ (compareOp CmpOp.NotEq Value.none Value.none) _ _ _); (k_dflt (refine' dat_ne (by k_asm) (by exact DatIn.none) (by exact DatIn.none) (by rfl) (by rfl) (by ktr_units) ?_); (try simp only [decide_true, Bool.not_true]))) | ((with_reducible show wpAny _ _ (compareOp CmpOp.NotEq (Value.ref _) (Value.ref _)) _ _ _); k_dflt (refine' dat_ne (by k_asm) (by exact row_close (by k_mem)) (by exact row_close (by k_mem)) (by rfl) (by rfl) (by ktr_units) ?_); (try simp only [decide_true, Bool.not_true])) | ((with_reducible show wpAny _ _ (binaryOp _ (Value.ref _) (Value.ref _)) _ _ _); k_dflt (refine' kmk_add_lit (by k_asm) (by k_asm) (by exact News.isList (by k_asm) (by k_mem)) (by exact News.isList (by k_asm) (by k_mem)) (by exact rfl) ?_ (by (rw [PySem.sizeLine_eq]; simp only [List.toList_toArray, List.length_drop, List.length_take, List.length_cons, List.length_nil]; omega))); intro D' h' F' N' l1; (try k_lt l1); (try k_sweep)) | ((with_reducible show wpAny _ _ (subscriptTail (Expr.Name ..) (Expr.Slice ..) (Value.ref _) (Value.ref _)) _ _ _); (k_dflt (refine' kmk_slice_lit (by k_asm) (by k_asm) (by exact ⟨_, News.get (by k_asm) (by k_mem), rfl, _, rfl⟩) (by kmk_part) (by kmk_part) (by first | exact slice_from _ (by assumption) | exact slice_upto _ (by assumption)) ?_ (by with_unfolding_all rfl) (by kmk_pure) (by (rw [PySem.sizeLine_eq, List.size_toArray]; omega))); intro D' h' F' N' l1; (try k_lt l1); (try k_sweep))) | ((with_reducible show wpAny _ _ (call (Value.ref 233) _ _) _ _ _); (k_dflt (refine' one_any (by k_asm) (by k_asm) (by k_asm) (by k_asm) (by k_asm) (by exact rfl) (by exact rfl) (by ktr_room) (by ktr_units) (by k_mem) (by (first | exact datall_mono (by (intro p hp; repeat' (first | exact hp | refine List.mem_cons_of_mem _ ?_))) dR3 | exact datall_mono (by (intro p hp; repeat' (first | exact hp | refine List.mem_cons_of_mem _ ?_))) dRot)) (by (first | omega | (simp only [List.length_append, List.length_drop, List.length_take]; omega))) (by (first | omega | (simp only [List.length_append, List.length_drop, List.length_take]; omega))) (by (first | exact hwR | exact hwRot)) ?_ ?_; all_goals (k_whole; ((first | (intro q8 hd1 t8 s81 s82 s83 s84 n8 h9 tk9 F9 N9; ((first | rw [hone, hd0] at hd1 | rw [hone2, hd0] at hd1); cases hd1) <;> ((try k_fold); (try k_sweep))) | (intro hd1 h9 tk9 F9 N9; ((first | rw [hone, hd0] at hd1 | rw [hone2, hd0] at hd1); cases hd1) <;> ((try k_fold); (try k_sweep))))))))) | ((with_reducible show wpAny _ _ (call (Value.ref 226) _ _) _ _ _); (k_dflt (refine' shared_any (by k_asm) (by k_asm) (by k_asm) (by k_asm) (by k_asm) (by exact rfl) (by exact rfl) (by ktr_room) (by ktr_units) (by k_mem) (by (first | exact datall_mono (by (intro p hp; repeat' (first | exact hp | refine List.mem_cons_of_mem _ ?_))) dR3 | exact datall_mono (by (intro p hp; repeat' (first | exact hp | refine List.mem_cons_of_mem _ ?_))) dRot)) (by omega) (by omega) ?_ ?_; all_goals (k_whole; ((first | (intro q9 hd0 t9 s91 s92 s93 s94 n9 h9 tk9 F9 N9; (try k_fold); (try k_sweep)) | (intro hd0 h9 tk9 F9 N9; (try k_fold); (try k_sweep)))))))) | ((with_reducible show wpAny _ _ (call (Value.ref 185) _ _) _ _ _); (k_dflt (refine' intersects_c (by k_asm) (by k_asm) (by k_asm) (by k_asm) (by k_asm) (by exact rfl) (by exact rfl) (by ktr_room) (by ktr_units) (by k_mem) (by k_mem) (by k_mem) (by k_mem) ?_; k_whole; intro t9 h9 tk9 F9 N9; (try dsimp only); (try k_fold); (try k_sweep)))) | ((with_reducible show wpAny _ _ (call (Value.ref 214) _ _) _ _ _); (k_dflt (refine' box_c (by k_asm) (by k_asm) (by k_asm) (by k_asm) (by k_asm) (by exact rfl) (by exact rfl) (by ktr_room) (by ktr_units) (by k_mem) (by omega) (by omega) ?_; k_whole; intro a9 d9 k91 k92 k93 k94 k95 kw9 kh9 kx9 ky9 h9 tk9 F9 N9 l91 l92; (try k_lt l91); (try k_lt2 l92); (try dsimp only); (try k_fold); (try k_sweep)))) | ((with_reducible show wpAny _ _ (compareOp CmpOp.NotIn (Value.bool false) (Value.ref _)) _ _ _); k_dflt (refine' notIn_boolsN (by k_asm) (by k_mem) ?_)) | ((with_reducible show wpAny _ _ (compareOp CmpOp.In (Value.bool false) (Value.ref _)) _ _ _); k_dflt (refine' in_boolsN (by k_asm) (by k_mem) ?_)) | ((with_reducible show wpAny _ _ (call (Value.ref 245) _ _) _ _ _); (k_dflt (refine' pair_c (by k_asm) (by k_asm) (by k_asm) (by k_asm) (by k_asm) (by exact rfl) (by exact rfl) (by ktr_room) (by ktr_units) (by assumption) (by assumption) (by k_mem) (by k_mem) (by exact ⟨by omega, by omega⟩) (by exact ⟨by omega, by omega⟩) (by exact ⟨by omega, by omega⟩) (by exact ⟨by omega, by omega⟩) (by exact ⟨by omega, by omega⟩) (by exact ⟨by omega, by omega⟩) (by exact ⟨by omega, by omega⟩) (by exact ⟨by omega, by omega⟩) ?_; k_whole; intro h9 tk9 F9 N9; (try k_fold); (try k_sweep)))) | ((with_reducible show LCg.CompEnd ..); (k_dflt (refine' LCg.CompEnd.intro (by assumption) (by assumption) _ (by (intro p hp; repeat' (first | exact hp | refine List.mem_cons_of_mem _ ?_))) (by assumption) (by (exact Or.inr ⟨_, by k_mem, rfl, _, rfl⟩)) ⟨rfl, rfl⟩))) | ((with_reducible show LCp.SrcLP ..); (k_dflt (refine' LCp.SrcLP.ledger (by rfl) (by k_asm) (by k_asm) (by k_mem) (by (rw [PySem.sizeLine_eq, List.size_toArray]; omega)) ?_); ((intro g9; k_dflt (refine' pairs_comp pf9 (datall_mono (by intro p hp; repeat' (first | exact hp | refine List.mem_cons_of_mem _ ?_)) dP) (fun p9 t9 u9 t91 t92 t93 t94 u91 u92 u93 u94 n9 k9 I9 oI9 C9 oC9 D9 m29 ys9 h9 tk9 E9 hp9 mt9 mu9 hC9 hx9 hy9 F9 N9 off9 ne9 => ?_) ?_); (focus (obtain ⟨⟨⟨b1, b2⟩, ⟨b3, b4⟩, ⟨b5, b6⟩, b7, b8⟩, ⟨d1, d2⟩, ⟨d3, d4⟩, ⟨d5, d6⟩, d7, d8⟩ := pair_within hbR hp9)))))) | ((with_reducible show wpAny _ _ (eval (Expr.ListComp _ [⟨Expr.Tuple _ _ _, _, [], _⟩] _ _) _) _ _ _); k_dflt (refine LCp.ListComp_P (F₀ := by k_asm) (by with_unfolding_all rfl) (by decide) (by rfl) (by decide) (by rfl) (by rfl) (by decide) ?_)) | ((with_reducible show wpAny _ _ (truthy (Value.ref _)) _ _ _); k_dflt (refine' truthy_listN (by k_asm) (by k_mem) (by assumption) (by omega) ?_); intro tk9; (try k_sweep)) | ((with_reducible show wpAny _ _ (call (Value.builtin "len") [Value.ref _]) _ _ _); k_dflt (refine' len_listN (by k_asm) (by k_mem) (by exact rows_len (by assumption)) (by (first | omega | (simp only [List.length_map, List.length_range]; omega))) ?_); intro t9 tk9; (try k_sweep)) | ((with_reducible show wpAny _ _ (execs (Stmt.If (Expr.Compare (Expr.Call _ _ _ _) [CmpOp.Lt] _ _) _ _ _ :: _) _) _ _ _); (refine' execs_mid (MidA s1 s1.heap s1.heap.objs.size (s1.heap.objs.size + 1) (s1.heap.objs.size + 1 + 1) (s1.heap.objs.size + 1 + 1 + 1) (List.take 16 nsI)) ?_ ?_)) | ((with_reducible show LCg.CompEnd ..); (k_dflt (refine' row_end (by assumption) (by assumption) (by assumption) (by assumption) (by exact trivial) (by rfl)))) | ((with_reducible show SrcStep ..); ((rename IntsAre _ (List.take 16 _) => hI16); k_dflt (refine' src_rows (by assumption) hI16 (by (rw [List.length_take]; omega)) (by rfl) (by assumption) (by assumption) (fun i9 k9 z09 z19 z29 z39 t9 nx9 I9 oI9 C9 oC9 D9 m29 ys9 h9 tk9 E9 hk0 hk1 hx0 hx1 hx2 hx3 hs9 hC9 hx9 F9 N9 off9 ne9 => ?_) (fun g9 ys9 tl9 hlt9 hD9 D9 h9 tk9 F9 N9 o19 => ?_)); (focus ((have q1 := hs9 _ (.head _)); (have q2 := hs9 _ (.tail _ (.head _))); (have q3 := hs9 _ (.tail _ (.tail _ (.head _)))); (have q4 := hs9 _ (.tail _ (.tail _ (.tail _ (.head _)))))) ; skip); (rotate_left 1); (obtain ⟨N8, hne1, hne2, hne3⟩ := rows_start N9 o19 hlt9 (by assumption)); (clear N9); (rotate_right 1))) | ((with_reducible show wpAny _ _ (eval (Expr.ListComp _ [⟨Expr.Name _ _, _, [], _⟩] _ _) _) _ _ _); k_dflt (refine ListComp_step (F₀ := by k_asm) (by with_unfolding_all rfl) (by decide) (by rfl) (by decide) (by rfl) ?_)) | ((with_reducible show wpAny _ _ (subscriptTail _ _ (Value.ref _) (Value.int _ _)) _ _ _); k_dflt (refine' item_listN (by k_asm) (by k_mem) (by first | decide | omega) (by first | decide | omega) (by first | rfl | assumption) ?_; k_whole)) | ((with_reducible show wpAny _ _ (subscriptTail _ _ (Value.ref _) (Value.int _ _)) _ _ _); k_dflt (refine' item_tupleT (by exact News.isTup (by k_asm) (by k_mem)) (by decide) (by decide) (by rfl) (by rfl) ?_; k_whole)) | walk1 | (dsimp only; walk1) | (leave1; walk_say "STEP leave1"; try dsimp only) | fail "no step"))
      rename Fr _ _ _ _ => kF
      rename News _ _ _ _ => kN
      rename (@LT.lt Nat _ lM _ ∧ AllLt _ _) => kL
      exact EndT.nextI (sh_end (M := lM) hnext kF kN (frS_of rfl rfl rfl rfl rfl rfl rfl (by intro z e1 e2 e3 e4 e5 e6 e7; simp [frS, e1, e2, e3, e4, e5, e6, e7])) (.head _) rfl (fun p hp => .tail _ (.tail _ hp)) (fun p hp => w6 _ (w0 p hp)) (fun p hp => w6 _ (w5 p hp)) kL.2 hnew hoff hbase hEl hY hl2)
  case done =>
    rintro m₁ nx h tk hl2 ⟨S, vsS, kS, tA, u1, u2, u3, u4, u5, rfl, hbase, hS, hEl⟩ F₁ N₁
    clear kF kN
    rw [take_all (show rs.length ≤ vsR.length by omega)] at F₁ hEl
    have q1 := hbase _ (.tail _ (.head _))
    have q2 := hbase _ (.tail _ (.tail _ (.tail _ mR2)))
    have dR5 := datall_mono (fun p hp => hbase p (.tail _ (.tail _ (.tail _ hp)))) dR2
    clear hEl hbase
    (repeat' (first | (k_unfold; (try dsimp only)) | (k_end; wrow_close) | ((with_reducible show wpAny _ _ (execs (Stmt.Assign _ (Expr.Call _ _ _ _) _ :: Stmt.Assign _ (Expr.Compare _ _ _ _) _ :: _) _) _ _ _); (refine' execs_mid (MidE0 s₂ s1.heap s1.heap.objs.size lE (s1.heap.objs.size + 1) (s1.heap.objs.size + 1 + 1) (s1.heap.objs.size + 1 + 1 + 1) (listOf [Value.bool false, Value.bool true].toArray 0) o1 o2 big (fun z => if z = "pairs" then some (.ref lP) else if z = "turn" then some (.int tv tt) else m z) e9 rs) ?_ ?_)) | ((with_reducible show wpAny _ _ (exec (Stmt.For ..) _) _ _ _); ((rename Fr _ _ _ _ => lF'); (with_unfolding_all refine' For_invTF lF' ?_ (by (intro _; rfl)); k_whole))) | ((with_reducible show wpAny _ _ (exec (Stmt.For ..) _) _ _ _); ((rename Fr _ _ _ _ => lF'); (with_unfolding_all refine' For_invTF lF' ?_ (by (intro _; rfl)); k_whole))) | ((with_reducible show wpAny _ _ (call (Value.builtin "list.append") [Value.ref _, Value.ref _]) _ _ _); k_dflt (refine' append_K (by k_asm) (by k_asm) (by k_upd) ?_ (by (rw [PySem.sizeLine_eq, List.size_toArray]; omega))); intro h9 F9 N9; (try k_sweep)) | ((with_reducible show wpAny _ _ (call (Value.ref 238) [Value.ref _]) _ _ _); k_dflt (refine' covered_c (by k_asm) (by k_asm) (by k_asm) (by k_asm) (by k_asm) (by exact rfl) (by exact rfl) (by ktr_room) (by ktr_units) (by assumption) (by assumption) (by assumption) (by k_mem) (by assumption) (by assumption) (by omega) (by assumption) ?_; k_whole; intro ss9 mem9 up9 t9 h9 d9 tk9 F9 N9; (try k_fold); (try k_sweep))) | ((with_reducible show wpAny _ _ (call (Value.ref 193) _ _) _ _ _); (k_dflt (refine' intersection_d (by k_asm) (by k_asm) (by k_asm) (by k_asm) (by k_asm) (by exact rfl) (by exact rfl) (by ktr_room) (by ktr_units) (by k_mem) (by k_mem) (by k_mem) (by k_mem) (by omega) (by omega) (by omega) (by omega) ?_ ?_; all_goals (k_whole; (first | (intro c9 a9 d9 k91 k92 k93 k94 k95 kw9 kh9 kx9 ky9 h9 tk9 F9 N9 l91 l92; (try k_lt l91); (try k_lt2 l92)) | (intro c9 h9 tk9 F9 N9)); (try dsimp only); (try k_fold); (try k_sweep))))) | ((with_reducible show wpAny _ _ (call (Value.ref 163) _ _) _ _ _); (k_dflt (refine' area_c (by k_asm) (by k_asm) (by k_asm) (by k_asm) (by k_asm) (by exact rfl) (by exact rfl) (by ktr_room) (by ktr_units) (by k_mem) (by k_mem) (by mul_fits) ?_; k_whole; intro t9 h9 tk9 F9 N9; (try dsimp only); (try k_fold); (try k_sweep)))) | ((with_reducible show wpAny _ _ (compareOp CmpOp.NotEq Value.none Value.none) _ _ _); (k_dflt (refine' dat_ne (by k_asm) (by exact DatIn.none) (by exact DatIn.none) (by rfl) (by rfl) (by ktr_units) ?_); (try simp only [decide_true, Bool.not_true]))) | ((with_reducible show wpAny _ _ (compareOp CmpOp.NotEq (Value.ref _) (Value.ref _)) _ _ _); k_dflt (refine' dat_ne (by k_asm) (by exact row_close (by k_mem)) (by exact row_close (by k_mem)) (by rfl) (by rfl) (by ktr_units) ?_); (try simp only [decide_true, Bool.not_true])) | ((with_reducible show wpAny _ _ (binaryOp _ (Value.ref _) (Value.ref _)) _ _ _); k_dflt (refine' kmk_add_lit (by k_asm) (by k_asm) (by exact News.isList (by k_asm) (by k_mem)) (by exact News.isList (by k_asm) (by k_mem)) (by exact rfl) ?_ (by (rw [PySem.sizeLine_eq]; simp only [List.toList_toArray, List.length_drop, List.length_take, List.length_cons, List.length_nil]; omega))); intro D' h' F' N' l1; (try k_lt l1); (try k_sweep)) | ((with_reducible show wpAny _ _ (subscriptTail (Expr.Name ..) (Expr.Slice ..) (Value.ref _) (Value.ref _)) _ _ _); (k_dflt (refine' kmk_slice_lit (by k_asm) (by k_asm) (by exact ⟨_, News.get (by k_asm) (by k_mem), rfl, _, rfl⟩) (by kmk_part) (by kmk_part) (by first | exact slice_from _ (by assumption) | exact slice_upto _ (by assumption)) ?_ (by with_unfolding_all rfl) (by kmk_pure) (by (rw [PySem.sizeLine_eq, List.size_toArray]; omega))); intro D' h' F' N' l1; (try k_lt l1); (try k_sweep))) | ((with_reducible show wpAny _ _ (call (Value.ref 233) _ _) _ _ _); (k_dflt (refine' one_any (by k_asm) (by k_asm) (by k_asm) (by k_asm) (by k_asm) (by exact rfl) (by exact rfl) (by ktr_room) (by ktr_units) (by k_mem) (by (first | exact datall_mono (by (intro p hp; repeat' (first | exact hp | refine List.mem_cons_of_mem _ ?_))) dR3 | exact datall_mono (by (intro p hp; repeat' (first | exact hp | refine List.mem_cons_of_mem _ ?_))) dRot)) (by (first | omega | (simp only [List.length_append, List.length_drop, List.length_take]; omega))) (by (first | omega | (simp only [List.length_append, List.length_drop, List.length_take]; omega))) (by (first | exact hwR | exact hwRot)) ?_ ?_; all_goals (k_whole; ((first | (intro q8 hd1 t8 s81 s82 s83 s84 n8 h9 tk9 F9 N9; ((first | rw [hone, hd0] at hd1 | rw [hone2, hd0] at hd1); cases hd1) <;> ((try k_fold); (try k_sweep))) | (intro hd1 h9 tk9 F9 N9; ((first | rw [hone, hd0] at hd1 | rw [hone2, hd0] at hd1); cases hd1) <;> ((try k_fold); (try k_sweep))))))))) | ((with_reducible show wpAny _ _ (call (Value.ref 226) _ _) _ _ _); (k_dflt (refine' shared_any (by k_asm) (by k_asm) (by k_asm) (by k_asm) (by k_asm) (by exact rfl) (by exact rfl) (by ktr_room) (by ktr_units) (by k_mem) (by (first | exact datall_mono (by (intro p hp; repeat' (first | exact hp | refine List.mem_cons_of_mem _ ?_))) dR3 | exact datall_mono (by (intro p hp; repeat' (first | exact hp | refine List.mem_cons_of_mem _ ?_))) dRot)) (by omega) (by omega) ?_ ?_; all_goals (k_whole; ((first | (intro q9 hd0 t9 s91 s92 s93 s94 n9 h9 tk9 F9 N9; (try k_fold); (try k_sweep)) | (intro hd0 h9 tk9 F9 N9; (try k_fold); (try k_sweep)))))))) | ((with_reducible show wpAny _ _ (call (Value.ref 185) _ _) _ _ _); (k_dflt (refine' intersects_c (by k_asm) (by k_asm) (by k_asm) (by k_asm) (by k_asm) (by exact rfl) (by exact rfl) (by ktr_room) (by ktr_units) (by k_mem) (by k_mem) (by k_mem) (by k_mem) ?_; k_whole; intro t9 h9 tk9 F9 N9; (try dsimp only); (try k_fold); (try k_sweep)))) | ((with_reducible show wpAny _ _ (call (Value.ref 214) _ _) _ _ _); (k_dflt (refine' box_c (by k_asm) (by k_asm) (by k_asm) (by k_asm) (by k_asm) (by exact rfl) (by exact rfl) (by ktr_room) (by ktr_units) (by k_mem) (by omega) (by omega) ?_; k_whole; intro a9 d9 k91 k92 k93 k94 k95 kw9 kh9 kx9 ky9 h9 tk9 F9 N9 l91 l92; (try k_lt l91); (try k_lt2 l92); (try dsimp only); (try k_fold); (try k_sweep)))) | ((with_reducible show wpAny _ _ (compareOp CmpOp.NotIn (Value.bool false) (Value.ref _)) _ _ _); k_dflt (refine' notIn_boolsN (by k_asm) (by k_mem) ?_)) | ((with_reducible show wpAny _ _ (compareOp CmpOp.In (Value.bool false) (Value.ref _)) _ _ _); k_dflt (refine' in_boolsN (by k_asm) (by k_mem) ?_)) | ((with_reducible show wpAny _ _ (call (Value.ref 245) _ _) _ _ _); (k_dflt (refine' pair_c (by k_asm) (by k_asm) (by k_asm) (by k_asm) (by k_asm) (by exact rfl) (by exact rfl) (by ktr_room) (by ktr_units) (by assumption) (by assumption) (by k_mem) (by k_mem) (by exact ⟨by omega, by omega⟩) (by exact ⟨by omega, by omega⟩) (by exact ⟨by omega, by omega⟩) (by exact ⟨by omega, by omega⟩) (by exact ⟨by omega, by omega⟩) (by exact ⟨by omega, by omega⟩) (by exact ⟨by omega, by omega⟩) (by exact ⟨by omega, by omega⟩) ?_; k_whole; intro h9 tk9 F9 N9; (try k_fold); (try k_sweep)))) | ((with_reducible show LCg.CompEnd ..); (k_dflt (refine' LCg.CompEnd.intro (by assumption) (by assumption) _ (by (intro p hp; repeat' (first | exact hp | refine List.mem_cons_of_mem _ ?_))) (by assumption) (by (exact Or.inr ⟨_, by k_mem, rfl, _, rfl⟩)) ⟨rfl, rfl⟩))) | ((with_reducible show LCp.SrcLP ..); (k_dflt (refine' LCp.SrcLP.ledger (by rfl) (by k_asm) (by k_asm) (by k_mem) (by (rw [PySem.sizeLine_eq, List.size_toArray]; omega)) ?_); ((intro g9; k_dflt (refine' pairs_comp pf9 (datall_mono (by intro p hp; repeat' (first | exact hp | refine List.mem_cons_of_mem _ ?_)) dP) (fun p9 t9 u9 t91 t92 t93 t94 u91 u92 u93 u94 n9 k9 I9 oI9 C9 oC9 D9 m29 ys9 h9 tk9 E9 hp9 mt9 mu9 hC9 hx9 hy9 F9 N9 off9 ne9 => ?_) ?_); (focus (obtain ⟨⟨⟨b1, b2⟩, ⟨b3, b4⟩, ⟨b5, b6⟩, b7, b8⟩, ⟨d1, d2⟩, ⟨d3, d4⟩, ⟨d5, d6⟩, d7, d8⟩ := pair_within hbR hp9)))))) | ((with_reducible show wpAny _ _ (eval (Expr.ListComp _ [⟨Expr.Tuple _ _ _, _, [], _⟩] _ _) _) _ _ _); k_dflt (refine LCp.ListComp_P (F₀ := by k_asm) (by with_unfolding_all rfl) (by decide) (by rfl) (by decide) (by rfl) (by rfl) (by decide) ?_)) | ((with_reducible show wpAny _ _ (truthy (Value.ref _)) _ _ _); k_dflt (refine' truthy_listN (by k_asm) (by k_mem) (by assumption) (by omega) ?_); intro tk9; (try k_sweep)) | ((with_reducible show wpAny _ _ (call (Value.builtin "len") [Value.ref _]) _ _ _); k_dflt (refine' len_listN (by k_asm) (by k_mem) (by exact rows_len (by assumption)) (by (first | omega | (simp only [List.length_map, List.length_range]; omega))) ?_); intro t9 tk9; (try k_sweep)) | ((with_reducible show wpAny _ _ (execs (Stmt.If (Expr.Compare (Expr.Call _ _ _ _) [CmpOp.Lt] _ _) _ _ _ :: _) _) _ _ _); (refine' execs_mid (MidA s1 s1.heap s1.heap.objs.size (s1.heap.objs.size + 1) (s1.heap.objs.size + 1 + 1) (s1.heap.objs.size + 1 + 1 + 1) (List.take 16 nsI)) ?_ ?_)) | ((with_reducible show LCg.CompEnd ..); (k_dflt (refine' row_end (by assumption) (by assumption) (by assumption) (by assumption) (by exact trivial) (by rfl)))) | ((with_reducible show SrcStep ..); ((rename IntsAre _ (List.take 16 _) => hI16); k_dflt (refine' src_rows (by assumption) hI16 (by (rw [List.length_take]; omega)) (by rfl) (by assumption) (by assumption) (fun i9 k9 z09 z19 z29 z39 t9 nx9 I9 oI9 C9 oC9 D9 m29 ys9 h9 tk9 E9 hk0 hk1 hx0 hx1 hx2 hx3 hs9 hC9 hx9 F9 N9 off9 ne9 => ?_) (fun g9 ys9 tl9 hlt9 hD9 D9 h9 tk9 F9 N9 o19 => ?_)); (focus ((have q1 := hs9 _ (.head _)); (have q2 := hs9 _ (.tail _ (.head _))); (have q3 := hs9 _ (.tail _ (.tail _ (.head _)))); (have q4 := hs9 _ (.tail _ (.tail _ (.tail _ (.head _)))))) ; skip); (rotate_left 1); (obtain ⟨N8, hne1, hne2, hne3⟩ := rows_start N9 o19 hlt9 (by assumption)); (clear N9); (rotate_right 1))) | ((with_reducible show wpAny _ _ (eval (Expr.ListComp _ [⟨Expr.Name _ _, _, [], _⟩] _ _) _) _ _ _); k_dflt (refine ListComp_step (F₀ := by k_asm) (by with_unfolding_all rfl) (by decide) (by rfl) (by decide) (by rfl) ?_)) | ((with_reducible show wpAny _ _ (subscriptTail _ _ (Value.ref _) (Value.int _ _)) _ _ _); k_dflt (refine' item_listN (by k_asm) (by k_mem) (by first | decide | omega) (by first | decide | omega) (by first | rfl | assumption) ?_; k_whole)) | ((with_reducible show wpAny _ _ (subscriptTail _ _ (Value.ref _) (Value.int _ _)) _ _ _); k_dflt (refine' item_tupleT (by exact News.isTup (by k_asm) (by k_mem)) (by decide) (by decide) (by rfl) (by rfl) ?_; k_whole)) | walk1 | (dsimp only; walk1) | (leave1; walk_say "STEP leave1"; try dsimp only) | fail "no step"))
    rename (List.Pairwise _ _) => kup
    rename (∀ k, k ∈ _ ↔ _) => kmem
    have hfin := area_law (B := Bd) (fun r hr => within_win (hbR r hr) hBd) (by omega) kmem kup
    rw [hfin, beq_self_eq_true]
    (repeat' (first | (k_unfold; (try dsimp only)) | (k_end; wrow_close) | ((with_reducible show wpAny _ _ (execs (Stmt.Assign _ (Expr.Call _ _ _ _) _ :: Stmt.Assign _ (Expr.Compare _ _ _ _) _ :: _) _) _ _ _); (refine' execs_mid (MidE0 s₂ s1.heap s1.heap.objs.size lE (s1.heap.objs.size + 1) (s1.heap.objs.size + 1 + 1) (s1.heap.objs.size + 1 + 1 + 1) (listOf [Value.bool false, Value.bool true].toArray 0) o1 o2 big (fun z => if z = "pairs" then some (.ref lP) else if z = "turn" then some (.int tv tt) else m z) e9 rs) ?_ ?_)) | ((with_reducible show wpAny _ _ (exec (Stmt.For ..) _) _ _ _); ((rename Fr _ _ _ _ => lF'); (with_unfolding_all refine' For_invTF lF' ?_ (by (intro _; rfl)); k_whole))) | ((with_reducible show wpAny _ _ (exec (Stmt.For ..) _) _ _ _); ((rename Fr _ _ _ _ => lF'); (with_unfolding_all refine' For_invTF lF' ?_ (by (intro _; rfl)); k_whole))) | ((with_reducible show wpAny _ _ (call (Value.builtin "list.append") [Value.ref _, Value.ref _]) _ _ _); k_dflt (refine' append_K (by k_asm) (by k_asm) (by k_upd) ?_ (by (rw [PySem.sizeLine_eq, List.size_toArray]; omega))); intro h9 F9 N9; (try k_sweep)) | ((with_reducible show wpAny _ _ (call (Value.ref 238) [Value.ref _]) _ _ _); k_dflt (refine' covered_c (by k_asm) (by k_asm) (by k_asm) (by k_asm) (by k_asm) (by exact rfl) (by exact rfl) (by ktr_room) (by ktr_units) (by assumption) (by assumption) (by assumption) (by k_mem) (by assumption) (by assumption) (by omega) (by assumption) ?_; k_whole; intro ss9 mem9 up9 t9 h9 d9 tk9 F9 N9; (try k_fold); (try k_sweep))) | ((with_reducible show wpAny _ _ (call (Value.ref 193) _ _) _ _ _); (k_dflt (refine' intersection_d (by k_asm) (by k_asm) (by k_asm) (by k_asm) (by k_asm) (by exact rfl) (by exact rfl) (by ktr_room) (by ktr_units) (by k_mem) (by k_mem) (by k_mem) (by k_mem) (by omega) (by omega) (by omega) (by omega) ?_ ?_; all_goals (k_whole; (first | (intro c9 a9 d9 k91 k92 k93 k94 k95 kw9 kh9 kx9 ky9 h9 tk9 F9 N9 l91 l92; (try k_lt l91); (try k_lt2 l92)) | (intro c9 h9 tk9 F9 N9)); (try dsimp only); (try k_fold); (try k_sweep))))) | ((with_reducible show wpAny _ _ (call (Value.ref 163) _ _) _ _ _); (k_dflt (refine' area_c (by k_asm) (by k_asm) (by k_asm) (by k_asm) (by k_asm) (by exact rfl) (by exact rfl) (by ktr_room) (by ktr_units) (by k_mem) (by k_mem) (by mul_fits) ?_; k_whole; intro t9 h9 tk9 F9 N9; (try dsimp only); (try k_fold); (try k_sweep)))) | ((with_reducible show wpAny _ _ (compareOp CmpOp.NotEq Value.none Value.none) _ _ _); (k_dflt (refine' dat_ne (by k_asm) (by exact DatIn.none) (by exact DatIn.none) (by rfl) (by rfl) (by ktr_units) ?_); (try simp only [decide_true, Bool.not_true]))) | ((with_reducible show wpAny _ _ (compareOp CmpOp.NotEq (Value.ref _) (Value.ref _)) _ _ _); k_dflt (refine' dat_ne (by k_asm) (by exact row_close (by k_mem)) (by exact row_close (by k_mem)) (by rfl) (by rfl) (by ktr_units) ?_); (try simp only [decide_true, Bool.not_true])) | ((with_reducible show wpAny _ _ (binaryOp _ (Value.ref _) (Value.ref _)) _ _ _); k_dflt (refine' kmk_add_lit (by k_asm) (by k_asm) (by exact News.isList (by k_asm) (by k_mem)) (by exact News.isList (by k_asm) (by k_mem)) (by exact rfl) ?_ (by (rw [PySem.sizeLine_eq]; simp only [List.toList_toArray, List.length_drop, List.length_take, List.length_cons, List.length_nil]; omega))); intro D' h' F' N' l1; (try k_lt l1); (try k_sweep)) | ((with_reducible show wpAny _ _ (subscriptTail (Expr.Name ..) (Expr.Slice ..) (Value.ref _) (Value.ref _)) _ _ _); (k_dflt (refine' kmk_slice_lit (by k_asm) (by k_asm) (by exact ⟨_, News.get (by k_asm) (by k_mem), rfl, _, rfl⟩) (by kmk_part) (by kmk_part) (by first | exact slice_from _ (by assumption) | exact slice_upto _ (by assumption)) ?_ (by with_unfolding_all rfl) (by kmk_pure) (by (rw [PySem.sizeLine_eq, List.size_toArray]; omega))); intro D' h' F' N' l1; (try k_lt l1); (try k_sweep))) | ((with_reducible show wpAny _ _ (call (Value.ref 233) _ _) _ _ _); (k_dflt (refine' one_any (by k_asm) (by k_asm) (by k_asm) (by k_asm) (by k_asm) (by exact rfl) (by exact rfl) (by ktr_room) (by ktr_units) (by k_mem) (by (first | exact datall_mono (by (intro p hp; repeat' (first | exact hp | refine List.mem_cons_of_mem _ ?_))) dR3 | exact datall_mono (by (intro p hp; repeat' (first | exact hp | refine List.mem_cons_of_mem _ ?_))) dRot)) (by (first | omega | (simp only [List.length_append, List.length_drop, List.length_take]; omega))) (by (first | omega | (simp only [List.length_append, List.length_drop, List.length_take]; omega))) (by (first | exact hwR | exact hwRot)) ?_ ?_; all_goals (k_whole; ((first | (intro q8 hd1 t8 s81 s82 s83 s84 n8 h9 tk9 F9 N9; ((first | rw [hone, hd0] at hd1 | rw [hone2, hd0] at hd1); cases hd1) <;> ((try k_fold); (try k_sweep))) | (intro hd1 h9 tk9 F9 N9; ((first | rw [hone, hd0] at hd1 | rw [hone2, hd0] at hd1); cases hd1) <;> ((try k_fold); (try k_sweep))))))))) | ((with_reducible show wpAny _ _ (call (Value.ref 226) _ _) _ _ _); (k_dflt (refine' shared_any (by k_asm) (by k_asm) (by k_asm) (by k_asm) (by k_asm) (by exact rfl) (by exact rfl) (by ktr_room) (by ktr_units) (by k_mem) (by (first | exact datall_mono (by (intro p hp; repeat' (first | exact hp | refine List.mem_cons_of_mem _ ?_))) dR3 | exact datall_mono (by (intro p hp; repeat' (first | exact hp | refine List.mem_cons_of_mem _ ?_))) dRot)) (by omega) (by omega) ?_ ?_; all_goals (k_whole; ((first | (intro q9 hd0 t9 s91 s92 s93 s94 n9 h9 tk9 F9 N9; (try k_fold); (try k_sweep)) | (intro hd0 h9 tk9 F9 N9; (try k_fold); (try k_sweep)))))))) | ((with_reducible show wpAny _ _ (call (Value.ref 185) _ _) _ _ _); (k_dflt (refine' intersects_c (by k_asm) (by k_asm) (by k_asm) (by k_asm) (by k_asm) (by exact rfl) (by exact rfl) (by ktr_room) (by ktr_units) (by k_mem) (by k_mem) (by k_mem) (by k_mem) ?_; k_whole; intro t9 h9 tk9 F9 N9; (try dsimp only); (try k_fold); (try k_sweep)))) | ((with_reducible show wpAny _ _ (call (Value.ref 214) _ _) _ _ _); (k_dflt (refine' box_c (by k_asm) (by k_asm) (by k_asm) (by k_asm) (by k_asm) (by exact rfl) (by exact rfl) (by ktr_room) (by ktr_units) (by k_mem) (by omega) (by omega) ?_; k_whole; intro a9 d9 k91 k92 k93 k94 k95 kw9 kh9 kx9 ky9 h9 tk9 F9 N9 l91 l92; (try k_lt l91); (try k_lt2 l92); (try dsimp only); (try k_fold); (try k_sweep)))) | ((with_reducible show wpAny _ _ (compareOp CmpOp.NotIn (Value.bool false) (Value.ref _)) _ _ _); k_dflt (refine' notIn_boolsN (by k_asm) (by k_mem) ?_)) | ((with_reducible show wpAny _ _ (compareOp CmpOp.In (Value.bool false) (Value.ref _)) _ _ _); k_dflt (refine' in_boolsN (by k_asm) (by k_mem) ?_)) | ((with_reducible show wpAny _ _ (call (Value.ref 245) _ _) _ _ _); (k_dflt (refine' pair_c (by k_asm) (by k_asm) (by k_asm) (by k_asm) (by k_asm) (by exact rfl) (by exact rfl) (by ktr_room) (by ktr_units) (by assumption) (by assumption) (by k_mem) (by k_mem) (by exact ⟨by omega, by omega⟩) (by exact ⟨by omega, by omega⟩) (by exact ⟨by omega, by omega⟩) (by exact ⟨by omega, by omega⟩) (by exact ⟨by omega, by omega⟩) (by exact ⟨by omega, by omega⟩) (by exact ⟨by omega, by omega⟩) (by exact ⟨by omega, by omega⟩) ?_; k_whole; intro h9 tk9 F9 N9; (try k_fold); (try k_sweep)))) | ((with_reducible show LCg.CompEnd ..); (k_dflt (refine' LCg.CompEnd.intro (by assumption) (by assumption) _ (by (intro p hp; repeat' (first | exact hp | refine List.mem_cons_of_mem _ ?_))) (by assumption) (by (exact Or.inr ⟨_, by k_mem, rfl, _, rfl⟩)) ⟨rfl, rfl⟩))) | ((with_reducible show LCp.SrcLP ..); (k_dflt (refine' LCp.SrcLP.ledger (by rfl) (by k_asm) (by k_asm) (by k_mem) (by (rw [PySem.sizeLine_eq, List.size_toArray]; omega)) ?_); ((intro g9; k_dflt (refine' pairs_comp pf9 (datall_mono (by intro p hp; repeat' (first | exact hp | refine List.mem_cons_of_mem _ ?_)) dP) (fun p9 t9 u9 t91 t92 t93 t94 u91 u92 u93 u94 n9 k9 I9 oI9 C9 oC9 D9 m29 ys9 h9 tk9 E9 hp9 mt9 mu9 hC9 hx9 hy9 F9 N9 off9 ne9 => ?_) ?_); (focus (obtain ⟨⟨⟨b1, b2⟩, ⟨b3, b4⟩, ⟨b5, b6⟩, b7, b8⟩, ⟨d1, d2⟩, ⟨d3, d4⟩, ⟨d5, d6⟩, d7, d8⟩ := pair_within hbR hp9)))))) | ((with_reducible show wpAny _ _ (eval (Expr.ListComp _ [⟨Expr.Tuple _ _ _, _, [], _⟩] _ _) _) _ _ _); k_dflt (refine LCp.ListComp_P (F₀ := by k_asm) (by with_unfolding_all rfl) (by decide) (by rfl) (by decide) (by rfl) (by rfl) (by decide) ?_)) | ((with_reducible show wpAny _ _ (truthy (Value.ref _)) _ _ _); k_dflt (refine' truthy_listN (by k_asm) (by k_mem) (by assumption) (by omega) ?_); intro tk9; (try k_sweep)) | ((with_reducible show wpAny _ _ (call (Value.builtin "len") [Value.ref _]) _ _ _); k_dflt (refine' len_listN (by k_asm) (by k_mem) (by exact rows_len (by assumption)) (by (first | omega | (simp only [List.length_map, List.length_range]; omega))) ?_); intro t9 tk9; (try k_sweep)) | ((with_reducible show wpAny _ _ (execs (Stmt.If (Expr.Compare (Expr.Call _ _ _ _) [CmpOp.Lt] _ _) _ _ _ :: _) _) _ _ _); (refine' execs_mid (MidA s1 s1.heap s1.heap.objs.size (s1.heap.objs.size + 1) (s1.heap.objs.size + 1 + 1) (s1.heap.objs.size + 1 + 1 + 1) (List.take 16 nsI)) ?_ ?_)) | ((with_reducible show LCg.CompEnd ..); (k_dflt (refine' row_end (by assumption) (by assumption) (by assumption) (by assumption) (by exact trivial) (by rfl)))) | ((with_reducible show SrcStep ..); ((rename IntsAre _ (List.take 16 _) => hI16); k_dflt (refine' src_rows (by assumption) hI16 (by (rw [List.length_take]; omega)) (by rfl) (by assumption) (by assumption) (fun i9 k9 z09 z19 z29 z39 t9 nx9 I9 oI9 C9 oC9 D9 m29 ys9 h9 tk9 E9 hk0 hk1 hx0 hx1 hx2 hx3 hs9 hC9 hx9 F9 N9 off9 ne9 => ?_) (fun g9 ys9 tl9 hlt9 hD9 D9 h9 tk9 F9 N9 o19 => ?_)); (focus ((have q1 := hs9 _ (.head _)); (have q2 := hs9 _ (.tail _ (.head _))); (have q3 := hs9 _ (.tail _ (.tail _ (.head _)))); (have q4 := hs9 _ (.tail _ (.tail _ (.tail _ (.head _)))))) ; skip); (rotate_left 1); (obtain ⟨N8, hne1, hne2, hne3⟩ := rows_start N9 o19 hlt9 (by assumption)); (clear N9); (rotate_right 1))) | ((with_reducible show wpAny _ _ (eval (Expr.ListComp _ [⟨Expr.Name _ _, _, [], _⟩] _ _) _) _ _ _); k_dflt (refine ListComp_step (F₀ := by k_asm) (by with_unfolding_all rfl) (by decide) (by rfl) (by decide) (by rfl) ?_)) | ((with_reducible show wpAny _ _ (subscriptTail _ _ (Value.ref _) (Value.int _ _)) _ _ _); k_dflt (refine' item_listN (by k_asm) (by k_mem) (by first | decide | omega) (by first | decide | omega) (by first | rfl | assumption) ?_; k_whole)) | ((with_reducible show wpAny _ _ (subscriptTail _ _ (Value.ref _) (Value.int _ _)) _ _ _); k_dflt (refine' item_tupleT (by exact News.isTup (by k_asm) (by k_mem)) (by decide) (by decide) (by rfl) (by rfl) ?_; k_whole)) | walk1 | (dsimp only; walk1) | (leave1; walk_say "STEP leave1"; try dsimp only) | fail "no step"))
end Mine
end
set_option maxRecDepth 100000 in
theorem PySem.Challenge.cw_ay0032_01_holds : PySem.Challenge.rw_ay0032_01.Holds := by
  exact Mine.law1
