import PyProof.Rows.All
import Wide.All
import OpenK.AllK
import Wide.FinOn
import Lean
import PySem.Challenge.RW_tv0017_01
open PySem PySem.W PyProof.Rows
set_option Elab.async false
set_option maxRecDepth 100000
set_option linter.unusedVariables false
namespace Mine
/-- the written part, and the code table of __len__ -/
def hook63 (K : Params → Frag) (as : List Addr) (e : ∀ P, as = (K P).map (·.1)) : Hook := kHook (fun P => (63, { cls := .none, data := .fields #[] }) :: K P) (63 :: as) (fun P => by rw [e P]; rfl)
local macro_rules | `(tactic| o_head ($f $K $as $e)) => `(tactic| o_head ((Mine.hook63 $K $as $e)))
set_option maxHeartbeats 8000000 in
open_top hd for PySem.Challenge.rw_tv0017_01
end Mine
open PySem PySem.W PyProof.Rows
set_option Elab.async false
set_option maxRecDepth 100000
set_option linter.unusedVariables false
namespace Mine

/-! arithmetic -/
theorem dp1 {d k m : Nat} (h : d + (k + 1) < m) : d + 1 + k < m := Nat.lt_of_le_of_lt (Nat.le_of_eq (Nat.succ_add d k)) h
theorem dp0 {d k m : Nat} (h : d + k < m) : d < m := Nat.lt_of_le_of_lt (Nat.le_add_right d k) h
theorem unS {u k c : Nat} (h : u + 100 * (k + 1) + 100 < c) (e : Nat) (he : e ≤ 100) : u + e + 100 * k + 100 < c :=
  Nat.lt_of_le_of_lt (Nat.add_le_add_right (Nat.le_trans (Nat.add_le_add_right (Nat.add_le_add_left he u) _) (Nat.le_of_eq (by rw [Nat.mul_succ, Nat.add_assoc, Nat.add_comm 100]))) 100) h
theorem un0 {u k c e : Nat} (h : u + 100 * k + 100 < c) (he : e ≤ 100) : u + e < c := Nat.lt_of_le_of_lt (Nat.add_le_add (Nat.le_add_right u _) he) h
theorem szL {n m : Nat} (h : n ≤ m) (hm : m ≤ 16777216) : n ≤ sizeLine := Nat.le_trans h (Nat.le_trans hm (Nat.le_of_eq sizeLine_eq.symm))
theorem i63 {n m : Nat} (h : n ≤ m) (hm : m < 2 ^ 63) : (n : Int) < 2 ^ 63 := Int.ofNat_lt.mpr (Nat.lt_of_le_of_lt h hm)
theorem sz63 {n : Nat} (h : n ≤ sizeLine) : (n : Int) < 2 ^ 63 := i63 h (by decide)
theorem nge63 {n : Nat} (h : n ≤ sizeLine) : ¬ (n : Int) ≥ 2 ^ 63 := Int.not_le.mpr (sz63 h)
theorem dbl {n : Nat} : 2 * (n : Int) = ((2 * n : Nat) : Int) := (Int.natCast_mul 2 n).symm
theorem nneg {n : Nat} : ¬ 2 * (n : Int) < 0 := Int.not_lt.mpr (by rw [dbl]; exact Int.natCast_nonneg _)
theorem dbl63 {n : Nat} (h : n ≤ 1000) : ¬ 2 * (n : Int) ≥ 2 ^ 63 := Int.not_le.mpr (by rw [dbl]; exact i63 (Nat.mul_le_mul_left 2 h) (by decide))
theorem dblS {n : Nat} : 2 * (n : Int) + (((1 : Nat) : Int) + ((1 : Nat) : Int)) = 2 * ((n + 1 : Nat) : Int) := (Int.mul_add 2 (n : Int) 1).symm
theorem negP {n : Nat} (h : 0 < n) : -(n : Int) ≤ -1 := Int.neg_le_neg (Int.ofNat_le.mpr h)
theorem subT {n j : Nat} (h : j < n) : (-1 - (j : Int) + n).toNat = n - 1 - j := by
  rw [show -1 - (j : Int) + n = ((n - 1 - j : Nat) : Int) from by rw [Nat.sub_sub, Int.ofNat_sub (by rw [Nat.add_comm]; exact h), Int.natCast_add, Int.add_comm, Int.sub_eq_add_neg, Int.sub_eq_add_neg, Int.neg_add]; rfl, Int.toNat_natCast]
theorem sub1 {n : Nat} (h : 0 < n) : (-1 + (n : Int)).toNat = n - 1 := by
  have := subT h
  exact this
theorem neJ {n j : Nat} (h : j < n) : -(n : Int) ≤ -1 - (j : Int) := by
  rw [Int.sub_eq_add_neg, ← Int.neg_add, Int.add_comm]; exact Int.neg_le_neg (Int.ofNat_le.mpr h)
theorem negJ {j : Nat} : ¬ 0 ≤ -1 - (j : Int) := Int.not_le.mpr (Int.lt_of_le_of_lt (Int.sub_le_self _ (Int.natCast_nonneg j)) (by decide))
theorem negL {n : Nat} {i : Int} (h : -(n : Int) ≤ i) (hn : n ≤ sizeLine) : -2 ^ 63 ≤ i := Int.le_trans (Int.neg_le_neg (Int.le_of_lt (sz63 hn))) h
theorem posL {n : Nat} {i : Int} (h : i.toNat < n) (hn : n ≤ sizeLine) : i < 2 ^ 63 := Int.lt_of_le_of_lt (Int.self_le_toNat i) (sz63 (Nat.le_trans (Nat.le_of_lt h) hn))
theorem natPred {j : Nat} (h : 1 ≤ j) : (j : Int) - 1 = ((j - 1 : Nat) : Int) := (Int.ofNat_sub h).symm
theorem dbl1 {a b : Nat} : 2 * (a : Int) + 2 = 2 * (b : Int) ↔ a + 1 = b := by
  rw [show 2 * (a : Int) + 2 = 2 * ((a + 1 : Nat) : Int) from (Int.mul_add 2 a 1).symm]
  exact ⟨fun e => Int.ofNat.inj (Int.eq_of_mul_eq_mul_left (by decide) e), fun e => by rw [e]⟩
theorem toN0 {a b : Int} (h : a < b) : b - a - 1 + 1 = ((b - a).toNat : Int) := by
  rw [Int.sub_add_cancel, Int.toNat_of_nonneg (Int.sub_nonneg_of_le (Int.le_of_lt h))]
theorem toN1 {a b : Int} (h : ¬ a < b) : 0 = ((b - a).toNat : Int) := by
  rw [Int.toNat_of_nonpos (Int.sub_nonpos_of_le (Int.not_lt.mp h))]; rfl
theorem in63 {a : Int} (h : -(2 ^ 40) ≤ a ∧ a ≤ 2 ^ 40) : -2 ^ 63 ≤ a ∧ a < 2 ^ 63 := ⟨Int.le_trans (by decide) h.1, Int.lt_of_le_of_lt h.2 (by decide)⟩
theorem toN63 {a b : Int} (h1 : -(2 ^ 40) ≤ a ∧ a ≤ 2 ^ 40) (h2 : -(2 ^ 40) ≤ b ∧ b ≤ 2 ^ 40) : -2 ^ 63 ≤ ((b - a).toNat : Int) ∧ ((b - a).toNat : Int) < 2 ^ 63 :=
  ⟨Int.le_trans (by decide) (Int.natCast_nonneg _), i63 (m := 2 ^ 40 + 2 ^ 40) (Int.toNat_le.mpr (Int.le_trans (Int.sub_le_sub h2.2 h1.1) (by decide))) (by decide)⟩
theorem in40 {a : Int} {m : Int} (h : 0 ≤ a ∧ a ≤ m) (hm : m ≤ 2 ^ 40) : -(2 ^ 40) ≤ a ∧ a ≤ 2 ^ 40 := ⟨Int.le_trans (by decide) h.1, Int.le_trans h.2 hm⟩
theorem toN24 {a b : Int} (ha : 0 ≤ a) (hb : b ≤ 100) : (b - a).toNat ≤ 2 ^ 24 := Int.toNat_le.mpr (Int.le_trans (Int.sub_le_sub hb ha) (by decide))
theorem sucL {i m : Nat} : m + (i + 1) = m + 1 + i := by rw [Nat.add_comm i, Nat.add_assoc]
theorem antiL {j n : Nat} (h : j ≤ n) (x : ¬ j < n) : j = n := Nat.le_antisymm h (Nat.le_of_not_lt x)
theorem predL {n : Nat} (h : 0 < n) : n - 1 < n := Nat.sub_lt h Nat.one_pos
theorem apN {N : Nat} {i j : Nat} (h : i ≠ j) : N + i ≠ N + j := fun e => h (Nat.add_left_cancel e)
theorem apA {N a : Nat} (h : a < N) (i : Nat) : a ≠ N + i := Nat.ne_of_lt (Nat.lt_of_lt_of_le h (Nat.le_add_right N i))
theorem fm2 (k : Nat) : (k : Int).fmod 2 = ((k % 2 : Nat) : Int) := by rw [Int.fmod_eq_emod_of_nonneg _ (by decide)]; rfl
theorem nq1 {m n j : Nat} (h : m ≤ n) (hj : j < m) : m - 1 - j < n := Nat.lt_of_le_of_lt (Nat.sub_le _ _) (Nat.lt_of_lt_of_le (predL (Nat.lt_of_le_of_lt (Nat.zero_le _) hj)) h)
theorem nq2 {m n j : Nat} (h : m ≤ n) (hj : j < m) : n ≠ m - 1 - j := Nat.ne_of_gt (nq1 h hj)
theorem nq3 {t n j : Nat} (h : j < min t (n - 1)) : j < n ∧ j ≠ n - 1 ∧ j < t ∧ j < n - 1 :=
  have h1 := Nat.lt_of_lt_of_le h (Nat.min_le_left _ _)
  have h2 := Nat.lt_of_lt_of_le h (Nat.min_le_right _ _)
  ⟨Nat.lt_of_lt_of_le h2 (Nat.sub_le _ _), Nat.ne_of_lt h2, h1, h2⟩
theorem nq0 {n j : Nat} (hj : j < n) : n - 1 - j < n := nq1 (Nat.le_refl _) hj
theorem i62 {i : Nat} (h : i ≤ 200) : (i : Int) ≤ 2 ^ 62 := Int.ofNat_le.mpr (Nat.le_trans h (by decide : 200 ≤ 2 ^ 62))
theorem i62' {i : Nat} (h : i ≤ 2000) : (i : Int) ≤ 2 ^ 62 := Int.ofNat_le.mpr (Nat.le_trans h (by decide : 2000 ≤ 2 ^ 62))
theorem i40 {n : Nat} (h : n ≤ 4) : -(2 ^ 40) ≤ (n : Int) ∧ (n : Int) ≤ 2 ^ 40 := in40 ⟨Int.natCast_nonneg n, Int.ofNat_le.mpr h⟩ (by decide)
theorem natI {n a b : Nat} (h : n ≤ a) (e : a ≤ b) : 0 ≤ (n : Int) ∧ (n : Int) ≤ (b : Int) := ⟨Int.natCast_nonneg n, Int.ofNat_le.mpr (Nat.le_trans h e)⟩
theorem bnds {n : Nat} (h : n ≤ 4) : (0 ≤ (n : Int) ∧ (n : Int) ≤ 100) ∧ (0 ≤ 2 * (n : Int) ∧ 2 * (n : Int) ≤ 100) ∧ (0 ≤ (n : Int) + 1 ∧ (n : Int) + 1 ≤ 100) ∧ (0 ≤ (n : Int) + 2 ∧ (n : Int) + 2 ≤ 100) ∧ (0 ≤ 2 * (n : Int) + 1 ∧ 2 * (n : Int) + 1 ≤ 100) :=
  ⟨natI (b := 100) h (by decide), natI (n := 2 * n) (b := 100) (Nat.mul_le_mul_left 2 h) (by decide), natI (n := n + 1) (b := 100) (Nat.add_le_add_right h 1) (by decide), natI (n := n + 2) (b := 100) (Nat.add_le_add_right h 2) (by decide), natI (n := 2 * n + 1) (b := 100) (Nat.add_le_add_right (Nat.mul_le_mul_left 2 h) 1) (by decide)⟩
theorem rl1 {n : Nat} (h : n ≤ 4) : 1 + (2 * (n : Int) + 1 - (n + 2)).toNat ≤ 1000 ∧ 1 + (2 * (n : Int) - n).toNat ≤ 1000 :=
  have b := bnds h
  ⟨Nat.add_le_add_left (m := 999) (Int.toNat_le.mpr (Int.le_trans (Int.sub_le_sub b.2.2.2.2.2 b.2.2.2.1.1) (by decide))) 1, Nat.add_le_add_left (m := 999) (Int.toNat_le.mpr (Int.le_trans (Int.sub_le_sub b.2.1.2 b.1.1) (by decide))) 1⟩
theorem repB {n : Nat} (h : n ≤ 8) : (n : Int) - 1 ≤ 1000 ∧ -1000 ≤ (n : Int) - 1 ∧ ((n : Int) - 1).toNat = n - 1 :=
  ⟨Int.le_trans (Int.sub_le_self _ (by decide)) (Int.ofNat_le.mpr (Nat.le_trans h (by decide : 8 ≤ 1000))), Int.le_trans (by decide) (Int.sub_le_sub_right (Int.natCast_nonneg n) 1), Int.pred_toNat _⟩
theorem lr1 {m : Int} {j : Nat} (h1 : 1 ≤ m) (h2 : m ≤ 20) (hj : j < 4) : -(2 ^ 40) ≤ m - (0 + (j : Int)) ∧ m - (0 + (j : Int)) ≤ 2 ^ 40 := by
  rw [Int.zero_add]
  exact ⟨Int.le_trans (by decide : -(2 ^ 40) ≤ (1 : Int) - 4) (Int.sub_le_sub h1 (Int.ofNat_le.mpr (Nat.le_of_lt hj))), Int.le_trans (Int.sub_le_self _ (Int.natCast_nonneg j)) (Int.le_trans h2 (by decide))⟩
theorem lr2 {m : Int} {j : Nat} (hj : j < 4) : (m + 1 - (m - (0 + (j : Int)))).toNat ≤ 2 ^ 24 := by
  rw [Int.zero_add, show m + 1 - (m - (j : Int)) = ((j + 1 : Nat) : Int) from Int.sub_eq_iff_eq_add.mpr (by rw [Int.natCast_succ, Int.add_right_comm, Int.add_comm (j : Int) (m - j), Int.sub_add_cancel]), Int.toNat_natCast]
  exact Nat.le_trans hj (by decide)
theorem minL {i n : Nat} (h : n ≤ 1000) : min i n ≤ 1000 := Nat.le_trans (Nat.min_le_right _ _) h
theorem tpl {n : Nat} : 3 + 3 * n = 3 * (n + 1) := Nat.add_comm _ _
theorem tplL {n : Nat} (h : n ≤ 100) : 3 * n ≤ 1000 := Nat.le_trans (Nat.mul_le_mul_left 3 h) (by decide)
theorem nnI {j : Nat} : (0 : Int) ≤ (j : Int) := Int.natCast_nonneg j
theorem fm3 (x : Int) : x.fmod 3 = 0 ∨ x.fmod 3 = 1 ∨ x.fmod 3 = 2 := by
  have h1 := Int.fmod_nonneg_of_pos x (show (0 : Int) < 3 by decide)
  have h2 := Int.fmod_lt_of_pos x (show (0 : Int) < 3 by decide)
  obtain ⟨n, e⟩ := Int.eq_ofNat_of_zero_le h1
  rw [e] at h2 ⊢
  exact (by decide : ∀ n : Nat, n < 3 → (n : Int) = 0 ∨ (n : Int) = 1 ∨ (n : Int) = 2) n (Int.ofNat_lt.mp h2)
theorem gen0 (x : Int) : [1 + x.fmod 5] ∈ [[(1 : Int)], [2], [3], [4], [5]] := by
  have h1 := Int.fmod_nonneg_of_pos x (show (0 : Int) < 5 by decide)
  have h2 := Int.fmod_lt_of_pos x (show (0 : Int) < 5 by decide)
  obtain ⟨n, e⟩ := Int.eq_ofNat_of_zero_le h1
  rw [e] at h2 ⊢
  exact (by decide : ∀ n : Nat, n < 5 → [1 + (n : Int)] ∈ [[(1 : Int)], [2], [3], [4], [5]]) n (Int.ofNat_lt.mp h2)
theorem fm4 (x : Int) : (x.fmod 4).toNat ≤ 3 ∧ x.fmod 4 = ((x.fmod 4).toNat : Int) :=
  have h1 := Int.fmod_nonneg_of_pos x (show (0 : Int) < 4 by decide)
  have h2 := Int.fmod_lt_of_pos x (show (0 : Int) < 4 by decide)
  ⟨Int.toNat_le.mpr (Int.le_of_lt_add_one h2), (Int.toNat_of_nonneg h1).symm⟩
theorem ltS {P : Nat → Prop} {n : Nat} (h : ∀ m, m < n → P m) (hn : P n) : ∀ m, m < n + 1 → P m := fun m q => (Nat.lt_or_eq_of_le (Nat.le_of_lt_succ q)).elim (h m) fun e => e ▸ hn
theorem lt0 {P : Nat → Prop} : ∀ m, m < 0 → P m := fun m q => absurd q (Nat.not_lt_zero m)
theorem rng63 {n : Nat} (h : n ≤ 1000) : (decide ((n : Int) < -(2 ^ 63 : Int)) || decide ((n : Int) ≥ 2 ^ 63)) = false := by
  rw [decide_eq_false (Int.not_lt.mpr (Int.le_trans (by decide) (Int.natCast_nonneg n))), decide_eq_false (Int.not_le.mpr (i63 h (by decide)))]; rfl

/-- the written part -/
noncomputable abbrev KK (w : World) : Frag := hd.heap_39 w.params
abbrev prg : Program := PySem.Challenge.rw_tv0017_01.row.prog
abbrev MM (w : World) : Model := model prg w
abbrev tblA : Addr := 63
abbrev codA : Addr := 67
abbrev tblO (ps : Array Value) : Obj := { cls := .none, data := .fields ps }

/-- plain data -/
inductive D where
  | none
  | bool (b : Bool)
  | int (i : Int)
  | str (s : PySem.Str)
  | typ (n : String)
  | tup (l : List D)
  | lst (l : List D)
  | obj (a : Addr)
  | rng (a b : Int)

mutual
inductive DIn (W : Addr → Prop) (h : Heap) : Value → D → Prop
  | none : DIn W h .none .none
  | bool (b : Bool) : DIn W h (.bool b) (.bool b)
  | int (i : Int) (t : Tok) : DIn W h (.int i t) (.int i)
  | str (s : PySem.Str) (t : Tok) : DIn W h (.str s t) (.str s)
  | typ (n : String) : DIn W h (.type n) (.typ n)
  | tup {a : Addr} {vs : List Value} {ds : List D} : ¬ W a → h.IsTuple a vs.toArray → DAll W h vs ds → DIn W h (.ref a) (.tup ds)
  | lst {a : Addr} {vs : List Value} {ds : List D} : ¬ W a → h.PlainList a vs.toArray → DAll W h vs ds → DIn W h (.ref a) (.lst ds)
  | obj (a : Addr) : DIn W h (.ref a) (.obj a)
  | rng {r : Addr} {a b : Int} {t u v : Tok} : ¬ W r → IsRange h r a b 1 t u v → DIn W h (.ref r) (.rng a b)
inductive DAll (W : Addr → Prop) (h : Heap) : List Value → List D → Prop
  | nil : DAll W h [] []
  | cons {v : Value} {vs : List Value} {d : D} {ds : List D} : DIn W h v d → DAll W h vs ds → DAll W h (v :: vs) (d :: ds)
end

/-- frozen sequences stand -/
def Pr (W W' : Addr → Prop) (h h' : Heap) : Prop := ∀ a o, ¬ W a → h.get? a = some o → ((∃ xs n, o.data = .seq xs n) ∨ ∃ xs, o.data = .fields xs) → h'.get? a = some o ∧ ¬ W' a

theorem DIn.pr {W W' : Addr → Prop} {h h' : Heap} (k : Pr W W' h h') {v : Value} {d : D} (x : DIn W h v d) : DIn W' h' v d :=
  DIn.rec (motive_1 := fun v d _ => DIn W' h' v d) (motive_2 := fun vs ds _ => DAll W' h' vs ds) .none .bool .int .str .typ
    (fun hw ht _ r => by
      obtain ⟨o, ho, hc, n, hd⟩ := ht
      have z := k _ _ hw ho (.inl ⟨_, n, hd⟩)
      exact .tup z.2 ⟨o, z.1, hc, n, hd⟩ r)
    (fun hw hl _ r => by
      obtain ⟨n, ho⟩ := hl
      have z := k _ _ hw ho (.inl ⟨_, n, rfl⟩)
      exact .lst z.2 ⟨n, z.1⟩ r)
    .obj (fun hw hr => by
      have z := k _ _ hw hr (.inr ⟨_, rfl⟩)
      exact .rng z.2 z.1) .nil (fun _ _ a r => .cons a r) x
theorem DAll.pr {W W' : Addr → Prop} {h h' : Heap} (k : Pr W W' h h') {vs : List Value} {ds : List D} (x : DAll W h vs ds) : DAll W' h' vs ds := by
  induction vs generalizing ds with
  | nil => cases x; exact .nil
  | cons v vs ih => cases x with | cons a r => exact .cons (a.pr k) (ih r)

section
variable {W : Addr → Prop} {h : Heap} {v : Value} {vs ws : List Value} {d : D} {ds es : List D}
theorem DAll.length (x : DAll W h vs ds) : vs.length = ds.length := by
  induction vs generalizing ds with
  | nil => cases x; rfl
  | cons v vs ih => cases x with | cons a r => simp [ih r]
theorem DAll.take (x : DAll W h vs ds) (k : Nat) : DAll W h (vs.take k) (ds.take k) := by
  induction k generalizing vs ds with
  | zero => exact .nil
  | succ k ih => cases x with | nil => exact .nil | cons a r => exact .cons a (ih r)
theorem DAll.append (x : DAll W h vs ds) (y : DAll W h ws es) : DAll W h (vs ++ ws) (ds ++ es) := by
  induction vs generalizing ds with
  | nil => cases x; exact y
  | cons v vs ih => cases x with | cons a r => exact .cons a (ih r)
theorem DAll.one (x : DIn W h v d) : DAll W h [v] [d] := .cons x .nil
theorem DAll.get (x : DAll W h vs ds) {k : Nat} {d : D} (hk : ds[k]? = some d) : ∃ v, vs[k]? = some v ∧ DIn W h v d := by
  induction vs generalizing ds k with
  | nil => cases x; simp at hk
  | cons v vs ih =>
    cases x with
    | cons a r =>
      cases k with
      | zero => simp at hk; subst hk; exact ⟨v, rfl, a⟩
      | succ k => simp at hk; exact ih r hk
theorem DAll.getV (x : DAll W h vs ds) {k : Nat} {v : Value} (hk : vs[k]? = some v) : ∃ d, ds[k]? = some d ∧ DIn W h v d := by
  induction vs generalizing ds k with
  | nil => simp at hk
  | cons v' vs ih =>
    cases x with
    | cons a r =>
      cases k with
      | zero => simp at hk; subst hk; exact ⟨_, rfl, a⟩
      | succ k => simp at hk; exact ih r hk
end

/-- the heap grows: all stands but the one code table, which grows -/
structure Gr (h h' : Heap) : Prop where
  keep : ∀ a o, a ≠ tblA → h.get? a = some o → h'.get? a = some o
  tab : ∀ ps, h.get? tblA = some (tblO ps) → ∃ more, h'.get? tblA = some (tblO (ps ++ more))
theorem Gr.refl (h : Heap) : Gr h h := ⟨fun _ _ _ e => e, fun ps e => ⟨#[], by simpa using e⟩⟩
theorem Gr.trans {h₁ h₂ h₃ : Heap} (x : Gr h₁ h₂) (y : Gr h₂ h₃) : Gr h₁ h₃ :=
  ⟨fun a o n e => y.keep a o n (x.keep a o n e), fun ps e => by
    obtain ⟨m, e⟩ := x.tab ps e
    obtain ⟨m', e⟩ := y.tab _ e
    exact ⟨m ++ m', by rw [e, Array.append_assoc]⟩⟩
theorem Gr.of {h h' : Heap} (k : ∀ b o, h.get? b = some o → h'.get? b = some o) : Gr h h' := ⟨fun a o _ e => k a o e, fun ps e => ⟨#[], by simpa using k _ _ e⟩⟩
theorem Gr.off {h h' : Heap} {a : Addr} (hs : Heap.SameBut a h h') (hn : h.get? a = none) : Gr h h' := .of fun b o e => (hs.2 b (by rintro rfl; rw [hn] at e; cases e)).trans e

/-- no object of the text's -/
structure Own (w : World) (a : Addr) : Prop where
  k : (KK w).lookup a = none
  n : a ≠ 0 ∧ a ≠ 2 ∧ a ≠ 3 ∧ a ≠ 4

/-- what is known of the text's top -/
structure Tx (w : World) (h : Heap) : Prop where
  k : (KK w).In h
  g : ∃ mg, h.Ns mainGlobals mg
  b : ∃ mb, h.Ns builtinsNs mb ∧ ∀ x : PySem.Str, x ≠ "__name__" → mb x = bootBuiltins x
  nl : h.NoLimit
  bm : ∃ o, h.get? 4 = some o ∧ o.cls = .type "module" ∧ o.dict = some builtinsNs ∧ o.data = .plain
theorem Tx.at {w : World} {h h' : Heap} (x : Tx w h) (k : ∀ a o, ¬ Own w a → h.get? a = some o → h'.get? a = some o) : Tx w h' where
  k := fun a o e => k a o (fun c => by rw [c.k] at e; cases e) (x.k a o e)
  g := by
    obtain ⟨mg, o, es, ep, ho, r⟩ := x.g
    exact ⟨mg, o, es, ep, k _ o (fun c => c.n.2.2.1 rfl) ho, r⟩
  b := by
    obtain ⟨mb, ⟨o, es, ep, ho, r⟩, z⟩ := x.b
    exact ⟨mb, ⟨o, es, ep, k _ o (fun c => c.n.1 rfl) ho, r⟩, z⟩
  nl := by
    obtain ⟨mc, ⟨o, es, ep, ho, r⟩, z⟩ := x.nl
    exact ⟨mc, ⟨o, es, ep, k _ o (fun c => c.n.2.1 rfl) ho, r⟩, z⟩
  bm := let ⟨o, ho, r⟩ := x.bm; ⟨o, k _ o (fun c => c.n.2.2.2 rfl) ho, r⟩
theorem own_tbl (w : World) : Own w tblA := ⟨by rfl, by decide⟩
theorem Tx.fresh {w : World} {h : Heap} (x : Tx w h) {a : Addr} (hn : h.get? a = none) : Own w a := by
  refine ⟨?_, ?_, ?_, ?_, ?_⟩
  · cases e : (KK w).lookup a with
    | none => rfl
    | some o => have := x.k a o e; rw [hn] at this; cases this
  · rintro rfl
    obtain ⟨mb, ⟨o, es, ep, ho, r⟩, z⟩ := x.b
    rw [show h.get? 0 = some o from ho] at hn; cases hn
  · rintro rfl
    obtain ⟨mc, ⟨o, es, ep, ho, r⟩, z⟩ := x.nl
    rw [show h.get? 2 = some o from ho] at hn; cases hn
  · rintro rfl
    obtain ⟨mg, o, es, ep, ho, r⟩ := x.g
    rw [show h.get? 3 = some o from ho] at hn; cases hn
  · rintro rfl
    obtain ⟨o, ho, _⟩ := x.bm
    rw [ho] at hn; cases hn
theorem Tx.gr {w : World} {h h' : Heap} (x : Tx w h) (g : Gr h h') : Tx w h' := x.at fun a o n e => g.keep a o (fun c => n (c ▸ own_tbl w)) e

/-- the code table of __len__ -/
def Tab (h : Heap) : Prop := ∃ ps, h.get? tblA = some (tblO ps) ∧ TriplesOk ps.toList

/-- what may change: piles, lists in the making -/
inductive Mu where
  | acc (dx : Addr) (l : List (PySem.Str × PySem.Str))
  | opn (l : List D)
abbrev stoneD (p : PySem.Str × PySem.Str) : D := .tup [.str p.1, .str p.2]
abbrev accO (dx : Addr) (vs : List Value) (n : Nat) : Obj := { cls := .ref 101, dict := some dx, data := .seq vs.toArray n }
def MuAt (W : Addr → Prop) (h : Heap) (a : Addr) : Mu → Prop
  | .acc dx l => (∃ vs n, h.get? a = some (accO dx vs n) ∧ DAll W h vs (l.map stoneD)) ∧ dx ≠ a ∧ ∃ hsh t t', h.get? dx = some (dictOf [⟨hsh, .str "_initial_size" t, .int 0 t'⟩] 1)
  | .opn l => ∃ vs n, h.get? a = some { cls := .type "list", data := .seq vs.toArray n } ∧ DAll W h vs l
def MuW (W : Addr → Prop) (μ : List (Addr × Mu)) : Prop := ∀ p ∈ μ, W p.1 ∧ ∀ dx l, p.2 = .acc dx l → W dx

structure Bs (w : World) (W : Addr → Prop) (μ : List (Addr × Mu)) (s : Shared) : Prop where
  tx : Tx w s.heap
  tab : Tab s.heap
  bare : AllBare s.gens
  wt : W tblA
  live : ∀ a, W a → ∃ o, s.heap.get? a = some o
  own : ∀ a, W a → Own w a
  mw : MuW W μ
  mu : ∀ p ∈ μ, MuAt W s.heap p.1 p.2

structure Go (s s' : Shared) : Prop where
  gr : Gr s.heap s'.heap
  os : s'.os = s.os
theorem Go.refl (s : Shared) : Go s s := ⟨.refl _, rfl⟩
theorem Go.trans {s₁ s₂ s₃ : Shared} (x : Go s₁ s₂) (y : Go s₂ s₃) : Go s₁ s₃ := ⟨x.gr.trans y.gr, y.os.trans x.os⟩
theorem Go.of {s : Shared} {h' : Heap} {tk : Nat} (k : ∀ b o, s.heap.get? b = some o → h'.get? b = some o) : Go s { s with heap := h', toks := tk } := ⟨.of k, rfl⟩
theorem Go.tok {s : Shared} {tk : Nat} : Go s { s with toks := tk } := ⟨.refl _, rfl⟩

theorem Gr.pr {W : Addr → Prop} {h h' : Heap} (g : Gr h h') (wt : W tblA) : Pr W W h h' := fun a o n e _ => ⟨g.keep a o (fun c => n (c ▸ wt)) e, n⟩
theorem MuAt.gr {W : Addr → Prop} {h h' : Heap} {a : Addr} {x : Mu} (g : Gr h h') (wt : W tblA) (m : MuAt W h a x) (ha : a ≠ tblA) (hd : ∀ dx l, x = .acc dx l → dx ≠ tblA) : MuAt W h' a x := by
  cases x with
  | acc dx l =>
    obtain ⟨⟨vs, n, e, r⟩, w2, hsh, t, t', q⟩ := m
    exact ⟨⟨vs, n, g.keep _ _ ha e, r.pr (g.pr wt)⟩, w2, hsh, t, t', g.keep _ _ (hd _ _ rfl) q⟩
  | opn l =>
    obtain ⟨vs, n, e, r⟩ := m
    exact ⟨vs, n, g.keep _ _ ha e, r.pr (g.pr wt)⟩
theorem MuAt.off {W : Addr → Prop} {h : Heap} {a : Addr} {x : Mu} (t : Tab h) (m : MuAt W h a x) : a ≠ tblA ∧ ∀ dx l, x = .acc dx l → dx ≠ tblA := by
  obtain ⟨ps, t, _⟩ := t
  refine ⟨?_, ?_⟩
  · rintro rfl
    cases x with
    | acc dx l => obtain ⟨⟨vs, n, e, r⟩, _⟩ := m; rw [t] at e; cases e
    | opn l => obtain ⟨vs, n, e, r⟩ := m; rw [t] at e; cases e
  · rintro dx l rfl rfl
    obtain ⟨_, _, hsh, t1, t2, q⟩ := m
    rw [t] at q; cases q

theorem Bs.go {w : World} {W : Addr → Prop} {μ : List (Addr × Mu)} {s s' : Shared} (x : Bs w W μ s) (g : Go s s') (t : Tab s'.heap) (b : AllBare s'.gens) : Bs w W μ s' where
  tx := x.tx.gr g.gr
  tab := t
  bare := b
  wt := x.wt
  live := fun a ha => by
    obtain ⟨o, e⟩ := x.live a ha
    by_cases hc : a = tblA
    · subst hc; obtain ⟨ps, e, _⟩ := t; exact ⟨_, e⟩
    · exact ⟨o, g.gr.keep a o hc e⟩
  own := x.own
  mw := x.mw
  mu := fun p hp => (x.mu p hp).gr g.gr x.wt ((x.mu p hp).off x.tab).1 ((x.mu p hp).off x.tab).2
/-- a step that keeps all -/
theorem Bs.keep {w : World} {W : Addr → Prop} {μ : List (Addr × Mu)} {s : Shared} {h' : Heap} {tk : Nat} (x : Bs w W μ s) (k : ∀ b o, s.heap.get? b = some o → h'.get? b = some o) : Bs w W μ { s with heap := h', toks := tk } :=
  x.go (.of k) (let ⟨ps, e, r⟩ := x.tab; ⟨ps, k _ _ e, r⟩) x.bare
theorem Bs.tok {w : World} {W : Addr → Prop} {μ : List (Addr × Mu)} {s : Shared} {tk : Nat} (x : Bs w W μ s) : Bs w W μ { s with toks := tk } := x.keep fun _ _ e => e

/-- a name loads a value -/
inductive Holds (env : Env) (h : Heap) (x : PySem.Str) (v : Value) : Prop
  | loc (m : PySem.Str → Option Value) : env.kindOf x = some .local → h.Ns env.locals m → m x = some v → Holds env h x v
  | cell (c : Addr) : (env.kindOf x = some .cell ∨ (env.kindOf x = some .free ∧ (x == ("__classdict__" : PySem.Str)) = false)) → env.cells.lookup x = some c → h.IsCell c (some v) → Holds env h x v

abbrev Rho := List (PySem.Str × D)

structure St (w : World) (W : Addr → Prop) (env : Env) (ρ : Rho) (μ : List (Addr × Mu)) (s : Shared) : Prop extends Bs w W μ s where
  ek : env.scope.kind = .function
  eg : env.globals = mainGlobals
  eb : env.builtins = builtinsNs
  ns : ∃ m, s.heap.Ns env.locals m
  lo : Own w env.locals
  lw : ¬ W env.locals
  cells : ∀ n c, env.cells.lookup n = some c → ∃ v, s.heap.IsCell c v
  co : ∀ n c, env.cells.lookup n = some c → Own w c
  cw : ∀ n c, env.cells.lookup n = some c → ¬ W c
  ap : env.cells.Pairwise fun x y => x.2 ≠ y.2
  loc : ∀ x d, ρ.lookup x = some d → ∃ v, Holds env s.heap x v ∧ DIn W s.heap v d

theorem Holds.gr {env : Env} {h h' : Heap} {x : PySem.Str} {v : Value} (y : Holds env h x v) (g : Gr h h') (t : Tab h) : Holds env h' x v := by
  obtain ⟨ps, t, _⟩ := t
  cases y with
  | loc m k n e => exact .loc m k (let ⟨o, es, ep, ho, hd, r⟩ := n; ⟨o, es, ep, g.keep _ _ (by intro c; rw [c, t] at ho; cases ho; cases hd) ho, hd, r⟩) e
  | cell c k l e => exact .cell c k l (let ⟨o, ho, hd⟩ := e; ⟨o, g.keep _ _ (by intro c; rw [c, t] at ho; cases ho; cases hd) ho, hd⟩)

theorem St.go {w : World} {W : Addr → Prop} {env : Env} {ρ : Rho} {μ : List (Addr × Mu)} {s s' : Shared} (x : St w W env ρ μ s) (g : Go s s') (b : Bs w W μ s') : St w W env ρ μ s' where
  toBs := b
  ek := x.ek
  eg := x.eg
  eb := x.eb
  ns := by
    obtain ⟨ps, t, _⟩ := x.tab
    obtain ⟨m, o, es, ep, ho, hd, r⟩ := x.ns
    exact ⟨m, o, es, ep, g.gr.keep _ _ (by intro c; rw [c, t] at ho; cases ho; cases hd) ho, hd, r⟩
  lo := x.lo
  lw := x.lw
  cells := fun n c hc => by
    obtain ⟨ps, t, _⟩ := x.tab
    obtain ⟨v, o, ho, hd⟩ := x.cells n c hc
    exact ⟨v, o, g.gr.keep _ _ (by intro c; rw [c, t] at ho; cases ho; cases hd) ho, hd⟩
  co := x.co
  cw := x.cw
  ap := x.ap
  loc := fun n d e => let ⟨v, h1, h2⟩ := x.loc n d e; ⟨v, h1.gr g.gr x.tab, h2.pr (g.gr.pr x.wt)⟩
theorem St.keep {w : World} {W : Addr → Prop} {env : Env} {ρ : Rho} {μ : List (Addr × Mu)} {s : Shared} {h' : Heap} {tk : Nat} (x : St w W env ρ μ s) (k : ∀ b o, s.heap.get? b = some o → h'.get? b = some o) : St w W env ρ μ { s with heap := h', toks := tk } :=
  x.go (.of k) (x.toBs.keep k)
theorem St.tok {w : World} {W : Addr → Prop} {env : Env} {ρ : Rho} {μ : List (Addr × Mu)} {s : Shared} {tk : Nat} (x : St w W env ρ μ s) : St w W env ρ μ { s with toks := tk } := x.keep fun _ _ e => e

/-- room around -/
structure AOk (k : Nat) (A : Around) : Prop where
  hh : A.handled = none
  dp : A.depth + k < recursionLimit
  un : A.units + 100 * k + 100 < cLine

/-- an expression has a datum -/
def Ev (w : World) (k : Nat) (env : Env) (ρ : Rho) (μ : List (Addr × Mu)) (e : Expr) (d : D) : Prop :=
  ∀ (W : Addr → Prop) (A : Around) (E : Value → Shared → Prop) (s : Shared) (Q : Value → Shared → Prop), AOk k A → St w W env ρ μ s →
    (∀ v s', St w W env ρ μ s' → Go s s' → DIn W s'.heap v d → Q v s') → wpAny (MM w) A (eval e env) Q E s

end Mine
open PySem PySem.W PyProof.Rows
set_option Elab.async false
set_option maxRecDepth 100000
set_option linter.unusedVariables false
namespace Mine

variable {w : World} {k : Nat} {env : Env} {ρ : Rho} {μ : List (Addr × Mu)}

/-- a written name of the text's top -/
def Nm (w : World) (env : Env) (x : PySem.Str) (v : Value) : Prop :=
  ∀ (W : Addr → Prop) (A : Around) (E : Value → Shared → Prop) (s : Shared) (ρ : Rho) (μ : List (Addr × Mu)) (p : Pos) (Q : Value → Shared → Prop), St w W env ρ μ s → Q v s → wpAny (MM w) A (eval (.Name x p) env) Q E s

theorem Nm.glob {x : PySem.Str} {v : Value} (hx : env.kindOf x = some .globalImplicit) (e : nsIn (KK w) mainGlobals x = some (some v)) (hd : (x == ("__debug__" : PySem.Str)) = false := by decide) : Nm w env x v := by
  intro W A E s ρ μ p Q st h
  obtain ⟨mg, hg⟩ := st.tx.g
  refine wpAny_Name ?_ hd
  rw [loadName_read st.ek hx]
  exact Calls.loadGlobal_global (by rw [st.eg]; exact hg) (mg_of st.tx.k hg e) h
theorem Nm.blt {x : PySem.Str} {v : Value} (hx : env.kindOf x = some .globalImplicit) (e : nsIn (KK w) mainGlobals x = some none) (hb : bootBuiltins x = some v) (hn : x ≠ "__name__" := by decide) (hd : (x == ("__debug__" : PySem.Str)) = false := by decide) : Nm w env x v := by
  intro W A E s ρ μ p Q st h
  obtain ⟨mg, hg⟩ := st.tx.g
  obtain ⟨mb, hb', hz⟩ := st.tx.b
  refine wpAny_Name ?_ hd
  rw [loadName_read st.ek hx]
  exact Calls.loadGlobal_builtin (by rw [st.eg]; exact hg) (mg_none_of st.tx.k hg e) (by rw [st.eb]; exact hb') ((hz x hn).trans hb) h

theorem Holds.load {h : Heap} {x : PySem.Str} {v : Value} {M : Model} {A : Around} {E : Value → Shared → Prop} {s : Shared} {Q : Value → Shared → Prop} (y : Holds env s.heap x v) (ek : env.scope.kind = .function) (q : Q v s) : wpAny M A (loadName env x) Q E s := by
  cases y with
  | loc m hk n e => exact wpAny_loadName_local ek hk n e q
  | cell c hk l e =>
    rcases hk with hk | ⟨hk, hn⟩
    · exact wpAny_loadName_cell ek hk l e q
    · exact wpAny_loadName_free ek hk l e q hn

theorem Ev.name {x : PySem.Str} {d : D} {p : Pos} (e : ρ.lookup x = some d) (hd : (x == ("__debug__" : PySem.Str)) = false := by decide) : Ev w k env ρ μ (.Name x p) d := by
  intro W A E s Q a st h
  obtain ⟨v, hv, dv⟩ := st.loc x d e
  exact wpAny_Name (hv.load (h := s.heap) st.ek (h _ _ st (.refl _) dv)) hd
theorem Ev.int {i : Int} {n : Nat} {p : Pos} : Ev w k env ρ μ (.Constant (.int i) n p) (.int i) := fun _ _ _ s _ _ st h => wpAny_Constant_int (h _ _ st.tok .tok (.int i _))
theorem Ev.str {x : PySem.Str} {n : Nat} {p : Pos} : Ev w k env ρ μ (.Constant (.str x) n p) (.str x) := fun _ _ _ s _ _ st h => Calls.Constant_str (h _ _ st.tok .tok (.str x _))
theorem Ev.bool {b : Bool} {n : Nat} {p : Pos} : Ev w k env ρ μ (.Constant (.bool b) n p) (.bool b) := fun _ _ _ s _ _ st h => Constant_bool (h _ _ st (.refl _) (.bool b))
theorem Ev.none {n : Nat} {p : Pos} : Ev w k env ρ μ (.Constant .none n p) .none := fun _ _ _ s _ _ st h => Constant_none (h _ _ st (.refl _) .none)

/-- an operation on two values -/
def Bo (w : World) (k : Nat) (op : Operator) (a b c : D) : Prop :=
  ∀ (W : Addr → Prop) (A : Around) (E : Value → Shared → Prop) (s : Shared) (μ : List (Addr × Mu)) (u v : Value) (Q : Value → Shared → Prop), AOk k A → Bs w W μ s → DIn W s.heap u a → DIn W s.heap v b →
    (∀ r s', Bs w W μ s' → Go s s' → DIn W s'.heap r c → Q r s') → wpAny (MM w) A (binaryOp op u v) Q E s
def Cm (w : World) (k : Nat) (op : CmpOp) (a b : D) (c : Bool) : Prop :=
  ∀ (W : Addr → Prop) (A : Around) (E : Value → Shared → Prop) (s : Shared) (μ : List (Addr × Mu)) (u v : Value) (Q : Value → Shared → Prop), AOk k A → Bs w W μ s → DIn W s.heap u a → DIn W s.heap v b →
    (∀ s', Bs w W μ s' → Go s s' → Q (.bool c) s') → wpAny (MM w) A (compareOp op u v) Q E s

theorem DIn.go {W : Addr → Prop} {s s' : Shared} {v : Value} {d : D} (x : DIn W s.heap v d) (g : Go s s') (wt : W tblA) : DIn W s'.heap v d := x.pr (g.gr.pr wt)
theorem DAll.go {W : Addr → Prop} {s s' : Shared} {v : List Value} {d : List D} (x : DAll W s.heap v d) (g : Go s s') (wt : W tblA) : DAll W s'.heap v d := x.pr (g.gr.pr wt)

theorem Ev.bin {l r : Expr} {op : Operator} {p : Pos} {a b c : D} (hl : Ev w k env ρ μ l a) (hr : Ev w k env ρ μ r b) (ho : Bo w k op a b c) : Ev w k env ρ μ (.BinOp l op r p) c := by
  intro W A E s Q ok st h
  refine wpAny_BinOp (hl W A E s _ ok st fun u s₁ st₁ g₁ d₁ => hr W A E s₁ _ ok st₁ fun v s₂ st₂ g₂ d₂ => ho W A E s₂ μ u v _ ok st₂.toBs (d₁.go g₂ st.wt) d₂ fun r s₃ b₃ g₃ d₃ => ?_)
  exact h r s₃ (st₂.go g₃ b₃) ((g₁.trans g₂).trans g₃) d₃
theorem Ev.cmp {l r : Expr} {op : CmpOp} {p : Pos} {a b : D} {c : Bool} (hl : Ev w k env ρ μ l a) (hr : Ev w k env ρ μ r b) (ho : Cm w k op a b c) (hm : behindInMarks op r = false := by with_unfolding_all rfl) : Ev w k env ρ μ (.Compare l [op] [r] p) (.bool c) := by
  intro W A E s Q ok st h
  refine wpAny_Compare1 (hl W A E s _ ok st fun u s₁ st₁ g₁ d₁ => hr W A E s₁ _ ok st₁ fun v s₂ st₂ g₂ d₂ => ho W A E s₂ μ u v _ ok st₂.toBs (d₁.go g₂ st.wt) d₂ fun s₃ b₃ g₃ => ?_) hm
  exact h _ s₃ (st₂.go g₃ b₃) ((g₁.trans g₂).trans g₃) (.bool c)

/-- a test -/
def Tr (w : World) (k : Nat) (env : Env) (ρ : Rho) (μ : List (Addr × Mu)) (e : Expr) (c : Bool) : Prop :=
  ∀ (W : Addr → Prop) (A : Around) (E : Value → Shared → Prop) (s : Shared) (Q : Bool → Shared → Prop), AOk k A → St w W env ρ μ s →
    (∀ s', St w W env ρ μ s' → Go s s' → Q c s') → wpAny (MM w) A (isTrue e env (eval e env)) Q E s
theorem Tr.cmp {l r : Expr} {op : CmpOp} {p : Pos} {a b : D} {c : Bool} (hl : Ev w k env ρ μ l a) (hr : Ev w k env ρ μ r b) (ho : Cm w k op a b c) (hm : behindInMarks op r = false := by with_unfolding_all rfl) : Tr w k env ρ μ (.Compare l [op] [r] p) c := by
  intro W A E s Q ok st h
  refine wpAny_isTrue_Compare1 (hl W A E s _ ok st fun u s₁ st₁ g₁ d₁ => hr W A E s₁ _ ok st₁ fun v s₂ st₂ g₂ d₂ => ho W A E s₂ μ u v _ ok st₂.toBs (d₁.go g₂ st.wt) d₂ fun s₃ b₃ g₃ => ?_) hm
  exact wpAny_truthy_bool (h s₃ (st₂.go g₃ b₃) ((g₁.trans g₂).trans g₃))
theorem Tr.or {x y : Expr} {p : Pos} {a b : Bool} (hx : Tr w k env ρ μ x a) (hy : a = false → Tr w k env ρ μ y b) : Tr w k env ρ μ (.BoolOp .Or [x, y] p) (a || b) := by
  intro W A E s Q ok st h
  refine isTrue_or (hx W A E s _ ok st fun s₁ st₁ g₁ => ?_)
  cases a with
  | true => exact h s₁ st₁ g₁
  | false =>
    refine isTrue_or (hy rfl W A E s₁ _ ok st₁ fun s₂ st₂ g₂ => ?_)
    cases b with
    | true => exact h s₂ st₂ (g₁.trans g₂)
    | false => exact isTrue_or_nil (h s₂ st₂ (g₁.trans g₂))
theorem Tr.and {x y : Expr} {p : Pos} {a b : Bool} (hx : Tr w k env ρ μ x a) (hy : a = true → Tr w k env ρ μ y b) : Tr w k env ρ μ (.BoolOp .And [x, y] p) (a && b) := by
  intro W A E s Q ok st h
  refine isTrue_and (hx W A E s _ ok st fun s₁ st₁ g₁ => ?_)
  cases a with
  | false => exact h s₁ st₁ g₁
  | true =>
    refine isTrue_and (hy rfl W A E s₁ _ ok st₁ fun s₂ st₂ g₂ => ?_)
    cases b with
    | false => exact h s₂ st₂ (g₁.trans g₂)
    | true => exact isTrue_and_nil (h s₂ st₂ (g₁.trans g₂))
theorem Ev.ifx {t x y : Expr} {p : Pos} {c : Bool} {d : D} (ht : Tr w k env ρ μ t c) (hx : c = true → Ev w k env ρ μ x d) (hy : c = false → Ev w k env ρ μ y d) : Ev w k env ρ μ (.IfExp t x y p) d := by
  intro W A E s Q ok st h
  refine IfExp_ (ht W A E s _ ok st fun s₁ st₁ g₁ => ?_)
  cases c with
  | true => exact hx rfl W A E s₁ Q ok st₁ fun v s₂ st₂ g₂ d₂ => h v s₂ st₂ (g₁.trans g₂) d₂
  | false => exact hy rfl W A E s₁ Q ok st₁ fun v s₂ st₂ g₂ d₂ => h v s₂ st₂ (g₁.trans g₂) d₂
theorem Ev.neg {x : Expr} {p : Pos} {i : Int} (hx : Ev w k env ρ μ x (.int i)) : Ev w k env ρ μ (.UnaryOp .USub x p) (.int (-i)) := by
  intro W A E s Q ok st h
  refine UnaryOp_ (hx W A E s _ ok st fun v s₁ st₁ g₁ d₁ => ?_)
  cases d₁ with
  | int _ t => exact neg_int (h _ _ st₁.tok (g₁.trans .tok) (.int _ _))

section
variable {a b : Int}
theorem Bo.add : Bo w k .Add (.int a) (.int b) (.int (a + b)) := by
  intro W A E s μ u v Q ok bs du dv h
  cases du; cases dv
  exact add_int (h _ _ bs.tok .tok (.int _ _))
theorem Bo.sub : Bo w k .Sub (.int a) (.int b) (.int (a - b)) := by
  intro W A E s μ u v Q ok bs du dv h
  cases du; cases dv
  exact sub_int (h _ _ bs.tok .tok (.int _ _))
theorem Bo.subB {a b : Bool} : Bo w k .Sub (.bool a) (.bool b) (.int (b2i a - b2i b)) := by
  intro W A E s μ u v Q ok bs du dv h
  cases du; cases dv
  exact sub_bool (h _ _ bs.tok .tok (.int _ _))
theorem Bo.mod (hb : b ≠ 0) : Bo w k .Mod (.int a) (.int b) (.int (a.fmod b)) := by
  intro W A E s μ u v Q ok bs du dv h
  cases du; cases dv
  exact mod_int' hb (h _ _ bs.tok .tok (.int _ _))
theorem Bo.mul (hm : IntMulOk a b) : Bo w k .Mult (.int a) (.int b) (.int (a * b)) := by
  intro W A E s μ u v Q ok bs du dv h
  cases du; cases dv
  exact mul_int (h _ _ bs.tok .tok (.int _ _)) hm
theorem Cm.eqI : Cm w k .Eq (.int a) (.int b) (a == b) := by
  intro W A E s μ u v Q ok bs du dv h
  cases du; cases dv
  exact eq_int (h _ bs (.refl _))
theorem Cm.neI : Cm w k .NotEq (.int a) (.int b) (a != b) := by
  intro W A E s μ u v Q ok bs du dv h
  cases du; cases dv
  exact ne_int (h _ bs (.refl _))
theorem Cm.ltI : Cm w k .Lt (.int a) (.int b) (decide (a < b)) := by
  intro W A E s μ u v Q ok bs du dv h
  cases du; cases dv
  exact lt_int (h _ bs (.refl _))
theorem Cm.gtI : Cm w k .Gt (.int a) (.int b) (decide (b < a)) := by
  intro W A E s μ u v Q ok bs du dv h
  cases du; cases dv
  exact gt_int (h _ bs (.refl _))
end

/-- arguments, one by one -/
def Evs (w : World) (k : Nat) (env : Env) (ρ : Rho) (μ : List (Addr × Mu)) (es : List Expr) (ds : List D) : Prop :=
  ∀ (W : Addr → Prop) (A : Around) (E : Value → Shared → Prop) (s : Shared) (p : Pos) (Q : List Value → Shared → Prop), AOk k A → St w W env ρ μ s →
    (∀ vs s', St w W env ρ μ s' → Go s s' → DAll W s'.heap vs ds → Q vs s') → wpAny (MM w) A (spliced (backTo p (starEach es env))) Q E s
theorem Evs.nil : Evs w k env ρ μ [] [] := fun _ _ _ s _ _ _ st h => Calls.spliced_nil (h [] s st (.refl _) .nil)
theorem Evs.cons {e : Expr} {es : List Expr} {d : D} {ds : List D} (he : Ev w k env ρ μ e d) (hs : Evs w k env ρ μ es ds) (hst : starEach (e :: es) env = (false, eval e env) :: starEach es env := by rfl) : Evs w k env ρ μ (e :: es) (d :: ds) := by
  intro W A E s p Q ok st h
  rw [hst]
  refine Calls.spliced_cons (he W A E s _ ok st fun v s₁ st₁ g₁ d₁ => hs W A E s₁ p _ ok st₁ fun vs s₂ st₂ g₂ d₂ => ?_)
  exact h _ s₂ st₂ (g₁.trans g₂) (.cons (d₁.go g₂ st.wt) d₂)
theorem Evs.one {e : Expr} {d : D} (he : Ev w k env ρ μ e d) (hst : starEach [e] env = [(false, eval e env)] := by rfl) : Evs w k env ρ μ [e] [d] := .cons he .nil hst
theorem Evs.two {e f : Expr} {d c : D} (he : Ev w k env ρ μ e d) (hf : Ev w k env ρ μ f c) (h1 : starEach [e, f] env = [(false, eval e env), (false, eval f env)] := by rfl) (h2 : starEach [f] env = [(false, eval f env)] := by rfl) : Evs w k env ρ μ [e, f] [d, c] := .cons he (.one hf h2) (by rw [h1, h2])

theorem evalArgs_of {M : Model} {A : Around} {E : Value → Shared → Prop} {s : Shared} {f : Value} {args : List (Bool × Sem Value)} {Q : Args → Shared → Prop} (hp : args.any (·.1) = false) (h : wpAny M A (spliced args) (fun vs s' => Q ⟨vs, []⟩ s') E s) : wpAny M A (evalArgs f true args []) Q E s := by
  cases args with
  | nil =>
    unfold evalArgs
    show wpAny M A (spliced [] >>= _) Q E s
    refine wpAny_bind (wpAny_mono h (fun vs s' h' => ?_) fun _ _ x => x)
    refine wpAny_bind (wpAny_pure ?_)
    refine wpAny_holding ?_
    exact wpAny_bind (wpAny_pure (wpAny_bind (wpAny_pure (wpAny_pure h'))))
  | cons x r =>
    obtain ⟨b, x⟩ := x
    simp only [List.any_cons, Bool.or_eq_false_iff] at hp
    obtain ⟨rfl, hp⟩ := hp
    exact Calls.evalArgs_plain h

/-- what may be called -/
inductive Callee (w : World) : Value → Prop
  | blt (id : String) : Callee w (.builtin id)
  | typ (n : String) : Callee w (.type n)
  | fn (a : Addr) (o : Obj) (fd : FuncData) : (KK w).lookup a = some o → o.data = .func fd → Callee w (.ref a)
theorem callWith_of {A : Around} {E : Value → Shared → Prop} {s : Shared} {p : Pos} {f : Value} {first : List Value} {args : List (Bool × Sem Value)} {Q : Value → Shared → Prop} (hc : Callee w f) (hp : args.any (·.1) = false)
    (h : wpAny (MM w) A (spliced args) (fun vs s₁ => Tx w s₁.heap ∧ wpAny (MM w) A (call f (first ++ vs)) Q E s₁) E s) : wpAny (MM w) A (callWith p f first args []) Q E s := by
  cases hc with
  | blt id => exact Calls.callWith_builtin hp (evalArgs_of hp (wpAny_mono h (fun _ _ x => x.2) fun _ _ x => x))
  | typ n => exact PySem.callWith_type hp (evalArgs_of hp (wpAny_mono h (fun _ _ x => x.2) fun _ _ x => x))
  | fn a o fd e hd => exact Calls.callWith_function (o := o) (fd := fd) (evalArgs_of hp (wpAny_mono h (fun _ _ x => ⟨⟨x.1.k _ _ e, hd⟩, x.2⟩) fun _ _ x => x))

/-- a call's contract -/
def Fn (w : World) (k : Nat) (μ : List (Addr × Mu)) (f : Value) (ds : List D) (d : D) : Prop :=
  ∀ (W : Addr → Prop) (A : Around) (E : Value → Shared → Prop) (s : Shared) (vs : List Value) (Q : Value → Shared → Prop), AOk k A → Bs w W μ s → DAll W s.heap vs ds →
    (∀ v s', Bs w W μ s' → Go s s' → DIn W s'.heap v d → Q v s') → wpAny (MM w) A (call f vs) Q E s
theorem Ev.call {x : PySem.Str} {p q : Pos} {es : List Expr} {f : Value} {ds : List D} {d : D} (hn : Nm w env x f) (hc : Callee w f) (hs : Evs w k env ρ μ es ds) (hf : Fn w k μ f ds d)
    (hp : ∀ r : Pos, (backTo r (starEach es env)).any (·.1) = false := by intro _; rfl) : Ev w k env ρ μ (.Call (.Name x p) es [] q) d := by
  intro W A E s Q ok st h
  refine wpAny_Call_NameR (hn W A E s ρ μ p _ st ?_)
  refine callWith_of hc (hp _) (hs W A E s q _ ok st fun vs s₁ st₁ g₁ d₁ => ⟨st₁.tx, ?_⟩)
  exact hf W A E s₁ vs _ ok st₁.toBs d₁ fun v s₂ b₂ g₂ d₂ => h v s₂ (st₁.go g₂ b₂) (g₁.trans g₂) d₂

end Mine
open PySem PySem.W PyProof.Rows
set_option Elab.async false
set_option maxRecDepth 100000
set_option linter.unusedVariables false
namespace Mine

variable {w : World} {k : Nat} {env : Env} {ρ : Rho} {μ : List (Addr × Mu)}

theorem Bs.fresh {W : Addr → Prop} {s : Shared} (b : Bs w W μ s) : ¬ W s.heap.objs.size := fun h => by
  obtain ⟨o, e⟩ := b.live _ h
  exact Nat.lt_irrefl _ (Heap.lt_size e)
theorem get_size (h : Heap) : h.get? h.objs.size = none := by
  cases e : h.get? h.objs.size with
  | none => rfl
  | some o => exact absurd (Heap.lt_size e) (Nat.lt_irrefl _)
theorem Bs.push {W : Addr → Prop} {s : Shared} {tk : Nat} (b : Bs w W μ s) (o : Obj) : Bs w W μ { s with heap := s.heap.push o, toks := tk } := b.keep fun _ _ e => Heap.get?_push_of_some _ e
theorem Go.push {s : Shared} {tk : Nat} (o : Obj) : Go s { s with heap := s.heap.push o, toks := tk } := .of fun _ _ e => Heap.get?_push_of_some _ e
theorem DAll.push {W : Addr → Prop} {h : Heap} {vs : List Value} {ds : List D} (x : DAll W h vs ds) (o : Obj) : DAll W (h.push o) vs ds := x.pr fun a o' n e _ => ⟨Heap.get?_push_of_some _ e, n⟩
theorem DIn.push {W : Addr → Prop} {h : Heap} {v : Value} {d : D} (x : DIn W h v d) (o : Obj) : DIn W (h.push o) v d := x.pr fun a o' n e _ => ⟨Heap.get?_push_of_some _ e, n⟩
theorem DIn.newTup {W : Addr → Prop} {s : Shared} {vs : List Value} {ds : List D} (b : Bs w W μ s) (x : DAll W s.heap vs ds) (n : Nat) : DIn W (s.heap.push { cls := .type "tuple", data := .seq vs.toArray n }) (.ref s.heap.objs.size) (.tup ds) :=
  .tup b.fresh ⟨_, Heap.get?_push_size _ rfl, rfl, n, rfl⟩ (x.push _)
theorem DIn.newLst {W : Addr → Prop} {s : Shared} {vs : List Value} {ds : List D} (b : Bs w W μ s) (x : DAll W s.heap vs ds) (n : Nat) : DIn W (s.heap.push { cls := .type "list", data := .seq vs.toArray n }) (.ref s.heap.objs.size) (.lst ds) :=
  .lst b.fresh ⟨n, Heap.get?_push_size _ rfl⟩ (x.push _)

theorem Ev.tuple {es : List Expr} {n : Nat} {p : Pos} {ds : List D} (hs : Evs w k env ρ μ es ds) (hz : ds.length ≤ sizeLine := by decide) : Ev w k env ρ μ (.Tuple es n p) (.tup ds) := by
  intro W A E s Q ok st h
  refine Tuple_ (hs W A E s p _ ok st fun vs s₁ st₁ g₁ d₁ => ?_)
  refine wpAny_newObj_type (h _ _ (st₁.go (.push (tk := s₁.toks) _) (st₁.toBs.push _)) (g₁.trans (.push (tk := s₁.toks) _)) (.newTup st₁.toBs d₁ 0)) (by show vs.toArray.size ≤ sizeLine; rw [List.size_toArray, d₁.length]; exact hz)
theorem Ev.list {es : List Expr} {p : Pos} {ds : List D} (hs : Evs w k env ρ μ es ds) (hz : ds.length ≤ sizeLine := by decide) : Ev w k env ρ μ (.List es p) (.lst ds) := by
  intro W A E s Q ok st h
  refine List_ (hs W A E s p _ ok st fun vs s₁ st₁ g₁ d₁ => ?_)
  refine wpAny_newObj_type (h _ _ (st₁.go (.push (tk := s₁.toks) _) (st₁.toBs.push _)) (g₁.trans (.push (tk := s₁.toks) _)) (.newLst st₁.toBs d₁ 0)) (by show vs.toArray.size ≤ sizeLine; rw [List.size_toArray, d₁.length]; exact hz)

theorem Fn.len {ds : List D} (hz : ds.length ≤ sizeLine) : Fn w k μ (.builtin "len") [.lst ds] (.int ds.length) := by
  intro W A E s vs Q ok bs dv h
  cases dv with
  | cons a r =>
    cases r
    cases a with
    | lst hw hl da =>
      have e := da.length
      refine len_list hl.isList (by rw [List.size_toArray, e]; exact sz63 hz) ?_
      rw [List.size_toArray, e]
      exact h _ _ bs.tok .tok (.int _ _)
section
variable {A : Around} {E : Value → Shared → Prop} {s : Shared} {o i : Value} {T id : String} {value slice : Expr} {Q : Value → Shared → Prop}
theorem subTail (hT : s.TypeIs o T) (hl : typeLookup (.type T) "__getitem__" = pure (some (.builtin id))) (h : wpAny (MM w) A (getItem o i) Q E s) : wpAny (MM w) A (subscriptTail value slice o i) Q E s := by
  have hs : ∃ ops, subscripted slice false o i = operate ops (getItem o i) := by
    unfold subscripted
    cases slice with
    | Slice l u st p => cases st <;> exact ⟨_, rfl⟩
    | _ => exact ⟨_, rfl⟩
  obtain ⟨ops, hs⟩ := hs
  unfold subscriptTail
  refine wpAny_bind ?_
  rw [getitemInPython_of_ne hT.not_modules]
  refine wpAny_bind (wpAny_specialOf hT hl ?_)
  have fin : wpAny (MM w) A (subscripted slice false o i) (fun r s₃ => wpAny (MM w) A (letTemporaryGo value o r >>= fun _ => pure r) Q E s₃) E s := by
    rw [hs]
    exact wpAny_operating (wpAny_mono h (fun r s₃ h₃ => wpAny_bind (wpAny_letTemporaryGo (wpAny_pure h₃))) fun _ _ x => x)
  first
    | exact wpAny_pure (wpAny_bind fin)
    | exact wpAny_bind (wpAny_pure (wpAny_bind fin))
    | exact wpAny_bind fin
end

def pyGet (ds : List D) (i : Int) : Option D := if 0 ≤ i then ds[i.toNat]? else if -(ds.length : Int) ≤ i then ds[(i + ds.length).toNat]? else none

theorem getItem_lst {W : Addr → Prop} {A : Around} {E : Value → Shared → Prop} {s : Shared} {a : Addr} {vs : List Value} {ds : List D} {i : Int} {t : Tok} {d : D} {Q : Value → Shared → Prop} (hl : s.heap.IsList a vs.toArray) (da : DAll W s.heap vs ds) (hx : pyGet ds i = some d) (hz : ds.length ≤ sizeLine)
    (h : ∀ v, DIn W s.heap v d → Q v s) : wpAny (MM w) A (getItem (.ref a) (.int i t)) Q E s := by
  have e := da.length
  unfold pyGet at hx
  split at hx
  · rename_i h0
    obtain ⟨v, hv, dv⟩ := da.get hx
    have hlt := (List.getElem?_eq_some_iff.mp hx).1
    exact wpAny_getItem_list hl h0 (posL hlt hz) (by simpa using hv) (h v dv)
  · split at hx
    · rename_i h0 h1
      obtain ⟨v, hv, dv⟩ := da.get hx
      exact wpAny_getItem_list_neg hl (Int.not_le.mp h0) (by rw [List.size_toArray, e]; exact h1) (negL h1 hz) (by rw [List.size_toArray, e]; simpa using hv) (h v dv)
    · cases hx
theorem Ev.item {value slice : Expr} {p : Pos} {ds : List D} {i : Int} {d : D} (hv : Ev w k env ρ μ value (.lst ds)) (hi : Ev w k env ρ μ slice (.int i)) (hx : pyGet ds i = some d) (hz : ds.length ≤ sizeLine) : Ev w k env ρ μ (.Subscript value slice p) d := by
  intro W A E s Q ok st h
  refine Subscript_ (hv W A E s _ ok st fun u s₁ st₁ g₁ d₁ => hi W A E s₁ _ ok st₁ fun v s₂ st₂ g₂ d₂ => ?_)
  cases d₂ with
  | int i t =>
    have d₁ := d₁.go g₂ st.wt
    cases d₁ with
    | lst hw hl da => exact subTail hl.isList.typeIs slot_list_getitem.lookup (getItem_lst hl.isList da hx hz fun v dv => h v s₂ st₂ (g₁.trans g₂) dv)
theorem Ev.chr {value slice : Expr} {p : Pos} {x : PySem.Str} {i : Int} {c : Nat} (hv : Ev w k env ρ μ value (.str x)) (hi : Ev w k env ρ μ slice (.int i)) (hx : (seqIndex? i x.length).bind (x.cps[·]?) = some c) (hr : (decide (i < -(2 ^ 63 : Int)) || decide (i ≥ 2 ^ 63)) = false) : Ev w k env ρ μ (.Subscript value slice p) (.str ⟨#[c]⟩) := by
  intro W A E s Q ok st h
  refine Subscript_ (hv W A E s _ ok st fun u s₁ st₁ g₁ d₁ => hi W A E s₁ _ ok st₁ fun v s₂ st₂ g₂ d₂ => ?_)
  cases d₂
  cases d₁
  refine subTail (typeIs_str s₂ _ _) F.slot_str_getitem.lookup (PySem.P.getItem_str hr hx (h _ _ st₂.tok ((g₁.trans g₂).trans .tok) (.str _ _)))

/-- a slice's bound -/
def Pt (w : World) (k : Nat) (env : Env) (ρ : Rho) (μ : List (Addr × Mu)) (e : Option Expr) (i : Option Int) : Prop :=
  ∀ (W : Addr → Prop) (A : Around) (E : Value → Shared → Prop) (s : Shared) (Q : Value → Shared → Prop), AOk k A → St w W env ρ μ s →
    (∀ v s', St w W env ρ μ s' → Go s s' → IsPart v i → Q v s') → wpAny (MM w) A (valueOrNone (evalOpt e env)) Q E s
theorem Pt.none : Pt w k env ρ μ none none := fun _ _ _ s _ _ st h => wpAny_pure (h _ s st (.refl _) .none)
theorem Pt.some {e : Expr} {i : Int} (he : Ev w k env ρ μ e (.int i)) : Pt w k env ρ μ (some e) (some i) := by
  intro W A E s Q ok st h
  exact he W A E s Q ok st fun v s₁ st₁ g₁ d₁ => by cases d₁; exact h _ s₁ st₁ g₁ (.int _ _)

def pick (ds : List D) (lo hi st : Option Int) : List D := (sliceRange (sliceBounds lo hi st ds.length).1 (sliceBounds lo hi st ds.length).2.1 (sliceBounds lo hi st ds.length).2.2).filterMap (ds[·]?)
theorem DAll.at {W : Addr → Prop} {h : Heap} {vs : List Value} {ds : List D} (x : DAll W h vs ds) (js : List Nat) : DAll W h (js.filterMap (vs[·]?)) (js.filterMap (ds[·]?)) := by
  induction js with
  | nil => exact .nil
  | cons j js ih =>
    cases e : ds[j]? with
    | none =>
      have e' : vs[j]? = none := by rw [List.getElem?_eq_none_iff] at e ⊢; rw [x.length]; exact e
      simpa [List.filterMap_cons, e, e'] using ih
    | some d =>
      obtain ⟨v, hv, dv⟩ := x.get e
      simpa [List.filterMap_cons, e, hv] using DAll.cons dv ih
theorem DAll.pick {W : Addr → Prop} {h : Heap} {vs : List Value} {ds : List D} (x : DAll W h vs ds) (lo hi st : Option Int) : DAll W h (slicePick vs.toArray lo hi st).toList (pick ds lo hi st) := by
  unfold slicePick Mine.pick
  rw [List.size_toArray, x.length]
  have := x.at (sliceRange (sliceBounds lo hi st ds.length).1 (sliceBounds lo hi st ds.length).2.1 (sliceBounds lo hi st ds.length).2.2)
  simpa using this

theorem Ev.slice {value : Expr} {lo hi sp : Option Expr} {p q : Pos} {ds : List D} {l u t : Option Int} (hv : Ev w k env ρ μ value (.lst ds)) (hl : Pt w k env ρ μ lo l) (hu : Pt w k env ρ μ hi u) (ht : Pt w k env ρ μ sp t) (h0 : t ≠ some 0) (hz : ds.length ≤ sizeLine) :
    Ev w k env ρ μ (.Subscript value (.Slice lo hi sp p) q) (.lst (pick ds l u t)) := by
  intro W A E s Q ok st h
  refine Subscript_ (hv W A E s _ ok st fun v s₁ st₁ g₁ d₁ => ?_)
  rw [arm_eval_Slice]
  refine wpAny_bind (hl W A E s₁ _ ok st₁ fun vl s₂ st₂ g₂ p₂ => wpAny_bind (wpAny_holding (hu W A E s₂ _ ok st₂ fun vu s₃ st₃ g₃ p₃ => wpAny_bind (wpAny_holding (ht W A E s₃ _ ok st₃ fun vt s₄ st₄ g₄ p₄ => ?_)))))
  have d₁ := ((d₁.go g₂ st.wt).go g₃ st.wt).go g₄ st.wt
  simp only [newFields]
  refine wpAny_newObj_type ?_ (by size_fits)
  cases d₁ with
  | @lst _ vs _ hw hls da =>
    have b5 := st₄.toBs.push (tk := s₄.toks) { cls := .type "slice", data := .fields [vl, vu, vt].toArray }
    refine subTail (hls.isList.push _).typeIs slot_list_getitem.lookup (wpAny_getItem_list_slice (hls.isList.push _) ⟨_, Heap.get?_push_size _ rfl, rfl, rfl⟩ p₂ p₃ p₄ h0 ?_ (by rw [List.size_toArray, da.length]; exact hz))
    refine h _ _ (st₄.go ((Go.push (tk := s₄.toks) _).trans (.push (tk := s₄.toks) _)) (b5.push (tk := s₄.toks) _)) (((g₁.trans g₂).trans (g₃.trans g₄)).trans ((Go.push (tk := s₄.toks) _).trans (.push (tk := s₄.toks) _))) ?_
    have := DIn.newLst b5 (vs := (slicePick vs.toArray l u t).toList) ((da.push _).pick l u t) 0
    simpa using this


end Mine
open PySem PySem.W PyProof.Rows
set_option Elab.async false
set_option maxRecDepth 100000
set_option linter.unusedVariables false
namespace Mine

variable {w : World} {k : Nat} {env : Env} {ρ : Rho} {μ : List (Addr × Mu)}

theorem AOk.in1 {A : Around} (a : AOk k A) : A.in1.handled = none := a.hh

theorem Fn.range1 {n : Int} : Fn w k μ (.type "range") [.int n] (.rng 0 n) := by
  intro W A E s vs Q ok bs dv h
  cases dv with
  | cons a r =>
    cases r
    cases a
    refine call_range_1 (h _ _ (bs.push (tk := s.toks + 1 + 1) _) (.push (tk := s.toks + 1 + 1) _) (.rng bs.fresh (Heap.get?_push_size _ rfl)))
theorem Fn.range2 {m n : Int} : Fn w k μ (.type "range") [.int m, .int n] (.rng m n) := by
  intro W A E s vs Q ok bs dv h
  cases dv with
  | cons a r =>
    cases r with
    | cons b r =>
      cases r
      cases a
      cases b
      refine call_range_2 (h _ _ (bs.push (tk := s.toks + 1) _) (.push (tk := s.toks + 1) _) (.rng bs.fresh (Heap.get?_push_size _ rfl)))

/-- the ints of a range -/
def rngL (a b : Int) : List Int := (List.range (b - a).toNat).map fun (i : Nat) => a + (i : Int)
theorem rng_size (a b : Int) : Builtin.Range.rangeSize a b 1 = ((b - a).toNat : Int) := by
  unfold Builtin.Range.rangeSize
  rw [if_pos (by decide)]
  split
  · rename_i q; rw [Int.ediv_one]; exact toN0 q
  · rename_i q; exact toN1 q
theorem rng_small {a b : Int} (h1 : -(2 ^ 40) ≤ a ∧ a ≤ 2 ^ 40) (h2 : -(2 ^ 40) ≤ b ∧ b ≤ 2 ^ 40) : Builtin.Range.small a b 1 = true := by
  unfold Builtin.Range.small
  rw [rng_size]
  simp only [Builtin.Range.rangeFitsLong, Bool.and_eq_true, Bool.or_eq_true, decide_eq_true_eq, beq_iff_eq]
  refine ⟨⟨⟨⟨in63 h1, in63 h2⟩, ⟨by decide, by decide⟩⟩, toN63 h1 h2⟩, .inr ?_⟩
  rw [if_pos (by decide), show b + (1 - 1) = b from Int.add_zero b]
  exact Bool.and_eq_true _ _ ▸ ⟨decide_eq_true (in63 h2).1, decide_eq_true (in63 h2).2⟩

theorem dall_ints {W : Addr → Prop} {h : Heap} (a : Int) (n : Nat) : ∀ (m : Nat) (vs : List Value), vs.length = n → (∀ i v, vs[i]? = some v → ∃ t, v = Value.int (a + ((m + i : Nat) : Int)) t) → DAll W h vs ((List.range' m n).map fun (i : Nat) => D.int (a + (i : Int))) := by
  induction n with
  | zero =>
    intro m vs hl _
    rw [List.length_eq_zero_iff.mp hl]
    exact .nil
  | succ n ih =>
    intro m vs hl hv
    obtain ⟨v, vs, rfl⟩ := List.exists_cons_of_length_eq_add_one hl
    obtain ⟨t, rfl⟩ := hv 0 v rfl
    rw [List.range'_succ, List.map_cons]
    refine .cons (.int _ t) (ih (m + 1) vs (Nat.succ.inj hl) fun i v hi => ?_)
    obtain ⟨t, e⟩ := hv (i + 1) v hi
    exact ⟨t, by rw [e, sucL]⟩

theorem Fn.listRange {a b : Int} (h1 : -(2 ^ 40) ≤ a ∧ a ≤ 2 ^ 40) (h2 : -(2 ^ 40) ≤ b ∧ b ≤ 2 ^ 40) (hz : (b - a).toNat ≤ 2 ^ 24) : Fn w k μ (.type "list") [.rng a b] (.lst ((rngL a b).map .int)) := by
  intro W A E s vs Q ok bs dv h
  cases dv with
  | cons x r =>
    cases r
    cases x with
    | rng hw hr =>
      refine call_list_range ok.hh hr (rng_small h1 h2) (rng_size a b) hz fun h' tk acc' c' hk hn hi => ?_
      refine h _ _ (bs.keep hk) (.of hk) (.lst bs.fresh ⟨c', hn⟩ ?_)
      have := dall_ints (W := W) (h := h') a (b - a).toNat 0 acc'.toList (by rw [Array.length_toList]; exact hi.1) (fun i v hv => by
        obtain ⟨t, e⟩ := hi.2 i v (by simpa using hv)
        exact ⟨t, by rw [e]; simp⟩)
      have e2 : ((rngL a b).map D.int) = (List.range' 0 (b - a).toNat).map fun (i : Nat) => D.int (a + (i : Int)) := by
        unfold rngL; rw [List.map_map, List.range_eq_range']; rfl
      rw [e2]; exact this

theorem DAll.ints {W : Addr → Prop} {h : Heap} {ns : List Int} : ∀ {vs : List Value}, DAll W h vs (ns.map .int) → IntsAre vs ns := by
  induction ns with
  | nil => intro vs x; cases x; exact .nil
  | cons n ns ih =>
    intro vs x
    cases x with
    | cons a r => cases a; exact .cons _ _ (ih r)
theorem Fn.sum {ns : List Int} : Fn w k μ (.builtin "sum") [.lst (ns.map .int)] (.int ns.sum) := by
  intro W A E s vs Q ok bs dv h
  cases dv with
  | cons x r =>
    cases r
    cases x with
    | @lst a ls _ hw hl da =>
      have hi := da.ints
      replace hl := hl.isList
      obtain ⟨xs, hx, hs⟩ : ∃ xs : Array (Int × Tok), intItems xs = ls.toArray ∧ (∀ i, numAt xs i = ns.getD i 0) ∧ xs.size = ns.length := by
        clear hl da h
        induction hi with
        | nil => exact ⟨#[], by simp [intItems], by simp [numAt], rfl⟩
        | @cons n t vs ns r ih =>
          obtain ⟨xs, e1, e2, e3⟩ := ih
          refine ⟨#[(n, t)] ++ xs, ?_, ?_, ?_⟩
          · simp only [intItems, Array.map_append] at e1 ⊢
            rw [e1]; simp
          · intro i
            cases i with
            | zero => simp [numAt, Array.getElem?_append]
            | succ i => have := e2 i; simp only [numAt] at this ⊢; simpa [Array.getElem?_append, List.getD_cons_succ] using this
          · rw [Array.size_append, e3, List.length_cons]; exact Nat.add_comm _ _
      rw [← hx] at hl
      refine sum_intListG ok.hh hl fun h' tk t' hk => ?_
      have e : preSum (numAt xs) xs.size = ns.sum := by
        have e1 : numAt xs = fun i => ns.getD i 0 := funext hs.1
        rw [e1, hs.2, preSum_getD, List.take_of_length_le (Nat.le_refl _)]
      rw [e]
      exact h _ _ (bs.keep hk) (.of hk) (.int _ _)

theorem Fn.max2 {a b : Int} : Fn w k μ (.builtin "max") [.int a, .int b] (.int (max a b)) := by
  intro W A E s vs Q ok bs dv h
  cases dv with
  | cons x r =>
    cases r with
    | cons y r =>
      cases r
      cases x
      cases y
      refine max_two_ints ok.hh fun h' tk hk => ?_
      by_cases hb : b > a
      · rw [if_pos hb]
        have e : max a b = b := Int.max_eq_right (Int.le_of_lt hb)
        exact h _ _ (bs.keep hk) (.of hk) (by rw [e]; exact .int _ _)
      · rw [if_neg hb]
        have e : max a b = a := Int.max_eq_left (Int.not_lt.mp hb)
        exact h _ _ (bs.keep hk) (.of hk) (by rw [e]; exact .int _ _)

theorem Bo.cat {xs ys : List D} (hz : xs.length + ys.length ≤ sizeLine) : Bo w k .Add (.lst xs) (.lst ys) (.lst (xs ++ ys)) := by
  intro W A E s μ u v Q ok bs du dv h
  cases du with
  | @lst a vs _ hw hl da =>
    cases dv with
    | @lst b us _ hw' hl' db =>
      obtain ⟨n, ho⟩ := id hl
      obtain ⟨n2, ho2⟩ := id hl'
      have e : vs.toArray ++ us.toArray = (vs ++ us).toArray := by simp
      refine concat_meets ⟨_, ho, rfl⟩ ⟨_, ho2, rfl⟩ noFill_list_add seq_list_add F.slot_list_add F.entry_list_add (F.args_list_add_2 _ _) (list_addW a b vs.toArray us.toArray n n2 none none #[] #[] (by rw [List.size_toArray, List.size_toArray, da.length, db.length]; exact hz)) ⟨ho, ho2, ?_⟩
      rw [e]
      exact h _ _ (bs.push (tk := s.toks) _) (.push (tk := s.toks) _) (.newLst bs (da.append db) 0)

theorem Cm.isNotNone : Cm w k .IsNot .none .none false := by
  intro W A E s μ u v Q ok bs du dv h
  cases du; cases dv
  exact wpAny_isNot_self rfl (h _ bs (.refl _))
theorem Cm.isNotTyp {a b : String} : Cm w k .IsNot (.typ a) (.typ b) (!(Value.type a == Value.type b)) := by
  intro W A E s μ u v Q ok bs du dv h
  cases du; cases dv
  exact wpAny_isNot_plain rfl (h _ bs (.refl _))
theorem Fn.type {i : Int} : Fn w k μ (.type "type") [.int i] (.typ "int") := by
  intro W A E s vs Q ok bs dv h
  cases dv with
  | cons x r =>
    cases r
    cases x
    obtain ⟨hh, g, d, t, os⟩ := s
    exact call_type_of (typeIs_int _ _ _) (by decide) (h _ _ bs (.refl _) (.typ _))

theorem Cm.inR {i a b : Int} : Cm w k .In (.int i) (.rng a b) (decide (a ≤ i) && decide (i < b)) := by
  intro W A E s μ u v Q ok bs du dv h
  cases du with
  | int _ ti =>
    cases dv with
    | @rng r _ _ t u v hw hr =>
      have hT : s.TypeIs (.ref r) "range" := ⟨_, hr, rfl⟩
      show wpAny _ _ (do return .bool (← contains (.ref r) (.int i ti))) Q E s
      refine wpAny_bind (wpAny_contains_slot hT F.slot_range_contains (wpAny_call_entry F.slot_range_contains hT F.entry_range_contains ?_ (F.args_range_contains_2 _ _)))
      show wpAny _ _ (rule _ >>= fun _ => Builtin.Range.rangeFields (.ref r) >>= _) _ _ s
      refine wpAny_bind (wpAny_rule (wpAny_bind ?_))
      unfold Builtin.Range.rangeFields
      refine wpAny_bind (wpAny_field hr rfl rfl ?_)
      refine wpAny_bind (wpAny_of_eq (show asInt? (Value.int a t) = pure (some a) from rfl) ?_)
      refine wpAny_bind (wpAny_field hr rfl rfl ?_)
      refine wpAny_bind (wpAny_of_eq (show asInt? (Value.int b u) = pure (some b) from rfl) ?_)
      refine wpAny_bind (wpAny_field hr rfl rfl ?_)
      refine wpAny_bind (wpAny_of_eq (show asInt? (Value.int 1 v) = pure (some 1) from rfl) ?_)
      refine wpAny_pure ?_
      have e : (Builtin.Range.rangePlace? a b 1 i).isSome = (decide (a ≤ i) && decide (i < b)) := by
        unfold Builtin.Range.rangePlace?
        simp only [show (1 : Int) > 0 from by decide, if_true, Int.emod_one]
        by_cases h1 : a ≤ i <;> by_cases h2 : i < b <;> simp [h1, h2]
      dsimp only
      rw [e]
      exact wpAny_pure ⟨_, rfl, wpAny_truthy_bool (wpAny_pure (h _ bs (.refl _)))⟩

mutual
def toP : D → PyData
  | .none => .none
  | .bool b => .bool b
  | .int i => .int i
  | .str s => .str s
  | .typ _ => .none
  | .tup l => .tuple (toPs l)
  | .lst l => .list (toPs l)
  | .obj _ => .none
  | .rng _ _ => .none
def toPs : List D → List PyData
  | [] => []
  | d :: r => toP d :: toPs r
end
mutual
def rd : D → Bool
  | .typ _ => false
  | .obj _ => false
  | .rng _ _ => false
  | .tup l => rds l
  | .lst l => rds l
  | _ => true
def rds : List D → Bool
  | [] => true
  | d :: r => rd d && rds r
end
theorem DIn.reads {W : Addr → Prop} {h : Heap} {v : Value} {d : D} (x : DIn W h v d) : rd d = true → ∃ as, Reads h v (toP d) as :=
  DIn.rec (motive_1 := fun v d _ => rd d = true → ∃ as, Reads h v (toP d) as) (motive_2 := fun vs ds _ => rds ds = true → ∃ as, ReadsAll h vs (toPs ds) as) (fun _ => ⟨_, .none⟩) (fun b _ => ⟨_, .bool b⟩) (fun i t _ => ⟨_, .int i t⟩) (fun s t _ => ⟨_, .str s t⟩) (fun n q => Bool.noConfusion q)
    (fun hw ht _ r q => by
      obtain ⟨o, ho, hc, n, hd⟩ := ht
      obtain ⟨as, x⟩ := r q
      exact ⟨as, reads_tuple_at ho hc hd (by rw [List.toList_toArray]; exact x)⟩)
    (fun hw hl _ r q => by
      obtain ⟨n, ho⟩ := hl
      obtain ⟨as, x⟩ := r q
      exact ⟨_, reads_list_at ho rfl rfl (by rw [List.toList_toArray]; exact x)⟩)
    (fun a q => Bool.noConfusion q) (fun _ _ q => Bool.noConfusion q) (fun _ => ⟨_, .nil⟩) (fun _ _ a r q => by
      obtain ⟨q1, q2⟩ := Bool.and_eq_true_iff.mp q
      obtain ⟨as, x⟩ := a q1
      obtain ⟨bs, y⟩ := r q2
      exact ⟨_, .cons x y⟩) x
/-- what may be compared -/
def cmpOk (d : D) : Bool := rd d && SeqAt.shaped (toP d)
theorem Cm.eqD {a b : D} (ha : cmpOk a = true) (hb : cmpOk b = true) : Cm w k .Eq a b (PyData.eqv (toP a) (toP b)) := by
  intro W A E s μ u v Q ok bs du dv h
  simp only [cmpOk, Bool.and_eq_true] at ha hb
  obtain ⟨as, x⟩ := du.reads ha.1
  obtain ⟨bs', y⟩ := dv.reads hb.1
  exact eq_dataH x y ha.2 hb.2 (un0 ok.un (by decide)) (h _ bs (.refl _))
theorem Cm.neD {a b : D} (ha : cmpOk a = true) (hb : cmpOk b = true) : Cm w k .NotEq a b (!PyData.eqv (toP a) (toP b)) := by
  intro W A E s μ u v Q ok bs du dv h
  simp only [cmpOk, Bool.and_eq_true] at ha hb
  obtain ⟨as, x⟩ := du.reads ha.1
  obtain ⟨bs', y⟩ := dv.reads hb.1
  exact ne_dataH x y ha.2 hb.2 (un0 ok.un (by decide)) (h _ bs (.refl _))

end Mine
open PySem PySem.W PyProof.Rows
set_option Elab.async false
set_option maxRecDepth 100000
set_option linter.unusedVariables false
namespace Mine

variable {w : World} {k : Nat} {env : Env} {ρ : Rho} {μ : List (Addr × Mu)}

/-- a step that may change what P names -/
structure Ef (P : Addr → Prop) (s s' : Shared) : Prop where
  keep : ∀ a o, a ≠ tblA → ¬ P a → s.heap.get? a = some o → s'.heap.get? a = some o
  tab : ∀ ps, s.heap.get? tblA = some (tblO ps) → ∃ more, s'.heap.get? tblA = some (tblO (ps ++ more))
  os : s'.os = s.os
theorem Go.ef {P : Addr → Prop} {s s' : Shared} (g : Go s s') : Ef P s s' := ⟨fun a o n _ e => g.gr.keep a o n e, g.gr.tab, g.os⟩
theorem Ef.go {s s' : Shared} (x : Ef (fun _ => False) s s') : Go s s' := ⟨⟨fun a o n e => x.keep a o n id e, x.tab⟩, x.os⟩
theorem Ef.trans {P : Addr → Prop} {s₁ s₂ s₃ : Shared} (x : Ef P s₁ s₂) (y : Ef P s₂ s₃) : Ef P s₁ s₃ :=
  ⟨fun a o n p e => y.keep a o n p (x.keep a o n p e), fun ps e => by
    obtain ⟨m, e⟩ := x.tab ps e
    obtain ⟨m', e⟩ := y.tab _ e
    exact ⟨m ++ m', by rw [e, Array.append_assoc]⟩, y.os.trans x.os⟩
theorem Ef.mono {P P' : Addr → Prop} {s s' : Shared} (x : Ef P s s') (h : ∀ a, P a → P' a) : Ef P' s s' := ⟨fun a o n p e => x.keep a o n (fun q => p (h a q)) e, x.tab, x.os⟩

/-- within a def's body -/
structure Bd (w : World) (W : Addr → Prop) (env : Env) (ρ : Rho) (μ : List (Addr × Mu)) (P : Addr → Prop) (s₀ s : Shared) : Prop extends St w W env ρ μ s where
  ef : Ef P s₀ s
  fl : s₀.heap.get? env.locals = none ∨ P env.locals
  fc : ∀ n c, env.cells.lookup n = some c → s₀.heap.get? c = none ∨ P c

section
variable {W P : Addr → Prop} {s₀ s s' : Shared}
theorem Bd.next (b : Bd w W env ρ μ P s₀ s) (st : St w W env ρ μ s') (g : Go s s') : Bd w W env ρ μ P s₀ s' := ⟨st, b.ef.trans g.ef, b.fl, b.fc⟩

theorem ns_uniq {h : Heap} {a : Addr} {m m' : PySem.Str → Option Value} (x : h.Ns a m) (y : h.Ns a m') : m = m' := by
  obtain ⟨o, es, ep, ho, hd, _, hf⟩ := x
  obtain ⟨o', es', ep', ho', hd', _, hf'⟩ := y
  rw [ho] at ho'; cases ho'
  rw [hd] at hd'; cases hd'
  funext n
  rw [← hf, ← hf']

/-- no sequence -/
def Bx (h : Heap) (c : Addr) : Prop := ∃ o, h.get? c = some o ∧ (∀ xs n, o.data ≠ .seq xs n) ∧ ∀ xs, o.data ≠ .fields xs
theorem bx_ns {h : Heap} {a : Addr} {m} (x : h.Ns a m) : Bx h a := let ⟨o, es, ep, ho, hd, _⟩ := x; ⟨o, ho, (fun _ _ e => by rw [hd] at e; cases e), (fun _ e => by rw [hd] at e; cases e)⟩
theorem bx_cell {h : Heap} {a : Addr} {v} (x : h.IsCell a v) : Bx h a := let ⟨o, ho, hd⟩ := x; ⟨o, ho, (fun _ _ e => by rw [hd] at e; cases e), (fun _ e => by rw [hd] at e; cases e)⟩
theorem Bx.pr {h h' : Heap} {c : Addr} (x : Bx h c) (hs : Heap.SameBut c h h') : Pr W W h h' := fun a o n e q => by
  obtain ⟨oc, hc, h1, h2⟩ := x
  refine ⟨(hs.2 a ?_).trans e, n⟩
  rintro rfl
  rw [hc] at e; cases e
  rcases q with ⟨xs, n, q⟩ | ⟨xs, q⟩
  · exact h1 _ _ q
  · exact h2 _ q
theorem Bx.tbl {h : Heap} {c : Addr} (x : Bx h c) (t : Tab h) : c ≠ tblA := by
  rintro rfl
  obtain ⟨ps, t, _⟩ := t
  obtain ⟨o, ho, _, h2⟩ := x
  rw [t] at ho; cases ho
  exact h2 _ rfl

theorem Bs.same {h' : Heap} {tk : Nat} {c : Addr} (b : Bs w W μ s) (x : Bx s.heap c) (own : Own w c) (nw : ¬ W c) (hs : Heap.SameBut c s.heap h') : Bs w W μ { s with heap := h', toks := tk } where
  tx := b.tx.at fun a o n e => (hs.2 a fun q => n (q ▸ own)).trans e
  tab := let ⟨ps, t, r⟩ := b.tab; ⟨ps, (hs.2 _ (Ne.symm (x.tbl b.tab))).trans t, r⟩
  bare := b.bare
  wt := b.wt
  live := fun a ha => let ⟨o, e⟩ := b.live a ha; ⟨o, (hs.2 a fun q => nw (q ▸ ha)).trans e⟩
  own := b.own
  mw := b.mw
  mu := fun p hp => by
    have h1 := b.mw p hp
    have h2 := b.mu p hp
    have e1 : ∀ a, W a → h'.get? a = s.heap.get? a := fun a ha => hs.2 a fun q => nw (q ▸ ha)
    obtain ⟨p, m⟩ := p
    cases m with
    | acc dx l =>
      obtain ⟨⟨vs, n, e, r⟩, w2, hsh, t, t', q⟩ := h2
      exact ⟨⟨vs, n, (e1 _ h1.1).trans e, r.pr (x.pr hs)⟩, w2, hsh, t, t', (e1 _ (h1.2 _ _ rfl)).trans q⟩
    | opn l =>
      obtain ⟨vs, n, e, r⟩ := h2
      exact ⟨vs, n, (e1 _ h1.1).trans e, r.pr (x.pr hs)⟩

/-- where a name is stored -/
inductive Sto (env : Env) (x : PySem.Str) : Prop
  | loc : env.kindOf x = some .local → Sto env x
  | cell (c : Addr) : env.kindOf x = some .cell → env.cells.lookup x = some c → Sto env x

theorem lookup_cons_ne {x y : PySem.Str} {d : D} {ρ : Rho} (h : y ≠ x) : ((x, d) :: ρ).lookup y = ρ.lookup y := by
  rw [List.lookup_cons]
  have : (y == x) = false := by simpa using h
  rw [this]

theorem St.store {x : PySem.Str} {d : D} {v : Value} {A : Around} {E : Value → Shared → Prop} {Q : Unit → Shared → Prop} (st : St w W env ρ μ s) (ap : env.cells.Pairwise fun x y => x.2 ≠ y.2) (hk : Sto env x) (dv : DIn W s.heap v d)
    (h : ∀ h' tk c, Heap.SameBut c s.heap h' → (c = env.locals ∨ env.cells.lookup x = some c) → c ≠ tblA → St w W env ((x, d) :: ρ) μ { s with heap := h', toks := tk } → Q () { s with heap := h', toks := tk }) : wpAny (MM w) A (storeName env x v) Q E s := by
  cases hk with
  | loc hk =>
    obtain ⟨m, hm⟩ := st.ns
    refine wpAny_storeName_local hk hm (fun h' hn hs => h h' (s.toks + 1) _ hs (.inl rfl) ((bx_ns hm).tbl st.tab) ?_) (by rw [st.ek]; rfl)
    have bx := bx_ns hm
    refine ⟨st.toBs.same bx st.lo st.lw hs, st.ek, st.eg, st.eb, ⟨_, hn⟩, st.lo, st.lw, ?_, st.co, st.cw, st.ap, ?_⟩
    · intro n c hc
      obtain ⟨v, hv⟩ := st.cells n c hc
      refine ⟨v, hv.sameBut hs ?_⟩
      rintro rfl
      obtain ⟨o, ho, hd⟩ := hv
      obtain ⟨o', es, ep, ho', hd', _⟩ := hm
      rw [ho] at ho'; cases ho'; rw [hd] at hd'; cases hd'
    · intro y e hy
      by_cases hyx : y = x
      · subst hyx
        rw [List.lookup_cons, beq_self_eq_true] at hy
        cases hy
        exact ⟨v, .loc _ hk hn (by simp), dv.pr (bx.pr hs)⟩
      · rw [lookup_cons_ne hyx] at hy
        obtain ⟨u, hu, du⟩ := st.loc y e hy
        refine ⟨u, ?_, du.pr (bx.pr hs)⟩
        cases hu with
        | loc m' h1 h2 h3 =>
          rw [ns_uniq h2 hm] at h3
          exact .loc _ h1 hn (by simp [hyx, h3])
        | cell c h1 h2 h3 =>
          refine .cell c h1 h2 (h3.sameBut hs ?_)
          rintro rfl
          obtain ⟨o, ho, hd⟩ := h3
          obtain ⟨o', es, ep, ho', hd', _⟩ := hm
          rw [ho] at ho'; cases ho'; rw [hd] at hd'; cases hd'
  | cell c hk hc =>
    obtain ⟨v₀, hv⟩ := st.cells x c hc
    have bx := bx_cell hv
    refine wpAny_storeName_cell st.ek hk hc hv fun h' hcell hs => h h' s.toks _ hs (.inr hc) (bx.tbl st.tab) ?_
    refine ⟨st.toBs.same bx (st.co x c hc) (st.cw x c hc) hs, st.ek, st.eg, st.eb, ?_, st.lo, st.lw, ?_, st.co, st.cw, st.ap, ?_⟩
    · obtain ⟨m, hm⟩ := st.ns
      refine ⟨m, hm.sameBut hs ?_⟩
      rintro rfl
      obtain ⟨o, ho, hd⟩ := hv
      obtain ⟨o', es, ep, ho', hd', _⟩ := hm
      rw [ho] at ho'; cases ho'; rw [hd] at hd'; cases hd'
    · intro n c' hc'
      by_cases hcc : c' = c
      · subst hcc; exact ⟨_, hcell⟩
      · obtain ⟨u, hu⟩ := st.cells n c' hc'
        exact ⟨u, hu.sameBut hs hcc⟩
    · intro y e hy
      by_cases hyx : y = x
      · subst hyx
        rw [List.lookup_cons, beq_self_eq_true] at hy
        cases hy
        exact ⟨v, .cell c (.inl hk) hc hcell, dv.pr (bx.pr hs)⟩
      · rw [lookup_cons_ne hyx] at hy
        obtain ⟨u, hu, du⟩ := st.loc y e hy
        refine ⟨u, ?_, du.pr (bx.pr hs)⟩
        cases hu with
        | loc m' h1 h2 h3 =>
          refine .loc m' h1 (h2.sameBut hs ?_) h3
          rintro rfl
          obtain ⟨o, ho, hd⟩ := hv
          obtain ⟨o', es, ep, ho', hd', _⟩ := h2
          rw [ho] at ho'; cases ho'; rw [hd] at hd'; cases hd'
        | cell c' h1 h2 h3 =>
          refine .cell c' h1 h2 (h3.sameBut hs ?_)
          rintro rfl
          exact hyx (name_of_addr ap (mem_of_lookup h2) (mem_of_lookup hc))
theorem Ef.same {h' : Heap} {tk : Nat} {c : Addr} (x : Ef P s₀ s) (hn : s₀.heap.get? c = none ∨ P c) (hs : Heap.SameBut c s.heap h') (ct : c ≠ tblA) : Ef P s₀ { s with heap := h', toks := tk } :=
  ⟨fun a o n p e => (hs.2 a (by rintro rfl; exact hn.elim (fun z => by rw [z] at e; cases e) p)).trans (x.keep a o n p e), fun ps e => let ⟨m, e⟩ := x.tab ps e; ⟨m, (hs.2 _ (Ne.symm ct)).trans e⟩, x.os⟩
theorem Bd.store {x : PySem.Str} {d : D} {v : Value} {A : Around} {E : Value → Shared → Prop} {Q : Unit → Shared → Prop} (b : Bd w W env ρ μ P s₀ s) (hk : Sto env x) (dv : DIn W s.heap v d)
    (h : ∀ s', Bd w W env ((x, d) :: ρ) μ P s₀ s' → Q () s') : wpAny (MM w) A (storeName env x v) Q E s := by
  refine b.toSt.store b.ap hk dv fun h' tk c hs hc ht st => h _ ⟨st, b.ef.same ?_ hs ht, b.fl, b.fc⟩
  rcases hc with rfl | hc
  · exact b.fl
  · exact b.fc x c hc

/-- a def's body, statement by statement -/
theorem Bd.assign {x : PySem.Str} {p q : Pos} {e : Expr} {d : D} {rest : List Stmt} {A : Around} {E : Value → Shared → Prop} {Q : Flow → Shared → Prop} (b : Bd w W env ρ μ P s₀ s) (ok : AOk k A) (he : Ev w k env ρ μ e d) (hk : Sto env x)
    (h : ∀ s', Bd w W env ((x, d) :: ρ) μ P s₀ s' → wpAny (MM w) A (execs rest env) Q E s') (hs : swapsWith e (some (.Name x p)) q.line env = pure false := by rfl) : wpAny (MM w) A (execs (.Assign [.Name x p] e q :: rest) env) Q E s :=
  wpAny_execs_cons (wpAny_Assign_Name (he W A E s _ ok b.toSt fun v s₁ st₁ g₁ d₁ => (b.next st₁ g₁).store hk d₁ h) hs)
theorem Bd.ret {e : Expr} {p : Pos} {d : D} {rest : List Stmt} {A : Around} {E : Value → Shared → Prop} {Q : Flow → Shared → Prop} (b : Bd w W env ρ μ P s₀ s) (ok : AOk k A) (he : Ev w k env ρ μ e d)
    (h : ∀ v s', Bd w W env ρ μ P s₀ s' → DIn W s'.heap v d → Q (.ret v) s') : wpAny (MM w) A (execs (.Return (some e) p :: rest) env) Q E s :=
  wpAny_execs_cons (wpAny_Return_some (he W A E s _ ok b.toSt fun v s₁ st₁ g₁ d₁ => h v s₁ (b.next st₁ g₁) d₁))
theorem Bd.ifs {t : Expr} {x y : List Stmt} {p : Pos} {c : Bool} {rest : List Stmt} {A : Around} {E : Value → Shared → Prop} {Q : Flow → Shared → Prop} (b : Bd w W env ρ μ P s₀ s) (ok : AOk k A) (ht : Tr w k env ρ μ t c)
    (h1 : c = true → ∀ s', Bd w W env ρ μ P s₀ s' → wpAny (MM w) A (execs x env) (fun f s'' => match f with | .next => wpAny (MM w) A (execs rest env) Q E s'' | f => Q f s'') E s')
    (h2 : c = false → ∀ s', Bd w W env ρ μ P s₀ s' → wpAny (MM w) A (execs y env) (fun f s'' => match f with | .next => wpAny (MM w) A (execs rest env) Q E s'' | f => Q f s'') E s') :
    wpAny (MM w) A (execs (.If t x y p :: rest) env) Q E s := by
  refine wpAny_execs_cons (wpAny_If (ht W A E s _ ok b.toSt fun s₁ st₁ g₁ => ?_))
  cases c with
  | true => exact h1 rfl s₁ (b.next st₁ g₁)
  | false => exact h2 rfl s₁ (b.next st₁ g₁)
theorem Bd.nil {A : Around} {E : Value → Shared → Prop} {Q : Flow → Shared → Prop} (h : Q .next s) : wpAny (MM w) A (execs [] env) Q E s := wpAny_execs_nil h

/-- what the caller gets -/
theorem Bd.out {μ₀ : List (Addr × Mu)} (b : Bd w W env ρ μ (fun _ => False) s₀ s) (b₀ : Bs w W μ₀ s₀) : Bs w W μ₀ s := b₀.go b.ef.go b.tab b.bare

theorem bindL_notin {kindOf : PySem.Str → Option NameKind} {x : PySem.Str} {l : List (PySem.Str × Value)} : ∀ {m : PySem.Str → Option Value}, l.lookup x = none → bindL kindOf l m x = m x := by
  induction l with
  | nil => intro m h; rfl
  | cons p r ih =>
    intro m h
    obtain ⟨n, v⟩ := p
    rw [List.lookup_cons] at h
    cases hx : x == n with
    | true => rw [hx] at h; cases h
    | false =>
      rw [hx] at h
      have hne : x ≠ n := by simpa using hx
      show bindL kindOf r _ x = m x
      rw [ih h]
      split <;> simp [hne]
theorem bindC_notin {kindOf : PySem.Str → Option NameKind} {x : PySem.Str} {l : List (PySem.Str × Value)} : ∀ {m : PySem.Str → Option Value}, l.lookup x = none → bindC kindOf l m x = m x := by
  induction l with
  | nil => intro m h; rfl
  | cons p r ih =>
    intro m h
    obtain ⟨n, v⟩ := p
    rw [List.lookup_cons] at h
    cases hx : x == n with
    | true => rw [hx] at h; cases h
    | false =>
      rw [hx] at h
      have hne : x ≠ n := by simpa using hx
      show bindC kindOf r _ x = m x
      rw [ih h]
      split <;> simp [hne]

/-- the arguments' names, each once -/
structure Par (fd : FuncData) (ps : List PySem.Str) : Prop where
  bind : ∀ vs : List Value, vs.length = ps.length → bindArgs fd ⟨vs, []⟩ = pure (ps.zip vs)
  nd : ps.Nodup
  kinds : ∀ x ∈ ps, fd.scope.names.lookup x = some .local ∨ (fd.scope.names.lookup x = some .cell ∧ ∀ n, ((cellsFrom n fd.scope.names []).lookup x).isSome = true)

theorem zip_lookup {x : PySem.Str} {d : D} {ps : List PySem.Str} {vs : List Value} {ds : List D} {h : Heap} (da : DAll W h vs ds) (nd : ps.Nodup) (hl : ps.length = vs.length) (e : (ps.zip ds).lookup x = some d) :
    ∃ v, DIn W h v d ∧ x ∈ ps ∧ ∀ (kindOf : PySem.Str → Option NameKind) (m : PySem.Str → Option Value), (kindOf x = some .local → bindL kindOf (ps.zip vs) m x = some v) ∧ (kindOf x ≠ some .local → bindC kindOf (ps.zip vs) m x = some v) := by
  induction ps generalizing vs ds with
  | nil => cases e
  | cons p ps ih =>
    cases da with
    | nil => cases hl
    | @cons v vs d' ds a r =>
      rw [List.zip_cons_cons, List.lookup_cons] at e
      obtain ⟨n1, n2⟩ := List.nodup_cons.mp nd
      cases hx : x == p with
      | true =>
        rw [hx] at e; cases e
        obtain rfl : x = p := eq_of_beq hx
        have hno : (ps.zip vs).lookup x = none := by
          rw [List.lookup_eq_none_iff]
          intro q hq
          have := (List.of_mem_zip hq).1
          cases hq2 : x == q.1 with
          | false => simpa using hq2
          | true => exact absurd ((eq_of_beq hq2) ▸ this) n1
        refine ⟨v, a, List.mem_cons_self, fun kindOf m => ⟨fun hk => ?_, fun hk => ?_⟩⟩
        · rw [List.zip_cons_cons]; unfold bindL; rw [bindL_notin hno, if_pos hk]; simp
        · rw [List.zip_cons_cons]; unfold bindC; rw [bindC_notin hno, if_neg hk]; simp
      | false =>
        rw [hx] at e
        obtain ⟨u, h1, h2, h3⟩ := ih r n2 (Nat.succ.inj hl) e
        exact ⟨u, h1, List.mem_cons_of_mem _ h2, fun kindOf m => ⟨fun hk => (h3 kindOf _).1 hk, fun hk => (h3 kindOf _).2 hk⟩⟩

theorem enter {f : Addr} {o : Obj} {fd : FuncData} {body : List Stmt} {ps : List PySem.Str} {vs : List Value} {ds : List D} {A : Around} {E : Value → Shared → Prop} {Q : Value → Shared → Prop} (ok : AOk k A) (bs : Bs w W μ s) (dv : DAll W s.heap vs ds)
    (hK : (KK w).lookup f = some o) (hd : o.data = .func fd) (hcd : codeIn (KK w) fd.code fd.qualname = true) (hbody : fd.body = .stmts body) (hclo : fd.closure = []) (par : Par fd ps) (hlen : ds.length = ps.length)
    (hg : fd.globals = mainGlobals) (hb : fd.builtins = builtinsNs)
    (h : ∀ s₁ L, Bd w W (callEnvC fd L f) (ps.zip ds) μ P s s₁ → wpAny (MM w) (A.deeper (callEnvC fd L f)) (execs body (callEnvC fd L f)) (fun fl s' => Q (match fl with | .ret v => v | _ => .none) s') (fun _ _ => False) s₁)
    (hco : fd.scope.isCoroutine = false := by rfl) (hgen : fd.scope.isGenerator = false := by rfl) (hk : fd.scope.kind = .function := by rfl) : wpAny (MM w) A (call (.ref f) vs) Q E s := by
  have hvl := dv.length
  refine wpAny_call (codeAny_call_cells (dp0 ok.dp) (bs.tx.k _ _ hK) hd bs.tx.nl (codeRec_of bs.tx.k hcd) hbody (par.bind vs (hvl.trans hlen)) hclo ?_ (fun s₁ x => ?_) hco hgen hk)
  · intro y hy
    rcases par.kinds y.1 (List.of_mem_zip hy).1 with q | ⟨q1, q2⟩
    · exact .inl q
    · exact .inr ⟨q1, q2 _⟩
  · obtain ⟨⟨⟨h₁, tk, rfl⟩, hns, hkeep, hfr⟩, hcell, hap, hab⟩ := x
    have hL : s.heap.get? (callEnvC fd s.heap.objs.size f).locals = none := get_size _
    have hC : ∀ n c, (callEnvC fd s.heap.objs.size f).cells.lookup n = some c → s.heap.get? c = none := fun n c hc => by
      cases e : s.heap.get? c with
      | none => rfl
      | some o =>
        have h1 := Heap.lt_size e
        have h2 : s.heap.objs.size < c := hab n c (mem_of_lookup hc)
        exact absurd (Nat.lt_trans h1 h2) (Nat.lt_irrefl _)
    have bs₁ : Bs w W μ { s with heap := h₁, toks := tk } := bs.keep hkeep
    refine wpAny_mono (h { s with heap := h₁, toks := tk } s.heap.objs.size ⟨⟨bs₁, hk, hg, hb, ⟨_, hns⟩, bs.tx.fresh hL, fun q => ?_, fun n c hc => ⟨_, hcell n c hc⟩, fun n c hc => bs.tx.fresh (hC n c hc), fun n c hc q => ?_, hap, ?_⟩, (Go.of hkeep).ef, .inl hL, fun n c hc => .inl (hC n c hc)⟩) (fun _ _ q => q) fun _ _ q => q.elim
    · obtain ⟨o, e⟩ := bs.live _ q
      rw [hL] at e; cases e
    · obtain ⟨o, e⟩ := bs.live _ q
      rw [hC n c hc] at e; cases e
    · intro y d hy
      obtain ⟨v, d1, d2, d3⟩ := zip_lookup dv par.nd (hvl.trans hlen).symm hy
      refine ⟨v, ?_, d1.pr fun a o n e _ => ⟨hkeep a o e, n⟩⟩
      have hkk : (callEnvC fd s.heap.objs.size f).kindOf y = fd.scope.names.lookup y := rfl
      rcases par.kinds y d2 with q | ⟨q1, q2⟩
      · exact .loc _ (hkk.trans q) hns ((d3 _ _).1 (hkk.trans q))
      · obtain ⟨c, hc⟩ := Option.isSome_iff_exists.mp (q2 (s.heap.objs.size + 1))
        have := hcell y c hc
        rw [(d3 _ _).2 (by rw [hkk, q1]; simp)] at this
        exact .cell c (.inl (hkk.trans q1)) hc this
end

end Mine
open PySem PySem.W PyProof.Rows
set_option Elab.async false
set_option maxRecDepth 100000
set_option linter.unusedVariables false
namespace Mine

variable {w : World} {k : Nat} {env : Env} {ρ : Rho} {μ : List (Addr × Mu)}

/-- the mutable objects lie apart from X -/
def MuX (X : Addr → Prop) (μ : List (Addr × Mu)) : Prop := ∀ p ∈ μ, ¬ X p.1 ∧ ∀ dx l, p.2 = .acc dx l → ¬ X dx

section
variable {W P X : Addr → Prop} {s₀ s s' : Shared}
theorem Bs.chg {h' : Heap} {tk : Nat} (b : Bs w W μ s) (k : ∀ a o, ¬ X a → s.heap.get? a = some o → h'.get? a = some o) (xw : ∀ a, X a → W a) (xt : ¬ X tblA) (xl : ∀ a, X a → ∃ o, h'.get? a = some o) (xm : MuX X μ) : Bs w W μ { s with heap := h', toks := tk } where
  tx := b.tx.at fun a o n e => k a o (fun q => n (b.own _ (xw _ q))) e
  tab := let ⟨ps, t, r⟩ := b.tab; ⟨ps, k _ _ xt t, r⟩
  bare := b.bare
  wt := b.wt
  live := fun a ha => by
    by_cases q : X a
    · exact xl a q
    · obtain ⟨o, e⟩ := b.live a ha
      exact ⟨o, k a o q e⟩
  own := b.own
  mw := b.mw
  mu := fun p hp => by
    have h1 := xm p hp
    have h2 := b.mu p hp
    have pr : Pr W W s.heap h' := fun a o n e _ => ⟨k a o (fun q => n (xw _ q)) e, n⟩
    obtain ⟨p, m⟩ := p
    cases m with
    | acc dx l =>
      obtain ⟨⟨vs, n, e, r⟩, w2, hsh, t, t', q⟩ := h2
      exact ⟨⟨vs, n, k _ _ h1.1 e, r.pr pr⟩, w2, hsh, t, t', k _ _ (h1.2 _ _ rfl) q⟩
    | opn l =>
      obtain ⟨vs, n, e, r⟩ := h2
      exact ⟨vs, n, k _ _ h1.1 e, r.pr pr⟩
theorem St.chg {h' : Heap} {tk : Nat} (b : St w W env ρ μ s) (k : ∀ a o, ¬ X a → s.heap.get? a = some o → h'.get? a = some o) (xw : ∀ a, X a → W a) (xt : ¬ X tblA) (xl : ∀ a, X a → ∃ o, h'.get? a = some o) (xm : MuX X μ) : St w W env ρ μ { s with heap := h', toks := tk } where
  toBs := b.toBs.chg k xw xt xl xm
  ek := b.ek
  eg := b.eg
  eb := b.eb
  ns := let ⟨m, o, es, ep, ho, r⟩ := b.ns; ⟨m, o, es, ep, k _ _ (fun q => b.lw (xw _ q)) ho, r⟩
  lo := b.lo
  lw := b.lw
  cells := fun n c hc => let ⟨v, o, ho, r⟩ := b.cells n c hc; ⟨v, o, k _ _ (fun q => b.cw n c hc (xw _ q)) ho, r⟩
  co := b.co
  ap := b.ap
  cw := b.cw
  loc := fun n d e => by
    obtain ⟨v, h1, h2⟩ := b.loc n d e
    refine ⟨v, ?_, h2.pr fun a o n e _ => ⟨k a o (fun q => n (xw _ q)) e, n⟩⟩
    cases h1 with
    | loc m h1 h2 h3 => exact .loc m h1 (let ⟨o, es, ep, ho, r⟩ := h2; ⟨o, es, ep, k _ _ (fun q => b.lw (xw _ q)) ho, r⟩) h3
    | cell c h1 h2 h3 => exact .cell c h1 h2 (let ⟨o, ho, r⟩ := h3; ⟨o, k _ _ (fun q => b.cw n c h2 (xw _ q)) ho, r⟩)
theorem St.weak {ρ' : Rho} (b : St w W env ρ μ s) (h : ∀ x d, ρ'.lookup x = some d → ρ.lookup x = some d) : St w W env ρ' μ s := { b with loc := fun x d e => b.loc x d (h x d e) }
theorem Bd.weak {ρ' : Rho} (b : Bd w W env ρ μ P s₀ s) (h : ∀ x d, ρ'.lookup x = some d → ρ.lookup x = some d) : Bd w W env ρ' μ P s₀ s := ⟨b.toSt.weak h, b.ef, b.fl, b.fc⟩

/-- a longer list of what may change: all of the new lies apart from what was -/
theorem Bs.wide {W' : Addr → Prop} {h' : Heap} {tk : Nat} (b : Bs w W μ s) (k : ∀ a o, s.heap.get? a = some o → h'.get? a = some o) (hw : ∀ a, W' a ↔ W a ∨ X a) (xf : ∀ a, X a → s.heap.get? a = none) (xl : ∀ a, X a → ∃ o, h'.get? a = some o) : Bs w W' μ { s with heap := h', toks := tk } where
  tx := b.tx.at fun a o _ e => k a o e
  tab := let ⟨ps, t, r⟩ := b.tab; ⟨ps, k _ _ t, r⟩
  bare := b.bare
  wt := (hw _).mpr (.inl b.wt)
  live := fun a ha => by
    rcases (hw a).mp ha with q | q
    · obtain ⟨o, e⟩ := b.live a q
      exact ⟨o, k a o e⟩
    · exact xl a q
  own := fun a ha => by
    rcases (hw a).mp ha with q | q
    · exact b.own a q
    · exact b.tx.fresh (xf a q)
  mw := fun p hp => ⟨(hw _).mpr (.inl (b.mw p hp).1), fun dx l e => (hw _).mpr (.inl ((b.mw p hp).2 dx l e))⟩
  mu := fun p hp => by
    have h2 := b.mu p hp
    have pr : Pr W W' s.heap h' := fun a o n e _ => ⟨k a o e, fun q => by
      rcases (hw a).mp q with q | q
      · exact n q
      · rw [xf a q] at e; cases e⟩
    obtain ⟨p, m⟩ := p
    cases m with
    | acc dx l =>
      obtain ⟨⟨vs, n, e, r⟩, w2, hsh, t, t', q⟩ := h2
      exact ⟨⟨vs, n, k _ _ e, r.pr pr⟩, w2, hsh, t, t', k _ _ q⟩
    | opn l =>
      obtain ⟨vs, n, e, r⟩ := h2
      exact ⟨vs, n, k _ _ e, r.pr pr⟩
theorem St.wide {W' : Addr → Prop} {h' : Heap} {tk : Nat} (b : St w W env ρ μ s) (k : ∀ a o, s.heap.get? a = some o → h'.get? a = some o) (hw : ∀ a, W' a ↔ W a ∨ X a) (xf : ∀ a, X a → s.heap.get? a = none) (xl : ∀ a, X a → ∃ o, h'.get? a = some o) : St w W' env ρ μ { s with heap := h', toks := tk } where
  toBs := b.toBs.wide k hw xf xl
  ek := b.ek
  eg := b.eg
  eb := b.eb
  ns := let ⟨m, o, es, ep, ho, r⟩ := b.ns; ⟨m, o, es, ep, k _ _ ho, r⟩
  lo := b.lo
  lw := fun q => by
    rcases (hw _).mp q with q | q
    · exact b.lw q
    · obtain ⟨m, o, es, ep, ho, r⟩ := b.ns
      rw [xf _ q] at ho; cases ho
  cells := fun n c hc => let ⟨v, o, ho, r⟩ := b.cells n c hc; ⟨v, o, k _ _ ho, r⟩
  co := b.co
  ap := b.ap
  cw := fun n c hc q => by
    rcases (hw _).mp q with q | q
    · exact b.cw n c hc q
    · obtain ⟨v, o, ho, r⟩ := b.cells n c hc
      rw [xf _ q] at ho; cases ho
  loc := fun n d e => by
    obtain ⟨v, h1, h2⟩ := b.loc n d e
    refine ⟨v, ?_, h2.pr fun a o n e _ => ⟨k a o e, fun q => by
      rcases (hw a).mp q with q | q
      · exact n q
      · rw [xf a q] at e; cases e⟩⟩
    cases h1 with
    | loc m h1 h2 h3 => exact .loc m h1 (let ⟨o, es, ep, ho, r⟩ := h2; ⟨o, es, ep, k _ _ ho, r⟩) h3
    | cell c h1 h2 h3 => exact .cell c h1 h2 (let ⟨o, ho, r⟩ := h3; ⟨o, k _ _ ho, r⟩)
/-- a shorter one -/
theorem DIn.less {W' : Addr → Prop} {h : Heap} {v : Value} {d : D} (x : DIn W' h v d) (hw : ∀ a, W a → W' a) : DIn W h v d := x.pr fun a o n e _ => ⟨e, fun q => n (hw a q)⟩
theorem DAll.less {W' : Addr → Prop} {h : Heap} {v : List Value} {d : List D} (x : DAll W' h v d) (hw : ∀ a, W a → W' a) : DAll W h v d := x.pr fun a o n e _ => ⟨e, fun q => n (hw a q)⟩
theorem Bs.less {W' : Addr → Prop} (b : Bs w W' μ s) (hw : ∀ a, W a → W' a) (wt : W tblA) (mw : MuW W μ) : Bs w W μ s where
  tx := b.tx
  tab := b.tab
  bare := b.bare
  wt := wt
  live := fun a ha => b.live a (hw a ha)
  own := fun a ha => b.own a (hw a ha)
  mw := mw
  mu := fun p hp => by
    have h2 := b.mu p hp
    obtain ⟨p, m⟩ := p
    cases m with
    | acc dx l =>
      obtain ⟨⟨vs, n, e, r⟩, r2⟩ := h2
      exact ⟨⟨vs, n, e, r.less hw⟩, r2⟩
    | opn l =>
      obtain ⟨vs, n, e, r⟩ := h2
      exact ⟨vs, n, e, r.less hw⟩
theorem St.less {W' : Addr → Prop} (b : St w W' env ρ μ s) (hw : ∀ a, W a → W' a) (wt : W tblA) (mw : MuW W μ) : St w W env ρ μ s where
  toBs := b.toBs.less hw wt mw
  ek := b.ek
  eg := b.eg
  eb := b.eb
  ns := b.ns
  lo := b.lo
  lw := fun q => b.lw (hw _ q)
  cells := b.cells
  co := b.co
  ap := b.ap
  cw := fun n c hc q => b.cw n c hc (hw _ q)
  loc := fun n d e => let ⟨v, h1, h2⟩ := b.loc n d e; ⟨v, h1, h2.less hw⟩
end

/-- what a target binds -/
inductive Tgt (env : Env) : Expr → Prop
  | one (x : PySem.Str) (p : Pos) : Sto env x → Tgt env (.Name x p)
  | two (x y : PySem.Str) (p q r : Pos) (n : Nat) : Sto env x → Sto env y → Tgt env (.Tuple [.Name x p, .Name y q] n r)

/-- one name -/
def bd1 (x : PySem.Str) (f : Nat → D) (i : Nat) : Rho := [(x, f i)]
def bd2 (x y : PySem.Str) (f g : Nat → D) (i : Nat) : Rho := [(y, g i), (x, f i)]

/-- a step within a loop's head -/
structure Ch (wr : List Addr) (bs : List PySem.Str) (env : Env) (s s' : Shared) : Prop where
  keep : ∀ a o, a ∉ wr → a ≠ env.locals → (∀ n ∈ bs, env.cells.lookup n ≠ some a) → s.heap.get? a = some o → s'.heap.get? a = some o
  gens : s'.gens = s.gens
  os : s'.os = s.os

/-- the names a target binds -/
def tn : Expr → List PySem.Str
  | .Name x _ => [x]
  | .Tuple [.Name x _, .Name y _] _ _ => [y, x]
  | _ => []

structure Dr (w : World) (A : Around) (target : Expr) (I : Addr) (wr fp : List Addr) (n : Nat) (IS : Nat → Heap → Prop) (VS : (Addr → Prop) → Heap → Prop) (bd : Nat → Rho) : Prop where
  sub : ∀ b ∈ wr, b ∈ fp
  nm : ∀ i, (bd i).map (·.1) = tn target
  vpr : ∀ W W' h h', Pr W W' h h' → VS W h → VS W' h'
  frame : ∀ i h h', IS i h → (∀ b ∈ fp, ∀ o, h.get? b = some o → h'.get? b = some o) → IS i h'
  alive : ∀ i h, IS i h → ∀ b ∈ wr, ∃ o, h.get? b = some o
  more : ∀ i (W : Addr → Prop) (env : Env) (ρ : Rho) (μ : List (Addr × Mu)) (s : Shared) (Q : Unit → Shared → Prop) (E : Value → Shared → Prop), i < n → IS i s.heap → VS W s.heap → (∀ a ∈ wr, W a) → tblA ∉ wr → St w W env ρ μ s → Tgt env target → env.cells.Pairwise (fun x y => x.2 ≠ y.2) → MuX (· ∈ wr) μ →
    env.locals ∉ fp → (∀ n c, env.cells.lookup n = some c → c ∉ fp) →
    (∀ s', IS (i + 1) s'.heap → St w W env (bd i ++ ρ) μ s' → Ch wr (tn target) env s s' → Q () s') →
    wpAny (MM w) A (pyNext (.ref I)) (fun r s₁ => ∃ v, r = some v ∧ wpAny (MM w) A (letOwnedTupleGo target (.ref I) v) (fun _ s₂ => wpAny (MM w) A (assign target env v) Q E s₂) E s₁) E s
  done : ∀ (s : Shared) (Q : Option Value → Shared → Prop) (E : Value → Shared → Prop), IS n s.heap →
    (∀ h' tk, (∀ b o, b ∉ wr → s.heap.get? b = some o → h'.get? b = some o) → Q none { s with heap := h', toks := tk }) → wpAny (MM w) A (pyNext (.ref I)) Q E s
  self : ∀ i (s : Shared) (Q : Value → Shared → Prop) (E : Value → Shared → Prop), IS i s.heap → Q (.ref I) s → wpAny (MM w) A (pyIter (.ref I)) Q E s

theorem Sto.name {x : PySem.Str} {p : Pos} {W : Addr → Prop} {s : Shared} {d : D} {v : Value} {A : Around} {E : Value → Shared → Prop} {Q : Unit → Shared → Prop} (st : St w W env ρ μ s) (ap : env.cells.Pairwise fun x y => x.2 ≠ y.2) (hk : Sto env x) (dv : DIn W s.heap v d)
    (h : ∀ h' tk c, Heap.SameBut c s.heap h' → (c = env.locals ∨ env.cells.lookup x = some c) → c ≠ tblA → St w W env ((x, d) :: ρ) μ { s with heap := h', toks := tk } → Q () { s with heap := h', toks := tk }) : wpAny (MM w) A (assign (.Name x p) env v) Q E s :=
  wpAny_assign_Name (st.store ap hk dv h)

/-- from the library's walks: one name -/
theorem Dr.ofWalks {A : Around} {x : PySem.Str} {p : Pos} {I : Addr} {wr fp : List Addr} {n : Nat} {V : Nat → Value → Prop} {IS : Nat → Heap → Prop} {VS : (Addr → Prop) → Heap → Prop} {f : Nat → D} (K : Walks prg w A I fp wr n V IS)
    (al : ∀ i h, IS i h → ∀ b ∈ wr, ∃ o, h.get? b = some o) (vpr : ∀ W W' h h', Pr W W' h h' → VS W h → VS W' h') (val : ∀ W i h v, i < n → VS W h → V i v → DIn W h v (f i)) : Dr w A (.Name x p) I wr fp n IS VS (bd1 x f) where
  sub := K.sub
  nm := fun _ => rfl
  vpr := vpr
  frame := K.frame
  alive := al
  more := fun i W env ρ μ s Q E hi is vs₀ xw xt st tg ap xm hl hc h => by
    cases tg with
    | one _ _ sto =>
      refine K.item i s _ E hi is fun v h' tk hv is' hk => ⟨v, rfl, ?_⟩
      have st' : St w W env ρ μ { s with heap := h', toks := tk } := st.chg (X := (· ∈ wr)) hk xw xt (al _ _ is') xm
      refine wpAny_pure (a := ()) ?_
      have dv : DIn W h' v (f i) := (val W i _ v hi vs₀ hv).pr fun a o n e _ => ⟨hk a o (fun q => n (xw _ q)) e, n⟩
      refine Sto.name st' ap sto dv fun h'' tk' c hs hcc ht st'' => h _ (K.frame _ _ _ is' fun b hb o e => ?_) st'' ⟨fun a o ha hal hac e => ?_, rfl, rfl⟩
      · refine (hs.2 b ?_).trans e
        rintro rfl
        rcases hcc with q | q
        · exact hl (q ▸ hb)
        · exact hc x _ q hb
      · refine (hs.2 a ?_).trans (hk a o ha e)
        rintro rfl
        rcases hcc with q | q
        · exact hal q
        · exact hac x (List.mem_singleton.mpr rfl) q
  done := K.done
  self := K.self

/-- from the library's walks over pairs: two names -/
theorem Dr.ofWalksU {A : Around} {x y : PySem.Str} {p q r : Pos} {m : Nat} {I : Addr} {wr fp : List Addr} {n : Nat} {V : Nat → Array Value → Prop} {IS : Nat → Heap → Prop} {Mid : Nat → Addr → Heap → Prop} {VS : (Addr → Prop) → Heap → Prop} {f g : Nat → D} (hh : A.handled = none) (K : WalksU prg w A I fp wr n V IS Mid)
    (al : ∀ i h, IS i h → ∀ b ∈ wr, ∃ o, h.get? b = some o) (vpr : ∀ W W' h h', Pr W W' h h' → VS W h → VS W' h') (val : ∀ W i h vs, i < n → VS W h → V i vs → ∃ u v, vs = #[u, v] ∧ DIn W h u (f i) ∧ DIn W h v (g i)) : Dr w A (.Tuple [.Name x p, .Name y q] m r) I wr fp n IS VS (bd2 x y f g) where
  sub := K.sub
  nm := fun _ => rfl
  vpr := vpr
  frame := K.frame
  alive := al
  more := fun i W env ρ μ s Q E hi is vs₀ xw xt st tg ap xm hl hc h => by
    cases tg with
    | two _ _ _ _ _ _ sx sy =>
      refine K.item i s _ E hi is fun T vs h₁ tk hv hT hm hk₁ => ⟨.ref T, rfl, ?_⟩
      obtain ⟨u, v, rfl, du, dv⟩ := val W i _ vs hi vs₀ hv
      refine K.go _ _ _ i T _ _ _ hm fun h₂ is₂ hk₂ => ?_
      have hT₂ : h₂.IsTuple T #[u, v] := let ⟨o, e, r⟩ := hT; ⟨o, hk₂ _ o (K.apart i T _ hm) e, r⟩
      refine wpAny_assign_Tuple hh hT₂ rfl rfl fun h₃ hx => ?_
      replace hx : Heap.ExtBut h₂.objs.size h₂ h₃ := hx
      have old : ∀ b o, h₂.get? b = some o → h₃.get? b = some o := fun b o e => hx b o (Nat.ne_of_lt (Heap.lt_size e)) e
      have k3 : ∀ a o, a ∉ wr → s.heap.get? a = some o → h₃.get? a = some o := fun a o n e => old a o (hk₂ a o n (hk₁ a o n e))
      have is₃ : IS (i + 1) h₃ := K.frame _ _ _ is₂ fun b _ o e => old b o e
      have st₃ : St w W env ρ μ { s with heap := h₃, toks := tk } := st.chg (X := (· ∈ wr)) k3 xw xt (al _ _ is₃) xm
      have du₃ : DIn W h₃ u (f i) := du.pr fun a o n e _ => ⟨k3 a o (fun q => n (xw _ q)) e, n⟩
      have dv₃ : DIn W h₃ v (g i) := dv.pr fun a o n e _ => ⟨k3 a o (fun q => n (xw _ q)) e, n⟩
      show wpAny _ _ (do holding [v] (assign (.Name x p) env u); do holding [] (assign (.Name y q) env v); pure ()) _ _ _
      refine wpAny_bind (wpAny_holding (Sto.name st₃ ap sx du₃ fun h₄ tk₄ c₄ hs₄ hc₄ ht₄ st₄ => ?_))
      have bx : Bx h₃ c₄ := by
        rcases hc₄ with q | q
        · obtain ⟨m, hm⟩ := st₃.ns; rw [q]; exact bx_ns hm
        · obtain ⟨v, hv⟩ := st₃.cells x c₄ q; exact bx_cell hv
      refine wpAny_bind (wpAny_holding (Sto.name st₄ ap sy (dv₃.pr (bx.pr hs₄)) fun h₅ tk₅ c₅ hs₅ hc₅ ht₅ st₅ => wpAny_pure (h _ (K.frame _ _ _ is₃ fun b hb o e => ?_) st₅ ⟨fun a o ha hal hac e => ?_, rfl, rfl⟩)))
      · refine (hs₅.2 b ?_).trans ((hs₄.2 b ?_).trans e)
        · rintro rfl
          rcases hc₅ with q | q
          · exact hl (q ▸ hb)
          · exact hc y _ q hb
        · rintro rfl
          rcases hc₄ with q | q
          · exact hl (q ▸ hb)
          · exact hc x _ q hb
      · refine (hs₅.2 a ?_).trans ((hs₄.2 a ?_).trans (k3 a o ha e))
        · rintro rfl
          rcases hc₅ with q | q
          · exact hal q
          · exact hac y List.mem_cons_self q
        · rintro rfl
          rcases hc₄ with q | q
          · exact hal q
          · exact hac x (List.mem_cons_of_mem _ (List.mem_singleton.mpr rfl)) q
  done := K.done
  self := K.self

/-- a source: its expression is evaluated, an iterator made -/
def SrcG (fz : Bool) (w : World) (k : Nat) (env : Env) (ρ : Rho) (μ : List (Addr × Mu)) (e target : Expr) (n : Nat) (bd : Nat → Rho) : Prop :=
  ∀ (W : Addr → Prop) (A : Around) (E : Value → Shared → Prop) (s : Shared) (Q : Value → Shared → Prop), AOk k A → St w W env ρ μ s →
    (∀ (s₂ : Shared) (W' : Addr → Prop) (I : Addr) (wr fp : List Addr) (IS : Nat → Heap → Prop) (VS : (Addr → Prop) → Heap → Prop), Go s s₂ → (∀ a, W' a ↔ W a ∨ a ∈ wr) → St w W' env ρ μ s₂ → (∀ a ∈ wr, s.heap.get? a = none) →
      (∀ a ∈ fp, a ∈ wr ∨ (a ≠ tblA ∧ (¬ W a ∨ (fz = false ∧ ∃ m, (a, m) ∈ μ)) ∧ ∃ o, s₂.heap.get? a = some o ∧ ((∃ xs n, o.data = .seq xs n) ∨ ∃ xs, o.data = .fields xs))) → IS 0 s₂.heap → VS W' s₂.heap → (∀ B : Around, B.handled = none → Dr w B target I wr fp n IS VS bd) → Q (.ref I) s₂) →
    wpAny (MM w) A (eval e env) (fun x s₁ => wpAny (MM w) A (pyIter x) Q E s₁) E s

abbrev Src := SrcG false
variable {fz : Bool}

theorem Go.none {s s' : Shared} {a : Addr} (g : Go s s') (t : Tab s'.heap) (hn : s'.heap.get? a = none) : s.heap.get? a = none := by
  cases e : s.heap.get? a with
  | none => rfl
  | some o =>
    by_cases ha : a = tblA
    · subst ha; obtain ⟨ps, t, _⟩ := t; rw [hn] at t; cases t
    · rw [g.gr.keep a o ha e] at hn; cases hn

theorem iter_alive {h : Heap} {I l : Addr} {i : Nat} (x : h.IsListIter I l i) : ∃ o, h.get? I = some o := let ⟨o, ho, _⟩ := x; ⟨o, ho⟩

theorem Src.list {e : Expr} {x : PySem.Str} {p : Pos} {ds : List D} (he : Ev w k env ρ μ e (.lst ds)) : SrcG fz w k env ρ μ e (.Name x p) ds.length (bd1 x fun i => ds.getD i .none) := by
  intro W A E s Q ok st h
  refine he W A E s _ ok st fun v s₁ st₁ g₁ d₁ => ?_
  cases d₁ with
  | @lst a vs _ hw hl da =>
    refine wpAny_pyIter_list hl.isList ?_
    have hn := get_size s₁.heap
    have hne : a ≠ s₁.heap.objs.size := by obtain ⟨n, e⟩ := hl; exact Nat.ne_of_lt (Heap.lt_size e)
    have hk : ∀ b o, s₁.heap.get? b = some o → (s₁.heap.push { cls := .type "list_iterator", data := .fields #[.ref a, .int 0 0] }).get? b = some o := fun _ _ e => Heap.get?_push_of_some _ e
    have xf : ∀ b, b ∈ [s₁.heap.objs.size] → s₁.heap.get? b = none := fun b hb => by rw [List.mem_singleton.mp hb]; exact hn
    have xl : ∀ b, b ∈ [s₁.heap.objs.size] → ∃ o, (s₁.heap.push { cls := .type "list_iterator", data := .fields #[.ref a, .int 0 0] }).get? b = some o := fun b hb => by rw [List.mem_singleton.mp hb]; exact ⟨_, Heap.get?_push_size _ rfl⟩
    have hlen := da.length
    refine h _ (fun b => W b ∨ b ∈ [s₁.heap.objs.size]) _ [s₁.heap.objs.size] [s₁.heap.objs.size, a] (fun i h => h.IsListIter s₁.heap.objs.size a i ∧ h.IsList a vs.toArray) (fun W h => DAll W h vs ds) (g₁.trans (.of (tk := s₁.toks) hk)) (fun _ => Iff.rfl)
      (st₁.wide (tk := s₁.toks) hk (fun _ => Iff.rfl) xf xl) (fun b hb => g₁.none st₁.tab (xf b hb)) ?_ ⟨⟨_, Heap.get?_push_size _ rfl, rfl, rfl⟩, hl.isList.push _⟩ (da.pr fun b o n e _ => ⟨hk b o e, fun q => ?_⟩) fun B hB => ?_
    · intro b hb
      rcases List.mem_cons.mp hb with rfl | hb
      · exact .inl (List.mem_singleton.mpr rfl)
      · rw [List.mem_singleton.mp hb]
        obtain ⟨n, e⟩ := hl
        exact .inr ⟨fun q => hw (q ▸ st.wt), .inl hw, _, hk _ _ e, .inl ⟨_, _, rfl⟩⟩
    · rcases q with q | q
      · exact n q
      · rw [xf _ q] at e; cases e
    · have K := Walks.list (prog := prg) (w := w) hB s₁.heap.objs.size a hne vs.toArray
      have e2 : vs.toArray.size = ds.length := by rw [List.size_toArray, hlen]
      rw [e2] at K
      refine Dr.ofWalks K (fun i h is b hb => by rw [List.mem_singleton.mp hb]; exact iter_alive is.1) (fun W W' h h' pr x => x.pr pr) fun W i h v hi x hv => ?_
      obtain ⟨d, e, dv⟩ := x.getV (k := i) (v := v) (by simpa using hv)
      rw [List.getD_eq_getElem?_getD, e]; exact dv
theorem Src.range {e : Expr} {x : PySem.Str} {p : Pos} {a b : Int} (he : Ev w k env ρ μ e (.rng a b)) (h1 : -(2 ^ 40) ≤ a ∧ a ≤ 2 ^ 40) (h2 : -(2 ^ 40) ≤ b ∧ b ≤ 2 ^ 40) : SrcG fz w k env ρ μ e (.Name x p) (b - a).toNat (bd1 x fun i => .int (a + (i : Int))) := by
  intro W A E s Q ok st h
  refine he W A E s _ ok st fun v s₁ st₁ g₁ d₁ => ?_
  cases d₁ with
  | @rng r _ _ t u v hw hr =>
    refine wpAny_pyIter_range hr (rng_small h1 h2) ?_
    have hn := get_size s₁.heap
    generalize hO : ({ cls := .type "range_iterator", data := .fields #[rawInt a, rawInt (Builtin.Range.rangeSize a b 1), rawInt 1] } : Obj) = O
    have hk : ∀ b o, s₁.heap.get? b = some o → (s₁.heap.push O).get? b = some o := fun _ _ e => Heap.get?_push_of_some _ e
    have hI : (s₁.heap.push O).get? s₁.heap.objs.size = some O := Heap.get?_push_size _ (by rw [← hO]; rfl)
    have xf : ∀ b, b ∈ [s₁.heap.objs.size] → s₁.heap.get? b = none := fun b hb => by rw [List.mem_singleton.mp hb]; exact hn
    have xl : ∀ b, b ∈ [s₁.heap.objs.size] → ∃ o, (s₁.heap.push O).get? b = some o := fun b hb => by rw [List.mem_singleton.mp hb]; exact ⟨_, hI⟩
    refine h _ (fun b => W b ∨ b ∈ [s₁.heap.objs.size]) _ [s₁.heap.objs.size] [s₁.heap.objs.size] (fun i h => IsRangeIter h s₁.heap.objs.size (a + (i : Nat) * 1) (((b - a).toNat : Int) - (i : Nat)) 1) (fun _ _ => True) (g₁.trans (.of (tk := s₁.toks) hk)) (fun _ => Iff.rfl)
      (st₁.wide (tk := s₁.toks) hk (fun _ => Iff.rfl) xf xl) (fun b hb => g₁.none st₁.tab (xf b hb)) (fun b hb => .inl hb) (by show _ = some _; rw [hI, ← hO, rng_size]; simp) trivial fun B hB => ?_
    refine Dr.ofWalks (Walks.range (prog := prg) (w := w) hB s₁.heap.objs.size a 1 (b - a).toNat) (fun i h is b hb => by rw [List.mem_singleton.mp hb]; exact ⟨_, is⟩) (fun _ _ _ _ _ x => x) fun W i h v hi x hv => ?_
    obtain ⟨t, rfl⟩ := hv
    rw [Int.mul_one]
    exact .int _ t
theorem Src.rev {e : Expr} {x f : PySem.Str} {p q r : Pos} {ds : List D} (hn : Nm w env f (.type "reversed")) (he : Ev w k env ρ μ e (.lst ds)) (hst : starEach [e] env = [(false, eval e env)] := by rfl) : SrcG fz w k env ρ μ (.Call (.Name f q) [e] [] r) (.Name x p) ds.length (bd1 x fun i => ds.getD (ds.length - 1 - i) .none) := by
  intro W A E s Q ok st h
  refine wpAny_Call_NameR (hn W A E s ρ μ q _ st ?_)
  refine callWith_of (.typ _) (by rw [hst]; rfl) (Evs.one he hst W A E s r _ ok st fun us s₁ st₁ g₁ d₁ => ⟨st₁.tx, ?_⟩)
  cases d₁ with
  | cons d₁ r₁ =>
    cases r₁
    cases d₁ with
    | @lst a vs _ hw hl da =>
      refine call_reversed_list hl.isList ?_
      have hnn := get_size s₁.heap
      have hne : a ≠ s₁.heap.objs.size := by obtain ⟨n, e⟩ := hl; exact Nat.ne_of_lt (Heap.lt_size e)
      have hlen := da.length
      generalize hO : revObj a (((vs.toArray.size : Nat) : Int) - 1) = O
      have hk : ∀ b o, s₁.heap.get? b = some o → (s₁.heap.push O).get? b = some o := fun _ _ e => Heap.get?_push_of_some _ e
      have hI : (s₁.heap.push O).get? s₁.heap.objs.size = some O := Heap.get?_push_size _ (by rw [← hO]; rfl)
      have xf : ∀ b, b ∈ [s₁.heap.objs.size] → s₁.heap.get? b = none := fun b hb => by rw [List.mem_singleton.mp hb]; exact hnn
      have xl : ∀ b, b ∈ [s₁.heap.objs.size] → ∃ o, (s₁.heap.push O).get? b = some o := fun b hb => by rw [List.mem_singleton.mp hb]; exact ⟨_, hI⟩
      have isr : (s₁.heap.push O).IsRevIter s₁.heap.objs.size a ((vs.toArray.size : Int) - 1) := ⟨_, hI, by rw [← hO]; rfl, by rw [← hO]; rfl⟩
      refine wpAny_pyIter_revIter (s := { s₁ with heap := s₁.heap.push O }) isr ?_
      refine h _ (fun b => W b ∨ b ∈ [s₁.heap.objs.size]) _ [s₁.heap.objs.size] [s₁.heap.objs.size, a] (fun i h => i ≤ vs.toArray.size ∧ h.IsRevIter s₁.heap.objs.size a ((vs.toArray.size : Int) - 1 - (i : Int)) ∧ h.IsList a vs.toArray) (fun W h => DAll W h vs ds) (g₁.trans (.of (tk := s₁.toks) hk)) (fun _ => Iff.rfl)
        (st₁.wide (tk := s₁.toks) hk (fun _ => Iff.rfl) xf xl) (fun b hb => g₁.none st₁.tab (xf b hb)) ?_ ⟨Nat.zero_le _, by simpa using isr, hl.isList.push _⟩ (da.pr fun b o n e _ => ⟨hk b o e, fun q => ?_⟩) fun B hB => ?_
      · intro b hb
        rcases List.mem_cons.mp hb with rfl | hb
        · exact .inl (List.mem_singleton.mpr rfl)
        · rw [List.mem_singleton.mp hb]
          obtain ⟨n, e⟩ := hl
          exact .inr ⟨fun q => hw (q ▸ st.wt), .inl hw, _, hk _ _ e, .inl ⟨_, _, rfl⟩⟩
      · rcases q with q | q
        · exact n q
        · rw [xf _ q] at e; cases e
      · have K := Walks.listRev (prog := prg) (w := w) hB s₁.heap.objs.size a hne vs.toArray
        have e2 : vs.toArray.size = ds.length := by rw [List.size_toArray, hlen]
        rw [e2] at K ⊢
        refine Dr.ofWalks K (fun i h is b hb => by rw [List.mem_singleton.mp hb]; obtain ⟨_, ⟨o, e, _⟩, _⟩ := is; exact ⟨o, e⟩) (fun W W' h h' pr x => x.pr pr) fun W i h v hi x hv => ?_
        obtain ⟨d, e, dv⟩ := x.getV (k := ds.length - 1 - i) (v := v) (by simpa using hv)
        rw [List.getD_eq_getElem?_getD, e]; exact dv

theorem Src.enum {e : Expr} {x y f : PySem.Str} {p p' q r t : Pos} {m : Nat} {ds : List D} (hn : Nm w env f (.type "enumerate")) (he : Ev w k env ρ μ e (.lst ds)) (hst : starEach [e] env = [(false, eval e env)] := by rfl) : SrcG fz w k env ρ μ (.Call (.Name f q) [e] [] r) (.Tuple [.Name x p, .Name y p'] m t) ds.length (bd2 x y (fun i => .int (i : Int)) fun i => ds.getD i .none) := by
  intro W A E s Q ok st h
  refine wpAny_Call_NameR (hn W A E s ρ μ q _ st ?_)
  refine callWith_of (.typ _) (by rw [hst]; rfl) (Evs.one he hst W A E s r _ ok st fun us s₁ st₁ g₁ d₁ => ⟨st₁.tx, ?_⟩)
  cases d₁ with
  | cons d₁ r₁ =>
    cases r₁
    cases d₁ with
    | @lst a vs _ hw hl da =>
      refine call_enumerate_list hl.isList fun h' hE hI hz hk => ?_
      have hne : a ≠ s₁.heap.objs.size := by obtain ⟨n, e⟩ := hl; exact Nat.ne_of_lt (Heap.lt_size e)
      have hne1 : a ≠ s₁.heap.objs.size + 1 := by obtain ⟨n, e⟩ := hl; exact Nat.ne_of_lt (Nat.lt_succ_of_lt (Heap.lt_size e))
      have hlen := da.length
      have none_of : ∀ b, s₁.heap.objs.size ≤ b → s₁.heap.get? b = none := fun b hb => by
        cases e : s₁.heap.get? b with
        | none => rfl
        | some o => exact absurd (Heap.lt_size e) (Nat.not_lt.mpr hb)
      have xf : ∀ b, b ∈ [s₁.heap.objs.size + 1, s₁.heap.objs.size] → s₁.heap.get? b = none := fun b hb => by
        simp only [List.mem_cons, List.not_mem_nil, or_false] at hb
        rcases hb with rfl | rfl
        · exact none_of _ (Nat.le_succ _)
        · exact none_of _ (Nat.le_refl _)
      have xl : ∀ b, b ∈ [s₁.heap.objs.size + 1, s₁.heap.objs.size] → ∃ o, h'.get? b = some o := fun b hb => by
        simp only [List.mem_cons, List.not_mem_nil, or_false] at hb
        rcases hb with rfl | rfl
        · exact ⟨_, hE⟩
        · exact iter_alive hI
      refine wpAny_pyIter_enum (s := { s₁ with heap := h' }) hE ?_
      refine h _ (fun b => W b ∨ b ∈ [s₁.heap.objs.size + 1, s₁.heap.objs.size]) _ [s₁.heap.objs.size + 1, s₁.heap.objs.size] [s₁.heap.objs.size + 1, s₁.heap.objs.size, a] (fun i h => (∃ old, IsEnum h (s₁.heap.objs.size + 1) s₁.heap.objs.size i old) ∧ h.IsListIter s₁.heap.objs.size a i ∧ h.IsList a vs.toArray) (fun W h => DAll W h vs ds) (g₁.trans (.of (tk := s₁.toks) hk)) (fun _ => Iff.rfl)
        (st₁.wide (tk := s₁.toks) hk (fun _ => Iff.rfl) xf xl) (fun b hb => g₁.none st₁.tab (xf b hb)) ?_ ⟨⟨_, hE⟩, hI, hl.isList.at fun o e => hk a o e⟩ (da.pr fun b o n e _ => ⟨hk b o e, fun q => ?_⟩) fun B hB => ?_
      · intro b hb
        simp only [List.mem_cons, List.not_mem_nil, or_false] at hb
        rcases hb with rfl | rfl | rfl
        · exact .inl (by simp)
        · exact .inl (by simp)
        · obtain ⟨n, e⟩ := hl
          exact .inr ⟨fun q => hw (q ▸ st.wt), .inl hw, _, hk _ _ e, .inl ⟨_, _, rfl⟩⟩
      · rcases q with q | q
        · exact n q
        · rw [xf _ q] at e; cases e
      · have K := (WalksT.enumerateD (Draws.list (prog := prg) (w := w) (A := B.in1) hB s₁.heap.objs.size a hne vs.toArray) (s₁.heap.objs.size + 1) (Nat.succ_ne_self _) (by simp; exact Ne.symm hne1) (by simp)).toU
        have e2 : vs.toArray.size = ds.length := by rw [List.size_toArray, hlen]
        rw [e2] at K
        refine Dr.ofWalksU hB K (fun i h is b hb => ?_) (fun W W' h h' pr x => x.pr pr) fun W i h v hi x hv => ?_
        · simp only [List.mem_cons, List.not_mem_nil, or_false] at hb
          rcases hb with rfl | rfl
          · obtain ⟨⟨_, e⟩, _⟩ := is; exact ⟨_, e⟩
          · exact iter_alive is.2.1
        · obtain ⟨t, u, hu, rfl⟩ := hv
          obtain ⟨d, e, dv⟩ := x.getV (k := i) (v := u) (by simpa using hu)
          refine ⟨_, _, rfl, .int _ t, ?_⟩
          rw [List.getD_eq_getElem?_getD, e]; exact dv
theorem zipApart {N a b : Addr} (ha : @LT.lt Nat _ a N) (hb : @LT.lt Nat _ b N) : ZipApart (N + 4) (N + 2) (N + 3) N (N + 1) a b := by
  constructor <;> first | exact neN (apA ha 0) | exact neN (apA ha _) | exact neN (apA hb 0) | exact neN (apA hb _) | exact neN (apN (i := 0) (by decide)) | exact neN (apN (j := 0) (by decide)) | exact neN (apN (by decide))
theorem Src.zip {e e' : Expr} {x y f : PySem.Str} {p p' q r t : Pos} {m : Nat} {ds ds' : List D} (hn : Nm w env f (.type "zip")) (he : Ev w k env ρ μ e (.lst ds)) (he' : Ev w k env ρ μ e' (.lst ds')) (h1 : starEach [e, e'] env = [(false, eval e env), (false, eval e' env)] := by rfl) (h2 : starEach [e'] env = [(false, eval e' env)] := by rfl) :
    SrcG fz w k env ρ μ (.Call (.Name f q) [e, e'] [] r) (.Tuple [.Name x p, .Name y p'] m t) (min ds.length ds'.length) (bd2 x y (fun i => ds.getD i .none) fun i => ds'.getD i .none) := by
  intro W A E s Q ok st h
  refine wpAny_Call_NameR (hn W A E s ρ μ q _ st ?_)
  refine callWith_of (.typ _) (by rw [h1]; rfl) (Evs.two he he' h1 h2 W A E s r _ ok st fun us s₁ st₁ g₁ d₁ => ⟨st₁.tx, ?_⟩)
  cases d₁ with
  | cons d₁ r₁ =>
    cases r₁ with
    | cons d₂ r₂ =>
      cases r₂
      cases d₁ with
      | @lst a vs _ hw hl da =>
        cases d₂ with
        | @lst b us _ hw' hl' db =>
          refine call_zip_2 hl.isList hl'.isList fun h' hZ hTI hTO hI1 hI2 hz hk => ?_
          have lta : @LT.lt Nat _ a s₁.heap.objs.size := by obtain ⟨n, e⟩ := hl; exact Heap.lt_size e
          have ltb : @LT.lt Nat _ b s₁.heap.objs.size := by obtain ⟨n, e⟩ := hl'; exact Heap.lt_size e
          have none_of : ∀ b, s₁.heap.objs.size ≤ b → s₁.heap.get? b = none := fun b hb => by
            cases e : s₁.heap.get? b with
            | none => rfl
            | some o => exact absurd (Heap.lt_size e) (Nat.not_lt.mpr hb)
          generalize hN : s₁.heap.objs.size = N at *
          have xf : ∀ c, c ∈ [N + 4, N + 3, N, N + 1] → s₁.heap.get? c = none := fun c hc => by
            simp only [List.mem_cons, List.not_mem_nil, or_false] at hc
            rcases hc with rfl | rfl | rfl | rfl
            · exact none_of _ (Nat.le_add_right _ _)
            · exact none_of _ (Nat.le_add_right _ _)
            · exact none_of _ (Nat.le_refl _)
            · exact none_of _ (Nat.le_add_right _ _)
          have xl : ∀ c, c ∈ [N + 4, N + 3, N, N + 1] → ∃ o, h'.get? c = some o := fun c hc => by
            simp only [List.mem_cons, List.not_mem_nil, or_false] at hc
            rcases hc with rfl | rfl | rfl | rfl
            · exact ⟨_, hZ⟩
            · exact ⟨_, hTO⟩
            · exact iter_alive hI1
            · exact iter_alive hI2
          refine wpAny_pyIter_zip (s := { s₁ with heap := h' }) hZ ?_
          refine h _ (fun c => W c ∨ c ∈ [N + 4, N + 3, N, N + 1]) _ [N + 4, N + 3, N, N + 1] [N + 4, N + 2, N + 3, N, N + 1, a, b]
            (fun i h => IsZip h (N + 4) (N + 2) (N + 3) .none ∧ IsPair h (N + 2) (.ref N) (.ref (N + 1)) ∧ (∃ a b, IsPair h (N + 3) a b) ∧ h.IsListIter N a i ∧ h.IsListIter (N + 1) b i ∧ h.IsList a vs.toArray ∧ h.IsList b us.toArray)
            (fun W h => DAll W h vs ds ∧ DAll W h us ds') (g₁.trans (.of (tk := s₁.toks) hk)) (fun _ => Iff.rfl)
            (st₁.wide (tk := s₁.toks) hk (fun _ => Iff.rfl) xf xl) (fun c hc => g₁.none st₁.tab (xf c hc)) ?_ ⟨hZ, hTI, ⟨_, _, hTO⟩, hI1, hI2, hl.isList.at fun o e => hk a o e, hl'.isList.at fun o e => hk b o e⟩ ⟨da.pr fun b o n e _ => ⟨hk b o e, fun q => ?_⟩, db.pr fun b o n e _ => ⟨hk b o e, fun q => ?_⟩⟩ fun B hB => ?_
          · intro c hc
            obtain ⟨n1, e1⟩ := hl
            obtain ⟨n2, e2⟩ := hl'
            simp only [List.mem_cons, List.not_mem_nil, or_false] at hc
            rcases hc with rfl | rfl | rfl | rfl | rfl | rfl | rfl
            · exact .inl (by simp)
            · refine .inr ⟨fun q => ?_, .inl fun q => ?_, _, hTI, .inl ⟨_, _, rfl⟩⟩
              · obtain ⟨ps, tt, _⟩ := st₁.tab
                rw [← q, none_of _ (Nat.le_add_right _ _)] at tt; cases tt
              · obtain ⟨o, e⟩ := st₁.live _ q
                rw [none_of _ (Nat.le_add_right _ _)] at e; cases e
            · exact .inl (by simp)
            · exact .inl (by simp)
            · exact .inl (by simp)
            · exact .inr ⟨fun q => hw (q ▸ st.wt), .inl hw, _, hk _ _ e1, .inl ⟨_, _, rfl⟩⟩
            · exact .inr ⟨fun q => hw' (q ▸ st.wt), .inl hw', _, hk _ _ e2, .inl ⟨_, _, rfl⟩⟩
          · rcases q with q | q
            · exact n q
            · rw [xf _ q] at e; cases e
          · rcases q with q | q
            · exact n q
            · rw [xf _ q] at e; cases e
          · have K := (WalksT.zip2 (prog := prg) (w := w) hB (N + 4) (N + 2) (N + 3) N (N + 1) a b (zipApart lta ltb) vs.toArray us.toArray).toU
            have e2 : min vs.toArray.size us.toArray.size = min ds.length ds'.length := by rw [List.size_toArray, List.size_toArray, da.length, db.length]
            rw [e2] at K
            refine Dr.ofWalksU hB K (fun i h is c hc => ?_) (fun W W' h h' pr x => ⟨x.1.pr pr, x.2.pr pr⟩) fun W i h v hi x hv => ?_
            · simp only [List.mem_cons, List.not_mem_nil, or_false] at hc
              rcases hc with rfl | rfl | rfl | rfl
              · exact ⟨_, is.1⟩
              · obtain ⟨_, _, ⟨_, _, e⟩, _⟩ := is; exact ⟨_, e⟩
              · exact iter_alive is.2.2.2.1
              · exact iter_alive is.2.2.2.2.1
            · obtain ⟨u, u', hu, hu', rfl⟩ := hv
              obtain ⟨d, e, dv⟩ := x.1.getV (k := i) (v := u) (by simpa using hu)
              obtain ⟨d', e', dv'⟩ := x.2.getV (k := i) (v := u') (by simpa using hu')
              refine ⟨_, _, rfl, ?_, ?_⟩
              · rw [List.getD_eq_getElem?_getD, e]; exact dv
              · rw [List.getD_eq_getElem?_getD, e']; exact dv'

end Mine
open PySem PySem.W PyProof.Rows
set_option Elab.async false
set_option maxRecDepth 100000
set_option linter.unusedVariables false
namespace Mine

variable {w : World} {k : Nat} {env : Env} {ρ : Rho} {μ : List (Addr × Mu)}

section
variable {W P X : Addr → Prop} {s₀ s s' : Shared}

/-- what a loop's head may change -/
def PP (X : Addr → Prop) (bs : List PySem.Str) (env : Env) (a : Addr) : Prop := X a ∨ a = env.locals ∨ ∃ n ∈ bs, env.cells.lookup n = some a

theorem St.offT (st : St w W env ρ μ s) : env.locals ≠ tblA ∧ ∀ n c, env.cells.lookup n = some c → c ≠ tblA :=
  ⟨let ⟨m, hm⟩ := st.ns; (bx_ns hm).tbl st.tab, fun n c hc => let ⟨v, hv⟩ := st.cells n c hc; (bx_cell hv).tbl st.tab⟩
theorem Ch.ef {wr : List Addr} {bs : List PySem.Str} (c : Ch wr bs env s s') (st : St w W env ρ μ s) (ht : tblA ∉ wr) : Ef (PP (· ∈ wr) bs env) s s' where
  keep := fun a o _ n e => c.keep a o (fun q => n (.inl q)) (fun q => n (.inr (.inl q))) (fun m hm q => n (.inr (.inr ⟨m, hm, q⟩))) e
  tab := fun ps e => ⟨#[], by simpa using c.keep _ _ ht (Ne.symm st.offT.1) (fun m hm q => st.offT.2 m _ q rfl) e⟩
  os := c.os
theorem PP.mono {Y : Addr → Prop} {bs bs' : List PySem.Str} (h1 : ∀ a, X a → Y a) (h2 : ∀ n ∈ bs, n ∈ bs') : ∀ a, PP X bs env a → PP Y bs' env a := fun a q => by
  rcases q with q | q | ⟨n, hn, q⟩
  · exact .inl (h1 _ q)
  · exact .inr (.inl q)
  · exact .inr (.inr ⟨n, h2 n hn, q⟩)
theorem Ef.refl : Ef P s s := ⟨fun _ _ _ _ e => e, fun ps e => ⟨#[], by simpa using e⟩, rfl⟩

theorem Bs.chgTo {W' : Addr → Prop} {h' : Heap} {tk : Nat} (b : Bs w W μ s) (k : ∀ a o, ¬ X a → s.heap.get? a = some o → h'.get? a = some o) (xw : ∀ a, X a → W a) (xt : ¬ X tblA) (hw : ∀ a, W' a ↔ W a ∧ ¬ X a) (xm : MuX X μ) : Bs w W' μ { s with heap := h', toks := tk } where
  tx := b.tx.at fun a o n e => k a o (fun q => n (b.own _ (xw _ q))) e
  tab := let ⟨ps, t, r⟩ := b.tab; ⟨ps, k _ _ xt t, r⟩
  bare := b.bare
  wt := (hw _).mpr ⟨b.wt, xt⟩
  live := fun a ha => by
    obtain ⟨h1, h2⟩ := (hw a).mp ha
    obtain ⟨o, e⟩ := b.live a h1
    exact ⟨o, k a o h2 e⟩
  own := fun a ha => b.own a ((hw a).mp ha).1
  mw := fun p hp => ⟨(hw _).mpr ⟨(b.mw p hp).1, (xm p hp).1⟩, fun dx l e => (hw _).mpr ⟨(b.mw p hp).2 dx l e, (xm p hp).2 dx l e⟩⟩
  mu := fun p hp => by
    have h1 := xm p hp
    have h2 := b.mu p hp
    have pr : Pr W W' s.heap h' := fun a o n e _ => ⟨k a o (fun q => n (xw _ q)) e, fun q => n ((hw a).mp q).1⟩
    obtain ⟨p, m⟩ := p
    cases m with
    | acc dx l =>
      obtain ⟨⟨vs, n, e, r⟩, w2, hsh, t, t', q⟩ := h2
      exact ⟨⟨vs, n, k _ _ h1.1 e, r.pr pr⟩, w2, hsh, t, t', k _ _ (h1.2 _ _ rfl) q⟩
    | opn l =>
      obtain ⟨vs, n, e, r⟩ := h2
      exact ⟨vs, n, k _ _ h1.1 e, r.pr pr⟩
theorem St.chgTo {W' : Addr → Prop} {h' : Heap} {tk : Nat} (b : St w W env ρ μ s) (k : ∀ a o, ¬ X a → s.heap.get? a = some o → h'.get? a = some o) (xw : ∀ a, X a → W a) (xt : ¬ X tblA) (hw : ∀ a, W' a ↔ W a ∧ ¬ X a) (xm : MuX X μ) : St w W' env ρ μ { s with heap := h', toks := tk } where
  toBs := b.toBs.chgTo k xw xt hw xm
  ek := b.ek
  eg := b.eg
  eb := b.eb
  ns := let ⟨m, o, es, ep, ho, r⟩ := b.ns; ⟨m, o, es, ep, k _ _ (fun q => b.lw (xw _ q)) ho, r⟩
  lo := b.lo
  lw := fun q => b.lw ((hw _).mp q).1
  cells := fun n c hc => let ⟨v, o, ho, r⟩ := b.cells n c hc; ⟨v, o, k _ _ (fun q => b.cw n c hc (xw _ q)) ho, r⟩
  co := b.co
  cw := fun n c hc q => b.cw n c hc ((hw _).mp q).1
  ap := b.ap
  loc := fun n d e => by
    obtain ⟨v, h1, h2⟩ := b.loc n d e
    refine ⟨v, ?_, h2.pr fun a o n e _ => ⟨k a o (fun q => n (xw _ q)) e, fun q => n ((hw a).mp q).1⟩⟩
    cases h1 with
    | loc m h1 h2 h3 => exact .loc m h1 (let ⟨o, es, ep, ho, r⟩ := h2; ⟨o, es, ep, k _ _ (fun q => b.lw (xw _ q)) ho, r⟩) h3
    | cell c h1 h2 h3 => exact .cell c h1 h2 (let ⟨o, ho, r⟩ := h3; ⟨o, k _ _ (fun q => b.cw n c h2 (xw _ q)) ho, r⟩)

/-- a list in the making, apart from the piles -/
def LAt (Dl : Addr) (W : Addr → Prop) (h : Heap) (vs : List Value) (ds : List D) : Prop := h.PlainList Dl vs.toArray ∧ DAll W h vs ds

def forT (ifs : List Expr) (env : Env) : Sem Bool := forIn ifs true fun c r => if r = true then do let ok ← isTrue c env (eval c env); pure (ForInStep.yield ok) else pure (ForInStep.yield r)
def Te (w : World) (k : Nat) (env : Env) (ρ : Rho) (μ : List (Addr × Mu)) (ifs : List Expr) (b : Bool) : Prop :=
  ∀ (W : Addr → Prop) (A : Around) (E : Value → Shared → Prop) (s : Shared) (Q : Bool → Shared → Prop), AOk k A → St w W env ρ μ s →
    (∀ s', St w W env ρ μ s' → Go s s' → Q b s') → wpAny (MM w) A (forT ifs env) Q E s
theorem Te.nil : Te w k env ρ μ [] true := fun W A E s Q ok st h => wpAny_pure (h s st (.refl s))
theorem Te.one {c : Expr} {b : Bool} (hc : Tr w k env ρ μ c b) : Te w k env ρ μ [c] b := fun W A E s Q ok st h => by
  unfold forT
  simp only [List.forIn_cons, List.forIn_nil, if_true]
  exact wpAny_bind (wpAny_bind (hc W A E s _ ok st fun s' st' g => wpAny_pure (wpAny_pure (h s' st' g))))

def turnT (target iter : Expr) (ifs : List Expr) (it : Value) (env : Env) (em c : Sem Fin) : Sem Fin :=
  standAt iter.pos >>= fun _ => pyNext it >>= fun r => match r with
    | none => pure (.done .next)
    | some v => letOwnedTupleGo target it v >>= fun _ => assign target env v >>= fun _ => forT ifs env >>= fun ok => if ok = true then em else c

theorem turn_step {target iter : Expr} {ifs : List Expr} {I : Addr} {em c : Sem Fin} {A : Around} {wr fp : List Addr} {n j : Nat} {IS : Nat → Heap → Prop} {VS : (Addr → Prop) → Heap → Prop} {bd : Nat → Rho} {Q : Fin → Shared → Prop} {E : Value → Shared → Prop}
    (K : Dr w A target I wr fp n IS VS bd) (htg : Tgt env target) (hlt : j < n) (is : IS j s.heap) (vs : VS W s.heap) (xw : ∀ a ∈ wr, W a) (xt : tblA ∉ wr) (st : St w W env ρ μ s) (xm : MuX (· ∈ wr) μ) (hl : env.locals ∉ fp) (hc : ∀ n c, env.cells.lookup n = some c → c ∉ fp)
    (h : ∀ s₁, IS (j + 1) s₁.heap → St w W env (bd j ++ ρ) μ s₁ → Ch wr (tn target) env s s₁ → wpAny (MM w) A (forT ifs env) (fun ok s₂ => wpAny (MM w) A (if ok = true then em else c) Q E s₂) E s₁) :
    wpAny (MM w) A (turnT target iter ifs (.ref I) env em c) Q E s := by
  unfold turnT
  refine wpAny_bind (wpAny_standAt (wpAny_bind ?_))
  refine wpAny_mono (K.more j W env ρ μ s (fun _ s₁ => wpAny (MM w) A (forT ifs env) (fun ok s₂ => wpAny (MM w) A (if ok = true then em else c) Q E s₂) E s₁) E hlt is vs xw xt st htg st.ap xm hl hc fun s₁ is₁ st₁ ch => h s₁ is₁ st₁ ch) (fun r s₁ h₁ => ?_) fun _ _ x => x
  obtain ⟨v, rfl, h₁⟩ := h₁
  exact wpAny_bind (wpAny_mono h₁ (fun _ s₂ h₂ => wpAny_bind (wpAny_mono h₂ (fun _ s₃ h₃ => wpAny_bind h₃) fun _ _ x => x)) fun _ _ x => x)
theorem turn_done {target iter : Expr} {ifs : List Expr} {I : Addr} {em c : Sem Fin} {A : Around} {wr fp : List Addr} {n : Nat} {IS : Nat → Heap → Prop} {VS : (Addr → Prop) → Heap → Prop} {bd : Nat → Rho} {Q : Fin → Shared → Prop} {E : Value → Shared → Prop}
    (K : Dr w A target I wr fp n IS VS bd) (is : IS n s.heap) (h : ∀ h' tk, (∀ b o, b ∉ wr → s.heap.get? b = some o → h'.get? b = some o) → Q (.done .next) { s with heap := h', toks := tk }) : wpAny (MM w) A (turnT target iter ifs (.ref I) env em c) Q E s := by
  unfold turnT
  refine wpAny_bind (wpAny_standAt (wpAny_bind ?_))
  exact K.done s _ _ is fun h' tk hk => wpAny_pure (h h' tk hk)

/-- a loop of a comprehension's -/
theorem loopJ {elt : Expr} {gens : List Comprehension} {scope : Scope} {pos : Pos} {i : Nat} {target iter : Expr} {ifs : List Expr} {I : Addr} {acc : Value} {em : Sem Fin} {A : Around} {wr fp : List Addr} {n : Nat} {IS : Nat → Heap → Prop} {VS : (Addr → Prop) → Heap → Prop} {bd : Nat → Rho} {R : Result → Shared → Prop}
    (K : Dr w A target I wr fp n IS VS bd) (hturn : compTurn (.ListComp elt gens scope pos) i (.ref I) acc env = turnT target iter ifs (.ref I) env em (again (.compLoop (.ListComp elt gens scope pos) i (.ref I) acc env))) (htg : Tgt env target)
    (J : Nat → Shared → Prop)
    (hJ : ∀ j s, J j s → ∃ W ρ μ, IS j s.heap ∧ VS W s.heap ∧ (∀ a ∈ wr, W a) ∧ tblA ∉ wr ∧ St w W env ρ μ s ∧ MuX (· ∈ wr) μ ∧ env.locals ∉ fp ∧ (∀ n c, env.cells.lookup n = some c → c ∉ fp) ∧
      (j < n → ∀ s₁ Q E, IS (j + 1) s₁.heap → St w W env (bd j ++ ρ) μ s₁ → Ch wr (tn target) env s s₁ → (∀ s₂, J (j + 1) s₂ → wpAny (MM w) A (again (.compLoop (.ListComp elt gens scope pos) i (.ref I) acc env)) Q E s₂) →
        wpAny (MM w) A (forT ifs env) (fun ok s₂ => wpAny (MM w) A (if ok = true then em else again (.compLoop (.ListComp elt gens scope pos) i (.ref I) acc env)) Q E s₂) E s₁))
    (hE : ∀ s, J n s → ∀ h' tk, (∀ b o, b ∉ wr → s.heap.get? b = some o → h'.get? b = some o) → R (.ok .next) { s with heap := h', toks := tk })
    (h : J 0 s) : codeAny (MM w) A (.compLoop (.ListComp elt gens scope pos) i (.ref I) acc env) R s := by
  refine codeAny_loop rfl (fun m s' => ∃ j, m = n - j ∧ j ≤ n ∧ J j s') (fun m s' hI => ?_) n ⟨0, rfl, Nat.zero_le _, h⟩
  obtain ⟨j, rfl, hj, hJj⟩ := hI
  show wpAny _ A ((compTurn (.ListComp elt gens scope pos) i (.ref I) acc env).onRaise (fun x => do noteFrame x env; theTreesLotGoes x)) _ _ s'
  refine wpAny_noted ?_
  rw [hturn]
  obtain ⟨W, ρ, μ, is, vs, xw, xt, st, xm, hl, hc, step⟩ := hJ j s' hJj
  by_cases hlt : j < n
  · exact turn_step K htg hlt is vs xw xt st xm hl hc fun s₁ is₁ st₁ ch => step hlt s₁ _ _ is₁ st₁ ch fun s₂ hJ₂ => wpAny_pure ⟨rfl, n - (j + 1), Nat.sub_succ_lt_self _ _ hlt, j + 1, rfl, hlt, hJ₂⟩
  · obtain rfl : j = n := antiL hj hlt
    exact turn_done K is fun h' tk hk => hE s' hJj h' tk hk

/-- what a turn's end gives to the list -/
def Em (w : World) (k : Nat) (env : Env) (ρ : Rho) (μ : List (Addr × Mu)) (Dl : Addr) (bs : List PySem.Str) (em : Sem Fin → Sem Fin) (ds : List D) : Prop :=
  ∀ (W : Addr → Prop) (A : Around) (E : Value → Shared → Prop) (s : Shared) (vs : List Value) (ds₀ : List D) (c : Sem Fin) (Q : Fin → Shared → Prop), AOk k A → St w W env ρ μ s → W Dl → Dl ≠ tblA → Dl ≠ env.locals → (∀ n, env.cells.lookup n ≠ some Dl) → MuX (· = Dl) μ → LAt Dl W s.heap vs ds₀ → vs.length + ds.length ≤ sizeLine →
    (∀ s' vs', St w W env ρ μ s' → LAt Dl W s'.heap vs' (ds₀ ++ ds) → Ef (PP (· = Dl) bs env) s s' → wpAny (MM w) A c Q E s') → wpAny (MM w) A (em c) Q E s

def emB (elt : Expr) (Dl : Addr) (env : Env) (c : Sem Fin) : Sem Fin := (eval elt env >>= fun x => call (.builtin "list.append") [.ref Dl, x] >>= fun _ => pure ()) >>= fun _ => c

theorem LAt.go {Dl : Addr} {vs : List Value} {ds : List D} (x : LAt Dl W s.heap vs ds) (g : Go s s') (wt : W tblA) (nt : Dl ≠ tblA) : LAt Dl W s'.heap vs ds :=
  ⟨let ⟨n, e⟩ := x.1; ⟨n, g.gr.keep _ _ nt e⟩, x.2.go g wt⟩

theorem Em.base {elt : Expr} {Dl : Addr} {d : D} {bs : List PySem.Str} (he : Ev w k env ρ μ elt d) : Em w k env ρ μ Dl bs (emB elt Dl env) [d] := by
  intro W A E s vs ds₀ c Q ok st wD nt nl nc xm la hz h
  unfold emB
  refine wpAny_bind (wpAny_bind (he W A E s _ ok st fun v s₁ st₁ g₁ d₁ => wpAny_bind ?_))
  obtain ⟨la1, la2⟩ := la.go g₁ st.wt nt
  refine wpAny_list_append_plain la1 (fun h' hl hs => wpAny_pure ?_) (by rw [List.size_toArray]; exact Nat.le_of_succ_le hz)
  have hk : ∀ a o, ¬ a = Dl → s₁.heap.get? a = some o → h'.get? a = some o := fun a o n e => (hs.2 a n).trans e
  have xl : ∀ a, a = Dl → ∃ o, h'.get? a = some o := fun a ha => by obtain ⟨n, e⟩ := hl; exact ⟨_, ha ▸ e⟩
  have st₂ : St w W env ρ μ { s₁ with heap := h', toks := s₁.toks } := st₁.chg (X := (· = Dl)) hk (fun a ha => ha ▸ wD) (fun q => nt q.symm) xl xm
  refine h _ (vs ++ [v]) st₂ ⟨by simpa using hl, ?_⟩ ?_
  · exact (la2.append (.one d₁)).pr fun a o n e _ => ⟨hk a o (fun q => n (q ▸ wD)) e, n⟩
  · refine g₁.ef.trans ⟨fun a o _ n e => hk a o (fun q => n (.inl q)) e, fun ps e => ⟨#[], by simpa using hk _ _ (fun q => nt q.symm) e⟩, rfl⟩

/-- all that a clause gives -/
def outL (n : Nat) (p : Nat → Bool) (f : Nat → List D) : List D := (List.range n).flatMap fun j => if p j then f j else []
theorem outL_succ (n : Nat) (p : Nat → Bool) (f : Nat → List D) : outL (n + 1) p f = outL n p f ++ if p n then f n else [] := by
  unfold outL
  rw [List.range_succ, List.flatMap_append]
  simp
theorem outL_le {n m : Nat} (h : m ≤ n) (p : Nat → Bool) (f : Nat → List D) : (outL m p f).length ≤ (outL n p f).length := by
  induction h with
  | refl => exact Nat.le_refl _
  | step _ ih => rw [outL_succ, List.length_append]; exact Nat.le_trans ih (Nat.le_add_right _ _)

theorem lookup_app {a b : Rho} {x : PySem.Str} (h : ∀ p ∈ a, p.1 ≠ x) : (a ++ b).lookup x = b.lookup x := by
  induction a with
  | nil => rfl
  | cons p a ih =>
    rw [List.cons_append, List.lookup_cons]
    have : (x == p.1) = false := by simpa using Ne.symm (h p List.mem_cons_self)
    rw [this]
    exact ih fun q hq => h q (List.mem_cons_of_mem _ hq)
theorem Ef.offw (x : Ef P s s') {fp : List Addr} (h : ∀ a ∈ fp, a ≠ tblA ∧ ¬ P a) : ∀ b ∈ fp, ∀ o, s.heap.get? b = some o → s'.heap.get? b = some o := fun b hb o e => x.keep b o (h b hb).1 (h b hb).2 e

theorem loopEm {elt : Expr} {gens : List Comprehension} {scope : Scope} {pos : Pos} {i : Nat} {target iter : Expr} {ifs : List Expr} {I Dl : Addr} {em : Sem Fin → Sem Fin} {A : Around} {wr fp : List Addr} {n : Nat} {IS : Nat → Heap → Prop} {VS : (Addr → Prop) → Heap → Prop} {bd : Nat → Rho} {R : Result → Shared → Prop} {bs : List PySem.Str} {p : Nat → Bool} {f : Nat → List D}
    {vs : List Value} {ds₀ : List D}
    (ok : AOk k A) (K : Dr w A target I wr fp n IS VS bd) (hturn : compTurn (.ListComp elt gens scope pos) i (.ref I) (.ref Dl) env = turnT target iter ifs (.ref I) env (em (again (.compLoop (.ListComp elt gens scope pos) i (.ref I) (.ref Dl) env))) (again (.compLoop (.ListComp elt gens scope pos) i (.ref I) (.ref Dl) env))) (htg : Tgt env target)
    (is : IS 0 s.heap) (vs₀ : VS W s.heap) (xw : ∀ a ∈ wr, W a) (xt : tblA ∉ wr) (st : St w W env ρ μ s) (xm : MuX (· ∈ wr) μ) (hl : env.locals ∉ fp) (hc : ∀ n c, env.cells.lookup n = some c → c ∉ fp) (ht : ∀ a ∈ fp, a ≠ tblA)
    (wD : W Dl) (nt : Dl ≠ tblA) (nl : Dl ≠ env.locals) (nc : ∀ n, env.cells.lookup n ≠ some Dl) (nD : Dl ∉ fp) (xmD : MuX (· = Dl) μ) (la : LAt Dl W s.heap vs ds₀) (hz : vs.length + (outL n p f).length ≤ sizeLine)
    (hsh : ∀ x ∈ tn target, ρ.lookup x = none)
    (htest : ∀ j, j < n → Te w k env (bd j ++ ρ) μ ifs (p j)) (hem : ∀ j, j < n → p j = true → Em w k env (bd j ++ ρ) μ Dl bs em (f j))
    {W' : Addr → Prop} (hw : ∀ a, W' a ↔ W a ∧ a ∉ wr)
    (hE : ∀ s' vs', St w W' env ρ μ s' → LAt Dl W' s'.heap vs' (ds₀ ++ outL n p f) → Ef (PP (fun a => a ∈ wr ∨ a = Dl) (tn target ++ bs) env) s s' → R (.ok .next) s') :
    codeAny (MM w) A (.compLoop (.ListComp elt gens scope pos) i (.ref I) (.ref Dl) env) R s := by
  have wk : ∀ j s', St w W env (bd j ++ ρ) μ s' → St w W env ρ μ s' := fun j s' st' => st'.weak fun x d hx => by
    rw [lookup_app]
    · exact hx
    · intro q hq c
      have := hsh x (by rw [← K.nm j, ← c]; exact List.mem_map_of_mem hq)
      rw [hx] at this; cases this
  have offP : ∀ a ∈ fp, ¬ PP (· = Dl) bs env a := fun a ha q => by
    rcases q with q | q | ⟨m, _, q⟩
    · exact nD (q ▸ ha)
    · exact hl (q ▸ ha)
    · exact hc m a q ha
  refine loopJ K hturn htg (fun j s' => ∃ vs', IS j s'.heap ∧ VS W s'.heap ∧ St w W env ρ μ s' ∧ LAt Dl W s'.heap vs' (ds₀ ++ outL j p f) ∧ Ef (PP (fun a => a ∈ wr ∨ a = Dl) (tn target ++ bs) env) s s') ?_ ?_ ⟨vs, is, vs₀, st, by simpa [outL] using la, .refl⟩
  · rintro j s' ⟨vs', is', vss, st', la', ef'⟩
    refine ⟨W, ρ, μ, is', vss, xw, xt, st', xm, hl, hc, fun hlt s₁ Q E is₁ st₁ ch again' => ?_⟩
    have hlen : vs'.length = vs.length + (outL j p f).length := by rw [la'.2.length, List.length_append, la.2.length]
    have hz1 : (outL (j + 1) p f).length ≤ (outL n p f).length := outL_le hlt p f
    have ef₁ := ch.ef st' xt
    have pr₁ : Pr W W s'.heap s₁.heap := fun a o n e q => ⟨by
      refine ch.keep a o (fun q => n (xw a q)) (fun c => ?_) (fun m _ c => ?_) e
      · obtain ⟨m, hm⟩ := st'.ns
        rw [← c] at hm
        obtain ⟨o', ho, h1, h2⟩ := bx_ns hm
        rw [e] at ho; cases ho
        rcases q with ⟨xs, n, q⟩ | ⟨xs, q⟩
        · exact h1 _ _ q
        · exact h2 _ q
      · obtain ⟨v, hv⟩ := st'.cells m a c
        obtain ⟨o', ho, h1, h2⟩ := bx_cell hv
        rw [e] at ho; cases ho
        rcases q with ⟨xs, n, q⟩ | ⟨xs, q⟩
        · exact h1 _ _ q
        · exact h2 _ q, n⟩
    have la₁ : LAt Dl W s₁.heap vs' (ds₀ ++ outL j p f) := ⟨let ⟨n, e⟩ := la'.1; ⟨n, ch.keep _ _ (fun q => nD (K.sub _ q)) nl (fun m _ c => nc m c) e⟩, la'.2.pr pr₁⟩
    refine htest j hlt W A E s₁ _ ok st₁ fun s₂ st₂ g₂ => ?_
    have is₂ : IS (j + 1) s₂.heap := K.frame _ _ _ is₁ fun b hb o e => g₂.gr.keep b o (ht b hb) e
    have vs₂ : VS W s₂.heap := K.vpr _ _ _ _ (g₂.gr.pr st.wt) (K.vpr _ _ _ _ pr₁ vss)
    have la₂ := la₁.go g₂ st.wt nt
    have e01 : Ef (PP (fun a => a ∈ wr ∨ a = Dl) (tn target ++ bs) env) s s₂ := (ef'.trans (ef₁.mono (PP.mono (fun a q => .inl q) fun n q => List.mem_append_left _ q))).trans g₂.ef
    cases hp : p j with
    | false =>
      simp only [Bool.false_eq_true, if_false]
      refine again' s₂ ⟨vs', is₂, vs₂, wk j _ st₂, ?_, e01⟩
      rw [outL_succ, hp]; simpa using la₂
    | true =>
      simp only [if_true]
      refine hem j hlt hp W A E s₂ vs' _ _ _ ok st₂ wD nt nl nc xmD la₂ ?_ fun s₃ vs₃ st₃ la₃ ef₃ => again' s₃ ⟨vs₃, K.frame _ _ _ is₂ (ef₃.offw fun a ha => ⟨ht a ha, offP a ha⟩), ?_, wk j _ st₃, ?_, e01.trans (ef₃.mono (PP.mono (fun a q => .inr q) fun n q => List.mem_append_right _ q))⟩
      · rw [outL_succ, hp, if_pos rfl, List.length_append] at hz1
        rw [hlen, Nat.add_assoc]
        exact Nat.le_trans (Nat.add_le_add_left hz1 _) hz
      · refine K.vpr _ _ _ _ (fun a o n e q => ⟨ef₃.keep a o (fun c => n (c ▸ st.wt)) (fun c => ?_) e, n⟩) vs₂
        rcases c with c | c | ⟨m, _, c⟩
        · exact n (c ▸ wD)
        · obtain ⟨m, hm⟩ := st₂.ns
          rw [← c] at hm
          obtain ⟨o', ho, h1, h2⟩ := bx_ns hm
          rw [e] at ho; cases ho
          rcases q with ⟨xs, n, q⟩ | ⟨xs, q⟩
          · exact h1 _ _ q
          · exact h2 _ q
        · obtain ⟨v, hv⟩ := st₂.cells m a c
          obtain ⟨o', ho, h1, h2⟩ := bx_cell hv
          rw [e] at ho; cases ho
          rcases q with ⟨xs, n, q⟩ | ⟨xs, q⟩
          · exact h1 _ _ q
          · exact h2 _ q
      · rw [outL_succ, hp, ← List.append_assoc]; exact la₃
  · rintro s' ⟨vs', is', vss, st', la', ef'⟩ h' tk hk
    have hk' : ∀ a o, ¬ a ∈ wr → s'.heap.get? a = some o → h'.get? a = some o := fun a o n e => hk a o n e
    exact hE _ vs' (st'.chgTo (X := (· ∈ wr)) (tk := tk) hk' xw xt hw xm) ⟨let ⟨n, e⟩ := la'.1; ⟨n, hk' _ _ (fun q => nD (K.sub _ q)) e⟩, la'.2.pr fun a o n e _ => ⟨hk' a o (fun q => n (xw a q)) e, fun q => n ((hw a).mp q).1⟩⟩ (ef'.trans ⟨fun a o _ n e => hk' a o (fun q => n (.inl (.inl q))) e, fun ps e => ⟨#[], by simpa using hk' _ _ xt e⟩, rfl⟩)
end

end Mine
open PySem PySem.W PyProof.Rows
set_option Elab.async false
set_option maxRecDepth 100000
set_option linter.unusedVariables false
namespace Mine

variable {w : World} {k : Nat} {env : Env} {ρ : Rho} {μ : List (Addr × Mu)}

def clOf (scope : Scope) (env : Env) : List (PySem.Str × Addr) := (scope.names.filter (·.2 == .free)).reverse.map fun p => (p.1, (env.cells.lookup p.1).getD 0)
def cEnv (scope : Scope) (env : Env) (C : Addr) : Env :=
  { scope := relabel scope env, locals := C, globals := env.globals, cells := cellsFrom (C + 1) scope.names (clOf scope env), qual := env.qual, func := none, code := env.code, frame := env.frame, builtins := env.builtins }
def ndB : List PySem.Str → Bool
  | [] => true
  | x :: r => !(r.any (· == x)) && ndB r
def scB (scope : Scope) (env : Env) : Bool := ndB (scope.names.map (·.1)) && scope.names.all fun p => !(p.2 == .free) || ((env.cells.lookup p.1).isSome && !(p.1 == ("__classdict__" : PySem.Str)) && !(env.kindOf p.1 == some .local))
structure Sc (scope : Scope) (env : Env) : Prop where
  nd : (scope.names.map (·.1)).Nodup
  fr : ∀ p ∈ scope.names, p.2 = .free → (env.cells.lookup p.1).isSome = true ∧ (p.1 == ("__classdict__" : PySem.Str)) = false ∧ env.kindOf p.1 ≠ some .local
theorem ndB_ok {l : List PySem.Str} : ndB l = true → l.Nodup := by
  induction l with
  | nil => exact fun _ => List.nodup_nil
  | cons x r ih =>
    intro h
    obtain ⟨h1, h2⟩ : (!(r.any (· == x))) = true ∧ ndB r = true := Bool.and_eq_true _ _ ▸ h
    refine List.nodup_cons.mpr ⟨fun hm => ?_, ih h2⟩
    rw [show r.any (· == x) = true from List.any_eq_true.mpr ⟨x, hm, beq_self_eq_true x⟩] at h1; cases h1
theorem Sc.of {scope : Scope} (h : scB scope env = true) : Sc scope env := by
  simp only [scB, Bool.and_eq_true] at h
  refine ⟨ndB_ok h.1, fun p hp hf => ?_⟩
  have := List.all_eq_true.mp h.2 p hp
  rw [hf] at this
  simpa [and_assoc] using this
def fr (scope : Scope) (ρ : Rho) : Rho := ρ.filter fun p => scope.names.lookup p.1 == some .free
theorem lookup_of_mem {α : Type} {x : PySem.Str} {k : α} {l : List (PySem.Str × α)} : (l.map (·.1)).Nodup → (x, k) ∈ l → l.lookup x = some k := by
  induction l with
  | nil => exact fun _ h => nomatch h
  | cons p r ih =>
    intro nd h
    obtain ⟨n1, n2⟩ := List.nodup_cons.mp nd
    rw [List.lookup_cons]
    rcases List.mem_cons.mp h with rfl | h
    · rw [beq_self_eq_true]
    · have : (x == p.1) = false := by
        cases e : x == p.1 with
        | false => rfl
        | true => exact absurd (List.mem_map.mpr ⟨(x, k), h, eq_of_beq e⟩) n1
      rw [this]; exact ih n2 h
theorem fr_lookup {scope : Scope} {x : PySem.Str} {d : D} (h : (fr scope ρ).lookup x = some d) : ρ.lookup x = some d ∧ scope.names.lookup x = some .free := by
  unfold fr at h
  induction ρ with
  | nil => simp at h
  | cons p r ih =>
    rw [List.filter_cons] at h
    rw [List.lookup_cons]
    split at h
    · rename_i hp
      rw [List.lookup_cons] at h
      cases e : x == p.1 with
      | true => rw [e] at h; exact ⟨h, by rw [eq_of_beq e]; exact eq_of_beq hp⟩
      | false => rw [e] at h; exact ih h
    · rename_i hp
      obtain ⟨h1, h2⟩ := ih h
      cases e : x == p.1 with
      | true => rw [← eq_of_beq e, h2] at hp; exact absurd (by simp) hp
      | false => exact ⟨h1, h2⟩

theorem forIn_clos {env : Env} (f : PySem.Str × NameKind → List (PySem.Str × Addr) → Sem (ForInStep (List (PySem.Str × Addr))))
    (hf : ∀ n kd cs, f (n, kd) cs = if (kd == NameKind.free) = true then (do let a ← cellOf env n; pure (ForInStep.yield ((n, a) :: cs))) else pure (ForInStep.yield cs)) :
    ∀ (names : List (PySem.Str × NameKind)) (cs : List (PySem.Str × Addr)), (∀ p ∈ names, p.2 = .free → (env.cells.lookup p.1).isSome = true) →
    forIn names cs f = (pure ((names.filter (·.2 == .free)).reverse.map (fun p => (p.1, (env.cells.lookup p.1).getD 0)) ++ cs) : Sem _) := by
  intro names
  induction names with
  | nil => exact fun cs _ => rfl
  | cons q r ih =>
    intro cs h
    obtain ⟨n, kd⟩ := q
    rw [List.forIn_cons, hf]
    have hr : ∀ p ∈ r, p.2 = .free → (env.cells.lookup p.1).isSome = true := fun p hp => h p (List.mem_cons_of_mem _ hp)
    by_cases hk : kd = .free
    · subst hk
      obtain ⟨c, hc⟩ := Option.isSome_iff_exists.mp (h (n, .free) List.mem_cons_self rfl)
      have hc' : env.cells.lookup n = some c := hc
      have e1 : cellOf env n = pure c := by unfold cellOf; rw [hc']
      rw [e1]
      show (forIn r ((n, c) :: cs) f : Sem _) = _
      rw [ih _ hr]
      simp [hc', List.filter_cons]
    · have hb : (kd == NameKind.free) = false := by simpa using hk
      simp only [hb, Bool.false_eq_true, if_false]
      show (forIn r cs f : Sem _) = _
      rw [ih _ hr]
      simp [hb, List.filter_cons]
theorem clos_of {scope : Scope} (sc : Sc scope env) : closureFor scope env = pure (clOf scope env) := by
  simp only [closureFor]
  rw [forIn_clos (env := env) _ (fun n kd cs => by cases kd <;> rfl) scope.names [] fun p hp hf => (sc.fr p hp hf).1, List.append_nil]
  rfl

theorem cellsFrom_app (names : List (PySem.Str × NameKind)) : ∀ (N : Nat) (acc : List (PySem.Str × Addr)), cellsFrom N names acc = cellsFrom N names [] ++ acc := by
  induction names with
  | nil => exact fun N acc => rfl
  | cons p r ih =>
    intro N acc
    obtain ⟨n, kd⟩ := p
    unfold cellsFrom
    split
    · rw [ih _ ((n, N) :: acc), ih _ [(n, N)], List.append_assoc]; rfl
    · exact ih N acc
theorem cellsFrom_mem {x : PySem.Str} {c : Addr} {names : List (PySem.Str × NameKind)} : ∀ {N : Nat}, (x, c) ∈ cellsFrom N names [] → (x, NameKind.cell) ∈ names := by
  induction names with
  | nil => exact fun h => nomatch h
  | cons p r ih =>
    intro N h
    obtain ⟨n, kd⟩ := p
    unfold cellsFrom at h
    split at h
    · rename_i hk
      rw [cellsFrom_app] at h
      rcases List.mem_append.mp h with h | h
      · exact List.mem_cons_of_mem _ (ih h)
      · rw [List.mem_singleton] at h
        obtain ⟨rfl, rfl⟩ := Prod.mk.inj h
        rw [eq_of_beq hk]; exact List.mem_cons_self
    · exact List.mem_cons_of_mem _ (ih h)
theorem lookup_map {x : PySem.Str} {g : PySem.Str × NameKind → PySem.Str × NameKind} (h1 : ∀ p, (g p).1 = p.1) (h2 : ∀ p, p.2 = .free → (g p).2 = .free ∨ (g p).2 = .cell) {names : List (PySem.Str × NameKind)} : names.lookup x = some .free → (names.map g).lookup x = some .free ∨ (names.map g).lookup x = some .cell := by
  induction names with
  | nil => exact fun h => nomatch h
  | cons p r ih =>
    intro h
    rw [List.lookup_cons] at h
    rw [List.map_cons, List.lookup_cons, h1 p]
    cases e : x == p.1 with
    | true => rw [e] at h; exact (h2 p (Option.some.inj h)).imp (congrArg some) (congrArg some)
    | false => rw [e] at h; exact ih h
theorem relabel_free {x : PySem.Str} {names : List (PySem.Str × NameKind)} : names.lookup x = some .free →
    (names.map fun (n, k) => if (k == NameKind.free && env.scope.kind == .function && env.kindOf n == some .cell) then (n, NameKind.cell) else (n, k)).lookup x = some .free ∨
    (names.map fun (n, k) => if (k == NameKind.free && env.scope.kind == .function && env.kindOf n == some .cell) then (n, NameKind.cell) else (n, k)).lookup x = some .cell :=
  lookup_map (fun p => by split; split <;> rfl) fun p hp => by
    split
    split
    · exact .inr rfl
    · exact .inl hp

section
variable {W P X : Addr → Prop} {s₀ s s' : Shared}

theorem clOf_mem {scope : Scope} {x : PySem.Str} {c : Addr} (sc : Sc scope env) (h : (x, c) ∈ clOf scope env) : (x, NameKind.free) ∈ scope.names ∧ env.cells.lookup x = some c := by
  unfold clOf at h
  obtain ⟨p, hp, e⟩ := List.mem_map.mp h
  rw [List.mem_reverse, List.mem_filter] at hp
  obtain ⟨rfl, rfl⟩ := Prod.mk.inj e
  have hf : p.2 = .free := eq_of_beq hp.2
  obtain ⟨c, hc⟩ := Option.isSome_iff_exists.mp (sc.fr p hp.1 hf).1
  exact ⟨hf ▸ hp.1, by rw [hc]; rfl⟩
theorem clOf_pair {scope : Scope} (sc : Sc scope env) (ap : env.cells.Pairwise fun x y => x.2 ≠ y.2) : (clOf scope env).Pairwise fun x y => x.2 ≠ y.2 := by
  unfold clOf
  rw [List.pairwise_map, List.pairwise_reverse]
  have nd : scope.names.Pairwise fun x y => x.1 ≠ y.1 := List.pairwise_map.mp sc.nd
  refine (nd.filter _).imp_of_mem fun {a b} ha hb hab => ?_
  rw [List.mem_filter] at ha hb
  obtain ⟨c, hc⟩ := Option.isSome_iff_exists.mp (sc.fr a ha.1 (eq_of_beq ha.2)).1
  obtain ⟨c', hc'⟩ := Option.isSome_iff_exists.mp (sc.fr b hb.1 (eq_of_beq hb.2)).1
  show (env.cells.lookup b.1).getD 0 ≠ (env.cells.lookup a.1).getD 0
  rw [hc, hc']
  intro e
  have e' : c' = c := e
  subst e'
  exact hab (name_of_addr ap (mem_of_lookup hc) (mem_of_lookup hc'))

theorem wpAny_cEnv {scope : Scope} {A : Around} {E : Value → Shared → Prop} {Q : Env → Shared → Prop} (st : St w W env ρ μ s) (hkind : scope.kind = .function) (sc : Sc scope env)
    (h : ∀ e' h', { e' with scope := relabel scope env } = cEnv scope env s.heap.objs.size → e'.locals = s.heap.objs.size → (∀ b o, s.heap.get? b = some o → h'.get? b = some o) → St w W (cEnv scope env s.heap.objs.size) (fr scope ρ) μ { s with heap := h' } →
      (∀ n c, (cEnv scope env s.heap.objs.size).cells.lookup n = some c → scope.names.lookup n ≠ some .free → s.heap.get? c = none) → Q e' { s with heap := h' }) :
    wpAny (MM w) A (newFunctionEnv scope env.globals (clOf scope env) [] env.qual none .none (some env)) Q E s := by
  simp only [newFunctionEnv, Option.isSome_some, if_true]
  refine wpAny_bind (wpAny_alloc ?_)
  refine wpAny_bind (wpAny_layCells _ (fun name kind cells => by cases hkc : kind == NameKind.cell <;> simp [hkc]) _ _ _ _ ?_)
  refine wpAny_bind (wpAny_pure (wpAny_pure ?_))
  generalize hH : s.heap.push { cls := .type "dict", data := .dict #[] } = H at *
  have hHs : H.objs.size = s.heap.objs.size + 1 := by rw [← hH, Heap.size_push]
  have ok := cellsFrom_ok scope.names H (s.heap.objs.size + 1) [] ⟨fun _ _ hm => (nomatch hm), List.Pairwise.nil⟩ (by rw [hHs]; exact Nat.le_refl _)
  have old : ∀ b o, s.heap.get? b = some o → (pushCells H scope.names).get? b = some o := fun b o e => pushCells_keeps _ _ _ _ (hH ▸ Heap.get?_push_of_some _ e)
  have hL : (pushCells H scope.names).get? s.heap.objs.size = some { cls := .type "dict", data := .dict #[] } := pushCells_keeps _ _ _ _ (hH ▸ Heap.get?_push_size _ rfl)
  have nl := get_size s.heap
  rw [hHs] at ok
  have newN : ∀ n c, (n, c) ∈ cellsFrom (s.heap.objs.size + 1) scope.names [] → s.heap.get? c = none := fun n c hm => by
    cases e : s.heap.get? c with
    | none => rfl
    | some o =>
      have h1 := Heap.lt_size e
      have h2 := (ok.empty n c hm).2
      exact absurd (Nat.lt_of_lt_of_le h1 (Nat.le_of_succ_le h2)) (Nat.lt_irrefl _)
  have hap : cellsFrom (s.heap.objs.size + 1) scope.names (clOf scope env) = cellsFrom (s.heap.objs.size + 1) scope.names [] ++ clOf scope env := cellsFrom_app _ _ _
  have memC : ∀ n c, (cEnv scope env s.heap.objs.size).cells.lookup n = some c → (n, c) ∈ cellsFrom (s.heap.objs.size + 1) scope.names [] ∨ ((n, NameKind.free) ∈ scope.names ∧ env.cells.lookup n = some c) := fun n c hc => by
    have hm := mem_of_lookup hc
    have hm : (n, c) ∈ cellsFrom (s.heap.objs.size + 1) scope.names (clOf scope env) := hm
    rw [hap] at hm
    rcases List.mem_append.mp hm with q | q
    · exact .inl q
    · exact .inr (clOf_mem sc q)
  have lookF : ∀ x c, scope.names.lookup x = some .free → env.cells.lookup x = some c → (cEnv scope env s.heap.objs.size).cells.lookup x = some c := fun x c hx hc => by
    show (cellsFrom (s.heap.objs.size + 1) scope.names (clOf scope env)).lookup x = some c
    rw [hap]
    have n1 : ∀ q ∈ cellsFrom (s.heap.objs.size + 1) scope.names [], q.1 ≠ x := fun q hq e => by
      have := lookup_of_mem sc.nd (cellsFrom_mem (N := s.heap.objs.size + 1) (c := q.2) (x := q.1) hq)
      rw [e, hx] at this; cases this
    have : ∀ (a b : List (PySem.Str × Addr)), (∀ q ∈ a, q.1 ≠ x) → (a ++ b).lookup x = b.lookup x := fun a b ha => by
      induction a with
      | nil => rfl
      | cons p a ih =>
        rw [List.cons_append, List.lookup_cons]
        have : (x == p.1) = false := by simpa using Ne.symm (ha p List.mem_cons_self)
        rw [this]; exact ih fun q hq => ha q (List.mem_cons_of_mem _ hq)
    rw [this _ _ n1]
    have nd2 : ((clOf scope env).map (·.1)).Nodup := by
      have nd := sc.nd
      unfold clOf
      rw [List.map_map]
      have : (List.map ((fun x => x.1) ∘ fun p : PySem.Str × NameKind => (p.1, (env.cells.lookup p.1).getD 0)) (scope.names.filter (·.2 == .free)).reverse) = ((scope.names.filter (·.2 == .free)).map (·.1)).reverse := by rw [← List.map_reverse]; rfl
      rw [this]
      have nd3 := List.Nodup.sublist (List.Sublist.map Prod.fst (List.filter_sublist (p := fun x : PySem.Str × NameKind => x.2 == .free) (l := scope.names))) nd
      exact (List.reverse_perm _).nodup_iff.mpr nd3
    refine lookup_of_mem nd2 ?_
    unfold clOf
    refine List.mem_map.mpr ⟨(x, .free), ?_, ?_⟩
    · rw [List.mem_reverse, List.mem_filter]
      exact ⟨mem_of_lookup hx, rfl⟩
    · show (x, (env.cells.lookup x).getD 0) = (x, c)
      rw [hc]; rfl
  have fin : ∀ e', e' = newEnv scope s.heap.objs.size env.globals (cellsFrom (s.heap.objs.size + 1) scope.names (clOf scope env)) env.qual none .none (some env) env.builtins → Q e' { s with heap := pushCells H scope.names } := by
    rintro e' rfl
    refine h _ _ rfl rfl old ?_ ?_
    · refine ⟨st.toBs.keep old (tk := s.toks), ?_, st.eg, st.eb, ⟨fun _ => none, _, #[], _, hL, rfl, (fun e he => by simp at he), fun _ => rfl⟩, st.tx.fresh nl, fun q => ?_, ?_, ?_, ?_, ?_, ?_⟩
      · exact hkind
      · obtain ⟨o, e⟩ := st.live _ q
        exact absurd (Heap.lt_size e) (Nat.lt_irrefl _)
      · intro n c hc
        rcases memC n c hc with q | ⟨_, q⟩
        · exact ⟨_, (ok.empty n c q).1⟩
        · obtain ⟨v, o, ho, r⟩ := st.cells n c q
          exact ⟨v, o, old _ _ ho, r⟩
      · intro n c hc
        rcases memC n c hc with q | ⟨_, q⟩
        · exact st.tx.fresh (newN n c q)
        · exact st.co n c q
      · intro n c hc
        rcases memC n c hc with q | ⟨_, q⟩
        · intro q'
          obtain ⟨o, e⟩ := st.live _ q'
          rw [newN n c q] at e; cases e
        · exact st.cw n c q
      · show (cellsFrom (s.heap.objs.size + 1) scope.names (clOf scope env)).Pairwise fun x y => x.2 ≠ y.2
        rw [hap, List.pairwise_append]
        refine ⟨ok.apart, clOf_pair sc st.ap, fun a ha b hb e => ?_⟩
        obtain ⟨v, o, ho, r⟩ := st.cells b.1 b.2 (clOf_mem sc (x := b.1) (c := b.2) hb).2
        rw [← e, newN a.1 a.2 ha] at ho; cases ho
      · intro x d hx
        obtain ⟨h1, h2⟩ := fr_lookup hx
        obtain ⟨v, hv, dv⟩ := st.loc x d h1
        refine ⟨v, ?_, dv.pr fun a o n e _ => ⟨old a o e, n⟩⟩
        obtain ⟨z1, z2, z3⟩ := sc.fr (x, .free) (mem_of_lookup h2) rfl
        cases hv with
        | loc m q _ _ => exact absurd q z3
        | cell c q q2 q3 =>
          refine .cell c ?_ (lookF x c h2 q2) (let ⟨o, ho, r⟩ := q3; ⟨o, old _ _ ho, r⟩)
          rcases relabel_free (env := env) h2 with q | q
          · exact .inr ⟨q, z2⟩
          · exact .inl q
    · intro n c hc hn
      rcases memC n c hc with q | ⟨q, _⟩
      · exact newN n c q
      · exact absurd (lookup_of_mem sc.nd q) hn
  rw [show ({ s with heap := H } : Shared).heap.objs.size = s.heap.objs.size + 1 from hHs]
  exact fin _ rfl
end

end Mine
open PySem PySem.W PyProof.Rows
set_option Elab.async false
set_option maxRecDepth 100000
set_option linter.unusedVariables false
namespace Mine

variable {w : World} {k : Nat} {env : Env} {ρ : Rho} {μ : List (Addr × Mu)}

section
variable {W P X : Addr → Prop} {s₀ s s' : Shared}

theorem startL {elt : Expr} {gens : List Comprehension} {scope : Scope} {pos : Pos} {i : Nat} {it acc : Value} {target iter : Expr} {ifs : List Expr} {A : Around} {R : Result → Shared → Prop} (hg : gens[i]? = some ⟨target, iter, ifs, 0⟩)
    (h0 : codeAny (MM w) A (.compLoop (.ListComp elt gens scope pos) i it acc env) R s)
    (h : wpAny (MM w) A (pyIter it) (fun it' s' => codeAny (MM w) A (.compLoop (.ListComp elt gens scope pos) i it' acc env) R s') (notedBy (MM w) A env fun x s' => R (.error x) s') s) :
    codeAny (MM w) A (.compStart (.ListComp elt gens scope pos) i it acc env) R s := by
  refine codeAny_of_tree ?_
  show wpAny _ _ ((compStart (.ListComp elt gens scope pos) i it acc env).onRaise (fun x => do noteFrame x env; standAt theWindowsPlace)) _ _ s
  refine wpAny_notedAt ?_
  unfold compStart
  have e : (clausesOf (.ListComp elt gens scope pos))[i]? = some ⟨target, iter, ifs, 0⟩ := hg
  rw [e]
  show wpAny _ _ (ask >>= _) _ _ s
  refine wpAny_bind (wpAny_askSetting (wpAny_ite ?_))
  split
  · first
      | exact wpAny_bind (wpAny_pure (wpAny_pure (And.intro rfl h0)))
      | exact wpAny_pure (And.intro rfl h0)
  · first
      | exact wpAny_bind (wpAny_rule (wpAny_bind (wpAny_standAt (wpAny_bind (wpAny_mono h (fun it' s' h' => wpAny_pure (And.intro rfl h')) fun _ _ x => x)))))
      | (refine wpAny_bind (wpAny_rule ?_); show wpAny _ _ (standAt iter.pos >>= _) _ _ s; exact wpAny_bind (wpAny_standAt (wpAny_bind (wpAny_mono h (fun it' s' h' => wpAny_pure (And.intro rfl h')) fun _ _ x => x))))

/-- an inner clause -/
def emC (elt : Expr) (gens : List Comprehension) (scope : Scope) (pos : Pos) (i : Nat) (iter : Expr) (Dl : Addr) (env : Env) (c : Sem Fin) : Sem Fin :=
  eval iter env >>= fun x => standAt iter.pos >>= fun _ => foldedSetIterable iter env x >>= fun x => holding [x] (pyIter x) >>= fun it => runOwn (.compStart (.ListComp elt gens scope pos) i it (.ref Dl) env) env >>= fun _ => c

theorem Em.clause {elt : Expr} {gens : List Comprehension} {scope : Scope} {pos : Pos} {i : Nat} {target iter : Expr} {ifs : List Expr} {Dl : Addr} {bs : List PySem.Str} {em : Sem Fin → Sem Fin} {n : Nat} {bd : Nat → Rho} {p : Nat → Bool} {f : Nat → List D}
    (hg : gens[i]? = some ⟨target, iter, ifs, 0⟩) (hsrc : Src w k env ρ μ iter target n bd) (htg : Tgt env target)
    (hturn : ∀ I, compTurn (.ListComp elt gens scope pos) i (.ref I) (.ref Dl) env = turnT target iter ifs (.ref I) env (em (again (.compLoop (.ListComp elt gens scope pos) i (.ref I) (.ref Dl) env))) (again (.compLoop (.ListComp elt gens scope pos) i (.ref I) (.ref Dl) env)))
    (hsh : ∀ x ∈ tn target, ρ.lookup x = none)
    (htest : ∀ j, j < n → Te w k env (bd j ++ ρ) μ ifs (p j)) (hem : ∀ j, j < n → p j = true → Em w k env (bd j ++ ρ) μ Dl bs em (f j))
    (hs : ∀ x, foldedSetIterable iter env x = pure x := by intro _; rfl) : Em w k env ρ μ Dl (tn target ++ bs) (emC elt gens scope pos i iter Dl env) (outL n p f) := by
  intro W A E s vs ds₀ c Q ok st wD nt nl nc xm la hz h
  unfold emC
  have K := hsrc W A E s (fun v s₂ => ∃ (W' : Addr → Prop) (I : Addr) (wr fp : List Addr) (IS : Nat → Heap → Prop) (VS : (Addr → Prop) → Heap → Prop), v = .ref I ∧ Go s s₂ ∧ (∀ a, W' a ↔ W a ∨ a ∈ wr) ∧ St w W' env ρ μ s₂ ∧ (∀ a ∈ wr, s.heap.get? a = none) ∧
      (∀ a ∈ fp, a ∈ wr ∨ (a ≠ tblA ∧ (¬ W a ∨ (false = false ∧ ∃ m, (a, m) ∈ μ)) ∧ ∃ o, s₂.heap.get? a = some o ∧ ((∃ xs n, o.data = .seq xs n) ∨ ∃ xs, o.data = .fields xs))) ∧ IS 0 s₂.heap ∧ VS W' s₂.heap ∧ (∀ B : Around, B.handled = none → Dr w B target I wr fp n IS VS bd)) ok st
      fun s₂ W' I wr fp IS VS a b c d e f g h => ⟨W', I, wr, fp, IS, VS, rfl, a, b, c, d, e, f, g, h⟩
  refine wpAny_bind (wpAny_mono K (fun x s₁ h₁ => wpAny_bind (wpAny_standAt (wpAny_bind (wpAny_of_eq (hs x) (wpAny_bind (wpAny_holding (wpAny_mono h₁ (fun it s₂ h₂ => wpAny_bind ?_) fun _ _ x => x))))))) fun _ _ x => x)
  obtain ⟨W', I, wr, fp, IS, VS, rfl, g, hw, st₂, fr₂, hfp, is, vs₂, K⟩ := h₂
  have xw : ∀ a ∈ wr, W' a := fun a ha => (hw a).mpr (.inr ha)
  have nowr : ∀ a, W a → a ∉ wr := fun a ha q => by
    obtain ⟨o, e⟩ := st.live a ha
    rw [fr₂ a q] at e; cases e
  have xt : tblA ∉ wr := nowr _ st.wt
  have xm₂ : MuX (· ∈ wr) μ := fun q hq => ⟨nowr _ (st.mw q hq).1, fun dx l e => nowr _ ((st.mw q hq).2 dx l e)⟩
  have ht : ∀ a ∈ fp, a ≠ tblA := fun a ha e => by
    rcases hfp a ha with q | q
    · exact xt (e ▸ q)
    · exact q.1 e
  have offb : ∀ a ∈ fp, ∀ o, s₂.heap.get? a = some o → (∀ xs n, o.data ≠ .seq xs n) → (∀ xs, o.data ≠ .fields xs) → s.heap.get? a ≠ none → False := fun a ha o e h1 h2 h3 => by
    rcases hfp a ha with q | ⟨_, _, o', e', q⟩
    · exact h3 (fr₂ a q)
    · rw [e] at e'; cases e'
      rcases q with ⟨xs, n, q⟩ | ⟨xs, q⟩
      · exact h1 _ _ q
      · exact h2 _ q
  have hl : env.locals ∉ fp := fun q => by
    obtain ⟨m, hm⟩ := st₂.ns
    obtain ⟨o, ho, h1, h2⟩ := bx_ns hm
    refine offb _ q o ho h1 h2 fun e => ?_
    obtain ⟨m, o, es, ep, ho, _⟩ := st.ns
    rw [e] at ho; cases ho
  have hc : ∀ n c, env.cells.lookup n = some c → c ∉ fp := fun n c hc q => by
    obtain ⟨m, hm⟩ := st₂.cells n c hc
    obtain ⟨o, ho, h1, h2⟩ := bx_cell hm
    refine offb _ q o ho h1 h2 fun e => ?_
    obtain ⟨m, o, ho, _⟩ := st.cells n c hc
    rw [e] at ho; cases ho
  have nD : Dl ∉ fp := fun q => by
    rcases hfp _ q with q | q
    · exact nowr _ wD q
    · rcases q.2.1 with q | ⟨_, m, q⟩
      · exact q wD
      · exact (xm _ q).1 rfl
  have xmD : MuX (· = Dl) μ := xm
  have la₂ : LAt Dl W' s₂.heap vs ds₀ := ⟨let ⟨n, e⟩ := la.1; ⟨n, g.gr.keep _ _ nt e⟩, la.2.pr fun a o n e _ => ⟨g.gr.keep _ _ (fun c => n (c ▸ st.wt)) e, fun q => by
    rcases (hw a).mp q with q | q
    · exact n q
    · rw [fr₂ a q] at e; cases e⟩⟩
  refine wpAny_runOwn ?_
  have loop : ∀ R : Result → Shared → Prop, (∀ s' vs', St w W env ρ μ s' → LAt Dl W s'.heap vs' (ds₀ ++ outL n p f) → Ef (PP (fun a => a ∈ wr ∨ a = Dl) (tn target ++ bs) env) s₂ s' → R (.ok .next) s') →
      codeAny (MM w) (A.mark none) (.compLoop (.ListComp elt gens scope pos) i (.ref I) (.ref Dl) env) R s₂ := fun R hR =>
    loopEm (k := k) (W := W') (W' := W) (bs := bs) (p := p) (f := f) ⟨ok.hh, ok.dp, ok.un⟩ (K _ ok.hh) (hturn I) htg is vs₂ xw xt st₂ xm₂ hl hc ht ((hw _).mpr (.inl wD)) nt nl nc nD xmD la₂ hz hsh htest hem (fun a => ⟨fun q => ⟨(hw a).mpr (.inl q), nowr a q⟩, fun q => by
      rcases (hw a).mp q.1 with z | z
      · exact z
      · exact absurd z q.2⟩) hR
  have fin : ∀ s' vs', St w W env ρ μ s' → LAt Dl W s'.heap vs' (ds₀ ++ outL n p f) → Ef (PP (fun a => a ∈ wr ∨ a = Dl) (tn target ++ bs) env) s₂ s' → wpAny (MM w) A c Q E s' := fun s' vs' st' la' ef' => by
    refine h s' vs' st' la' ⟨fun a o h1 h2 e => ef'.keep a o h1 (fun q => ?_) (g.gr.keep a o h1 e), fun ps e => ?_, ef'.os.trans g.os⟩
    · rcases q with (q | q) | q
      · rw [fr₂ a q] at e; cases e
      · exact h2 (.inl q)
      · exact h2 (.inr q)
    · obtain ⟨m, e⟩ := g.gr.tab _ e
      obtain ⟨m', e⟩ := ef'.tab _ e
      exact ⟨m ++ m', by rw [e, Array.append_assoc]⟩
  refine startL hg (loop _ fin) ?_
  refine (K _ ?_).self 0 s₂ _ _ is (loop _ fin)
  exact ok.hh
end
end Mine
open PySem PySem.W PyProof.Rows
set_option Elab.async false
set_option maxRecDepth 100000
set_option linter.unusedVariables false
namespace Mine

variable {w : World} {k : Nat} {env : Env} {ρ : Rho} {μ : List (Addr × Mu)}

section
variable {W P X : Addr → Prop} {s₀ s s' : Shared}

theorem compRun {elt target iter : Expr} {ifs : List Expr} {rest : List Comprehension} {scope : Scope} {pos ppos : Pos} {use : Option (Value → Sem Unit)} {A : Around} {E : Value → Shared → Prop} {Q : Value → Shared → Prop} {bs : List PySem.Str} {em : Addr → Env → Sem Fin → Sem Fin} {n : Nat} {bd : Nat → Rho} {p : Nat → Bool} {f : Nat → List D}
    (ok : AOk k A) (st : St w W env ρ μ s) (hsrc : Src w k env ρ μ iter target n bd) (hkind : scope.kind = .function) (sc : Sc scope env) (htg : ∀ C, Tgt (cEnv scope env C) target)
    (hturn : ∀ C I Dl, compTurn (.ListComp elt (⟨target, iter, ifs, 0⟩ :: rest) scope pos) 0 (.ref I) (.ref Dl) (cEnv scope env C) = turnT target iter ifs (.ref I) (cEnv scope env C) (em Dl (cEnv scope env C) (again (.compLoop (.ListComp elt (⟨target, iter, ifs, 0⟩ :: rest) scope pos) 0 (.ref I) (.ref Dl) (cEnv scope env C)))) (again (.compLoop (.ListComp elt (⟨target, iter, ifs, 0⟩ :: rest) scope pos) 0 (.ref I) (.ref Dl) (cEnv scope env C))))
    (hfr : ∀ x ∈ tn target ++ bs, scope.names.lookup x ≠ some .free)
    (htest : ∀ C j, j < n → Te w k (cEnv scope env C) (bd j ++ fr scope ρ) μ ifs (p j)) (hem : ∀ C Dl j, j < n → p j = true → Em w k (cEnv scope env C) (bd j ++ fr scope ρ) μ Dl bs (em Dl (cEnv scope env C)) (f j)) (hz : (outL n p f).length ≤ sizeLine)
    (h : ∀ s' Dl C m, St w W env ρ μ s' → Go s s' → DIn W s'.heap (.ref Dl) (.lst (outL n p f)) → s'.heap.Ns C m → s.heap.get? C = none → Dl ≠ C → (s.heap.get? Dl = none ∧ ∃ vs, LAt Dl (fun a => W a ∨ a = Dl) s'.heap vs (outL n p f)) → compPost (MM w) A E use Q (.ref Dl) C (.ok .next) s')
    (hs : ∀ x, foldedSetIterable iter env x = pure x := by intro _; rfl) :
    wpAny (MM w) A (comprehension (.ListComp elt (⟨target, iter, ifs, 0⟩ :: rest) scope pos) scope env ppos (newList []) false (eval iter env) use) Q E s := by
  refine wpAny_comprehension_free (g := ⟨target, iter, ifs, 0⟩) (gs := rest) rfl hs (clos_of sc) hkind (fun x hx hl => hl ▸ lookup_of_mem sc.nd (k := x.2) hx) ?_
  refine hsrc W A E s _ ok st fun s₂ W' I wr fp IS VS g hw st₂ fr₂ hfp is vs₂ K => ?_
  refine wpAny_newObj_type ?_ (by size_fits)
  have hD := get_size s₂.heap
  generalize hDl : s₂.heap.objs.size = Dl at *
  generalize hH : s₂.heap.push { cls := .type "list", dict := none, data := .seq ([] : List Value).toArray } = H at *
  have old : ∀ b o, s₂.heap.get? b = some o → H.get? b = some o := fun b o e => hH ▸ Heap.get?_push_of_some _ e
  have hDH : H.get? Dl = some { cls := .type "list", dict := none, data := .seq ([] : List Value).toArray } := by rw [← hH, ← hDl]; exact Heap.get?_push_size _ rfl
  have hw₃ : ∀ a, (W a ∨ a = Dl) ∨ a ∈ wr ↔ W' a ∨ a = Dl := fun a => by rw [hw a]; exact ⟨fun q => by rcases q with (q | q) | q <;> simp [q], fun q => by rcases q with (q | q) | q <;> simp [q]⟩
  have st₃ : St w (fun a => W' a ∨ a = Dl) env ρ μ { s₂ with heap := H } := st₂.wide (X := (· = Dl)) (tk := s₂.toks) old (fun a => Iff.rfl) (fun a ha => ha ▸ hD) (fun a ha => ⟨_, ha ▸ hDH⟩)
  refine wpAny_cEnv st₃ hkind sc fun e' h' he hel hk st₄ hcn => ?_
  dsimp only at hk st₄ hcn hel he ⊢
  generalize hC : H.objs.size = C at *
  rw [he, hel]
  have hCH : H.get? C = none := hC ▸ get_size H
  have hCs₂ : s₂.heap.get? C = none := by
    cases e : s₂.heap.get? C with
    | none => rfl
    | some o => rw [old _ _ e] at hCH; cases hCH
  have hDC : Dl ≠ C := by rintro rfl; rw [hDH] at hCH; cases hCH
  have nowr : ∀ a, W a → a ∉ wr := fun a ha q => by
    obtain ⟨o, e⟩ := st.live a ha
    rw [fr₂ a q] at e; cases e
  have Ds : s.heap.get? Dl = none := g.none st₂.tab hD
  have Cs : s.heap.get? C = none := g.none st₂.tab hCs₂
  have xt : tblA ∉ wr := nowr _ st.wt
  have nt : Dl ≠ tblA := fun q => by obtain ⟨o, e⟩ := st.live _ st.wt; rw [← q, Ds] at e; cases e
  have xm₂ : MuX (· ∈ wr) μ := fun q hq => ⟨nowr _ (st.mw q hq).1, fun dx l e => nowr _ ((st.mw q hq).2 dx l e)⟩
  have noD : ∀ a, W a → a ≠ Dl := fun a ha q => by
    obtain ⟨o, e⟩ := st.live a ha
    rw [q, Ds] at e; cases e
  have xmD : MuX (· = Dl) μ := fun q hq => ⟨noD _ (st.mw q hq).1, fun dx l e => noD _ ((st.mw q hq).2 dx l e)⟩
  have wrl : ∀ a ∈ wr, ∃ o, s₂.heap.get? a = some o := fun a ha => st₂.live a ((hw a).mpr (.inr ha))
  have ht : ∀ a ∈ fp, a ≠ tblA := fun a ha e => by
    rcases hfp a ha with q | q
    · exact xt (e ▸ q)
    · exact q.1 e
  have fpl : ∀ a ∈ fp, ∃ o, s₂.heap.get? a = some o := fun a ha => by
    rcases hfp a ha with q | ⟨_, _, o, e, _⟩
    · exact wrl a q
    · exact ⟨o, e⟩
  have nD : Dl ∉ fp := fun q => by obtain ⟨o, e⟩ := fpl _ q; rw [hD] at e; cases e
  have hl : (cEnv scope env C).locals ∉ fp := fun q => by
    obtain ⟨o, e⟩ := fpl _ q
    have e' : s₂.heap.get? C = some o := e
    rw [hCs₂] at e'; cases e'
  have hc : ∀ n c, (cEnv scope env C).cells.lookup n = some c → c ∉ fp := fun n c hc q => by
    obtain ⟨v, hv⟩ := st₄.cells n c hc
    obtain ⟨o', ho', h1, h2⟩ := bx_cell hv
    obtain ⟨o, e⟩ := fpl _ q
    rcases hfp _ q with q | ⟨_, _, o2, e2, q⟩
    · -- an iterator of the source: it was not there ahead, so it is no outer cell; and new cells are newer
      have hcs : s.heap.get? c = none := fr₂ c q
      by_cases hfree : scope.names.lookup n = some .free
      · have hm := mem_of_lookup hc
        have hm : (n, c) ∈ cellsFrom (C + 1) scope.names (clOf scope env) := hm
        rw [cellsFrom_app] at hm
        rcases List.mem_append.mp hm with z | z
        · have := lookup_of_mem sc.nd (cellsFrom_mem z)
          rw [hfree] at this; cases this
        · obtain ⟨v, o, ho, _⟩ := st.cells n c (clOf_mem sc z).2
          rw [hcs] at ho; cases ho
      · have := hcn n c hc hfree
        rw [old _ _ e] at this; cases this
    · have := hk _ _ (old _ _ e2)
      rw [show h'.get? c = some o' from ho'] at this; cases this
      rcases q with ⟨xs, n, q⟩ | ⟨xs, q⟩
      · exact h1 _ _ q
      · exact h2 _ q
  have nc : ∀ n, (cEnv scope env C).cells.lookup n ≠ some Dl := fun n q => by
    obtain ⟨v, hv⟩ := st₄.cells n _ q
    obtain ⟨o', ho', h1, h2⟩ := bx_cell hv
    have := hk _ _ hDH
    rw [show h'.get? Dl = some o' from ho'] at this; cases this
    exact h1 _ _ rfl
  have is₄ : IS 0 h' := (K A.in1 ok.hh).frame _ _ _ is fun b hb o e => hk b o (old b o e)
  have vs₄ : VS (fun a => W' a ∨ a = Dl) h' := (K A.in1 ok.hh).vpr _ _ _ _ (fun a o n e _ => ⟨hk a o (old a o e), fun q => by
    rcases q with q | q
    · exact n q
    · rw [q, hD] at e; cases e⟩) vs₂
  have la₄ : LAt Dl (fun a => W' a ∨ a = Dl) h' [] [] := ⟨⟨_, hk _ _ hDH⟩, .nil⟩
  have hsh : ∀ x ∈ tn target, (fr scope ρ).lookup x = none := fun x hx => by
    cases e : (fr scope ρ).lookup x with
    | none => rfl
    | some d => exact absurd (fr_lookup e).2 (hfr x (List.mem_append_left _ hx))
  have fin : ∀ s' vs', St w (fun a => W a ∨ a = Dl) (cEnv scope env C) (fr scope ρ) μ s' → LAt Dl (fun a => W a ∨ a = Dl) s'.heap vs' ([] ++ outL n p f) → Ef (PP (fun a => a ∈ wr ∨ a = Dl) (tn target ++ bs) (cEnv scope env C)) { s₂ with heap := h' } s' → compPost (MM w) A E use Q (.ref Dl) C (.ok .next) s' := by
    intro s' vs' st' la' ef'
    have go : Go s s' := ⟨⟨fun a o h1 e => ?_, fun ps e => ?_⟩, ef'.os.trans g.os⟩
    · have la'' : LAt Dl (fun a => W a ∨ a = Dl) s'.heap vs' (outL n p f) := la'
      have bs' : Bs w W μ s' := st'.toBs.less (fun a q => .inl q) st.wt st.mw
      obtain ⟨m, hm⟩ := st'.ns
      exact h s' Dl C m (st.go go bs') go (.lst (fun q => noD _ q rfl) la''.1 (la''.2.less fun a q => .inl q)) hm Cs hDC ⟨Ds, vs', la''⟩
    · have e2 := g.gr.keep a o h1 e
      refine ef'.keep a o h1 (fun q => ?_) (hk a o (old a o e2))
      rcases q with (q | q) | q | ⟨m, hm, q⟩
      · rw [fr₂ a q] at e; cases e
      · rw [q, Ds] at e; cases e
      · have q' : a = C := q
        rw [q', Cs] at e; cases e
      · have := hcn m a q (hfr m hm)
        rw [old _ _ e2] at this; cases this
    · obtain ⟨m, e⟩ := g.gr.tab _ e
      obtain ⟨m', e⟩ := ef'.tab _ (hk _ _ (old _ _ e))
      exact ⟨m ++ m', by rw [e, Array.append_assoc]⟩
  have loop : codeAny (MM w) A (.compLoop (.ListComp elt (⟨target, iter, ifs, 0⟩ :: rest) scope pos) 0 (.ref I) (.ref Dl) (cEnv scope env C)) (compPost (MM w) A E use Q (.ref Dl) C) { s₂ with heap := h' } :=
    loopEm (k := k) (W := fun a => W' a ∨ a = Dl) (W' := fun a => W a ∨ a = Dl) (bs := bs) (p := p) (f := f) (vs := []) (ds₀ := []) ok (K A ok.hh) (hturn C I Dl) (htg C) is₄ vs₄ (fun a ha => .inl ((hw a).mpr (.inr ha))) xt st₄ xm₂ hl hc ht (.inr rfl) nt hDC nc nD xmD la₄ (by simpa using hz) hsh (htest C) (hem C Dl)
      (fun a => ⟨fun q => ⟨(hw₃ a).mp (.inl q), by
        rcases q with q | q
        · exact nowr a q
        · exact fun z => nD (q ▸ (K A ok.hh).sub _ z)⟩, fun q => by
        rcases (hw₃ a).mpr q.1 with z | z
        · exact z
        · exact absurd z q.2⟩) fin
  exact startL rfl loop ((K A ok.hh).self 0 _ _ _ is₄ loop)

theorem St.sameC {ρ₀ : Rho} {μ₀ : List (Addr × Mu)} {h' : Heap} {C : Addr} {m : PySem.Str → Option Value} (st₀ : St w W env ρ₀ μ₀ s₀) (st : St w W env ρ μ s) (hn : s.heap.Ns C m) (hC : s₀.heap.get? C = Option.none) (hs : Heap.SameBut C s.heap h') : St w W env ρ μ { s with heap := h' } ∧ ∀ v d, DIn W s.heap v d → DIn W h' v d := by
  have bx := bx_ns hn
  have hL : env.locals ≠ C := by
    rintro rfl
    obtain ⟨m, o, es, ep, ho, _⟩ := st₀.ns
    rw [hC] at ho; cases ho
  have hc : ∀ n c, env.cells.lookup n = some c → c ≠ C := by
    rintro n c hc rfl
    obtain ⟨v, o, ho, _⟩ := st₀.cells n c hc
    rw [hC] at ho; cases ho
  refine ⟨⟨st.toBs.same (tk := s.toks) bx (st₀.tx.fresh hC) (fun q => ?_) hs, st.ek, st.eg, st.eb, ?_, st.lo, st.lw, ?_, st.co, st.cw, st.ap, ?_⟩, fun v d x => x.pr (bx.pr hs)⟩
  · obtain ⟨o, e⟩ := st₀.live _ q
    rw [hC] at e; cases e
  · obtain ⟨m, hm⟩ := st.ns
    exact ⟨m, hm.sameBut hs hL⟩
  · intro n c h1
    obtain ⟨v, hv⟩ := st.cells n c h1
    exact ⟨v, hv.sameBut hs (hc n c h1)⟩
  · intro x d hx
    obtain ⟨v, hv, dv⟩ := st.loc x d hx
    refine ⟨v, ?_, dv.pr (bx.pr hs)⟩
    cases hv with
    | loc m h1 h2 h3 => exact .loc m h1 (h2.sameBut hs hL) h3
    | cell c h1 h2 h3 => exact .cell c h1 h2 (h3.sameBut hs (hc x c h2))
theorem Go.sameC {h' : Heap} {C : Addr} (g : Go s₀ s) (ht : C ≠ tblA) (hC : s₀.heap.get? C = Option.none) (hs : Heap.SameBut C s.heap h') : Go s₀ { s with heap := h' } :=
  ⟨⟨fun a o n e => (hs.2 a (by rintro rfl; rw [hC] at e; cases e)).trans (g.gr.keep a o n e), fun ps e => let ⟨m, e⟩ := g.gr.tab ps e; ⟨m, (hs.2 _ (Ne.symm ht)).trans e⟩⟩, g.os⟩

/-- a list comprehension -/
theorem Ev.compG {elt target iter : Expr} {ifs : List Expr} {rest : List Comprehension} {scope : Scope} {pos : Pos} {bs : List PySem.Str} {em : Addr → Env → Sem Fin → Sem Fin} {n : Nat} {bd : Nat → Rho} {p : Nat → Bool} {f : Nat → List D}
    (hsrc : Src w k env ρ μ iter target n bd) (hkind : scope.kind = .function) (sc : Sc scope env) (htg : ∀ C, Tgt (cEnv scope env C) target)
    (hturn : ∀ C I Dl, compTurn (.ListComp elt (⟨target, iter, ifs, 0⟩ :: rest) scope pos) 0 (.ref I) (.ref Dl) (cEnv scope env C) = turnT target iter ifs (.ref I) (cEnv scope env C) (em Dl (cEnv scope env C) (again (.compLoop (.ListComp elt (⟨target, iter, ifs, 0⟩ :: rest) scope pos) 0 (.ref I) (.ref Dl) (cEnv scope env C)))) (again (.compLoop (.ListComp elt (⟨target, iter, ifs, 0⟩ :: rest) scope pos) 0 (.ref I) (.ref Dl) (cEnv scope env C))))
    (hfr : ∀ x ∈ tn target ++ bs, scope.names.lookup x ≠ some .free)
    (htest : ∀ C j, j < n → Te w k (cEnv scope env C) (bd j ++ fr scope ρ) μ ifs (p j)) (hem : ∀ C Dl j, j < n → p j = true → Em w k (cEnv scope env C) (bd j ++ fr scope ρ) μ Dl bs (em Dl (cEnv scope env C)) (f j)) (hz : (outL n p f).length ≤ sizeLine)
    (hs : ∀ x, foldedSetIterable iter env x = pure x := by intro _; rfl) : Ev w k env ρ μ (.ListComp elt (⟨target, iter, ifs, 0⟩ :: rest) scope pos) (.lst (outL n p f)) := by
  intro W A E s Q ok st h
  rw [eval_ListComp]
  refine compRun (use := Option.none) ok st hsrc hkind sc htg hturn hfr htest hem hz (fun s' Dl C m st' g d hn hC hDC _ => ?_) hs
  refine ⟨m, hn, fun h' hs' => ?_⟩
  obtain ⟨st₂, hd⟩ := st.sameC st' hn hC hs'
  exact h _ _ st₂ (g.sameC ((bx_ns hn).tbl st'.tab) hC hs') (hd _ _ d)

/-- a comprehension that is stored -/
theorem Bd.assignC {x : PySem.Str} {q q' : Pos} {elt target iter : Expr} {ifs : List Expr} {gens : List Comprehension} {scope : Scope} {pos : Pos} {bs : List PySem.Str} {em : Addr → Env → Sem Fin → Sem Fin} {n : Nat} {bd : Nat → Rho} {p : Nat → Bool} {f : Nat → List D} {rest : List Stmt} {A : Around} {E : Value → Shared → Prop} {Q : Flow → Shared → Prop}
    (b : Bd w W env ρ μ P s₀ s) (ok : AOk k A) (hk : env.kindOf x = some .local)
    (hsw : swapsWith (.ListComp elt (⟨target, iter, ifs, 0⟩ :: gens) scope pos) (some (.Name x q')) q.line env = pure true)
    (hsrc : Src w k env ρ μ iter target n bd) (hkind : scope.kind = .function) (sc : Sc scope env) (htg : ∀ C, Tgt (cEnv scope env C) target)
    (hturn : ∀ C I Dl, compTurn (.ListComp elt (⟨target, iter, ifs, 0⟩ :: gens) scope pos) 0 (.ref I) (.ref Dl) (cEnv scope env C) = turnT target iter ifs (.ref I) (cEnv scope env C) (em Dl (cEnv scope env C) (again (.compLoop (.ListComp elt (⟨target, iter, ifs, 0⟩ :: gens) scope pos) 0 (.ref I) (.ref Dl) (cEnv scope env C)))) (again (.compLoop (.ListComp elt (⟨target, iter, ifs, 0⟩ :: gens) scope pos) 0 (.ref I) (.ref Dl) (cEnv scope env C))))
    (hfr : ∀ x ∈ tn target ++ bs, scope.names.lookup x ≠ some .free)
    (htest : ∀ C j, j < n → Te w k (cEnv scope env C) (bd j ++ fr scope ρ) μ ifs (p j)) (hem : ∀ C Dl j, j < n → p j = true → Em w k (cEnv scope env C) (bd j ++ fr scope ρ) μ Dl bs (em Dl (cEnv scope env C)) (f j)) (hz : (outL n p f).length ≤ sizeLine)
    (h : ∀ s', Bd w W env ((x, .lst (outL n p f)) :: ρ) μ P s₀ s' → wpAny (MM w) A (execs rest env) Q E s')
    (hs : ∀ x, foldedSetIterable iter env x = pure x := by intro _; rfl) :
    wpAny (MM w) A (execs (.Assign [.Name x q'] (.ListComp elt (⟨target, iter, ifs, 0⟩ :: gens) scope pos) q :: rest) env) Q E s := by
  refine wpAny_execs_cons ?_
  rw [exec_Assign_Name_used _ _ _ _ hsw]
  refine wpAny_bind (wpAny_standAt (wpAny_bind ?_))
  show wpAny _ A (do let _ ← comprehension (.ListComp elt (⟨target, iter, ifs, 0⟩ :: gens) scope pos) scope env _ (newList []) false (eval iter env) (some (PySem.assign (.Name x q') env))) _ _ s
  refine wpAny_bind (compRun (use := some (PySem.assign (.Name x q') env)) ok b.toSt hsrc hkind sc htg hturn hfr htest hem hz (fun s' Dl C m st' g d hn hC hDC _ => ?_) hs)
  have bx := bx_ns hn
  have hL : env.locals ≠ C := by
    rintro rfl
    obtain ⟨m, o, es, ep, ho, _⟩ := b.ns
    rw [hC] at ho; cases ho
  show wpAny _ A (PySem.assign (.Name x q') env (.ref Dl)) _ _ _
  refine wpAny_assign_Name (st'.store st'.ap (.loc hk) d fun h₂ tk c hs₂ hcc ht st₂ => ?_)
  have hc0 : s₀.heap.get? c = Option.none ∨ P c := by
    rcases hcc with q | q
    · exact q ▸ b.fl
    · exact b.fc x c q
  have hcC : C ≠ c := by
    rintro rfl
    rcases hcc with q | q
    · exact hL q.symm
    · obtain ⟨v, o, ho, hd⟩ := b.cells x _ q
      rw [hC] at ho; cases ho
  have hn₂ := hn.sameBut hs₂ hcC
  refine ⟨m, hn₂, fun h₃ hs₃ => wpAny_pure (wpAny_pure (h _ ⟨?_, ?_, b.fl, b.fc⟩))⟩
  · have := (b.toSt.sameC st₂ hn₂ hC hs₃).1
    exact this
  · refine ⟨fun a o h1 h2 e => ?_, fun ps e => ?_, g.os.trans b.ef.os⟩
    · have e1 := b.ef.keep a o h1 h2 e
      have e2 := g.gr.keep a o h1 e1
      refine (hs₃.2 a (by rintro rfl; rw [hC] at e1; cases e1)).trans ((hs₂.2 a (by rintro rfl; exact hc0.elim (fun z => by rw [z] at e; cases e) h2)).trans e2)
    · obtain ⟨m, e⟩ := b.ef.tab _ e
      obtain ⟨m', e⟩ := g.gr.tab _ e
      exact ⟨m ++ m', by rw [← Array.append_assoc]; exact (hs₃.2 _ (Ne.symm (bx.tbl st'.tab))).trans ((hs₂.2 _ (Ne.symm ht)).trans e)⟩
end
end Mine
open PySem PySem.W PyProof.Rows
set_option Elab.async false
set_option maxRecDepth 100000
set_option linter.unusedVariables false
namespace Mine

variable {w : World} {k : Nat} {env : Env} {ρ : Rho} {μ : List (Addr × Mu)}

noncomputable def fnO (w : World) (a : Addr) : Obj := ((KK w).lookup a).getD default
noncomputable def fdO (w : World) (a : Addr) : FuncData := match (fnO w a).data with | .func fd => fd | _ => default

theorem AOk.deeper {A : Around} {env : Env} (a : AOk (k + 1) A) : AOk k (A.deeper env) := ⟨a.hh, dp1 a.dp, unS a.un 3 (by decide)⟩

abbrev accD (hsh : Int) (t t' : Tok) : Obj := dictOf [⟨hsh, .str "_initial_size" t, .int 0 t'⟩] 1

section
variable {A : Around} {E : Value → Shared → Prop} {s : Shared} {W : Addr → Prop} {a dx : Addr} {l : List (PySem.Str × PySem.Str)}

theorem acc_inst {h : Heap} {vs : List Value} {n : Nat} {hsh : Int} {t t' : Tok} (e : h.get? a = some (accO dx vs n)) (d : h.get? dx = some (accD hsh t t')) : InstAt h a (accO dx vs n) 101 (some (accD hsh t t')) := ⟨e, rfl, rfl, d⟩

theorem acc_getMethod {vs : List Value} {n : Nat} {hsh : Int} {t t' : Tok} {name : PySem.Str} {f tf : Value} {pl : Sem Bool} {Q : Value × List Value → Shared → Prop} (X : (KK w).In s.heap) (e : s.heap.get? a = some (accO dx vs n)) (d : s.heap.get? dx = some (accD hsh t t'))
    (hf : findIn (KK w) (.ref 101) name = some (some f)) (ht : typeIn (KK w) f = some tf) (htf : (tf != .type "function" && tf != .type "method_descriptor" && tf != .type "wrapper_descriptor") = false) (hn : ("_initial_size" == name) = false) (h : Q (f, [.ref a]) s) :
    wpAny (MM w) A (getMethod (.ref a) name pl) Q E s := by
  have I := acc_inst e d
  have hcan := PySem.canon_list_getattribute
  unfold getMethod specialOf
  refine wpAny_bind (wpAny_bind (I.type.here ((looks_findIn X (show findIn (KK w) (.ref 101) "__getattribute__" = some (some (.builtin "list.__getattribute__")) by kernel_rfl)).here ?_)))
  dsimp only
  rw [hcan, if_neg (by decide)]
  refine wpAny_bind (wpAny_bind (I.type.here ((looks_findIn X (show findIn (KK w) (.ref 101) "__getattr__" = some none by kernel_rfl)).here ?_)))
  refine wpAny_bind (wpAny_bind (I.type.here ((looks_findIn X hf).here (wpAny_bind ((looks_typeIn X ht).here ?_)))))
  rw [htf, if_neg Bool.false_ne_true]
  refine wpAny_bind (wpAny_loadPart I.at_ ?_)
  refine wpAny_bind (wpAny_bind (wpAny_loadPart d ?_))
  have hl : lookIn name (accD hsh t t') = some none := by
    have e1 : (Value.str "_initial_size" t).isStr name = ("_initial_size" == name) := rfl
    unfold lookIn
    simp only [dictOf, List.toArray, List.find?, e1, hn]
    rfl
  rw [nsLook_of hl]
  exact wpAny_pure (wpAny_bind (wpAny_rule (wpAny_pure h)))
end
end Mine
open PySem PySem.W PyProof.Rows
set_option Elab.async false
set_option maxRecDepth 100000
set_option linter.unusedVariables false
namespace Mine

variable {w : World} {k : Nat} {env : Env} {ρ : Rho} {μ : List (Addr × Mu)}

theorem slot_md_get : Slot "method_descriptor" "__get__" "method_descriptor.__get__" := .of (owner := "method_descriptor") (n := "__get__") (by rw [typeLookup_type, builtinLookup_eq_fast]; kernel_rfl) (by decide +kernel) (by decide +kernel) (by decide +kernel)
  (by first | exact .inl (by decide +kernel) | exact .inr (by decide +kernel)) (by rw [isSubtype_type]; kernel_rfl)
theorem entry_md_get : entryFor table "method_descriptor.__get__" = some Builtin.«method_descriptor.__get__» := entryFor_of_tree (by kernel_rfl)
theorem args_md_get (a b c : Value) : argsOk "method_descriptor.__get__" ⟨[a, b, c], []⟩ := by unfold argsOk; kernel_rfl
theorem slot_wd_get : Slot "wrapper_descriptor" "__get__" "wrapper_descriptor.__get__" := .of (owner := "wrapper_descriptor") (n := "__get__") (by rw [typeLookup_type, builtinLookup_eq_fast]; kernel_rfl) (by decide +kernel) (by decide +kernel) (by decide +kernel)
  (by first | exact .inl (by decide +kernel) | exact .inr (by decide +kernel)) (by rw [isSubtype_type]; kernel_rfl)
theorem entry_wd_get : entryFor table "wrapper_descriptor.__get__" = some Builtin.«wrapper_descriptor.__get__» := entryFor_of_tree (by kernel_rfl)
theorem args_wd_get (a b c : Value) : argsOk "wrapper_descriptor.__get__" ⟨[a, b, c], []⟩ := by unfold argsOk; kernel_rfl
theorem ty_pop : typeOf (.builtin "list.pop") = pure (.type "method_descriptor") := by show builtinType _ = _; rw [builtinType_eq_fast]; kernel_rfl
theorem ty_len : typeOf (.builtin "list.__len__") = pure (.type "wrapper_descriptor") := by show builtinType _ = _; rw [builtinType_eq_fast]; kernel_rfl
theorem ty_init : typeOf (.builtin "list.__init__") = pure (.type "wrapper_descriptor") := by show builtinType _ = _; rw [builtinType_eq_fast]; kernel_rfl

section
variable {A : Around} {E : Value → Shared → Prop} {h : Heap} {g : Array GenState} {d : Drawn} {tk : Nat} {os : OsState} {a dx : Addr} {vs : List Value} {n : Nat} {hsh : Int} {t t' : Tok}

theorem acc_isInstance {M : Model} (X : (KK w).In h) (e : h.get? a = some (accO dx vs n)) : Looks M h (isInstance (.ref a) (.type "list")) true := by
  refine Looks.andThen (a := .ref 101) ((Looks.ld e).andThen .now) ?_
  exact looks_mroIn (K := KK w) X (by kernel_rfl)

set_option maxHeartbeats 2000000 in
theorem run_len {Q : Fin → Shared → Prop} (X : (KK w).In h) (e : h.get? a = some (accO dx vs n)) (hq : Q (.done (.ret (.ref h.objs.size))) ⟨h.push { cls := .type "method-wrapper", data := .fields #[.builtin "list.__len__", .ref a] }, g, d, tk, os⟩) :
    wpAny (MM w) A (Builtin.«wrapper_descriptor.__get__» ⟨[.builtin "list.__len__", .ref a, .ref 101], []⟩) Q E ⟨h, g, d, tk, os⟩ := by
  have L : Looks (MM w) h (isInstance (.ref a) (.type (".".intercalate ("list.__len__".cutAt '.').dropLast))) true := by
    rw [show ".".intercalate ("list.__len__".cutAt '.').dropLast = "list" by decide +kernel]; exact acc_isInstance (M := MM w) X e
  unfold Builtin.«wrapper_descriptor.__get__»
  repeat (first | (with_reducible refine Looks.at L ?_) | (with_reducible refine wpAny_newObj_type ?_ (by size_fits)) | lk)
  exact hq
set_option maxHeartbeats 2000000 in
theorem run_init {Q : Fin → Shared → Prop} (X : (KK w).In h) (e : h.get? a = some (accO dx vs n)) (hq : Q (.done (.ret (.ref h.objs.size))) ⟨h.push { cls := .type "method-wrapper", data := .fields #[.builtin "list.__init__", .ref a] }, g, d, tk, os⟩) :
    wpAny (MM w) A (Builtin.«wrapper_descriptor.__get__» ⟨[.builtin "list.__init__", .ref a, .ref 101], []⟩) Q E ⟨h, g, d, tk, os⟩ := by
  have L : Looks (MM w) h (isInstance (.ref a) (.type (".".intercalate ("list.__init__".cutAt '.').dropLast))) true := by
    rw [show ".".intercalate ("list.__init__".cutAt '.').dropLast = "list" by decide +kernel]; exact acc_isInstance (M := MM w) X e
  unfold Builtin.«wrapper_descriptor.__get__»
  repeat (first | (with_reducible refine Looks.at L ?_) | (with_reducible refine wpAny_newObj_type ?_ (by size_fits)) | lk)
  exact hq
set_option maxHeartbeats 2000000 in
theorem run_pop {Q : Fin → Shared → Prop} (X : (KK w).In h) (e : h.get? a = some (accO dx vs n)) (hq : Q (.done (.ret (.ref h.objs.size))) ⟨h.push { cls := .type "builtin_function_or_method", data := .fields #[.builtin "list.pop", .ref a] }, g, d, tk, os⟩) :
    wpAny (MM w) A (Builtin.«method_descriptor.__get__» ⟨[.builtin "list.pop", .ref a, .ref 101], []⟩) Q E ⟨h, g, d, tk, os⟩ := by
  have L : Looks (MM w) h (isInstance (.ref a) (.type (".".intercalate ("list.pop".cutAt '.').dropLast))) true := by
    rw [show ".".intercalate ("list.pop".cutAt '.').dropLast = "list" by decide +kernel]; exact acc_isInstance (M := MM w) X e
  unfold Builtin.«method_descriptor.__get__»
  repeat (first | (with_reducible refine Looks.at L ?_) | (with_reducible refine wpAny_newObj_type ?_ (by size_fits)) | lk)
  exact hq
end
end Mine
open PySem PySem.W PyProof.Rows
set_option Elab.async false
set_option maxRecDepth 100000
set_option linter.unusedVariables false
namespace Mine

variable {w : World} {k : Nat} {env : Env} {ρ : Rho} {μ : List (Addr × Mu)}
abbrev boundO (bt id : String) (a : Addr) : Obj := { cls := .type bt, data := .fields #[.builtin id, .ref a] }

section
variable {A : Around} {E : Value → Shared → Prop} {h : Heap} {g : Array GenState} {d : Drawn} {t : Nat} {os : OsState} {a dx so : Addr} {vs : List Value} {n : Nat}

theorem sup_ga {T id gid bt : String} {B : Builtin} {name : PySem.Str} {tk : Tok} {Q : Fin → Shared → Prop} (X : (KK w).In h)
    (hso : h.get? so = some (ks_superObj 101 a 101)) (hf : alongIn (KK w) name [.type "list", .type "object"] = some (some (.builtin id))) (hT : typeOf (.builtin id) = pure (.type T)) (hsl : Slot T "__get__" gid) (hen : entryFor table gid = some B) (har : argsOk gid ⟨[.builtin id, .ref a, .ref 101], []⟩)
    (hrun : ∀ (A : Around) (E : Value → Shared → Prop) (Q : Fin → Shared → Prop), Q (.done (.ret (.ref h.objs.size))) ⟨h.push (boundO bt id a), g, d, t, os⟩ → wpAny (MM w) A (B ⟨[.builtin id, .ref a, .ref 101], []⟩) Q E ⟨h, g, d, t, os⟩) (hxC : a ≠ 101) (hn : (name == ("__class__" : PySem.Str)) = false)
    (hq : Q (.done (.ret (.ref h.objs.size))) ⟨h.push (boundO bt id a), g, d, t, os⟩) :
    wpAny (MM w) A (Builtin.«super.__getattribute__» ⟨[.ref so, .str name tk], []⟩) Q E ⟨h, g, d, t, os⟩ := by
  have hlk := hsl.lookup
  have hne : (Value.ref a == Value.ref 101) = false := by simp [hxC]
  have hC : Looks (MM w) h (mroOf (.ref 101)) [.ref 101, .type "list", .type "object"] := fun A Q E s k q => wpAny_bind ((looks_clsIn (K := KK w) X (cd := ((clsIn (KK w) 101).getD default)) (by kernel_rfl)) A _ E s k (wpAny_pure q))
  have hno : Looks (MM w) h (opaqueClassAbove (.ref 101)) none := looks_opaque X (by kernel_rfl)
  have hdt : ({ cls := .type "super", dict := none, data := .fields #[.ref 101, .ref a, .ref 101], slots := #[] } : Obj).data = .fields #[.ref 101, .ref a, .ref 101] := rfl
  have f0 : (#[.ref 101, .ref a, .ref 101] : Array Value)[0]? = some (.ref 101) := rfl
  have f1 : (#[.ref 101, .ref a, .ref 101] : Array Value)[1]? = some (.ref a) := rfl
  have f2 : (#[.ref 101, .ref a, .ref 101] : Array Value)[2]? = some (.ref 101) := rfl
  have hl : (([.ref 101, .type "list", .type "object"] : List Value).dropWhile (· != .ref 101)).drop 1 = [.type "list", .type "object"] := by decide
  have hTf : (⟨h, g, d, t, os⟩ : Shared).TypeIs (.builtin id) T := hT
  unfold Builtin.«super.__getattribute__»
  repeat (first
    | (with_reducible refine wpAny_field hso hdt f0 ?_) | (with_reducible refine wpAny_field hso hdt f1 ?_) | (with_reducible refine wpAny_field hso hdt f2 ?_)
    | (with_reducible refine ks_wpAny_notOpaque hno ?_)
    | (with_reducible refine Looks.at hC ?_; rw [hl])
    | (refine ks_forIn_along X (fun _ _ => rfl) rfl ?_ hf)
    | (with_reducible refine wpAny_typeOf hTf ?_)
    | (with_reducible refine wpAny_call_entry hsl hTf hen (hrun _ _ _ ?_) har)
    | (with_reducible refine ⟨_, rfl, ?_⟩)
    | (simp only [hn, hne, Bool.or_false, Bool.false_eq_true, if_false])
    | wp_step
    | dsimp only)
  all_goals exact hq

theorem sup_getMethod {T id gid bt : String} {B : Builtin} {name : PySem.Str} {pl : Sem Bool} {Q : Value × List Value → Shared → Prop} (X : (KK w).In h)
    (hso : h.get? so = some (ks_superObj 101 a 101)) (hf : alongIn (KK w) name [.type "list", .type "object"] = some (some (.builtin id))) (hTT : typeOf (.builtin id) = pure (.type T)) (hsl : Slot T "__get__" gid) (hen : entryFor table gid = some B) (har : argsOk gid ⟨[.builtin id, .ref a, .ref 101], []⟩)
    (hrun : ∀ (A : Around) (E : Value → Shared → Prop) (Q : Fin → Shared → Prop) (tk : Nat), Q (.done (.ret (.ref h.objs.size))) ⟨h.push (boundO bt id a), g, d, tk, os⟩ → wpAny (MM w) A (B ⟨[.builtin id, .ref a, .ref 101], []⟩) Q E ⟨h, g, d, tk, os⟩) (hxC : a ≠ 101) (hn : (name == ("__class__" : PySem.Str)) = false)
    (hq : Q (.ref h.objs.size, []) ⟨h.push (boundO bt id a), g, d, t + 1, os⟩) : wpAny (MM w) A (getMethod (.ref so) name pl) Q E ⟨h, g, d, t, os⟩ := by
  have hlk := F.ks_slot_super_ga.lookup
  have hcan := F.ks_canon_super_ga
  have hT : ∀ t', (⟨h, g, d, t', os⟩ : Shared).TypeIs (.ref so) "super" := fun _ => ⟨_, hso, rfl⟩
  unfold getMethod
  refine wpAny_bind (wpAny_specialOf (hT _) hlk ?_)
  show wpAny _ _ (if (Manifest.canonical "super.__getattribute__" != "object.__getattribute__") = true then _ else _) _ _ _
  rw [if_pos hcan]
  unfold getAttr getAttrBy
  refine wpAny_bind (wpAny_bind (wpAny_mkText (wpAny_holding (wpAny_bind (wpAny_typeOf (hT _) (wpAny_bind (wpAny_of_eq hlk ?_)))))))
  show wpAny _ _ (getAttrByItsOwn (.ref so) (.str name t) (.type "super") (.builtin "super.__getattribute__") true false) _ _ _
  unfold getAttrByItsOwn hookBefore callGetattribute boundAndCalled
  refine wpAny_bind (wpAny_of_eq (show (if onTheHeap (.type "super") then typeLookup (.type "super") "__getattr__" else pure none) = pure none from rfl) ?_)
  refine wpAny_bind (wpAny_attempt (wpAny_holding ?_))
  show wpAny _ _ (bindSpecial (.builtin "super.__getattribute__") (.ref so) >>= _) _ _ _
  refine wpAny_bind (wpAny_of_eq (F.ks_slot_super_ga.bind _) ?_)
  refine wpAny_mono (Q := fun v s' => v = .ref h.objs.size ∧ s' = ⟨h.push (boundO bt id a), g, d, t + 1, os⟩) (E := fun _ _ => False)
    (wpAny_call_entry F.ks_slot_super_ga (hT _) F.ks_entry_super_ga (sup_ga X hso hf hTT hsl hen har (fun A E Q q => hrun A E Q (t + 1) q) hxC hn ⟨_, rfl, rfl, rfl⟩) (F.ks_gaArgs_super _ _)) (fun v s' hv => ?_) fun _ _ z => z.elim
  obtain ⟨rfl, rfl⟩ := hv
  exact wpAny_pure (wpAny_pure hq)

/-- a bound builtin is called -/
theorem callWith_bd {bt id : String} {u : Addr} {pos : Pos} {first : List Value} {s : Shared} {Q : Value → Shared → Prop} (hbt : bt = "builtin_function_or_method" ∨ bt = "method-wrapper") (hu : s.heap.get? u = some (boundO bt id a)) (hc : wpAny (MM w) A (call (.ref u) (first ++ [])) Q E s) : wpAny (MM w) A (callWith pos (.ref u) first [] []) Q E s := by
  unfold callWith
  refine wpAny_bind (wpAny_holding (evalArgs_nil3 ?_))
  refine wpAny_bind (wpAny_standAt ?_)
  simp only [List.any_nil, Bool.or_false]
  refine wpAny_bind (m := keeperOf (.ref u)) ?_
  unfold keeperOf
  refine wpAny_bind (wpAny_load hu ?_)
  have tail : wpAny (MM w) A (call (.ref u) (first ++ []) [] >>= fun r => holding [r] point >>= fun _ => pure r) Q E s :=
    wpAny_bind (wpAny_mono hc (fun r s₂ hr => wpAny_bind (wpAny_holding (wpAny_point (wpAny_pure hr)))) fun _ _ x => x)
  rcases hbt with rfl | rfl
  · exact wpAny_pure tail
  · exact wpAny_pure tail

end
end Mine
open PySem PySem.W PyProof.Rows
open MeetsSeq
set_option Elab.async false
set_option maxRecDepth 100000
set_option linter.unusedVariables false
namespace Mine

variable {w : World} {k : Nat} {env : Env} {ρ : Rho} {μ : List (Addr × Mu)}

section
variable {A : Around} {a dx : Addr} {items : Array Value} {n : Nat}
abbrev accA (dx : Addr) (items : Array Value) (n : Nat) : Obj := { cls := .ref 101, dict := some dx, data := .seq items n }

theorem acc_pop (y : Value) (hy : items[items.size - 1]? = some y) (hs1 : items.size ≤ sizeLine) :
    Meets (Builtin.«list.pop» ⟨[.ref a], []⟩)
      (fun _ R s => s.heap.get? a = some (accA dx items n) ∧ R (.ok (.ret y)) { s with heap := s.heap.update a (Obj.mapSeq fun xs => xs.eraseIdxIfInBounds (items.size - 1)) }) :=
  .of_wp fun prog w A R s h => by
    obtain ⟨hp, g, d, tk, os⟩ := s; obtain ⟨hl, h⟩ := h
    have hpos : 0 < items.size := by
      rcases Nat.eq_zero_or_pos items.size with h0 | h0
      · simp [h0] at hy
      · exact h0
    have hne : ¬ items.isEmpty = true := by
      intro he; have : items.size = 0 := by simpa using he
      exact absurd this (Nat.ne_of_gt hpos)
    have hk : seqIndex? (-1) items.size = some (items.size - 1) := by
      rw [PySem.seqIndex_neg (by decide) (negP hpos)]; congr 1; exact sub1 hpos
    wp_walk using wpAny_loadPart' hl
    simp only [hk, hy, Option.bind_some, Option.map_some]
    have hz' : (items.eraseIdxIfInBounds (items.size - 1)).size ≤ sizeLine + 1 := Nat.le_trans (size_erased items _) (Nat.le_succ_of_le hs1)
    wp_walk using (wpAny_updateSeq hl rfl (hz := hs1) (_hz' := hz')), wpAny_loadPart' hl
    exact ⟨_, rfl, h⟩
theorem acc_append (x : Value) (hsz : items.size ≤ sizeLine) :
    Meets (Builtin.«list.append» ⟨[.ref a, x], []⟩) (fun _ R s => s.heap.get? a = some (accA dx items n) ∧ R (.ok (.ret Value.none)) { s with heap := s.heap.update a (Obj.mapSeq fun x_1 => x_1.push x), toks := s.toks }) :=
  .of_wp fun prog w A R s h => by
    obtain ⟨hp, g, d, tk, os⟩ := s; obtain ⟨hl, h⟩ := h
    have hz' : (items.push x).size ≤ sizeLine + 1 := by rw [Array.size_push]; exact Nat.succ_le_succ hsz
    wp_walk using (wpAny_updateSeq hl rfl (hz := hsz) (_hz' := hz')); exact ⟨_, rfl, h⟩
theorem acc_len : Meets (Builtin.«list.__len__» ⟨[.ref a], []⟩) (fun _ R s => s.heap.get? a = some (accA dx items n) ∧ R (.ok (.ret (.int items.size s.toks))) { s with toks := s.toks + 1 }) :=
  .of_wp fun prog w A R s h => by
    obtain ⟨hp, g, d, tk, os⟩ := s; obtain ⟨hl, h⟩ := h
    wp_walk using wpAny_loadPart' hl
    exact ⟨_, rfl, h⟩
theorem acc_iter : Meets (Builtin.«list.__iter__» ⟨[.ref a], []⟩) (fun _ R s => R (.ok (.ret (.ref s.heap.objs.size))) { s with heap := s.heap.push { cls := .type "list_iterator", data := .fields #[.ref a, rawInt 0] } }) :=
  .of_wp fun prog w A R s h => by
    obtain ⟨hp, g, d, tk, os⟩ := s
    wp_walk
    exact ⟨_, rfl, h⟩
theorem acc_init : Meets (Builtin.«list.__init__» ⟨[.ref a], []⟩) (fun _ R s => s.heap.get? a = some (accA dx #[] n) ∧ R (.ok (.ret .none)) { s with heap := s.heap.update a (Obj.mapSeq fun _ => #[]) }) :=
  .of_wp fun prog w A R s h => by
    obtain ⟨hp, g, d, tk, os⟩ := s; obtain ⟨hl, h⟩ := h
    have hz' : ((fun _ => #[] : Array Value → Array Value) #[]).size ≤ sizeLine + 1 := by simp
    wp_walk using (wpAny_updateSeq hl rfl (hz := by simp) (_hz' := hz')), wpAny_loadPart' hl
    exact ⟨_, rfl, h⟩
theorem acc_upd {h : Heap} (e : h.get? a = some (accA dx items n)) (f : Array Value → Array Value) : ∃ n', (h.update a (Obj.mapSeq f)).get? a = some (accA dx (f items) n') := ⟨_, Heap.get?_update_self _ e rfl⟩

variable {E : Value → Shared → Prop} {s : Shared}
/-- a bound builtin runs -/
theorem call_bd {bt id : String} {B : Builtin} {S : PySem.Spec} {u : Addr} {Q : Value → Shared → Prop} (hbt : bt = "builtin_function_or_method" ∨ bt = "method-wrapper") (hu : s.heap.get? u = some (boundO bt id a)) (hc : ∀ (A : Around) (Q : Unit → Shared → Prop) (E : Value → Shared → Prop), Q () s → wpAny (MM w) A (checkBoundCall id ⟨[.ref a], []⟩) Q E s)
    (hpl : plainId id = true) (hen : entryFor table id = some B) (g : Meets (B ⟨[.ref a], []⟩) S) (h : S A (wants Q E) s) : wpAny (MM w) A (call (.ref u) []) Q E s := by
  have fin : codeAny (MM w) A (.builtin id ⟨[.ref a], []⟩) (wants Q E) s := codeAny_builtin hen (by rw [Around.under_plainId hpl]; exact g _ _ _ _ _ h)
  refine wpAny_call (codeAny_of_tree ?_)
  show wpAny _ A.in1 (callAny (.ref u) _) _ _ _
  unfold callAny
  refine wpAny_bind (wpAny_load hu ?_)
  have body : wpAny (MM w) A.in1 (do checkBoundCall id ⟨[.ref a], []⟩; again (.builtin id ⟨[.ref a], []⟩)) (fun fin s' => match fin with | .done f => wants Q E (.ok f) s' | .again c' => c'.quiet = true ∧ codeAny (MM w) A c' (wants Q E) s') (fun e s' => wants Q E (.error e) s') s :=
    wpAny_bind (hc _ _ _ (wpAny_pure ⟨plainId_quiet hpl _, fin⟩))
  rcases hbt with rfl | rfl
  · exact body
  · exact body
theorem chk_len {Q : Unit → Shared → Prop} (q : Q () s) : wpAny (MM w) A (checkBoundCall "list.__len__" ⟨[.ref a], []⟩) Q E s := wpAny_of_eq (show checkBoundCall "list.__len__" ⟨[.ref a], []⟩ = pure () by kernel_rfl) q
theorem chk_init {Q : Unit → Shared → Prop} (q : Q () s) : wpAny (MM w) A (checkBoundCall "list.__init__" ⟨[.ref a], []⟩) Q E s := wpAny_of_eq (show checkBoundCall "list.__init__" ⟨[.ref a], []⟩ = pure () by kernel_rfl) q
theorem pop_some : (Manifest.signature? "list.pop").isSome = true := by kernel_rfl
def popSig : Manifest.Signature := (Manifest.signature? "list.pop").get pop_some
theorem chk_pop {Q : Unit → Shared → Prop} (X : (KK w).In s.heap) (e : s.heap.get? a = some (accA dx items n)) (q : Q () s) : wpAny (MM w) A (checkBoundCall "list.pop" ⟨[.ref a], []⟩) Q E s := by
  obtain ⟨h, g, d, tk, os⟩ := s
  have L1 : Looks (MM w) h (isInstance (.ref a) (.type "module")) false := ((Looks.ld e).andThen .now).andThen (looks_mroIn (K := KK w) X (show mroIn (KK w) 101 (.type "module") = some false by kernel_rfl))
  have L2 : Looks (MM w) h (typeOf (.ref a)) (.ref 101) := (Looks.ld e).andThen .now
  have L3 : Looks (MM w) h (classData 101) ((clsIn (KK w) 101).getD default) := looks_clsIn (K := KK w) X (by kernel_rfl)
  have L4 : Looks (MM w) h (typeOf (.ref 101)) (.type "type") := looks_typeIn (K := KK w) X (by kernel_rfl)
  have hsome : (Manifest.signature? "list.pop").isSome = true := by kernel_rfl
  have hsig : Manifest.signature? "list.pop" = some popSig := (Option.some_get hsome).symm
  have hk : builtinKind "list.pop" = some .method := by kernel_rfl
  unfold checkBoundCall
  rw [hsig, hk]
  dsimp only
  rw [if_neg (by decide)]
  refine wpAny_bind (L1.at ?_)
  rw [if_neg (by decide +kernel)]
  refine wpAny_bind (ks_wpAny_isType_inst e (fun c q => by cases q) ?_)
  rw [if_neg (by decide)]
  refine wpAny_bind (L2.at ?_)
  refine wpAny_bind (L3.at ?_)
  refine wpAny_bind (L4.at ?_)
  rw [if_pos (by decide)]
  exact wpAny_of_eq (show _ = pure () by kernel_rfl) q
end
end Mine
open PySem PySem.W PyProof.Rows
set_option Elab.async false
set_option maxRecDepth 100000
set_option linter.unusedVariables false
namespace Mine

variable {w : World} {k : Nat} {env : Env} {ρ : Rho} {μ : List (Addr × Mu)}

section
variable {A : Around} {E : Value → Shared → Prop} {s : Shared} {a dx L : Addr} {vs : List Value} {n : Nat} {W : Addr → Prop}

noncomputable def fieldsAt (w : World) (c : Addr) : Array Value := match (((KK w).lookup c).getD default).data with | .fields vs => vs | _ => #[]
noncomputable def codeOf (w : World) (f : Addr) : Addr := match (fdO w f).code with | .ref c => c | _ => 0

noncomputable def fileOf (w : World) (c : Addr) : PySem.Str × Tok := match (fieldsAt w c)[2]? with | some (Value.str x t) => (x, t) | _ => (("" : PySem.Str), (0 : Tok))
/-- what «super()» asks of a method -/
structure Sup (w : World) (f : Addr) : Prop where
  lk : (KK w).lookup f = some (fnO w f)
  da : (fnO w f).data = .func (fdO w f)
  ks : (fdO w f).scope.names.lookup ("super" : PySem.Str) = some .globalImplicit
  kc : (fdO w f).scope.names.lookup ("__class__" : PySem.Str) = some .free
  ka : (fdO w f).scope.names.lookup ("self" : PySem.Str) = some .local
  kd : (fdO w f).scope.kind = .function
  hd : ((fdO w f).params.posonlyargs ++ (fdO w f).params.args).head?.map (·.arg) = some "self"
  co : (fdO w f).code = .ref (codeOf w f)
  cl : ∃ o, (KK w).lookup (codeOf w f) = some o ∧ o.data = .fields (fieldsAt w (codeOf w f))
  fi : (fieldsAt w (codeOf w f))[2]? = some (.str (fileOf w (codeOf w f)).1 (fileOf w (codeOf w f)).2)
  fj : (((prg).main.file : PySem.Str) == (fileOf w (codeOf w f)).1) = true
  gl : (fdO w f).globals = mainGlobals
  bu : (fdO w f).builtins = builtinsNs
  ce : (fdO w f).closure.lookup ("__class__" : PySem.Str) = some 25

theorem cell25 : ∃ o, (KK w).lookup 25 = some o ∧ o.data = .cell (some (.ref 101)) := ⟨((KK w).lookup 25).getD default, by kernel_rfl, by kernel_rfl⟩
theorem obj101 : ∃ o cd, (KK w).lookup 101 = some o ∧ o.data = .cls cd := ⟨((KK w).lookup 101).getD default, (clsIn (KK w) 101).getD default, by kernel_rfl, by kernel_rfl⟩

theorem acc_ne (X : (KK w).In s.heap) (e : s.heap.get? a = some (accO dx vs n)) : a ≠ 101 := by
  rintro rfl
  obtain ⟨o, cd, h1, h2⟩ := obj101 (w := w)
  rw [X _ _ h1] at e; cases e; cases h2

theorem acc_super {f : Addr} {body : List Stmt} {p0 p1 : Pos} {attr : PySem.Str} {whole : Sem Value} {m : PySem.Str → Option Value} {Q : Value → Shared → Prop} (S : Sup w f) (tx : Tx w s.heap) (e : s.heap.get? a = some (accO dx vs n)) (hn : s.heap.Ns L m) (hm : m "self" = some (.ref a)) (hat : (attr == ("__class__" : PySem.Str)) = false)
    (h : ∀ h', h'.get? s.heap.objs.size = some (ks_superObj 101 a 101) → (∀ y o, s.heap.get? y = some o → h'.get? y = some o) → Q (.ref s.heap.objs.size) { s with heap := h' }) :
    PySem.wpAt (MM w) A (.func body (callEnv (fdO w f) L f)) (attributeBase (.Call (.Name "super" p0) [] [] p1) attr (callEnv (fdO w f) L f) whole) Q E s := by
  have X := tx.k
  obtain ⟨ar, har, hself⟩ := Option.map_eq_some_iff.mp S.hd
  obtain ⟨oc, hoc, hocd⟩ := S.cl
  have hvs := S.fi
  have hfile := S.fj
  obtain ⟨ocell, hcell, hcelld⟩ := cell25 (w := w)
  obtain ⟨oD, cdD, hD, hDd⟩ := obj101 (w := w)
  obtain ⟨mg, hg⟩ := tx.g
  obtain ⟨mb, hb, hz⟩ := tx.b
  have hk : (callEnv (fdO w f) L f).scope.kind = .function := S.kd
  refine ks_wpAt_super_base (env := callEnv (fdO w f) L f) S.ks S.kc hat rfl (X _ _ S.lk) S.da har S.co (X _ _ hoc) hocd hvs hfile (by kernel_rfl) ?_
  refine ks_loadName_global hk S.ks (Calls.loadGlobal_builtin (env := callEnv (fdO w f) L f) (mg := mg) (by rw [show (callEnv (fdO w f) L f).globals = (fdO w f).globals from rfl, S.gl]; exact hg) (mg_none_of X hg (by kernel_rfl)) (by rw [show (callEnv (fdO w f) L f).builtins = (fdO w f).builtins from rfl, S.bu]; exact hb) ((hz _ (by decide)).trans (show bootBuiltins "super" = some (.type "super") by kernel_rfl)) ⟨rfl, ?_⟩)
  refine wpAny_loadName_free hk S.kc S.ce ⟨_, X _ _ hcell, hcelld⟩ ?_
  rw [hself]
  refine wpAny_loadName_local hk S.ka hn hm ?_
  obtain ⟨hp, g, d, tk, os⟩ := s
  refine ks_wpAny_isType_cls (X _ _ hD) hDd ⟨rfl, ?_⟩
  exact ks_wpAny_call_super (X _ _ hD) hDd e rfl (fun c q => by cases q) (looks_mroIn (K := KK w) X (by kernel_rfl)) h

theorem sup98 : Sup w 98 := ⟨by kernel_rfl, by kernel_rfl, by kernel_rfl, by kernel_rfl, by kernel_rfl, by kernel_rfl, by kernel_rfl, by kernel_rfl, ⟨((KK w).lookup (codeOf w 98)).getD default, by kernel_rfl, by kernel_rfl⟩, by kernel_rfl, by kernel_rfl, by kernel_rfl, by kernel_rfl, by kernel_rfl⟩
theorem sup61 : Sup w 61 := ⟨by kernel_rfl, by kernel_rfl, by kernel_rfl, by kernel_rfl, by kernel_rfl, by kernel_rfl, by kernel_rfl, by kernel_rfl, ⟨((KK w).lookup (codeOf w 61)).getD default, by kernel_rfl, by kernel_rfl⟩, by kernel_rfl, by kernel_rfl, by kernel_rfl, by kernel_rfl, by kernel_rfl⟩
theorem sup38 : Sup w 38 := ⟨by kernel_rfl, by kernel_rfl, by kernel_rfl, by kernel_rfl, by kernel_rfl, by kernel_rfl, by kernel_rfl, by kernel_rfl, ⟨((KK w).lookup (codeOf w 38)).getD default, by kernel_rfl, by kernel_rfl⟩, by kernel_rfl, by kernel_rfl, by kernel_rfl, by kernel_rfl, by kernel_rfl⟩
end
end Mine
open PySem PySem.W PyProof.Rows
set_option Elab.async false
set_option maxRecDepth 100000
set_option linter.unusedVariables false
namespace Mine

variable {w : World} {k : Nat} {env : Env} {ρ : Rho} {μ : List (Addr × Mu)}

theorem Heap.Ns.kp {h h' : Heap} {L : Addr} {m} (x : h.Ns L m) (k : ∀ b o, h.get? b = some o → h'.get? b = some o) : h'.Ns L m := let ⟨o, es, ep, ho, r⟩ := x; ⟨o, es, ep, k _ _ ho, r⟩
theorem Tx.kp {h h' : Heap} (x : Tx w h) (k : ∀ b o, h.get? b = some o → h'.get? b = some o) : Tx w h' := x.at fun a o _ e => k a o e

section
variable {A : Around} {E : Value → Shared → Prop} {s : Shared} {a dx L : Addr} {vs : List Value} {n : Nat}

/-- «super().NAME()», the evaluation -/
theorem super_call {f : Addr} {T id gid bt : String} {B B' : Builtin} {S : PySem.Spec} {body : List Stmt} {p0 p1 p3 : Pos} {whole : Sem Value} {pl : Sem Bool} {attr : PySem.Str} {m : PySem.Str → Option Value} {Q : Value → Shared → Prop} (Sf : Sup w f) (tx : Tx w s.heap) (e : s.heap.get? a = some (accO dx vs n)) (hn : s.heap.Ns L m) (hm : m "self" = some (.ref a)) (hat : (attr == ("__class__" : PySem.Str)) = false)
    (hf : alongIn (KK w) attr [.type "list", .type "object"] = some (some (.builtin id))) (hTT : typeOf (.builtin id) = pure (.type T)) (hsl : Slot T "__get__" gid) (hen : entryFor table gid = some B) (har : argsOk gid ⟨[.builtin id, .ref a, .ref 101], []⟩)
    (hrun : ∀ (h : Heap) (g : Array GenState) (d : Drawn) (os : OsState) (A : Around) (E : Value → Shared → Prop) (Q : Fin → Shared → Prop) (tk : Nat), (KK w).In h → h.get? a = some (accO dx vs n) → Q (.done (.ret (.ref h.objs.size))) ⟨h.push (boundO bt id a), g, d, tk, os⟩ → wpAny (MM w) A (B ⟨[.builtin id, .ref a, .ref 101], []⟩) Q E ⟨h, g, d, tk, os⟩)
    (hbt : bt = "builtin_function_or_method" ∨ bt = "method-wrapper") (hc : ∀ (s : Shared) (A : Around) (Q : Unit → Shared → Prop) (E : Value → Shared → Prop), (KK w).In s.heap → s.heap.get? a = some (accO dx vs n) → Q () s → wpAny (MM w) A (checkBoundCall id ⟨[.ref a], []⟩) Q E s)
    (hpl : plainId id = true) (hen' : entryFor table id = some B') (g : Meets (B' ⟨[.ref a], []⟩) S)
    (h : ∀ h' tk, (∀ y o, s.heap.get? y = some o → h'.get? y = some o) → S A (wants Q E) { s with heap := h', toks := tk }) :
    PySem.wpAt (MM w) A (.func body (callEnv (fdO w f) L f)) (attributeBase (.Call (.Name "super" p0) [] [] p1) attr (callEnv (fdO w f) L f) whole) (fun ov s₁ => wpAny (MM w) A (getMethod ov attr pl) (fun fx s₂ => wpAny (MM w) A (callWith p3 fx.1 fx.2 (backTo p3 (starEach [] (callEnv (fdO w f) L f))) []) Q E s₂) E s₁) E s := by
  refine acc_super Sf tx e hn hm hat fun h' hso hk2 => ?_
  have X' : (KK w).In h' := (tx.kp hk2).k
  have e' := hk2 _ _ e
  obtain ⟨hp, gg, d, tk, os⟩ := s
  refine sup_getMethod (h := h') (bt := bt) X' hso hf hTT hsl hen har (fun A E Q tk q => hrun h' gg d os A E Q tk X' e' q) (acc_ne (s := ⟨h', gg, d, tk, os⟩) X' e') hat ?_
  have hu : (h'.push (boundO bt id a)).get? h'.objs.size = some (boundO bt id a) := Heap.get?_push_size _ rfl
  have up : ∀ y o, h'.get? y = some o → (h'.push (boundO bt id a)).get? y = some o := fun _ _ e => Heap.get?_push_of_some _ e
  refine callWith_bd (a := a) (id := id) hbt hu (call_bd (a := a) (id := id) hbt hu (fun A Q E q => hc _ A Q E (Frag.In.keeps X' up) (up _ _ e') q) hpl hen' g (h _ (tk + 1) fun y o ey => up _ _ (hk2 _ _ ey)))
end

set_option maxHeartbeats 1000000 in
theorem fn_part_count {a dx : Addr} {l : List (PySem.Str × PySem.Str)} (hm : (a, Mu.acc dx l) ∈ μ) : Fn w (k + 1) μ (.ref 98) [.obj a] (.int l.length) := by
  intro W A E s vs Q ok bs dv h
  cases dv with
  | cons x r =>
    cases r
    cases x
    obtain ⟨⟨vs, n, e, da⟩, hne, hsh, t, t', ed⟩ := bs.mu _ hm
    refine wpAny_call (ks_codeAny_call_defAt (o := fnO w 98) (fd := fdO w 98) (binds := [("self", .ref a)]) (dp0 ok.dp) (bs.tx.k _ _ (by kernel_rfl)) (by kernel_rfl) bs.tx.nl (codeRec_of bs.tx.k (by kernel_rfl)) rfl (BindsTo.of_eq (by kernel_rfl)) (fun x hx => ?_) (fun x hx => by rw [List.mem_singleton.mp hx]; kernel_rfl) (fun h₀ hns hk => ?_) (by kernel_rfl) (by kernel_rfl) (by kernel_rfl))
    · have : (fdO w 98).scope.names.all (fun x => !(x.2 == .cell)) = true := by kernel_rfl
      have := List.all_eq_true.mp this x hx
      intro q; rw [q] at this; simp at this
    · refine ks_wpAt_execs_cons (ks_wpAt_Return_some ?_)
      refine ks_wpAt_MethodCall ?_
      refine super_call (a := a) (dx := dx) (vs := vs) (n := n) sup98 (bs.tx.kp hk) (hk _ _ e) hns (by rfl) (by decide) (by kernel_rfl) ty_len slot_wd_get entry_wd_get (args_wd_get _ _ _) (fun h g d os A E Q tk X e q => run_len X e q) (.inr rfl) (fun s A Q E X e q => chk_len q) (by decide +kernel) F.entry_list_len (acc_len (a := a) (dx := dx) (items := vs.toArray) (n := n)) fun h' tk hk2 => ?_
      have hkk : ∀ y o, s.heap.get? y = some o → h'.get? y = some o := fun y o q => hk2 _ _ (hk _ _ q)
      refine ⟨hkk _ _ e, ?_⟩
      have hl : (l.length : Int) = (vs.toArray.size : Nat) := by rw [List.size_toArray, da.length, List.length_map]
      rw [hl] at h
      exact h (.int vs.toArray.size tk) { s with heap := h', toks := tk + 1 } (bs.keep hkk) (.of hkk) (.int _ _)
end Mine
open PySem PySem.W PyProof.Rows
set_option Elab.async false
set_option maxRecDepth 100000
set_option linter.unusedVariables false
namespace Mine

variable {w : World} {k : Nat} {env : Env} {ρ : Rho} {μ : List (Addr × Mu)}

/-- a pile gets other stones -/
def muPut (l' : List (PySem.Str × PySem.Str)) : Mu → Mu
  | .acc dx _ => .acc dx l'
  | m => m
def updM (μ : List (Addr × Mu)) (a : Addr) (l' : List (PySem.Str × PySem.Str)) : List (Addr × Mu) := μ.map fun p => if (p.1 == a) = true then (p.1, muPut l' p.2) else p

section
variable {W : Addr → Prop} {s : Shared} {a dx : Addr} {l l' : List (PySem.Str × PySem.Str)}
theorem Bs.upd {h' : Heap} {tk : Nat} {vs' : List Value} {n' : Nat} (b : Bs w W μ s) (hm : (a, Mu.acc dx l) ∈ μ) (hs : ∀ b o, b ≠ a → s.heap.get? b = some o → h'.get? b = some o) (ha : h'.get? a = some (accO dx vs' n')) (da : DAll W h' vs' (l'.map stoneD)) :
    Bs w W (updM μ a l') { s with heap := h', toks := tk } := by
  have wa : W a := (b.mw _ hm).1
  obtain ⟨⟨vs, n, e, r⟩, w2, hsh, t, t', q⟩ := b.mu _ hm
  have oa := (b.mu _ hm).off b.tab
  have pr : Pr W W s.heap h' := fun x o nx ex _ => ⟨hs x o (fun c => nx (c ▸ wa)) ex, nx⟩
  refine ⟨b.tx.at fun x o nx ex => hs x o (fun c => nx (c ▸ b.own _ wa)) ex, ?_, b.bare, b.wt, ?_, b.own, ?_, ?_⟩
  · obtain ⟨ps, tt, rr⟩ := b.tab
    exact ⟨ps, hs _ _ (Ne.symm oa.1) tt, rr⟩
  · intro x hx
    by_cases hxa : x = a
    · subst hxa; exact ⟨_, ha⟩
    · obtain ⟨o, e⟩ := b.live x hx
      exact ⟨o, hs x o hxa e⟩
  · intro p hp
    obtain ⟨p, hp', rfl⟩ := List.mem_map.mp hp
    have z := b.mw p hp'
    split
    · refine ⟨z.1, fun dx₂ l₂ e₂ => ?_⟩
      obtain ⟨p1, p2⟩ := p
      cases p2 with
      | acc d₂ m₂ => cases e₂; exact z.2 _ _ rfl
      | opn m₂ => cases e₂
    · exact z
  · intro p hp
    obtain ⟨p, hp', rfl⟩ := List.mem_map.mp hp
    have z := b.mu p hp'
    obtain ⟨p1, p2⟩ := p
    by_cases hpa : p1 = a
    · subst hpa
      simp only [beq_self_eq_true, if_true]
      cases p2 with
      | acc d₂ m₂ =>
        obtain ⟨⟨vs₂, n₂, e₂, r₂⟩, w₂, hsh₂, t₂, t₂', q₂⟩ := z
        dsimp only at e₂ w₂
        rw [e] at e₂
        have hd : dx = d₂ := by injection e₂ with e₂; injection e₂ with _ e₂; injection e₂
        subst hd
        exact ⟨⟨vs', n', ha, da⟩, w₂, hsh₂, t₂, t₂', hs _ _ w₂ q₂⟩
      | opn m₂ =>
        obtain ⟨vs₂, n₂, e₂, r₂⟩ := z
        dsimp only at e₂
        rw [e] at e₂; injection e₂ with e₂; injection e₂ with e₂; cases e₂
    · have hb : (p1 == a) = false := by simpa using hpa
      simp only [hb, Bool.false_eq_true, if_false]
      cases p2 with
      | acc d₂ m₂ =>
        obtain ⟨⟨vs₂, n₂, e₂, r₂⟩, w₂, hsh₂, t₂, t₂', q₂⟩ := z
        refine ⟨⟨vs₂, n₂, hs _ _ hpa e₂, r₂.pr pr⟩, w₂, hsh₂, t₂, t₂', hs _ _ (fun c => ?_) q₂⟩
        subst c; rw [e] at q₂; injection q₂ with q₂; injection q₂ with q₂; cases q₂
      | opn m₂ =>
        obtain ⟨vs₂, n₂, e₂, r₂⟩ := z
        exact ⟨vs₂, n₂, hs _ _ hpa e₂, r₂.pr pr⟩
theorem Ef.at {h' : Heap} {tk : Nat} (hs : ∀ b o, b ≠ a → s.heap.get? b = some o → h'.get? b = some o) (ha : a ≠ tblA) : Ef (· = a) s { s with heap := h', toks := tk } :=
  ⟨fun x o _ n e => hs x o n e, fun ps e => ⟨#[], by simpa using hs _ _ (Ne.symm ha) e⟩, rfl⟩
end

/-- a call that changes one pile -/
def Fx (w : World) (k : Nat) (μ : List (Addr × Mu)) (f : Value) (ds : List D) (a : Addr) (μ' : List (Addr × Mu)) (d : D) : Prop :=
  ∀ (W : Addr → Prop) (A : Around) (E : Value → Shared → Prop) (s : Shared) (vs : List Value) (Q : Value → Shared → Prop), AOk k A → Bs w W μ s → DAll W s.heap vs ds →
    (∀ v s', Bs w W μ' s' → Ef (· = a) s s' → DIn W s'.heap v d → Q v s') → wpAny (MM w) A (call f vs) Q E s

theorem alls_ok {w : World} {f : Addr} (h : (fdO w f).scope.names.all (fun x => !(x.2 == .cell)) = true) : ∀ x ∈ (fdO w f).scope.names, x.2 ≠ .cell := fun x hx q => by
  have := List.all_eq_true.mp h x hx
  rw [q] at this; simp at this

theorem callWith_fn {A : Around} {E : Value → Shared → Prop} {s : Shared} {p : Pos} {f a : Addr} {o : Obj} {fd : FuncData} {Q : Value → Shared → Prop} (tx : Tx w s.heap) (e : (KK w).lookup f = some o) (hd : o.data = .func fd) (h : wpAny (MM w) A (call (.ref f) [.ref a]) Q E s) : wpAny (MM w) A (callWith p (.ref f) [.ref a] [] []) Q E s :=
  callWith_of (.fn f o fd e hd) rfl (Calls.spliced_nil ⟨tx, h⟩)

theorem self_ev {A : Around} {E : Value → Shared → Prop} {s : Shared} {f a L : Addr} {m : PySem.Str → Option Value} {p : Pos} {Q : Value → Shared → Prop} (Sf : Sup w f) (hn : s.heap.Ns L m) (hm : m "self" = some (.ref a)) (h : Q (.ref a) s) : wpAny (MM w) A (eval (.Name "self" p) (callEnv (fdO w f) L f)) Q E s :=
  wpAny_Name (wpAny_loadName_local Sf.kd Sf.ka hn hm h) (by decide)

set_option maxHeartbeats 2000000 in
theorem fx_pop {a dx : Addr} {l : List (PySem.Str × PySem.Str)} (hm : (a, Mu.acc dx l) ∈ μ) (hz : l.length ≤ sizeLine) : Fx w (k + 2) μ (.ref 61) [.obj a] a (if l.length = 0 then μ else updM μ a l.dropLast) (if l.length = 0 then .tup [.str "", .str ""] else stoneD (l.getLastD ("", ""))) := by
  intro W A E s vs Q ok bs dv h
  cases dv with
  | cons x r =>
    cases r
    cases x
    obtain ⟨⟨vs, n, e, da⟩, hne, hsh, t, t', ed⟩ := bs.mu _ hm
    refine wpAny_call (ks_codeAny_call_defAt (o := fnO w 61) (fd := fdO w 61) (binds := [("self", .ref a)]) (dp0 ok.dp) (bs.tx.k _ _ (by kernel_rfl)) (by kernel_rfl) bs.tx.nl (codeRec_of bs.tx.k (by kernel_rfl)) rfl (BindsTo.of_eq (by kernel_rfl)) (alls_ok (by kernel_rfl)) (fun x hx => by rw [List.mem_singleton.mp hx]; kernel_rfl) (fun h₀ hns hk => ?_) (by kernel_rfl) (by kernel_rfl) (by kernel_rfl))
    have bs₀ : Bs w W μ { s with heap := h₀, toks := s.toks + 1 } := bs.keep hk
    refine ks_wpAt_execs_cons (ks_wpAt_If ?_)
    have go₀ : Go s { s with heap := h₀, toks := s.toks + 1 } := .of hk
    refine wpAt_of_wpAny (wpAny_isTrue_Compare1 ?_ (by with_unfolding_all rfl))
    refine MethodCall_ ?_
    refine self_ev sup61 hns rfl ?_
    refine acc_getMethod bs₀.tx.k (hk _ _ e) (hk _ _ ed) (f := .ref 98) (tf := .type "function") (by kernel_rfl) (by kernel_rfl) (by decide) (by decide) ?_
    refine callWith_fn bs₀.tx (o := fnO w 98) (fd := fdO w 98) (by kernel_rfl) (by kernel_rfl) ?_
    refine fn_part_count (k := k) hm W _ _ _ _ _ ok.deeper bs₀ (.cons (.obj a) .nil) fun v s₁ b₁ g₁ d₁ => ?_
    cases d₁ with
    | int _ tv =>
      refine wpAny_Constant_int (eq_int ?_)
      refine wpAny_truthy_bool ?_
      have b₂ : Bs w W μ { s₁ with toks := s₁.toks + 1 } := b₁.tok
      have g₂ : Go s { s₁ with toks := s₁.toks + 1 } := go₀.trans (g₁.trans .tok)
      have hns₂ : s₁.heap.Ns s.heap.objs.size (fun x => List.lookup x [(("self" : PySem.Str), Value.ref a)].reverse) := by
        obtain ⟨o, es, ep, ho, hd, r⟩ := hns
        obtain ⟨ps, tt, _⟩ := bs₀.tab
        exact ⟨o, es, ep, g₁.gr.keep _ _ (by intro c; rw [c, tt] at ho; cases ho; cases hd) ho, hd, r⟩
      have oa := (bs.mu _ hm).off bs.tab
      by_cases hl : l.length = 0
      · have h0 : ((l.length : Int) == 0) = true := by simp [hl]
        rw [h0, if_pos rfl]
        rw [if_pos hl, if_pos hl] at h
        refine ks_wpAt_execs_cons (ks_wpAt_Return_some (wpAt_of_wpAny ?_))
        refine Tuple_ ?_
        refine Calls.spliced_cons ?_
        refine Calls.Constant_str (pos := ⟨0, 0, 0, 0⟩) (k := 0) ?_
        refine Calls.spliced_cons ?_
        refine Calls.Constant_str (pos := ⟨0, 0, 0, 0⟩) (k := 0) ?_
        refine Calls.spliced_nil ?_
        refine wpAny_newObj_type ?_ (by size_fits)
        have b₃ : Bs w W μ { s₁ with toks := s₁.toks + 1 + 1 + 1 } := b₁.tok
        refine h _ _ (b₃.push (tk := s₁.toks + 1 + 1 + 1) _) ((go₀.trans g₁).ef.trans (Go.push (tk := s₁.toks + 1 + 1 + 1) _).ef) (.newTup b₃ (.cons (.str _ _) (.cons (.str _ _) .nil)) 0)
      · have h0 : ((l.length : Int) == 0) = false := by simpa using hl
        rw [h0, if_neg Bool.false_ne_true]
        rw [if_neg hl, if_neg hl] at h
        refine wpAt_of_wpAny (wpAny_execs_nil ?_)
        refine ks_wpAt_execs_cons (ks_wpAt_Return_some (ks_wpAt_MethodCall ?_))
        have e₂ : s₁.heap.get? a = some (accO dx vs n) := g₁.gr.keep _ _ oa.1 (hk _ _ e)
        have hsz : vs.length = l.length := by rw [da.length, List.length_map]
        obtain ⟨y, hy⟩ : ∃ y, vs.toArray[vs.toArray.size - 1]? = some y := by
          rw [List.size_toArray, List.getElem?_toArray]
          exact ⟨_, List.getElem?_eq_getElem (predL (by rw [hsz]; exact Nat.pos_of_ne_zero hl))⟩
        refine super_call (a := a) (dx := dx) (vs := vs) (n := n) sup61 b₂.tx e₂ hns₂ (by rfl) (by decide) (by kernel_rfl) ty_pop slot_md_get entry_md_get (args_md_get _ _ _) (fun h g d os A E Q tk X e q => run_pop X e q) (.inl rfl) (fun s A Q E X e q => chk_pop (dx := dx) (items := vs.toArray) (n := n) X e q) (by decide +kernel) F.entry_list_pop (acc_pop (a := a) (dx := dx) (items := vs.toArray) (n := n) y hy (by rw [List.size_toArray, hsz]; exact hz)) fun h' tk hk2 => ?_
        refine ⟨hk2 _ _ e₂, ?_⟩
        obtain ⟨n', hn'⟩ := acc_upd (hk2 _ _ e₂) fun xs => xs.eraseIdxIfInBounds (vs.toArray.size - 1)
        have b₃ : Bs w W μ { s₁ with heap := h', toks := tk } := b₂.keep hk2
        have g₃ : Go s { s₁ with heap := h', toks := tk } := g₂.trans (.of hk2)
        have da₃ : DAll W h' vs (l.map stoneD) := da.go g₃ bs.wt
        have hsb : Heap.SameBut a h' (h'.update a (Obj.mapSeq fun xs => xs.eraseIdxIfInBounds (vs.toArray.size - 1))) := Heap.SameBut.update ..
        have hs' : ∀ b o, b ≠ a → h'.get? b = some o → (h'.update a (Obj.mapSeq fun xs => xs.eraseIdxIfInBounds (vs.toArray.size - 1))).get? b = some o := fun b o nb e => (hsb.2 b nb).trans e
        have ev : vs.toArray.eraseIdxIfInBounds (vs.toArray.size - 1) = vs.dropLast.toArray := by
          apply Array.toList_inj.mp
          have h1 : vs.toArray.size - 1 < vs.toArray.size := by rw [List.size_toArray]; exact predL (by rw [hsz]; exact Nat.pos_of_ne_zero hl)
          simp only [Array.eraseIdxIfInBounds, h1, dif_pos]
          rw [Array.toList_eraseIdx]
          simp only [List.toList_toArray, List.size_toArray]
          rw [List.eraseIdx_length_sub_one]
        have pr : Pr W W h' (h'.update a (Obj.mapSeq fun xs => xs.eraseIdxIfInBounds (vs.toArray.size - 1))) := fun b o nb e _ => ⟨hs' b o (fun c => nb (c ▸ (bs.mw _ hm).1)) e, nb⟩
        have dd : DAll W (h'.update a (Obj.mapSeq fun xs => xs.eraseIdxIfInBounds (vs.toArray.size - 1))) vs.dropLast (l.dropLast.map stoneD) := by
          have := (da₃.pr pr).take (vs.length - 1)
          rw [List.dropLast_eq_take, List.dropLast_eq_take, List.map_take, ← hsz]
          exact this
        have b₄ := b₃.upd (tk := tk) (l' := l.dropLast) hm hs' (by rw [hn', ev]) dd
        refine h y _ b₄ (g₃.ef.trans (Ef.at hs' oa.1)) ?_
        have hy' : vs[vs.length - 1]? = some y := by simpa using hy
        obtain ⟨d, hd, dy⟩ := (da₃.pr pr).getV hy'
        have : d = stoneD (l.getLastD ("", "")) := by
          rw [hsz, List.getElem?_map] at hd
          have e1 : l[l.length - 1]? = l.getLast? := List.getLast?_eq_getElem?.symm
          rw [e1] at hd
          cases hl2 : l.getLast? with
          | none => rw [hl2] at hd; cases hd
          | some z => rw [hl2] at hd; cases hd; rw [List.getLastD_eq_getLast?, hl2]; rfl
        rw [← this]; exact dy

end Mine
open PySem PySem.W PyProof.Rows
set_option Elab.async false
set_option maxRecDepth 100000
set_option linter.unusedVariables false
namespace Mine

variable {w : World} {k : Nat} {env : Env} {ρ : Rho} {μ : List (Addr × Mu)}

theorem check_method {M : Model} {A : Around} {E : Value → Shared → Prop} {s : Shared} {i owner n : String} {self : Value} {rest : List Value} {kw : List (PySem.Str × Value)} {Q : Unit → Shared → Prop}
    (hk : builtinKind i = some .method) (hs : splitId i = some (owner, n)) (hi : Looks M s.heap (isInstance self (.type owner)) true) (ha : argsOk i ⟨self :: rest, kw⟩) (q : Q () s) :
    wpAny M A (checkBuiltinCall i ⟨self :: rest, kw⟩) Q E s := by
  simp only [checkBuiltinCall, hk, hs]
  refine wpAny_bind (hi.here ?_)
  simp only [Bool.not_true, Bool.false_eq_true, if_false]
  cases hsig : Manifest.signature? i with
  | none => exact wpAny_pure q
  | some sig =>
    simp only [argsOk, hsig] at ha
    have h2 : Bind.checkArgs i sig ⟨self :: rest, kw⟩ = pure () := ha
    show wpAny M A (Bind.checkArgs i sig ⟨self :: rest, kw⟩) Q E s
    rw [h2]; exact wpAny_pure q

/-- a builtin method of list's, told a pile -/
theorem call_accB {A : Around} {E : Value → Shared → Prop} {s : Shared} {a dx : Addr} {vs : List Value} {n : Nat} {id nm : String} {B : Builtin} {S : PySem.Spec} {rest : List Value} {Q : Value → Shared → Prop} (X : (KK w).In s.heap) (e : s.heap.get? a = some (accO dx vs n))
    (hk : builtinKind id = some .method ∨ builtinKind id = some .slot) (hs : splitId id = some ("list", nm)) (ha : argsOk id ⟨.ref a :: rest, []⟩) (hpl : plainId id = true) (hen : entryFor table id = some B) (g : Meets (B ⟨.ref a :: rest, []⟩) S) (h : S A (wants Q E) s) :
    wpAny (MM w) A (call (.builtin id) (.ref a :: rest)) Q E s := by
  have fin := g prg w A (wants Q E) s h
  refine wpAny_call (codeAny_call_builtin hpl hen ?_)
  have hi := acc_isInstance (M := MM w) X e
  rcases hk with hk | hk
  · exact check_method hk hs hi ha fin
  · exact check_slot hk hs hi ha fin

end Mine
open PySem PySem.W PyProof.Rows
set_option Elab.async false
set_option maxRecDepth 100000
set_option linter.unusedVariables false
namespace Mine

variable {w : World} {k : Nat} {env : Env} {ρ : Rho} {μ : List (Addr × Mu)}

noncomputable abbrev cd101 (w : World) : ClassData := (clsIn (KK w) 101).getD default

/-- what is known of the class -/
structure MkL (M : Model) (h : Heap) : Prop where
  obj : ∃ oc od cd sl, h.get? 101 = some ⟨oc, od, .cls cd, sl⟩ ∧ cd.abstract = false ∧ cd.hasDel = false ∧ cd.mro.isEmpty = false
  made : Looks M h (Bind.madeBy (.ref 101)) (some "list.__new__")
  base : Looks M h (Bind.staticBase (.ref 101)) (.ref 101)
  self : Looks M h (isSubtype (.ref 101) (.ref 101)) true
  lst : Looks M h (isSubtype (.ref 101) (.type "list")) true
  call : Looks M h (specialOf (.ref 101) "__call__") (some (.builtin "type.__call__"))
  typ : Looks M h (isInstance (.ref 101) (.type "type")) true
  isT : Looks M h (isType (.ref 101)) true

theorem obj101' : ∃ oc od sl, (KK w).lookup 101 = some ⟨oc, od, .cls (cd101 w), sl⟩ ∧ sl.toList[4]? = some (some (.builtin "list.__new__")) :=
  ⟨(((KK w).lookup 101).getD default).cls, (((KK w).lookup 101).getD default).dict, (((KK w).lookup 101).getD default).slots, by kernel_rfl, by kernel_rfl⟩

theorem mkL_of {M : Model} {h : Heap} (X : (KK w).In h) : MkL M h := by
  obtain ⟨oc, od, sl, ho, hs⟩ := obj101' (w := w)
  have hc : clsIn (KK w) 101 = some (cd101 w) := by kernel_rfl
  have hm : Looks M h (mroOf (.ref 101)) [.ref 101, .type "list", .type "object"] := (looks_clsIn X hc).andThen .now
  have made : Looks M h (Bind.madeBy (.ref 101)) (some "list.__new__") := by
    intro A Q E s k q
    unfold Bind.madeBy
    refine wpAny_bind (hm A _ E s k ?_)
    rw [List.forIn_cons]
    refine wpAny_bind (wpAny_bind (wpAny_bind (wpAny_bind (wpAny_loadPart (k _ _ (X _ _ ho)) (wpAny_pure ?_)))))
    dsimp only
    rw [← Array.getElem?_toList, hs]
    exact wpAny_pure (wpAny_pure (wpAny_pure q))
  refine ⟨⟨oc, od, _, sl, X _ _ ho, by kernel_rfl, by kernel_rfl, by kernel_rfl⟩, made, ?_, looks_mroIn X (by kernel_rfl), looks_mroIn X (by kernel_rfl), looks_specialIn X (by kernel_rfl), looks_instIn X (by kernel_rfl), ?_⟩
  · intro A Q E s k q
    unfold Bind.staticBase
    refine wpAny_bind (hm A _ E s k ?_)
    rw [List.forIn_cons]
    exact wpAny_bind (wpAny_bind (wpAny_bind (made A _ E s k (wpAny_pure (wpAny_pure (wpAny_pure q))))))
  · intro A Q E s k q
    obtain ⟨hp, g, d, tk, os⟩ := s
    exact ks_wpAny_isType_cls (k _ _ (X _ _ ho)) rfl q

theorem ln_kind : builtinKind "list.__new__" = some .builtinFn := by decide +kernel
theorem ln_split : splitId "list.__new__" = some ("list", "__new__") := by decide +kernel
theorem ln_quiet : ("list.__new__" : String).startsWith "lifetime." = false := by decide +kernel
theorem ln_some : (Manifest.signature? "list.__new__").isSome = true := by kernel_rfl
def lnSig : Manifest.Signature := (Manifest.signature? "list.__new__").get ln_some
theorem ln_sig : Manifest.signature? "list.__new__" = some lnSig := (Option.some_get ln_some).symm
theorem ln_args : Bind.checkArgs "list.__new__" lnSig ⟨[.ref 101], []⟩ = pure () := by kernel_rfl

section
variable {A : Around} {R : Result → Shared → Prop} {h : Heap} {g : Array GenState} {d : Drawn} {t : Nat} {os : OsState}

theorem new_L (Y : MkL (MM w) h) (hq : R (.ok (.ret (.ref (h.objs.size + 1)))) ⟨(h.push emptyDict).push (accA h.objs.size #[] 0), g, d, t, os⟩) :
    codeAny (MM w) A (.call (.builtin "list.__new__") ⟨[.ref 101], []⟩) R ⟨h, g, d, t, os⟩ := by
  obtain ⟨⟨oc, od, cd, sl, hC, e1, e2, e4⟩, made, base, self, lst, call, typ, isT⟩ := Y
  refine codeAny_call_builtin_code (Code.quiet_builtin _ ln_quiet) ?_
  simp only [checkBuiltinCall, ln_kind, ln_split, ln_sig]
  rw [ln_args]
  repeat (first | simp only [bne_self_eq_false, Bool.false_eq_true, if_false] | (with_reducible refine isT.at ?_) | (with_reducible refine lst.at ?_) | (with_reducible refine base.at ?_) | (with_reducible refine made.at ?_) | lk)
  refine codeAny_builtin_stack F.entry_list_new rfl fun p st => ?_
  rw [Around.under_plainId F.plain_list_new _]
  have hown := owner_list_new
  simp only [hown]
  have hC' : ((h.push emptyDict).push (accA h.objs.size #[] 0)).get? 101 = some ⟨oc, od, .cls cd, sl⟩ := Heap.get?_push_of_some _ (Heap.get?_push_of_some _ hC)
  repeat (first | (with_reducible refine isT.at ?_) | (with_reducible refine lst.at ?_) | simp only [Bool.not_true, Bool.false_eq_true, if_false] | lk)
  rw [e2]
  repeat (first | simp only [Bool.false_eq_true, if_false] | lk)
  show R _ _
  have : ((h.push { cls := Value.type "dict", data := Data.dict #[] }).objs.size) = h.objs.size + 1 := Heap.size_push ..
  rw [this]
  exact hq

theorem tc_bind' (self : Value) : bindSpecial (.builtin "type.__call__") self = pure (.builtin "type.__call__", [self]) := tc_bind self

theorem make_L {init : Value} (Y : MkL (MM w) h) (hi : Looks (MM w) h (typeLookup (.ref 101) "__init__") (some init))
    (hb : ∀ self, Looks (MM w) h (bindSpecial init self) (init, [self]))
    (hq : codeAny (MM w) (A.under (.builtin "type.__call__" ⟨[.ref 101], []⟩)) (.call init ⟨[.ref (h.objs.size + 1)], []⟩) (InitBack (h.objs.size + 1) R) ⟨(h.push emptyDict).push (accA h.objs.size #[] 0), g, d, t, os⟩) :
    codeAny (MM w) A (.call (.ref 101) ⟨[], []⟩) R ⟨h, g, d, t, os⟩ := by
  have Y' := Y
  obtain ⟨⟨oc, od, cd, sl, hC, e1, e2, e4⟩, made, base, self, lst, call, typ, isT⟩ := Y
  refine codeAny_of_tree ?_
  show wpAny _ _ (callAny (.ref 101) _) _ _ _
  refine nd_load hC ?_
  show wpAny _ _ (callAny.viaDunder (.ref 101) _) _ _ _
  unfold callAny.viaDunder
  refine wpAny_bind (call.at ?_)
  dsimp only
  rw [tc_bind]
  refine wpAny_bind (wpAny_pure (wpAny_bind (wpAny_pure ?_)))
  refine wpAny_pure (a := Fin.again (.call (.builtin "type.__call__") ⟨[.ref 101], []⟩)) (And.intro rfl ?_)
  refine codeAny_call_builtin_at (Code.quiet_builtin _ (by decide +kernel)) entry_typeCall (check_slot tc_kind tc_split typ (tc_args _ _ _) ?_)
  unfold Builtin.«type.__call__»
  have hm : Looks (MM w) h (mroOf (.ref 101)) cd.mro := ((Looks.ld (part := none) hC).andThen .now).andThen .now
  repeat (first | simp only [e4, Bool.false_eq_true, if_false] | with_reducible refine wpAny_call ?_ | lk)
  refine new_L Y' ?_
  have k : ∀ b o, h.get? b = some o → ((h.push emptyDict).push (accA h.objs.size #[] 0)).get? b = some o := fun b o e => Heap.get?_push_of_some _ (Heap.get?_push_of_some _ e)
  have hx : ((h.push emptyDict).push (accA h.objs.size #[] 0)).get? (h.objs.size + 1) = some (accA h.objs.size #[] 0) := by heap_get
  have t1 : Looks (MM w) ((h.push emptyDict).push (accA h.objs.size #[] 0)) (typeOf (.ref (h.objs.size + 1))) (.ref 101) := (Looks.ld hx).andThen .now
  have s1 := self.keeps k
  have i1 := hi.keeps k
  have b1 := (hb (.ref (h.objs.size + 1))).keeps k
  unfold isInstance callSpecial? specialOf
  repeat (first | with_reducible refine wpAny_call ?_ | lk)
  refine codeAny_mono hq fun r s' z => ?_
  rcases r with e | (v | _ | _ | _) <;> first | exact z | exact z.elim | skip
  obtain ⟨rfl, z⟩ := z
  exact wpAny_pure (wpAny_pure z)
end
end Mine
open PySem PySem.W PyProof.Rows
set_option Elab.async false
set_option maxRecDepth 100000
set_option linter.unusedVariables false
namespace Mine
open PySem.Builtin PySem.Builtin.ObjectAttr

variable {w : World} {k : Nat} {env : Env} {ρ : Rho} {μ : List (Addr × Mu)}

theorem pass_list (self : Value) : refuseLoop self "__setattr__" [.type "list", .type "object"] = pure () := by kernel_rfl

section
variable {A : Around} {E : Value → Shared → Prop} {s : Shared} {x dx : Addr} {n : Nat}

theorem acc_setattr {v : Value} {Q : Unit → Shared → Prop} (X : (KK w).In s.heap) (e : s.heap.get? x = some (accA dx #[] n)) (ed : s.heap.get? dx = some emptyDict)
    (h : ∀ h' hsh tk tk', h'.get? dx = some (dictOf [⟨hsh, .str "_initial_size" tk, v⟩] 1) → Heap.SameBut dx s.heap h' → Q () { s with heap := h', toks := tk' }) :
    wpAny (MM w) A (setAttr (.ref x) "_initial_size" v) Q E s := by
  obtain ⟨hp, g, d, t, os⟩ := s
  have SF := PySem.F.store_object
  have hc : clsIn (KK w) 101 = some (cd101 w) := by kernel_rfl
  have T : Looks (MM w) hp (typeOf (.ref x)) (.ref 101) := (Looks.ld e).andThen .now
  have Ls : Looks (MM w) hp (typeLookup (.ref 101) "__setattr__") (some (.builtin "object.__setattr__")) := looks_findIn X (by kernel_rfl)
  have hm : Looks (MM w) hp (mroOf (.ref 101)) [.ref 101, .type "list", .type "object"] := (looks_clsIn X hc).andThen .now
  have sub : Looks (MM w) hp (isInstance (.ref x) (.type "object")) true := T.andThen (looks_mroIn X (by kernel_rfl))
  have La : Looks (MM w) hp (typeLookup (.ref 101) "_initial_size") none := looks_findIn X (by kernel_rfl)
  have hb := SF.slot.bind (.ref x)
  unfold setAttr callSpecial? specialOf
  refine wpAny_bind (wpAny_mkText (wpAny_bind (wpAny_bind (wpAny_bind (T.at (Ls.at ?_))))))
  refine wpAny_holding (wpAny_bind (wpAny_of_eq hb ?_))
  refine wpAny_bind (wpAny_mono (Q := fun r s' => Q () s') (E := E) (wpAny_call (codeAny_call_builtin SF.slot.plain SF.entry (@check_slot (MM w) _ _ _ "object.__setattr__" "object" "__setattr__" (.ref x) [.str "_initial_size" t, v] [] _ SF.kind SF.split sub (SF.args (.ref x) (.str "_initial_size" t) v) ?_))) (fun r s' q => wpAny_pure (wpAny_pure q)) fun _ _ z => z)
  show wpAny _ _ (Builtin.«object.__setattr__» ⟨[.ref x, .str "_initial_size" t, v], []⟩) _ _ _
  rw [osa_eq, refuse_eq]
  refine wpAny_bind (wpAny_bind (T.at (wpAny_bind (hm.at ?_))))
  rw [refuseLoop_ref, pass_list]
  refine wpAny_pure (wpAny_bind (T.at (wpAny_bind (La.at ?_))))
  refine wpAny_bind (wpAny_of_eq (show storeTaker? none = pure none by kernel_rfl) ?_)
  dsimp only
  refine wpAny_bind (wpAny_pure (wpAny_bind (wpAny_bind (wpAny_loadPart e (wpAny_bind ((looks_clsIn X hc).at ?_))))))
  rw [show (cd101 w).hasDict = true by kernel_rfl]
  refine wpAny_pure (a := some dx) (wpAny_bind (wpAny_pure (wpAny_bind ?_)))
  unfold nsSet
  refine wpAny_bind (wpAny_bind (wpAny_askSetting (wpAny_pure (wpAny_bind (wpAny_mkText (wpAny_bind (wpAny_loadPart ed ?_)))))))
  dsimp only
  rw [if_neg (by decide)]
  generalize hF : Obj.putName (PySem.Str.ofString "_initial_size") _ _ v = F
  have hput : ∃ hsh, F emptyDict = dictOf [⟨hsh, .str "_initial_size" (t + 1), v⟩] 1 := by rw [← hF]; exact ⟨_, rfl⟩
  obtain ⟨hsh, hput⟩ := hput
  have hg : (hp.update dx F).get? dx = some (dictOf [⟨hsh, .str "_initial_size" (t + 1), v⟩] 1) := by rw [← hput]; exact Heap.get?_update_self _ ed (by rw [hput]; rfl)
  refine wpAny_updatePart ed ?_
  refine wpAny_bind (wpAny_lookBehind hg (pastItsLine_dict (by simp)) ?_)
  exact wpAny_pure (h _ _ _ _ hg (Heap.SameBut.update ..))
end
end Mine
open PySem PySem.W PyProof.Rows
set_option Elab.async false
set_option maxRecDepth 100000
set_option linter.unusedVariables false
namespace Mine

variable {w : World} {k : Nat} {env : Env} {ρ : Rho} {μ : List (Addr × Mu)}

noncomputable def dft38 (w : World) : Tok := match (((KK w).lookup 30).getD default).data with | .seq xs _ => (match xs.getD 0 .none with | .int _ t => t | _ => 0) | _ => 0

section
variable {A : Around} {E : Value → Shared → Prop} {W : Addr → Prop} {s : Shared}

set_option maxHeartbeats 4000000 in
theorem new_acc {Q : Value → Shared → Prop} (ok : AOk (k + 2) A) (bs : Bs w W μ s)
    (h : ∀ a dx h' tk, s.heap.get? a = none → s.heap.get? dx = none → a ≠ dx → Bs w (fun b => W b ∨ b = a ∨ b = dx) ((a, .acc dx []) :: μ) { s with heap := h', toks := tk } → (∀ y o, s.heap.get? y = some o → h'.get? y = some o) → Q (.ref a) { s with heap := h', toks := tk }) :
    wpAny (MM w) A (call (.ref 101) []) Q E s := by
  obtain ⟨hp, g, d, t, os⟩ := s
  have X := bs.tx.k
  refine wpAny_call (make_L (mkL_of X) (looks_findIn X (show findIn (KK w) (.ref 101) "__init__" = some (some (.ref 38)) by kernel_rfl)) (fun self => bind_fn X self (by kernel_rfl)) ?_)
  have hA : (A.under (.builtin "type.__call__" ⟨[.ref 101], []⟩)).depth = A.depth + 1 := rfl
  have k1 : ∀ b o, hp.get? b = some o → ((hp.push emptyDict).push (accA hp.objs.size #[] 0)).get? b = some o := fun b o e => Heap.get?_push_of_some _ (Heap.get?_push_of_some _ e)
  have ha : ((hp.push emptyDict).push (accA hp.objs.size #[] 0)).get? (hp.objs.size + 1) = some (accA hp.objs.size #[] 0) := by heap_get
  have hd : ((hp.push emptyDict).push (accA hp.objs.size #[] 0)).get? hp.objs.size = some emptyDict := by heap_get
  have na : hp.get? (hp.objs.size + 1) = none := by
    cases e : hp.get? (hp.objs.size + 1) with
    | none => rfl
    | some o => exact absurd (Nat.lt_of_succ_lt (Heap.lt_size e)) (Nat.lt_irrefl _)
  have nd : hp.get? hp.objs.size = none := get_size hp
  generalize hH : (hp.push emptyDict).push (accA hp.objs.size #[] 0) = H at *
  generalize hD : hp.objs.size = dx at *
  generalize hAA : dx + 1 = a at *
  have hne : a ≠ dx := by rw [← hAA]; exact Nat.succ_ne_self _
  have tx1 : Tx w H := bs.tx.kp k1
  refine ks_codeAny_call_defAt (o := fnO w 38) (fd := fdO w 38) (binds := [("self", .ref a), ("initial_size", .int 0 (dft38 w))]) (by rw [hA]; exact dp0 (dp1 ok.dp)) (tx1.k _ _ (by kernel_rfl)) (by kernel_rfl) tx1.nl (codeRec_of tx1.k (by kernel_rfl)) rfl (kp_binds tx1.k fun S => by kernel_rfl) (alls_ok (by kernel_rfl)) (fun z hz => ?_) (fun h₀ hns hk => ?_) (by kernel_rfl) (by kernel_rfl) (by kernel_rfl)
  · simp only [List.mem_cons, List.not_mem_nil, or_false] at hz
    rcases hz with rfl | rfl <;> kernel_rfl
  generalize hL : H.objs.size = L at *
  have tx2 : Tx w h₀ := tx1.kp hk
  refine ks_wpAt_execs_cons (ks_wpAt_Assign_Attr (wpAt_of_wpAny ?_))
  refine wpAny_Name (wpAny_loadName_local (by kernel_rfl) (by kernel_rfl) hns rfl ?_) (by decide)
  refine self_ev (a := a) sup38 hns rfl ?_
  refine acc_setattr (dx := dx) (n := 0) tx2.k (hk _ _ ha) (hk _ _ hd) fun h₂ hsh tk tk' hd₂ hs₂ => ?_
  have hLd : L ≠ dx := by
    rintro rfl
    obtain ⟨o, es, ep, ho, hdd, _⟩ := hns
    have := get_size H
    rw [hL, hd] at this; cases this
  have old2 : ∀ b o, b ≠ dx → h₀.get? b = some o → h₂.get? b = some o := fun b o nb e => (hs₂.2 b nb).trans e
  have old02 : ∀ b o, hp.get? b = some o → h₂.get? b = some o := fun b o e => old2 b o (by rintro rfl; rw [nd] at e; cases e) (hk _ _ (k1 _ _ e))
  have tx3 : Tx w h₂ := bs.tx.kp old02
  have e3 : h₂.get? a = some (accO dx [] 0) := old2 _ _ hne (hk _ _ ha)
  have hns₂ := hns.sameBut hs₂ hLd
  refine ks_wpAt_execs_cons (ks_wpAt_Expr_any ?_ (by kernel_rfl) (by kernel_rfl))
  refine ks_wpAt_MethodCall ?_
  refine super_call (a := a) (dx := dx) (vs := []) (n := 0) sup38 tx3 e3 hns₂ (by rfl) (by decide) (by kernel_rfl) ty_init slot_wd_get entry_wd_get (args_wd_get _ _ _) (fun h g d os A E Q tk X e q => run_init X e q) (.inr rfl) (fun s A Q E X e q => chk_init q) (by decide +kernel) (entryFor_of_tree (by kernel_rfl)) (acc_init (a := a) (dx := dx) (n := 0)) fun h' tk3 hk3 => ?_
  refine ⟨hk3 _ _ e3, ?_⟩
  obtain ⟨n', hn'⟩ := acc_upd (hk3 _ _ e3) fun _ => #[]
  have hsb : Heap.SameBut a h' (h'.update a (Obj.mapSeq fun _ => #[])) := Heap.SameBut.update ..
  have up : ∀ b o, hp.get? b = some o → (h'.update a (Obj.mapSeq fun _ => #[])).get? b = some o := fun b o e => (hsb.2 b (by rintro rfl; rw [na] at e; cases e)).trans (hk3 _ _ (old02 _ _ e))
  refine wpAt_of_wpAny (wpAny_execs_nil ?_)
  have hd4 : (h'.update a (Obj.mapSeq fun _ => #[])).get? dx = some (dictOf [⟨hsh, .str "_initial_size" tk, .int 0 (dft38 w)⟩] 1) := (hsb.2 dx (Ne.symm hne)).trans (hk3 _ _ hd₂)
  refine ⟨rfl, ?_⟩
  have bsW := bs.wide (W' := fun b => W b ∨ b = a ∨ b = dx) (X := fun b => b = a ∨ b = dx) (tk := tk3) up (fun b => Iff.rfl) (fun b hb => by rcases hb with rfl | rfl <;> assumption) (fun b hb => by rcases hb with rfl | rfl; exact ⟨_, hn'⟩; exact ⟨_, hd4⟩)
  refine h a dx _ tk3 na nd hne { bsW with mw := fun p hp => ?_, mu := fun p hp => ?_ } up
  · rcases List.mem_cons.mp hp with rfl | hp
    · exact ⟨.inr (.inl rfl), fun dx' l' e' => by cases e'; exact .inr (.inr rfl)⟩
    · exact bsW.mw p hp
  · rcases List.mem_cons.mp hp with rfl | hp
    · exact ⟨⟨[], n', hn', .nil⟩, Ne.symm hne, hsh, tk, _, hd4⟩
    · exact bsW.mu p hp
end
end Mine
open PySem PySem.W PyProof.Rows
set_option Elab.async false
set_option maxRecDepth 100000
set_option linter.unusedVariables false
namespace Mine

variable {w : World} {k : Nat} {env : Env} {ρ : Rho} {μ : List (Addr × Mu)}

theorem li_slot : Slot "list" "__iter__" "list.__iter__" := F.slot_list_iter

section
variable {A : Around} {E : Value → Shared → Prop} {s : Shared} {a dx : Addr} {vs : List Value} {n : Nat}

/-- a pile's iterator -/
theorem acc_pyIter {Q : Value → Shared → Prop} (X : (KK w).In s.heap) (e : s.heap.get? a = some (accO dx vs n))
    (h : Q (.ref s.heap.objs.size) { s with heap := s.heap.push { cls := .type "list_iterator", data := .fields #[.ref a, rawInt 0] } }) : wpAny (MM w) A (pyIter (.ref a)) Q E s := by
  obtain ⟨hp, g, d, t, os⟩ := s
  have T : Looks (MM w) hp (typeOf (.ref a)) (.ref 101) := (Looks.ld e).andThen .now
  have Li : Looks (MM w) hp (typeLookup (.ref 101) "__iter__") (some (.builtin "list.__iter__")) := looks_findIn X (by kernel_rfl)
  have hb := li_slot.bind (.ref a)
  have hcall : wpAny (MM w) A (call (.builtin "list.__iter__") [.ref a]) (fun v s' => v = .ref hp.objs.size ∧ s' = ⟨hp.push { cls := .type "list_iterator", data := .fields #[.ref a, rawInt 0] }, g, d, t, os⟩) E ⟨hp, g, d, t, os⟩ :=
    call_accB (nm := "__iter__") X e (.inr (by kernel_rfl)) (by kernel_rfl) (F.args_list_iter_1 _) (by decide +kernel) F.entry_list_iter (acc_iter (a := a)) ⟨rfl, rfl⟩
  unfold pyIter specialOf
  refine wpAny_bind (wpAny_bind (T.at (Li.at ?_)))
  dsimp only
  refine wpAny_bind ?_
  simp only [callSpecialIfBoundUnlessNone?, bindSpecialIfBound?]
  refine wpAny_holding (wpAny_bind (wpAny_bind ?_))
  unfold specialOf
  refine wpAny_bind (T.at (Li.at ?_))
  simp only [hb]
  refine wpAny_bind (wpAny_askSetting (wpAny_ite ?_))
  split
  all_goals first | (refine wpAny_tryCatch ?_; refine wpAny_bind (wpAny_pure (wpAny_pure ?_))) | (refine wpAny_bind (wpAny_pure (wpAny_pure ?_)))
  all_goals
    simp only [builtin_beq_none, Bool.false_eq_true, if_false]
    refine wpAny_bind (wpAny_mono hcall (fun v s' hv => ?_) fun _ _ z => z)
    obtain ⟨rfl, rfl⟩ := hv
    refine wpAny_pure ?_
    have hT : (⟨hp.push { cls := .type "list_iterator", data := .fields #[.ref a, rawInt 0] }, g, d, t, os⟩ : Shared).TypeIs (.ref hp.objs.size) "list_iterator" := ⟨_, Heap.get?_push_size _ rfl, rfl⟩
    exact wpAny_bind (wpAny_specialOf hT slot_listiter_next.lookup (wpAny_pure h))

/-- a sequence's items, whatever its class -/
def IsSq (h : Heap) (a : Addr) (items : Array Value) : Prop := ∃ o n, h.get? a = some o ∧ o.data = .seq items n

theorem sq_next {it l : Addr} {i : Nat} {items : Array Value} {x : Value} {Q : Option Value → Shared → Prop} (hit : s.heap.IsListIter it l i) (hl : IsSq s.heap l items) (hx : items[i]? = some x)
    (hQ : ∀ h', h'.IsListIter it l (i + 1) → Heap.SameBut it s.heap h' → Q (some x) { s with heap := h' }) : wpAny (MM w) A (pyNext (.ref it)) Q E s := by
  obtain ⟨o, ho, hc, hd⟩ := id hit
  obtain ⟨ol, nl, hol, hdl⟩ := hl
  unfold pyNext
  refine wpAny_bind (wpAny_attempt (wpAny_callSpecial?_slot (name := PySem.Str.ofString "__next__") hit.typeIs slot_listiter_next (wpAny_call_entry slot_listiter_next hit.typeIs entry_listiter_next ?_ (args_listiter_next _))))
  show wpAny _ _ (field (.ref it) 0 >>= _) _ _ s
  refine wpAny_bind (wpAny_field ho hd (x := .ref l) rfl ?_)
  show wpAny _ _ (if (Value.ref l == Value.none) = true then _ else _) _ _ s
  rw [if_neg (show ¬ ((Value.ref l == Value.none) = true) from Bool.false_ne_true)]
  show wpAny _ _ (field (.ref it) 1 >>= _) _ _ s
  refine wpAny_bind (wpAny_field ho hd (x := .int i 0) rfl ?_)
  show wpAny _ _ (seqItems? (.ref l) >>= _) _ _ s
  refine wpAny_bind (wpAny_seqItems hol hdl ?_)
  simp only [Int.toNat_natCast, hx]
  refine wpAny_bind (wpAny_setField ho hd (by simp) (wpAny_pure ⟨x, rfl, wpAny_pure (hQ _ ?_ (Heap.SameBut.update ..))⟩))
  exact ⟨_, Heap.get?_update_self _ ho (Obj.isFreed_of_fields (Obj.data_mapFields hd _)), (Obj.cls_mapFields ..).trans hc, by rw [Obj.data_mapFields hd]; simp [rawInt]⟩

theorem sq_end {it l : Addr} {i : Nat} {items : Array Value} {Q : Option Value → Shared → Prop} (hh : A.handled = none) (hit : s.heap.IsListIter it l i) (hl : IsSq s.heap l items) (hx : items[i]? = none)
    (hQ : ∀ h', Heap.ExtBut it s.heap h' → Q none { s with heap := h' }) : wpAny (MM w) A (pyNext (.ref it)) Q E s := by
  obtain ⟨o, ho, hc, hd⟩ := id hit
  obtain ⟨ol, nl, hol, hdl⟩ := hl
  unfold pyNext
  refine wpAny_bind (wpAny_attempt (wpAny_callSpecial?_slot (name := PySem.Str.ofString "__next__") hit.typeIs slot_listiter_next (wpAny_call_entry slot_listiter_next hit.typeIs entry_listiter_next ?_ (args_listiter_next _))))
  show wpAny _ _ (field (.ref it) 0 >>= _) _ _ s
  refine wpAny_bind (wpAny_field ho hd (x := .ref l) rfl ?_)
  show wpAny _ _ (if (Value.ref l == Value.none) = true then _ else _) _ _ s
  rw [if_neg (show ¬ ((Value.ref l == Value.none) = true) from Bool.false_ne_true)]
  show wpAny _ _ (field (.ref it) 1 >>= _) _ _ s
  refine wpAny_bind (wpAny_field ho hd (x := .int i 0) rfl ?_)
  show wpAny _ _ (seqItems? (.ref l) >>= _) _ _ s
  refine wpAny_bind (wpAny_seqItems hol hdl ?_)
  simp only [Int.toNat_natCast, hx]
  refine wpAny_bind (wpAny_rule (wpAny_bind (wpAny_setField ho hd (by simp) ?_)))
  show wpAny _ _ (newExc (.type "StopIteration") [] >>= _) _ _ _
  refine wpAny_bind ?_
  simp only [newExc, newTuple]
  refine wpAny_bind (wpAny_newObj_type ?_ (by size_fits))
  refine wpAny_bind (m := firstArgMember _ _) (wpAny_of_eq (a := Value.none) (by first | rfl | (simp only [firstArgMember]; rfl)) ?_)
  refine wpAny_newObj_type ?_ (by size_fits)
  simp only [raiseNew]
  refine wpAny_bind (wpAny_handled ?_)
  rw [show A.in1.handled = none from hh]
  refine wpAny_bind (wpAny_pure (wpAny_throw ?_))
  refine wpAny_bind (wpAny_isInstance (T := "StopIteration") (b := true) ⟨_, Heap.get?_push_size _ rfl, rfl⟩ isSubtype_stop ?_)
  exact wpAny_pure (hQ _ (((Heap.SameBut.update ..).extBut.push _).push _))

theorem IsSq.at {h h' : Heap} {a : Addr} {items : Array Value} (x : IsSq h a items) (k : ∀ o, h.get? a = some o → h'.get? a = some o) : IsSq h' a items := let ⟨o, n, e, d⟩ := x; ⟨o, n, k o e, d⟩

theorem Walks.pile (hh : A.handled = none) (I ax : Addr) (hne : ax ≠ I) (items : Array Value) :
    Walks prg w A I [I, ax] [I] items.size (fun i v => items[i]? = some v) (fun i h => h.IsListIter I ax i ∧ IsSq h ax items) where
  sub := fun b hb => by simp at hb; simp [hb]
  frame := fun _ _ _ st hk => ⟨st.1.at fun o e => hk I (by simp) o e, st.2.at fun o e => hk ax (by simp) o e⟩
  item := fun i s Q E hi st hQ => by
    refine sq_next st.1 st.2 (x := items[i]) (by simp [hi]) fun h' hit' hs' => ?_
    exact hQ _ h' s.toks (by simp [hi]) ⟨hit', st.2.at fun o e => (hs'.2 ax hne).trans e⟩ fun b o hb e => hs'.extBut b o (fun h => hb (by simp [h])) e
  done := fun s Q E st hQ => sq_end hh st.1 st.2 (by simp) fun h' he' => hQ h' s.toks fun b o hb e => he' b o (fun h => hb (by simp [h])) e
  self := fun _ _ _ _ st hQ => wpAny_pyIter_listiter st.1 hQ
end
end Mine
open PySem PySem.W PyProof.Rows
set_option Elab.async false
set_option maxRecDepth 100000
set_option linter.unusedVariables false
namespace Mine

variable {w : World} {k : Nat} {env : Env} {ρ : Rho} {μ : List (Addr × Mu)}

section
variable {A : Around} {E : Value → Shared → Prop} {s : Shared}

theorem code67 : ∃ o, (KK w).lookup 67 = some o ∧ o.data = .fields (fieldsAt w 67) := ⟨((KK w).lookup 67).getD default, by kernel_rfl, by kernel_rfl⟩
noncomputable def f67 (w : World) : PySem.Str × Tok := match (fieldsAt w 67).getD 18 .none with | .str x t => (x, t) | _ => (("" : PySem.Str), (0 : Tok))
noncomputable def i67 (w : World) (j : Nat) : Int × Tok := match (fieldsAt w 67).getD j .none with | .int x t => (x, t) | _ => (0, (0 : Tok))
noncomputable def b67 (w : World) : Bool := match (fieldsAt w 67).getD 9 .none with | .bool x => x | _ => false

/-- the code of a generator expression: its table grows at the end -/
theorem genCode_tab {pos : Pos} {qualname : PySem.Str} {scope : Scope} {Q : Value → Shared → Prop} (hc : env.code = .ref 67) (X : (KK w).In s.heap) (t : Tab s.heap)
    (hQ : ∀ code h' tk, Gr s.heap h' → Tab h' → Q code { s with heap := h', toks := tk }) : wpAny (MM w) A (genexprCode env pos qualname scope) Q E s := by
  obtain ⟨ps, htab, htr⟩ := id t
  obtain ⟨o, ho, hd⟩ := code67 (w := w)
  have ho := X _ _ ho
  have h11 : (fieldsAt w 67).getD 11 .none = .ref 63 := by kernel_rfl
  have h2 : (fieldsAt w 67).getD 18 .none = .str (f67 w).1 (f67 w).2 := by kernel_rfl
  have h7 : (fieldsAt w 67).getD 7 .none = .int (i67 w 7).1 (i67 w 7).2 := by kernel_rfl
  have h9 : (fieldsAt w 67).getD 9 .none = .bool (b67 w) := by kernel_rfl
  have h10 : (fieldsAt w 67).getD 10 .none = .int (i67 w 10).1 (i67 w 10).2 := by kernel_rfl
  unfold genexprCode codeAt
  rw [hc, if_neg (show ¬ ((Value.ref 67 == Value.none) = true) from Bool.false_ne_true)]
  refine wpAny_bind (wpAny_fieldsOf ho hd ?_)
  rw [h11]
  refine wpAny_bind (wpAny_fieldsOf htab rfl ?_)
  cases hnf : codeAmong pos ps.toList with
  | some cv => exact wpAny_pure (hQ cv s.heap s.toks (.refl _) t)
  | none =>
    rw [h2, h7, h9, h10]
    refine wpAny_bind (wpAny_newCode fun c' P' h' tk hk hc' hP' hcode' hrec' => ?_)
    have hop' := hk _ _ htab
    refine wpAny_bind (wpAny_updateFieldsOfTheText hop' rfl ?_)
    have hnew : Obj.mapFields (fun vs => if (codeAmong pos vs.toList).isSome = true then vs else vs ++ #[rawInt pos.line, rawInt pos.col, .ref c']) (tblO ps) = tblO (ps ++ #[rawInt pos.line, rawInt pos.col, .ref c']) := by
      simp [Obj.mapFields, hnf]
    have hget := Heap.get?_update_self (h := h') (fun o => Obj.mapFields (fun vs => if (codeAmong pos vs.toList).isSome = true then vs else vs ++ #[rawInt pos.line, rawInt pos.col, .ref c']) o) hop' (by rw [hnew]; rfl)
    rw [hnew] at hget
    refine wpAny_bind (wpAny_fieldsOf hget rfl ?_)
    have hl : (ps ++ #[rawInt pos.line, rawInt pos.col, Value.ref c']).toList = ps.toList ++ [rawInt pos.line, rawInt pos.col, .ref c'] := by simp
    rw [hl, codeAmong_snoc _ htr hnf]
    refine wpAny_pure (hQ _ _ _ ⟨fun b o' hb e => (Heap.SameBut.update ..).extBut b o' hb (hk b o' e), fun ps₂ e => ?_⟩ ⟨_, hget, by rw [hl]; exact TriplesOk_snoc _ _ _ _ htr⟩)
    rw [htab] at e
    have : ps = ps₂ := by injection e with e; injection e with _ _ e; injection e
    subst this
    exact ⟨_, hget⟩

theorem args_sum2 (a b : Value) : argsOk "sum" ⟨[a, b], []⟩ := by unfold argsOk; kernel_rfl

/-- «sum(x, 0)» -/
theorem call_sum2 {x : Value} {t₀ : Tok} {Q : Value → Shared → Prop}
    (h : wpAny (MM w) A.in1 (pyIter x) (fun it s₂ => ∃ I fp wr G n P St val, it = .ref I ∧ WalksS prg w A.in1 I fp wr G n P St ∧ St 0 s₂ ∧ (∀ b ∈ fp, b < s₂.heap.objs.size) ∧ (∀ i v, P i v → ∃ t, v = .int (val i) t) ∧
      ∀ s' t', Moved wr G s₂ s' → Q (.int (preSum val n) t') s') E s) :
    wpAny (MM w) A (call (.builtin "sum") [x, .int 0 t₀]) Q E s := by
  refine call_function_tree F.kind_sum F.plain_sum F.entry_sum (args_sum2 _ _) ?_
  unfold Builtin.«sum»
  simp only [List.length_cons, List.length_nil]
  rw [if_neg (by decide)]
  refine wpAny_bind (wpAny_of_eq (show Builtin.Builtins.bindParams "sum" ["start"] 0 ⟨[.int 0 t₀], []⟩ = pure [some (.int 0 t₀)] from rfl) ?_)
  refine wpAny_bind (wpAny_mono h (fun it s₂ h₂ => ?_) fun _ _ e => e)
  obtain ⟨I, fp, wr, G, n, P, St, val, rfl, W, hst, hfp, hval, hQ⟩ := h₂
  show wpAny _ _ (ite _ _ _) _ _ _
  rw [if_pos (by decide +kernel)]
  refine wpAny_bind (wpAny_rule (wpAny_bind (wpAny_mkInt ?_)))
  refine wpAny_bind (wpAny_pure ?_)
  simp only [List.forIn_cons, List.forIn_nil]
  refine wpAny_bind (wpAny_bind (wpAny_bind (wpAny_isInstance (T := "int") (b := false) (typeIs_int _ _ _) PySem.sub_int_str ?_)))
  simp only [Bool.false_eq_true, if_false]
  refine wpAny_pure (wpAny_bind (wpAny_bind (wpAny_isInstance (T := "int") (b := false) (typeIs_int _ _ _) PySem.sub_int_bytes ?_)))
  simp only [Bool.false_eq_true, if_false]
  refine wpAny_pure (wpAny_bind (wpAny_bind (wpAny_isInstance (T := "int") (b := false) (typeIs_int _ _ _) PySem.sub_int_bytearray ?_)))
  simp only [Bool.false_eq_true, if_false]
  refine wpAny_pure (wpAny_pure ?_)
  refine wpAny_bind (wpAny_newObj_type ?_)
  have hSf : s₂.heap.objs.size ∉ fp := fun hm => Nat.lt_irrefl _ (hfp _ hm)
  refine wpAny_pure ⟨plainId_quiet F.plain_sum_loop _, codeAny_sum_loopAnyS W val hval s₂.heap.objs.size hSf n 0 _ s₂.toks 0 0 (.inl rfl) rfl (Nat.zero_le _)
    (W.frame 0 s₂ _ _ hst (by first | exact Nat.le_refl _ | exact Nat.le_succ _ | omega) fun b _ o e => Heap.get?_push_of_some _ e) (Heap.get?_push_size _ rfl) fun s' t' hm => ?_⟩
  exact hQ s' t' (hm.drop_new (by first | exact Nat.le_refl _ | exact Nat.le_succ _ | omega))
end
end Mine
open PySem PySem.W PyProof.Rows
set_option Elab.async false
set_option maxRecDepth 100000
set_option linter.unusedVariables false
namespace Mine

variable {w : World} {k : Nat} {env : Env} {ρ : Rho} {μ : List (Addr × Mu)}

section
variable {A : Around} {E : Value → Shared → Prop} {s : Shared} {W : Addr → Prop} {a dx : Addr} {vs : List Value} {n : Nat}

/-- a pile's stones as tuples -/
theorem stones_at {h : Heap} {vs : List Value} {l : List (PySem.Str × PySem.Str)} (x : DAll W h vs (l.map stoneD)) : ∃ L : List (Addr × Array Value), vs = L.map (fun p => Value.ref p.1) ∧ L.length = l.length ∧ (∀ p ∈ L, h.IsTuple p.1 p.2) ∧
    ∀ (i : Nat) (q : Addr × Array Value), L[i]? = some q → ∃ (x : PySem.Str) (t : Tok) (y : PySem.Str) (t' : Tok), l[i]? = some (x, y) ∧ q.2 = #[Value.str x t, Value.str y t'] := by
  induction l generalizing vs with
  | nil => cases x; exact ⟨[], rfl, rfl, (fun _ h => nomatch h), fun i q h => nomatch h⟩
  | cons p l ih =>
    cases x with
    | cons d r =>
      obtain ⟨L, e1, e2, e3, e4⟩ := ih r
      cases d with
      | @tup a ws _ hw ht da =>
        cases da with
        | cons d1 r1 =>
          cases r1 with
          | cons d2 r2 =>
            cases r2
            cases d1 with
            | str x t =>
              cases d2 with
              | str y t' =>
                refine ⟨(a, #[.str p.1 t, .str p.2 t']) :: L, by rw [e1]; rfl, congrArg (· + 1) e2, fun q hq => ?_, fun i q hq => ?_⟩
                · rcases List.mem_cons.mp hq with rfl | hq
                  · exact ht
                  · exact e3 q hq
                · cases i with
                  | zero => cases hq; exact ⟨_, t, _, t', rfl, rfl⟩
                  | succ i => exact e4 i q hq

theorem WalksU.pile (hh : A.handled = none) (I ax : Addr) (hne : ax ≠ I) (L : List (Addr × Array Value)) (hI : ∀ p ∈ L, p.1 ≠ I) :
    WalksU prg w A I (I :: ax :: L.map (·.1)) [I] L.length (fun i v => ∃ p, L[i]? = some p ∧ v = p.2) (fun i h => h.IsListIter I ax i ∧ IsSq h ax (L.map fun p => Value.ref p.1).toArray ∧ ∀ p ∈ L, h.IsTuple p.1 p.2) (fun i T h => (∃ p, L[i]? = some p ∧ p.1 = T) ∧ h.IsListIter I ax (i + 1) ∧ IsSq h ax (L.map fun p => Value.ref p.1).toArray ∧ ∀ p ∈ L, h.IsTuple p.1 p.2) where
  sub := fun b hb => by simp at hb; simp [hb]
  frame := fun _ _ _ st hk => ⟨st.1.at fun o e => hk I (by simp) o e, st.2.1.at fun o e => hk ax (by simp) o e, fun p hp => let ⟨o, e, r⟩ := st.2.2 p hp; ⟨o, hk _ (by simp; exact .inr (.inr ⟨_, hp⟩)) o e, r⟩⟩
  item := fun i s Q E hi st hQ => by
    obtain ⟨p, hp⟩ : ∃ p, L[i]? = some p := ⟨_, List.getElem?_eq_getElem hi⟩
    have hpm : p ∈ L := List.mem_of_getElem? hp
    refine sq_next st.1 st.2.1 (x := .ref p.1) (by simp [hp]) fun h' hit' hs' => ?_
    have tup : ∀ q ∈ L, h'.IsTuple q.1 q.2 := fun q hq => let ⟨o, e, r⟩ := st.2.2 q hq; ⟨o, (hs'.2 _ (hI q hq)).trans e, r⟩
    exact hQ p.1 p.2 h' s.toks ⟨p, hp, rfl⟩ (tup p hpm) ⟨⟨p, hp, rfl⟩, hit', st.2.1.at fun o e => (hs'.2 ax hne).trans e, tup⟩ fun b o hb e => hs'.extBut b o (fun h => hb (by simp [h])) e
  go := fun elts k pos i T s Q E hm hQ => wpAny_letOwnedTupleGo_listiter hm.2.1 (hQ s.heap hm.2 fun _ _ _ e => e)
  apart := fun i T h hm q => by
    obtain ⟨⟨p, hp, rfl⟩, _⟩ := hm
    exact hI p (List.mem_of_getElem? hp) (List.mem_singleton.mp q)
  done := fun s Q E st hQ => sq_end hh st.1 st.2.1 (by simp) fun h' he' => hQ h' s.toks fun b o hb e => he' b o (fun h => hb (by simp [h])) e
  self := fun _ _ _ _ st hQ => wpAny_pyIter_listiter st.1 hQ

/-- «self._initial_size» -/
theorem acc_size {hsh : Int} {t t' : Tok} {expr : Bool} {Q : Value → Shared → Prop} (X : (KK w).In s.heap) (e : s.heap.get? a = some (accO dx vs n)) (ed : s.heap.get? dx = some (accD hsh t t')) (h : Q (.int 0 t') { s with toks := s.toks + 1 }) :
    wpAny (MM w) A (getAttr (.ref a) "_initial_size" expr) Q E s := by
  have I := acc_inst e ed
  have hf : findObj (KK w) 101 (some (accD hsh t t')) "_initial_size" = some (.value (.int 0 t')) := by kernel_rfl
  obtain ⟨hh', g, d, tk, os⟩ := s
  have L0 := I.type (M := MM w)
  have L1 := looks_findIn (M := MM w) X (show findIn (KK w) (.ref 101) "__getattribute__" = some (some (.builtin "list.__getattribute__")) by kernel_rfl)
  have L2 := looks_find (M := MM w) X I hf
  unfold getAttr getAttrBy
  refine wpAny_bind (wpAny_mkText (wpAny_holding (wpAny_bind (L0.at (wpAny_bind (L1.at ?_))))))
  have Lg := looks_findIn (M := MM w) X (show findIn (KK w) (.ref 101) "__getattr__" = some none by kernel_rfl)
  show wpAny _ _ (getAttrByItsOwn (.ref a) (.str "_initial_size" tk) (.ref 101) (.builtin "list.__getattribute__") true expr) _ _ _
  unfold getAttrByItsOwn hookBefore callGetattribute boundAndCalled
  have f4 := F.slot_list_getattribute.bind (.ref a)
  have hon : (expr && onTheHeap (.builtin "list.__getattribute__")) = false := by cases expr <;> rfl
  refine wpAny_bind (Lg.at (wpAny_bind (wpAny_attempt (wpAny_holding ?_))))
  rw [hon, if_neg Bool.false_ne_true]
  refine wpAny_bind (wpAny_of_eq f4 ?_)
  refine wpAny_mono (Q := fun v s' => v = .int 0 t' ∧ s' = ⟨hh', g, d, tk + 1, os⟩) (E := fun _ _ => False) (wpAny_call (codeAny_call_builtin (by decide +kernel) am_entry_list_getattribute (@check_slot (MM w) _ _ _ "list.__getattribute__" "list" "__getattribute__" (.ref a) [.str "_initial_size" tk] [] _ (by decide +kernel) (by decide +kernel) (acc_isInstance (M := MM w) X e) (F.args_list_getattribute_2 _ _) ?_))) (fun v s' hv => ?_) fun _ _ z => z.elim
  · show wpAny _ _ (Builtin.«object.__getattribute__» ⟨[.ref a, .str "_initial_size" tk], []⟩) _ _ _
    refine wpAny_bind (wpAny_pure (wpAny_bind (wpAny_pure (wpAny_bind (L0.at (wpAny_bind (L2.at ?_)))))))
    exact wpAny_pure ⟨rfl, rfl⟩
  · obtain ⟨rfl, rfl⟩ := hv
    show wpAny _ _ (handedOut _) _ _ _
    rw [handedOut_of rfl]; exact wpAny_pure h
end
end Mine
open PySem PySem.W PyProof.Rows
set_option Elab.async false
set_option maxRecDepth 100000
set_option linter.unusedVariables false
namespace Mine

variable {w : World} {k : Nat} {env : Env} {ρ : Rho} {μ : List (Addr × Mu)}

section
variable {A : Around} {E : Value → Shared → Prop} {s : Shared} {a dx : Addr}

/-- a written builtin's name -/
theorem blt_name {x : PySem.Str} {v : Value} {p : Pos} {Q : Value → Shared → Prop} (tx : Tx w s.heap) (hk : env.scope.kind = .function) (hx : env.kindOf x = some .globalImplicit) (hg : env.globals = mainGlobals) (hb : env.builtins = builtinsNs)
    (e : nsIn (KK w) mainGlobals x = some none) (hv : bootBuiltins x = some v) (hn : x ≠ "__name__") (hd : (x == ("__debug__" : PySem.Str)) = false) (h : Q v s) : wpAny (MM w) A (eval (.Name x p) env) Q E s := by
  obtain ⟨mg, hg'⟩ := tx.g
  obtain ⟨mb, hb', hz⟩ := tx.b
  refine wpAny_Name ?_ hd
  rw [loadName_read hk hx]
  exact Calls.loadGlobal_builtin (by rw [hg]; exact hg') (mg_none_of tx.k hg' e) (by rw [hb]; exact hb') ((hz x hn).trans hv) h

/-- «len(x)» of a text -/
theorem len_of {x y : PySem.Str} {t : Tok} {p q r : Pos} {m : PySem.Str → Option Value} {Q : Value → Shared → Prop} (tx : Tx w s.heap) (hk : env.scope.kind = .function) (hx : env.kindOf "len" = some .globalImplicit) (hg : env.globals = mainGlobals) (hb : env.builtins = builtinsNs)
    (hl : env.kindOf x = some .local) (hn : s.heap.Ns env.locals m) (hm : m x = some (.str y t)) (hd : (x == ("__debug__" : PySem.Str)) = false) (hz : y.length ≤ sizeLine) (h : Q (.int y.length (s.toks + 1)) { s with toks := s.toks + 1 + 1 }) :
    wpAny (MM w) A (eval (.Call (.Name "len" p) [.Name x q] [] r) env) Q E s := by
  refine wpAny_Call_NameR (blt_name tx hk hx hg hb (by kernel_rfl) (show bootBuiltins "len" = some (.builtin "len") by kernel_rfl) (by decide) (by decide) ?_)
  refine callWith_of (.blt "len") (by rfl) ?_
  rw [show starEach [.Name x q] env = [(false, eval (.Name x q) env)] from rfl]
  show wpAny _ _ (spliced [(false, eval (.Name x q) env)]) _ _ _
  refine Calls.spliced_cons (wpAny_Name (wpAny_loadName_local hk hl hn hm ?_) hd)
  refine Calls.spliced_nil ⟨tx, ?_⟩
  exact PySem.P.len_str (nge63 hz) h
end

def lenAt (l : List (PySem.Str × PySem.Str)) (i : Nat) : Int := match l[i]? with | some p => (p.1.length : Int) + p.2.length | none => 0

theorem passing_all (n : Nat) : passing (fun _ => true) n 0 = List.range n := by
  unfold passing; simp

abbrev lenElt (p1 p2 p3 p4 p5 p6 p7 : Pos) : Expr := .BinOp (.Call (.Name "len" p1) [.Name "fws" p2] [] p3) .Add (.Call (.Name "len" p4) [.Name "part" p5] [] p6) p7

set_option maxHeartbeats 2000000 in
theorem len_quiet {s₄ : Shared} {I C : Addr} {wr : List Addr} {L : List (Addr × Array Value)} {l : List (PySem.Str × PySem.Str)} {scope : Scope} {code : Value} {href : Heap} {p1 p2 p3 p4 p5 p6 p7 : Pos} (tx : Tx w s₄.heap) (hI : Own w I)
    (hsc : scope.kind = .function) (h1 : scope.names.lookup ("fws" : PySem.Str) = some .local) (h2 : scope.names.lookup ("part" : PySem.Str) = some .local) (h3 : scope.names.lookup ("len" : PySem.Str) = some .globalImplicit) (hg : env.globals = mainGlobals)
    (hL : ∀ (i : Nat) (q : Addr × Array Value), L[i]? = some q → ∃ (x : PySem.Str) (t : Tok) (y : PySem.Str) (t' : Tok), l[i]? = some (x, y) ∧ q.2 = #[Value.str x t, Value.str y t']) (hz : ∀ p ∈ l, p.1.length ≤ sizeLine ∧ p.2.length ≤ sizeLine)
    (hr : ∀ b o, s₄.heap.get? b = some o → href.get? b = some o) :
    QuietGenT prg w (genEnv scope [] C code builtinsNs env) "fws" "part" [] (lenElt p1 p2 p3 p4 p5 p6 p7) (List.range s₄.heap.objs.size) [I] (fun i v => ∃ p, L[i]? = some p ∧ v = p.2) (fun _ => true) (fun i v => ∃ t, v = .int (lenAt l i) t) href where
  tests := fun A' E' i va vb s₂ m₂ hh hP hn hm1 hm2 hk => wpAny_tests_nil ⟨rfl, s₂.heap, s₂.toks, rfl, fun _ _ e => e⟩
  elt := fun A' E' i va vb s₂ m₂ hh hP _ hn hm1 hm2 hk => by
    obtain ⟨q, hq, e⟩ := hP
    obtain ⟨x, t, y, t', hl, e2⟩ := hL i q hq
    rw [e2] at e
    have e3 : va = .str x t ∧ vb = .str y t' := by
      have := congrArg Array.toList e
      simpa using this
    obtain ⟨rfl, rfl⟩ := e3
    have tx₂ : Tx w s₂.heap := tx.at fun b o nb e => by
      refine hk b (List.mem_range.mpr (Heap.lt_size e)) (fun q => nb (List.mem_singleton.mp q ▸ hI)) o (hr b o e)
    have hzz := hz _ (List.mem_of_getElem? hl)
    refine wpAny_BinOp (len_of (env := genEnv scope [] C code builtinsNs env) tx₂ hsc h3 hg rfl h1 hn hm1 (by decide) hzz.1 ?_)
    refine len_of (env := genEnv scope [] C code builtinsNs env) (s := { s₂ with toks := s₂.toks + 1 + 1 }) tx₂ hsc h3 hg rfl h2 hn hm2 (by decide) hzz.2 ?_
    have hL' : lenAt l i = (x.length : Int) + y.length := by unfold lenAt; rw [hl]
    refine add_int ⟨?_, s₂.heap, _, rfl, fun _ _ e => e⟩
    rw [hL']
    exact ⟨_, rfl⟩
end Mine
open PySem PySem.W PyProof.Rows
set_option Elab.async false
set_option maxRecDepth 100000
set_option linter.unusedVariables false
namespace Mine

variable {w : World} {k : Nat} {env : Env} {ρ : Rho} {μ : List (Addr × Mu)}

theorem preSum_two (l : List (PySem.Str × PySem.Str)) (h1 : ∀ p ∈ l, p.1.length = 1 ∧ p.2.length = 1) (n : Nat) : n ≤ l.length → preSum (lenAt l) n = 2 * (n : Int) := by
  induction n with
  | zero => exact fun _ => rfl
  | succ n ih =>
    intro hn
    have hp : l[n]? = some l[n] := List.getElem?_eq_getElem hn
    have := h1 _ (List.getElem_mem hn)
    rw [preSum, ih (Nat.le_of_succ_le hn)]
    unfold lenAt
    rw [hp]
    simp only [this.1, this.2]
    exact dblS

set_option maxHeartbeats 4000000 in
theorem fn_acc_len {a dx : Addr} {l : List (PySem.Str × PySem.Str)} (hm : (a, Mu.acc dx l) ∈ μ) (h1 : ∀ p ∈ l, p.1.length = 1 ∧ p.2.length = 1) : Fn w (k + 1) μ (.ref 68) [.obj a] (.int (2 * l.length)) := by
  intro W A E s vs Q ok bs dv h
  cases dv with
  | cons x r =>
    cases r
    cases x
    obtain ⟨⟨vs, n, e, da⟩, hne, hsh, t, t', ed⟩ := bs.mu _ hm
    have oa := (bs.mu _ hm).off bs.tab
    have od := oa.2 _ _ rfl
    refine wpAny_call (ks_codeAny_call_defAt (o := fnO w 68) (fd := fdO w 68) (binds := [("self", .ref a)]) (dp0 ok.dp) (bs.tx.k _ _ (by kernel_rfl)) (by kernel_rfl) bs.tx.nl (codeRec_of bs.tx.k (by kernel_rfl)) rfl (BindsTo.of_eq (by kernel_rfl)) (alls_ok (by kernel_rfl)) (fun x hx => by rw [List.mem_singleton.mp hx]; kernel_rfl) (fun h₀ hns hk => ?_) (by kernel_rfl) (by kernel_rfl) (by kernel_rfl))
    have bs₀ : Bs w W μ { s with heap := h₀, toks := s.toks + 1 } := bs.keep hk
    refine wpAt_of_wpAny ?_
    refine wpAny_execs_cons (wpAny_Return_some ?_)
    refine wpAny_Call_NameR (blt_name bs₀.tx (by kernel_rfl) (by kernel_rfl) (by kernel_rfl) (by kernel_rfl) (by kernel_rfl) (show bootBuiltins "sum" = some (.builtin "sum") by kernel_rfl) (by decide) (by decide) ?_)
    refine callWith_of (.blt "sum") rfl ?_
    rw [show starEach _ _ = [(false, eval _ _), (false, eval _ _)] from rfl]
    show wpAny _ _ (spliced [(false, eval _ _), (false, eval _ _)]) _ _ _
    refine Calls.spliced_cons ?_
    have hdep : (A.deeper (callEnv (fdO w 68) s.heap.objs.size 68)).depth < recursionLimit := dp0 (dp1 ok.dp)
    refine wpAny_GeneratorExp_walksQT (cl := []) ok.hh rfl (closureFor_none (by decide)) (by decide) (by decide) (by decide) (by decide) (by decide) rfl hdep ?_ (fun _ => rfl)
    refine wpAny_Name (wpAny_loadName_local (by kernel_rfl) (by kernel_rfl) hns rfl ?_) (by decide)
    refine acc_pyIter bs₀.tx.k (hk _ _ e) ⟨?_, ?_⟩
    · exact (bs₀.push (tk := s.toks + 1) _).tx.nl
    have b₁ : Bs w W μ { s with heap := h₀.push { cls := .type "list_iterator", data := .fields #[.ref a, rawInt 0] }, toks := s.toks + 1 } := bs₀.push (tk := s.toks + 1) _
    have hI1 : (h₀.push { cls := .type "list_iterator", data := .fields #[.ref a, rawInt 0] }).IsListIter h₀.objs.size a 0 := ⟨_, Heap.get?_push_size _ rfl, rfl, rfl⟩
    have up1 : ∀ y o, h₀.get? y = some o → (h₀.push { cls := .type "list_iterator", data := .fields #[.ref a, rawInt 0] }).get? y = some o := fun y o ey => Heap.get?_push_of_some _ ey
    have nI : h₀.get? h₀.objs.size = none := get_size h₀
    have ownI : Own w h₀.objs.size := bs₀.tx.fresh nI
    generalize hH : h₀.push { cls := .type "list_iterator", data := .fields #[.ref a, rawInt 0] } = H at *
    generalize hIe : h₀.objs.size = I at *
    have hIt : I ≠ tblA := fun q => by obtain ⟨ps, tt, _⟩ := bs₀.tab; rw [← q, nI] at tt; cases tt
    refine genCode_tab (by kernel_rfl) b₁.tx.k b₁.tab fun code h₂ tk₂ gr₂ tab₂ => ?_
    dsimp only at gr₂
    have b₂ : Bs w W μ { s with heap := h₂, toks := tk₂ } := b₁.go ⟨gr₂, rfl⟩ tab₂ bs.bare
    have hks : ∀ b o, b ≠ tblA → s.heap.get? b = some o → h₂.get? b = some o := fun b o nb eb => gr₂.keep b o nb (up1 _ _ (hk _ _ eb))
    obtain ⟨L, eL, lenL, tupL, strL⟩ := stones_at da
    have inS : ∀ b, s.heap.get? b ≠ none → b ≠ I := fun b hb q => by
      cases eb : s.heap.get? b with
      | none => exact hb eb
      | some o => rw [q] at eb; rw [hk _ _ eb] at nI; cases nI
    have tupN : ∀ p ∈ L, p.1 ≠ I ∧ p.1 ≠ tblA := fun p hp => by
      obtain ⟨o, eo, hc, nn, hd⟩ := tupL p hp
      refine ⟨inS _ (by rw [eo]; exact Option.some_ne_none _), fun q => ?_⟩
      obtain ⟨ps, tt, _⟩ := bs.tab
      rw [q, tt] at eo; cases eo; cases hd
    have tup2 : ∀ p ∈ L, h₂.IsTuple p.1 p.2 := fun p hp => let ⟨o, eo, r⟩ := tupL p hp; ⟨o, hks _ _ (tupN p hp).2 eo, r⟩
    have haI : a ≠ I := inS a (by rw [show s.heap.get? a = some (accO dx vs n) from e]; exact Option.some_ne_none _)
    have ea2 : h₂.get? a = some (accO dx vs n) := hks _ _ oa.1 e
    have hI2 : h₂.IsListIter I a 0 := let ⟨o, eo, r⟩ := hI1; ⟨o, gr₂.keep _ _ hIt eo, r⟩
    obtain ⟨mg, hmg⟩ := b₂.tx.g
    obtain ⟨bo, hbo, hb1, hb2, hb3⟩ := b₂.tx.bm
    refine wpAny_builtinsFor (bm := 4) (m := mg) (o := bo) (by rw [show (callEnv (fdO w 68) s.heap.objs.size 68).globals = mainGlobals by kernel_rfl]; exact hmg) (mg_of b₂.tx.k hmg (show nsIn (KK w) mainGlobals "__builtins__" = some (some (.ref 4)) by kernel_rfl)) (by decide) hbo hb1 hb2 hb3 ?_
    have hlz : ∀ p ∈ l, p.1.length ≤ sizeLine ∧ p.2.length ≤ sizeLine := fun p hp => by rw [(h1 p hp).1, (h1 p hp).2, sizeLine_eq]; exact ⟨by decide, by decide⟩
    refine ⟨I, I :: a :: L.map (·.1), [I], L.length, fun i v => ∃ p, L[i]? = some p ∧ v = p.2, _, _, fun _ => true, fun i v => ∃ t, v = .int (lenAt l i) t, rfl, fun A' hA' => WalksU.pile hA' I a haI L fun p hp => (tupN p hp).1, ?_, ⟨hI2, ⟨_, n, ea2, by rw [eL]⟩, tup2⟩, ?_, b₂.tx.nl, ?_, ?_, ?_⟩
    · rintro i vals ⟨p, hp, rfl⟩
      obtain ⟨x, t, y, t', _, e2⟩ := strL i p hp
      exact ⟨_, _, e2⟩
    · intro b hb
      rcases List.mem_cons.mp hb with rfl | hb
      · obtain ⟨o, eo, _⟩ := hI2; exact Heap.lt_size eo
      · rcases List.mem_cons.mp hb with rfl | hb
        · exact Heap.lt_size ea2
        · obtain ⟨p, hp, rfl⟩ := List.mem_map.mp hb
          obtain ⟨o, eo, _⟩ := tup2 p hp; exact Heap.lt_size eo
    · intro q
      have := ownI.n.2.1
      exact this (List.mem_singleton.mp q).symm
    · intro href hr
      exact len_quiet (wr := [I]) b₂.tx ownI rfl (by decide) (by decide) (by decide) (by kernel_rfl) strL hlz hr
    intro g h₅ tk gs hbare hg5 hsz5 keep5 W5 G5
    have hn5 : h₅.Ns s.heap.objs.size (fun x => List.lookup x [(("self" : PySem.Str), Value.ref a)].reverse) := by
      obtain ⟨o, es, ep, ho, hd, r⟩ := hns
      obtain ⟨ps, tt, _⟩ := bs₀.tab
      exact ⟨o, es, ep, keep5 _ _ (gr₂.keep _ _ (by intro c; rw [c, tt] at ho; cases ho; cases hd) (up1 _ _ ho)), hd, r⟩
    have b₅ : Bs w W μ { s with heap := h₅, toks := tk, gens := s.gens.push gs } := b₂.go ⟨.of keep5, rfl⟩ (let ⟨ps, e, r⟩ := tab₂; ⟨ps, keep5 _ _ e, r⟩) (bs.bare.push hbare)
    have ea5 : h₅.get? a = some (accO dx vs n) := keep5 _ _ ea2
    have ed5 : h₅.get? dx = some (accD hsh t t') := keep5 _ _ (hks _ _ od ed)
    refine Calls.spliced_cons ?_
    refine Attribute_name ?_
    refine wpAny_Name (wpAny_loadName_local (by kernel_rfl) (by kernel_rfl) hn5 rfl ?_) (by decide)
    refine acc_size b₅.tx.k ea5 ed5 ?_
    refine Calls.spliced_nil ⟨b₅.tx, ?_⟩
    dsimp only at hg5 keep5 hsz5
    have G6 := W5.frame 0 _ h₅ (tk + 1) G5 (Nat.le_succ _) fun _ _ _ e => e
    refine call_sum2 ?_
    refine W5.in4_1.self 0 _ _ _ G6 ?_
    have hC : ∀ b, s.heap.get? b ≠ none → b ≠ tblA → b ≠ h₂.objs.size := fun b hb nb q => by
      cases eb : s.heap.get? b with
      | none => exact hb eb
      | some o => exact absurd (q ▸ Heap.lt_size (hks b o nb eb)) (Nat.lt_irrefl _)
    have hn : (passing (fun _ => true) L.length 0).length = l.length := by rw [passing_all, List.length_range, lenL]
    refine ⟨g, _, _, _, _, _, _, lenAt l, rfl, W5.in4_1, G6, ?_, ?_, fun s' t₆ hmv => ?_⟩
    · intro b hb
      show b < h₅.objs.size
      rw [hsz5]
      rcases List.mem_cons.mp hb with rfl | hb
      · exact Nat.lt_succ_self _
      · rcases List.mem_cons.mp hb with rfl | hb
        · exact Nat.lt_succ_of_lt hg5
        · exact Nat.lt_succ_of_lt (Nat.lt_trans (List.mem_range.mp hb) hg5)
    · rintro i v ⟨j, hj, t, rfl⟩
      rw [passing_all] at hj
      have : j = i := by
        obtain ⟨hlt, e⟩ := List.getElem?_eq_some_iff.mp hj
        simpa using e.symm
      exact ⟨t, by rw [this]⟩
    · rw [hn, preSum_two l h1 _ (Nat.le_refl _)]
      have kp : ∀ b o, b ≠ tblA → s.heap.get? b = some o → s'.heap.get? b = some o := fun b o nb eb => by
        have ne : s.heap.get? b ≠ none := by rw [eb]; exact Option.some_ne_none _
        refine hmv.heap b o (fun q => ?_) (keep5 _ _ (hks _ _ nb eb))
        rcases List.mem_cons.mp q with q | q
        · exact hC b ne nb q
        · exact inS b ne (List.mem_singleton.mp q)
      have tw : tblA ∉ h₂.objs.size :: [I] := fun q => by
        obtain ⟨ps, tt, _⟩ := tab₂
        rcases List.mem_cons.mp q with q | q
        · exact absurd (q ▸ Heap.lt_size tt) (Nat.lt_irrefl _)
        · exact hIt (List.mem_singleton.mp q).symm
      have go : Go s s' := ⟨⟨kp, fun ps e => by
        obtain ⟨m, e⟩ := gr₂.tab ps (up1 _ _ (hk _ _ e))
        exact ⟨m, hmv.heap _ _ tw (keep5 _ _ e)⟩⟩, hmv.os⟩
      have tb : Tab s'.heap := let ⟨ps, e, r⟩ := tab₂; ⟨ps, hmv.heap _ _ tw (keep5 _ _ e), r⟩
      exact h _ s' (bs.go go tb (hmv.gens.bare (bs.bare.push hbare))) go (.int _ _)
end Mine
open PySem PySem.W PyProof.Rows
set_option Elab.async false
set_option maxRecDepth 100000
set_option linter.unusedVariables false
namespace Mine

variable {w : World} {k k' : Nat} {env : Env} {ρ : Rho} {μ : List (Addr × Mu)}

theorem AOk.le {A : Around} (x : AOk k' A) (h : k ≤ k') : AOk k A := ⟨x.hh, Nat.lt_of_le_of_lt (Nat.add_le_add_left h _) x.dp, Nat.lt_of_le_of_lt (Nat.add_le_add_right (Nat.add_le_add_left (Nat.mul_le_mul_left 100 h) _) 100) x.un⟩
theorem Fn.up {f : Value} {ds : List D} {d : D} (x : Fn w k μ f ds d) (h : k ≤ k') : Fn w k' μ f ds d := fun W A E s vs Q ok => x W A E s vs Q (ok.le h)
theorem Fx.up {f : Value} {ds : List D} {a : Addr} {μ' : List (Addr × Mu)} {d : D} (x : Fx w k μ f ds a μ' d) (h : k ≤ k') : Fx w k' μ f ds a μ' d := fun W A E s vs Q ok => x W A E s vs Q (ok.le h)

/-- a method called with no arguments, its tree -/
def MTree (o : Expr) (name : PySem.Str) (apos pos : Pos) (args : List Expr) (env : Env) : Prop :=
  ∃ pl : Sem Bool, eval (.Call (.Attribute o name apos) args [] pos) env = (do
      let ov ← eval o env
      standAt apos.atName
      let (f, first) ← holding [ov] (getMethod ov name pl)
      callWith pos f first (backTo pos (starEach args env)) [])

theorem acc_of {W : Addr → Prop} {s : Shared} {a dx : Addr} {l : List (PySem.Str × PySem.Str)} (b : Bs w W μ s) (hm : (a, Mu.acc dx l) ∈ μ) : ∃ vs n hsh t t', s.heap.get? a = some (accO dx vs n) ∧ DAll W s.heap vs (l.map stoneD) ∧ s.heap.get? dx = some (accD hsh t t') := by
  obtain ⟨⟨vs, n, e, r⟩, _, hsh, t, t', q⟩ := b.mu _ hm
  exact ⟨vs, n, hsh, t, t', e, r, q⟩

theorem Ev.meth0 {o : Expr} {name : PySem.Str} {apos pos : Pos} {a dx f : Addr} {l : List (PySem.Str × PySem.Str)} {d : D} (ho : Ev w k env ρ μ o (.obj a)) (hm : (a, Mu.acc dx l) ∈ μ)
    (hf : findIn (KK w) (.ref 101) name = some (some (.ref f))) (ht : typeIn (KK w) (.ref f) = some (.type "function")) (hn : ("_initial_size" == name) = false) (hlk : (KK w).lookup f = some (fnO w f)) (hda : (fnO w f).data = .func (fdO w f)) (hc : Fn w k μ (.ref f) [.obj a] d)
    (he : MTree o name apos pos [] env) : Ev w k env ρ μ (.Call (.Attribute o name apos) [] [] pos) d := by
  intro W A E s Q ok st h
  obtain ⟨pl, he⟩ := he
  rw [he]
  refine wpAny_bind (ho W A E s _ ok st fun v s₁ st₁ g₁ d₁ => ?_)
  cases d₁
  obtain ⟨vs, n, hsh, t, t', e, da, ed⟩ := acc_of st₁.toBs hm
  refine wpAny_bind (wpAny_standAt (wpAny_bind (wpAny_holding ?_)))
  refine acc_getMethod st₁.tx.k e ed hf ht (by decide) hn ?_
  refine callWith_fn st₁.tx hlk hda ?_
  exact hc W A E s₁ _ _ ok st₁.toBs (.cons (.obj a) .nil) fun v s₂ b₂ g₂ d₂ => h v s₂ (st₁.go g₂ b₂) (g₁.trans g₂) d₂

theorem Fn.lenPile {a dx : Addr} {l : List (PySem.Str × PySem.Str)} (hm : (a, Mu.acc dx l) ∈ μ) (h1 : ∀ p ∈ l, p.1.length = 1 ∧ p.2.length = 1) (hz : l.length ≤ 1000) : Fn w (k + 2) μ (.builtin "len") [.obj a] (.int (2 * l.length)) := by
  intro W A E s vs Q ok bs dv h
  cases dv with
  | cons x r =>
    cases r
    cases x
    obtain ⟨vs, n, hsh, t, t', e, da, ed⟩ := acc_of bs hm
    refine Calls.call_function_entry kind_len plain_len entry_len (args_len1 _) ?_
    unfold Builtin.«len»
    refine wpAny_bind (m := oneArg "len" _) (wpAny_pure ?_)
    refine wpAny_bind (m := callSpecial? (.ref a) (PySem.Str.ofString "__len__")) ?_
    refine special_fn (args := []) bs.tx.k (acc_inst e ed) (show findIn (KK w) (.ref 101) "__len__" = some (some (.ref 68)) by kernel_rfl) (by kernel_rfl) ?_
    refine fn_acc_len (k := k) hm h1 W _ _ _ _ _ ⟨ok.hh, Nat.lt_of_le_of_lt (Nat.add_le_add_left (Nat.le_succ _) _) ok.dp, unS ok.un 1 (by decide)⟩ bs (.cons (.obj a) .nil) fun v s₁ b₁ g₁ d₁ => ?_
    cases d₁ with
    | int _ tv =>
      refine wpAny_bind (wpAny_holding (wpAny_pure ?_))
      refine wpAny_bind (wpAny_letGo ?_)
      show wpAny _ _ (if ((2 * l.length : Int)) < 0 then _ else _) _ _ _
      rw [if_neg nneg]
      show wpAny _ _ (if ((2 * l.length : Int)) ≥ 2 ^ 63 then _ else _) _ _ _
      rw [if_neg (dbl63 hz)]
      exact wpAny_bind (wpAny_mkInt (wpAny_pure ⟨_, rfl, h _ _ b₁.tok (g₁.trans .tok) (.int _ _)⟩))

/-- over a pile -/
theorem Src.pile {e : Expr} {x : PySem.Str} {p : Pos} {a dx : Addr} {l : List (PySem.Str × PySem.Str)} (he : Ev w k env ρ μ e (.obj a)) (hm : (a, Mu.acc dx l) ∈ μ) : Src w k env ρ μ e (.Name x p) l.length (bd1 x fun i => stoneD (l.getD i ("", ""))) := by
  intro W A E s Q ok st h
  refine he W A E s _ ok st fun v s₁ st₁ g₁ d₁ => ?_
  cases d₁
  obtain ⟨vs, n, hsh, t, t', e, da, ed⟩ := acc_of st₁.toBs hm
  refine acc_pyIter st₁.tx.k e ?_
  have hn := get_size s₁.heap
  generalize hO : ({ cls := .type "list_iterator", data := .fields #[.ref a, rawInt 0] } : Obj) = O
  have hk : ∀ b o, s₁.heap.get? b = some o → (s₁.heap.push O).get? b = some o := fun _ _ e => Heap.get?_push_of_some _ e
  have hI : (s₁.heap.push O).get? s₁.heap.objs.size = some O := Heap.get?_push_size _ (by rw [← hO]; rfl)
  have xf : ∀ b, b ∈ [s₁.heap.objs.size] → s₁.heap.get? b = none := fun b hb => by rw [List.mem_singleton.mp hb]; exact hn
  have xl : ∀ b, b ∈ [s₁.heap.objs.size] → ∃ o, (s₁.heap.push O).get? b = some o := fun b hb => by rw [List.mem_singleton.mp hb]; exact ⟨_, hI⟩
  have hne : a ≠ s₁.heap.objs.size := Nat.ne_of_lt (Heap.lt_size e)
  have hlen := da.length
  rw [List.length_map] at hlen
  have oa := (st₁.mu _ hm).off st₁.tab
  refine h _ (fun b => W b ∨ b ∈ [s₁.heap.objs.size]) _ [s₁.heap.objs.size] [s₁.heap.objs.size, a] (fun i h => h.IsListIter s₁.heap.objs.size a i ∧ IsSq h a vs.toArray) (fun W h => DAll W h vs (l.map stoneD)) (g₁.trans (.of (tk := s₁.toks) hk)) (fun _ => Iff.rfl)
    (st₁.wide (tk := s₁.toks) hk (fun _ => Iff.rfl) xf xl) (fun b hb => g₁.none st₁.tab (xf b hb)) ?_ ⟨⟨_, hI, by rw [← hO]; exact ⟨rfl, rfl⟩⟩, ⟨_, n, hk _ _ e, rfl⟩⟩ (da.pr fun b o n e _ => ⟨hk b o e, fun q => ?_⟩) fun B hB => ?_
  · intro b hb
    rcases List.mem_cons.mp hb with rfl | hb
    · exact .inl (List.mem_singleton.mpr rfl)
    · rw [List.mem_singleton.mp hb]
      exact .inr ⟨oa.1, .inr ⟨rfl, _, hm⟩, _, hk _ _ e, .inl ⟨_, _, rfl⟩⟩
  · rcases q with q | q
    · exact n q
    · rw [xf _ q] at e; cases e
  · have K := Walks.pile (w := w) hB s₁.heap.objs.size a hne vs.toArray
    have e2 : vs.toArray.size = l.length := by rw [List.size_toArray, hlen]
    rw [e2] at K
    refine Dr.ofWalks K (fun i h is b hb => by rw [List.mem_singleton.mp hb]; exact iter_alive is.1) (fun W W' h h' pr x => x.pr pr) fun W i h v hi x hv => ?_
    obtain ⟨d, e, dv⟩ := x.getV (k := i) (v := v) (by simpa using hv)
    rw [List.getElem?_map] at e
    cases hp : l[i]? with
    | none => rw [hp] at e; cases e
    | some q => rw [hp] at e; cases e; rw [List.getD_eq_getElem?_getD, hp]; exact dv
end Mine
open PySem PySem.W PyProof.Rows
set_option Elab.async false
set_option maxRecDepth 100000
set_option linter.unusedVariables false
namespace Mine

variable {w : World} {k k' : Nat} {env : Env} {ρ : Rho} {μ : List (Addr × Mu)}

theorem outL_range (n : Nat) (f : Nat → D) : outL n (fun _ => true) (fun j => [f j]) = (List.range n).map f := by
  unfold outL
  simp only [if_true]
  induction List.range n with
  | nil => rfl
  | cons x l ih => simp [List.flatMap_cons, ih]
theorem range_getD {α : Type} (l : List α) (d : α) (g : α → D) : (List.range l.length).map (fun j => g (l.getD j d)) = l.map g := by
  apply List.ext_getElem
  · simp
  · intro i h1 h2
    simp only [List.length_map] at h2
    simp [List.getElem?_eq_getElem h2]

/-- a list comprehension of one clause -/
theorem Ev.comp1 {elt target iter : Expr} {ifs : List Expr} {scope : Scope} {pos : Pos} {n : Nat} {bd : Nat → Rho} {p : Nat → Bool} {f : Nat → D} {L : List D}
    (hsrc : Src w k env ρ μ iter target n bd) (htg : ∀ C, Tgt (cEnv scope env C) target)
    (htest : ∀ C j, j < n → Te w k (cEnv scope env C) (bd j ++ fr scope ρ) μ ifs (p j)) (he : ∀ C j, j < n → p j = true → Ev w k (cEnv scope env C) (bd j ++ fr scope ρ) μ elt (f j)) (hL : outL n p (fun j => [f j]) = L) (hz : L.length ≤ sizeLine)
    (hkind : scope.kind = .function) (sc : scB scope env = true) (hfr : ((tn target).all fun x => !(scope.names.lookup x == some .free)) = true)
    (hs : ∀ x, foldedSetIterable iter env x = pure x) : Ev w k env ρ μ (.ListComp elt [⟨target, iter, ifs, 0⟩] scope pos) (.lst L) := by
  subst hL
  refine Ev.compG (bs := []) (em := fun Dl env' => emB elt Dl env') hsrc hkind (Sc.of sc) htg (fun C I Dl => rfl) (fun x hx q => ?_) htest (fun C Dl j hj hp => Em.base (he C j hj hp)) hz hs
  rw [List.append_nil] at hx
  have := List.all_eq_true.mp hfr x hx
  rw [q] at this; simp at this

structure Pile where
  a : Addr
  dx : Addr
  l : List (PySem.Str × PySem.Str)
def PIn (μ : List (Addr × Mu)) (ps : List Pile) : Prop := ∀ p ∈ ps, (p.a, Mu.acc p.dx p.l) ∈ μ
abbrev pilesD (ps : List Pile) : D := .lst (ps.map fun p => .obj p.a)
abbrev laidD (ls : List (List (PySem.Str × PySem.Str))) : D := .lst (ls.map fun l => .lst (l.map stoneD))
abbrev noPile : Pile := ⟨0, 0, []⟩

theorem par1 {w : World} {f : Addr} {x : PySem.Str} (h : ∀ v, bindArgs (fdO w f) ⟨[v], []⟩ = pure [(x, v)]) (hk : (fdO w f).scope.names.lookup x = some .local ∨ ((fdO w f).scope.names.lookup x = some .cell ∧ ∀ n, ((cellsFrom n (fdO w f).scope.names []).lookup x).isSome = true)) : Par (fdO w f) [x] :=
  ⟨fun vs hv => by
    cases vs with
    | nil => exact Nat.noConfusion hv
    | cons v vs =>
      cases vs with
      | nil => exact h v
      | cons _ _ => exact Nat.noConfusion (Nat.succ.inj hv), (by simp), fun y hy => by rw [List.mem_singleton.mp hy]; exact hk⟩
theorem par2 {w : World} {f : Addr} {x y : PySem.Str} (h : ∀ u v, bindArgs (fdO w f) ⟨[u, v], []⟩ = pure [(x, u), (y, v)]) (hne : x ≠ y) (hx : (fdO w f).scope.names.lookup x = some .local ∨ ((fdO w f).scope.names.lookup x = some .cell ∧ ∀ n, ((cellsFrom n (fdO w f).scope.names []).lookup x).isSome = true))
    (hy : (fdO w f).scope.names.lookup y = some .local ∨ ((fdO w f).scope.names.lookup y = some .cell ∧ ∀ n, ((cellsFrom n (fdO w f).scope.names []).lookup y).isSome = true)) : Par (fdO w f) [x, y] :=
  ⟨fun vs hv => by
    cases vs with
    | nil => exact Nat.noConfusion hv
    | cons u vs =>
      cases vs with
      | nil => exact Nat.noConfusion (Nat.succ.inj hv)
      | cons v vs =>
        cases vs with
        | nil => exact h u v
        | cons _ _ => exact Nat.noConfusion (Nat.succ.inj (Nat.succ.inj hv)), by simp [hne], fun z hz => by
    rcases List.mem_cons.mp hz with rfl | hz
    · exact hx
    · rw [List.mem_singleton.mp hz]; exact hy⟩

def twc (a b : Int) : Int := b2i (decide (b < a)) - b2i (decide (a < b))
theorem fn_twc {a b : Int} : Fn w (k + 1) μ (.ref 119) [.int a, .int b] (.int (twc a b)) := by
  intro W A E s vs Q ok bs dv h
  refine enter (f := 119) (o := fnO w 119) (fd := fdO w 119) (P := fun _ => False) ok bs dv (by kernel_rfl) (by kernel_rfl) (by kernel_rfl) rfl (by kernel_rfl) (par2 (x := "x") (y := "y") (fun u v => by kernel_rfl) (by decide) (.inl (by kernel_rfl)) (.inl (by kernel_rfl))) rfl (by kernel_rfl) (by kernel_rfl) (fun s₁ L b₁ => ?_) (by kernel_rfl) (by kernel_rfl) (by kernel_rfl)
  refine b₁.ret ok.deeper (.bin (.cmp (.name rfl) (.name rfl) .gtI) (.cmp (.name rfl) (.name rfl) .ltI) .subB) fun v s₂ b₂ d₂ => ?_
  exact h v s₂ (b₂.out bs) b₂.ef.go d₂

set_option maxHeartbeats 1000000 in
theorem fn_stones {ps : List Pile} (hp : PIn μ ps) (hz : ps.length ≤ 1000) (hz2 : ∀ p ∈ ps, p.l.length ≤ 1000) : Fn w (k + 1) μ (.ref 153) [pilesD ps] (laidD (ps.map Pile.l)) := by
  intro W A E s vs Q ok bs dv h
  refine enter (f := 153) (o := fnO w 153) (fd := fdO w 153) (P := fun _ => False) ok bs dv (by kernel_rfl) (by kernel_rfl) (by kernel_rfl) rfl (by kernel_rfl) (par1 (x := "piles") (fun v => by kernel_rfl) (.inl (by kernel_rfl))) rfl (by kernel_rfl) (by kernel_rfl) (fun s₁ L b₁ => ?_) (by kernel_rfl) (by kernel_rfl) (by kernel_rfl)
  refine b₁.ret ok.deeper ?_ fun v s₂ b₂ d₂ => h v s₂ (b₂.out bs) b₂.ef.go d₂
  refine Ev.comp1 (p := fun _ => true) (f := fun j => .lst ((ps.getD j noPile).l.map stoneD)) (Src.list (.name rfl)) (fun C => .one _ _ (.loc (by kernel_rfl))) (fun C j hj => Te.nil) (fun C j hj _ => ?_) ?_ ?_ rfl (by kernel_rfl) (by kernel_rfl) (fun _ => rfl)
  · rw [List.length_map] at hj
    have hpj : ps[j]? = some ps[j] := List.getElem?_eq_getElem hj
    have hm := hp _ (List.getElem_mem hj)
    have e1 : (ps.map fun p => D.obj p.a).getD j .none = .obj ps[j].a := by simp [hpj]
    have e2 : ps.getD j noPile = ps[j] := by simp [hpj]
    rw [e2]
    refine Ev.comp1 (p := fun _ => true) (f := fun i => stoneD (ps[j].l.getD i ("", ""))) (Src.pile (.name (congrArg some e1)) hm) (fun C => .one _ _ (.loc (by kernel_rfl))) (fun C i hi => Te.nil) (fun C i hi _ => .name rfl) ?_ ?_ rfl (by kernel_rfl) (by kernel_rfl) (fun _ => rfl)
    · rw [outL_range, range_getD ps[j].l ("", "") stoneD]
    · have := hz2 _ (List.getElem_mem hj)
      rw [List.length_map]; exact szL this (by decide)
  · rw [outL_range, List.length_map, range_getD ps noPile fun p => D.lst (p.l.map stoneD)]
    simp
  · rw [List.length_map, List.length_map]; exact szL hz (by decide)
end Mine
open PySem PySem.W PyProof.Rows
set_option Elab.async false
set_option maxRecDepth 100000
set_option linter.unusedVariables false
namespace Mine

variable {w : World} {k k' : Nat} {env : Env} {ρ : Rho} {μ : List (Addr × Mu)}

theorem nm_range (h : env.kindOf "range" = some .globalImplicit) : Nm w env "range" (.type "range") := Nm.blt h (by kernel_rfl) (by kernel_rfl)
theorem nm_len (h : env.kindOf "len" = some .globalImplicit) : Nm w env "len" (.builtin "len") := Nm.blt h (by kernel_rfl) (by kernel_rfl)
theorem nm_sum (h : env.kindOf "sum" = some .globalImplicit) : Nm w env "sum" (.builtin "sum") := Nm.blt h (by kernel_rfl) (by kernel_rfl)
theorem nm_max (h : env.kindOf "max" = some .globalImplicit) : Nm w env "max" (.builtin "max") := Nm.blt h (by kernel_rfl) (by kernel_rfl)
theorem nm_list (h : env.kindOf "list" = some .globalImplicit) : Nm w env "list" (.type "list") := Nm.blt h (by kernel_rfl) (by kernel_rfl)
theorem nm_type (h : env.kindOf "type" = some .globalImplicit) : Nm w env "type" (.type "type") := Nm.blt h (by kernel_rfl) (by kernel_rfl)
theorem nm_int (h : env.kindOf "int" = some .globalImplicit) : Nm w env "int" (.type "int") := Nm.blt h (by kernel_rfl) (by kernel_rfl)
theorem nm_enumerate (h : env.kindOf "enumerate" = some .globalImplicit) : Nm w env "enumerate" (.type "enumerate") := Nm.blt h (by kernel_rfl) (by kernel_rfl)
theorem nm_reversed (h : env.kindOf "reversed" = some .globalImplicit) : Nm w env "reversed" (.type "reversed") := Nm.blt h (by kernel_rfl) (by kernel_rfl)
theorem nm_zip (h : env.kindOf "zip" = some .globalImplicit) : Nm w env "zip" (.type "zip") := Nm.blt h (by kernel_rfl) (by kernel_rfl)
theorem nm_twc (h : env.kindOf "three_way_cmp" = some .globalImplicit) : Nm w env "three_way_cmp" (.ref 119) := Nm.glob h (by kernel_rfl)
theorem ca_twc : Callee w (.ref 119) := .fn 119 (fnO w 119) (fdO w 119) (by kernel_rfl) (by kernel_rfl)

theorem Sto.cellB {x : PySem.Str} (hk : env.kindOf x = some .cell) (h : (env.cells.lookup x).isSome = true) : Sto env x := let ⟨c, hc⟩ := Option.isSome_iff_exists.mp h; .cell c hk hc
theorem pyGet_neg {ds : List D} {j : Nat} (h : j < ds.length) : pyGet ds (-1 - (j : Int)) = ds[ds.length - 1 - j]? := by
  unfold pyGet
  rw [if_neg negJ, if_pos (neJ h)]
  congr 1
  exact subT h
theorem pyGet_nat {ds : List D} {j : Nat} : pyGet ds (j : Int) = ds[j]? := by
  unfold pyGet
  rw [if_pos nnI]
  rfl

theorem sl4 {n : Nat} (h : n ≤ 4) : n ≤ sizeLine := szL h (by decide)
/-- a stone -/
def stoneF (j k : Nat) : PySem.Str × PySem.Str := (⟨#[if k % 2 = 0 then 32 else 9]⟩, ⟨#[97 + j]⟩)
def laidF (sizes : List Int) : List (List (PySem.Str × PySem.Str)) := (List.range sizes.length).map fun j => (List.range (sizes.getD (sizes.length - 1 - j) 0).toNat).map fun k => stoneF j k

/-- small sizes -/
structure Sm (sizes : List Int) : Prop where
  len : sizes.length ≤ 4
  pos : ∀ x ∈ sizes, 0 ≤ x ∧ x ≤ 100

theorem chr_blank (k : Nat) : (seqIndex? ((k : Int).fmod 2) (" \t" : PySem.Str).length).bind ((" \t" : PySem.Str).cps[·]?) = some (if k % 2 = 0 then 32 else 9) := by
  rcases Nat.mod_two_eq_zero_or_one k with h | h
  · rw [fm2, h, if_pos rfl]; rfl
  · rw [fm2, h, if_neg (by decide)]; rfl
theorem chr_abcd (j : Nat) (h : j < 4) : (seqIndex? (j : Int) ("abcd" : PySem.Str).length).bind (("abcd" : PySem.Str).cps[·]?) = some (97 + j) :=
  (ltS (ltS (ltS (ltS lt0 rfl) rfl) rfl) rfl : ∀ j, j < 4 → (seqIndex? ((j : Nat) : Int) ("abcd" : PySem.Str).length).bind (("abcd" : PySem.Str).cps[·]?) = some (97 + j)) j h

set_option maxHeartbeats 1000000 in
theorem fn_laid {sizes : List Int} (hs : Sm sizes) : Fn w (k + 1) μ (.ref 129) [.lst (sizes.map .int)] (laidD (laidF sizes)) := by
  intro W A E s vs Q ok bs dv h
  refine enter (f := 129) (o := fnO w 129) (fd := fdO w 129) (P := fun _ => False) ok bs dv (by kernel_rfl) (by kernel_rfl) (by kernel_rfl) rfl (by kernel_rfl) (par1 (x := "sizes") (fun v => by kernel_rfl) (.inr ⟨by kernel_rfl, fun n => by kernel_rfl⟩)) rfl (by kernel_rfl) (by kernel_rfl) (fun s₁ L b₁ => ?_) (by kernel_rfl) (by kernel_rfl) (by kernel_rfl)
  refine b₁.ret ok.deeper ?_ fun v s₂ b₂ d₂ => h v s₂ (b₂.out bs) b₂.ef.go d₂
  have hlz : (sizes.map D.int).length ≤ sizeLine := by rw [List.length_map]; exact sl4 hs.len
  refine Ev.comp1 (p := fun _ => true) (f := fun j => .lst ((List.range (sizes.getD (sizes.length - 1 - j) 0).toNat).map fun k => stoneD (stoneF j k)))
    (Src.range (.call (nm_range (by kernel_rfl)) (.typ _) (.one (.call (nm_len (by kernel_rfl)) (.blt _) (.one (.name rfl)) (Fn.len hlz))) .range1) (by decide) (by rw [List.length_map]; exact i40 hs.len))
    (fun C => .one _ _ (.cellB (by kernel_rfl) (by kernel_rfl))) (fun C j hj => Te.nil) (fun C j hj _ => ?_) ?_ ?_ rfl (by kernel_rfl) (by kernel_rfl) (fun _ => rfl)
  · have hj' : j < sizes.length := by rw [List.length_map, Int.sub_zero] at hj; exact hj
    have hg : sizes[sizes.length - 1 - j]? = some (sizes.getD (sizes.length - 1 - j) 0) := by
      rw [List.getD_eq_getElem?_getD, List.getElem?_eq_getElem (nq0 hj')]; rfl
    have hb := hs.pos (sizes.getD (sizes.length - 1 - j) 0) (List.mem_of_getElem? hg)
    refine Ev.comp1 (p := fun _ => true) (f := fun i => stoneD (stoneF j i))
      (Src.range (b := sizes.getD (sizes.length - 1 - j) 0) (.call (nm_range (by kernel_rfl)) (.typ _) (.one (.item (i := -1 - (j : Int)) (.name rfl) (.bin (.neg .int) (.name (by show some (D.int (0 + (j : Int))) = _; rw [Int.zero_add])) .sub) (by rw [pyGet_neg (by rw [List.length_map]; exact hj'), List.length_map, List.getElem?_map, hg]; rfl) hlz)) .range1) (by decide) (in40 hb (by decide)))
      (fun C => .one _ _ (.loc (by kernel_rfl))) (fun C i hi => Te.nil) (fun C i hi _ => ?_) ?_ ?_ rfl (by kernel_rfl) (by kernel_rfl) (fun _ => rfl)
    · refine .tuple (.two (.chr (c := if i % 2 = 0 then 32 else 9) (i := (i : Int).fmod 2) .str (.bin (.name (by show some (D.int (0 + (i : Int))) = _; rw [Int.zero_add])) .int (.mod (by decide))) (chr_blank i) ?_) (.chr (c := 97 + j) (i := (j : Int)) .str (.name (by show some (D.int (0 + (j : Int))) = _; rw [Int.zero_add])) (chr_abcd j (Nat.lt_of_lt_of_le hj' hs.len)) ?_) rfl rfl) (by show 2 ≤ sizeLine; rw [sizeLine_eq]; decide)
      · rw [fm2]; exact rng63 (Nat.le_trans (Nat.le_of_lt (Nat.mod_lt i (by decide))) (by decide))
      · exact rng63 (Nat.le_trans (Nat.le_of_lt (Nat.lt_of_lt_of_le hj' hs.len)) (by decide))
    · rw [outL_range, Int.sub_zero]
    · rw [List.length_map, List.length_range]; exact szL (m := 100) (Int.toNat_le.mpr hb.2) (by decide)
  · rw [outL_range]
    unfold laidF
    simp [List.length_map, Function.comp_def]
  · unfold laidF
    rw [List.length_map, List.length_map, List.length_range]; exact sl4 hs.len
end Mine
open PySem PySem.W PyProof.Rows
set_option Elab.async false
set_option maxRecDepth 100000
set_option linter.unusedVariables false
namespace Mine

variable {w : World} {k k' : Nat} {env : Env} {ρ : Rho} {μ : List (Addr × Mu)}

theorem Tr.cast {e : Expr} {c c' : Bool} (h : Tr w k env ρ μ e c) (x : c = c') : Tr w k env ρ μ e c' := x ▸ h
theorem Ev.cast {e : Expr} {c c' : D} (h : Ev w k env ρ μ e c) (x : c = c') : Ev w k env ρ μ e c' := x ▸ h

section
variable {W P X : Addr → Prop} {s₀ s : Shared} {A : Around} {E : Value → Shared → Prop} {Q : Flow → Shared → Prop} {rest : List Stmt}

/-- «x += e» -/
theorem Bd.aug {x : PySem.Str} {p q : Pos} {e : Expr} {i j : Int} (b : Bd w W env ρ μ P s₀ s) (ok : AOk k A) (hx : ρ.lookup x = some (.int i)) (he : Ev w k env ρ μ e (.int j)) (hk : Sto env x)
    (h : ∀ s', Bd w W env ((x, .int (i + j)) :: ρ) μ P s₀ s' → wpAny (MM w) A (execs rest env) Q E s') : wpAny (MM w) A (execs (.AugAssign (.Name x p) .Add e q :: rest) env) Q E s := by
  refine wpAny_execs_cons (wpAny_AugAssign_Name ?_)
  obtain ⟨v, hv, dv⟩ := b.loc x _ hx
  refine hv.load (h := s.heap) b.ek ?_
  refine he W A E s _ ok b.toSt fun u s₁ st₁ g₁ d₁ => ?_
  cases dv
  cases d₁
  refine PyProof.Rows.iadd_int ?_
  exact ((b.next st₁ g₁).next (st₁.tok (tk := s₁.toks + 1)) .tok).store hk (.int _ _) h

theorem Bd.whileTo {test : Expr} {body : List Stmt} {p : Pos} {m i : Nat} (ρs : Nat → Rho) (hi : i ≤ m) (b : Bd w W env (ρs i) μ P s₀ s) (ok : AOk k A)
    (ht : ∀ j, j < m → Tr w k env (ρs j) μ test true) (hf : Tr w k env (ρs m) μ test false)
    (hb : ∀ j s' (Q' : Flow → Shared → Prop) (E' : Value → Shared → Prop), i ≤ j → j < m → Bd w W env (ρs j) μ P s₀ s' → (∀ s'', Bd w W env (ρs (j + 1)) μ P s₀ s'' → Q' .next s'') → wpAny (MM w) A (execs body env) Q' E' s')
    (h : ∀ s', Bd w W env (ρs m) μ P s₀ s' → wpAny (MM w) A (execs rest env) Q E s') : wpAny (MM w) A (execs (.While test body [] p :: rest) env) Q E s := by
  refine wpAny_execs_cons (wpAny_While (codeAny_whileLoop (fun n s' => ∃ j, n = m - j ∧ i ≤ j ∧ j ≤ m ∧ Bd w W env (ρs j) μ P s₀ s') (fun n s' hI => ?_) (m - i) ⟨i, rfl, Nat.le_refl _, hi, b⟩))
  obtain ⟨j, rfl, hij, hj, bj⟩ := hI
  by_cases hlt : j < m
  · refine ht j hlt W A _ s' _ ok bj.toSt fun s₁ st₁ g₁ => ?_
    rw [if_pos rfl]
    exact hb j s₁ _ _ hij hlt (bj.next st₁ g₁) fun s₂ b₂ => ⟨m - (j + 1), Nat.sub_succ_lt_self _ _ hlt, j + 1, rfl, Nat.le_succ_of_le hij, hlt, b₂⟩
  · obtain rfl : j = m := antiL hj hlt
    refine hf W A _ s' _ ok bj.toSt fun s₁ st₁ g₁ => ?_
    rw [if_neg Bool.false_ne_true]
    exact wpAny_execs_nil (h s₁ (bj.next st₁ g₁))

/-- a for loop over an iterator -/
theorem forJ {target : Expr} {body : List Stmt} {I : Addr} {wr fp : List Addr} {n : Nat} {IS : Nat → Heap → Prop} {VS : (Addr → Prop) → Heap → Prop} {bd : Nat → Rho} {R : Result → Shared → Prop} (K : Dr w A target I wr fp n IS VS bd) (htg : Tgt env target)
    (J : Nat → Shared → Prop)
    (hJ : ∀ j s, J j s → ∃ W ρ μ, IS j s.heap ∧ VS W s.heap ∧ (∀ a ∈ wr, W a) ∧ tblA ∉ wr ∧ St w W env ρ μ s ∧ MuX (· ∈ wr) μ ∧ env.locals ∉ fp ∧ (∀ n c, env.cells.lookup n = some c → c ∉ fp) ∧
      (j < n → ∀ s₁ E, IS (j + 1) s₁.heap → St w W env (bd j ++ ρ) μ s₁ → Ch wr (tn target) env s s₁ →
        wpAny (MM w) A (execs body env) (fun f s₃ => match f with | .next | .cont => J (j + 1) s₃ | .brk => R (.ok .next) s₃ | .ret v => R (.ok (.ret v)) s₃) E s₁))
    (hE : ∀ s, J n s → ∀ h' tk, (∀ b o, b ∉ wr → s.heap.get? b = some o → h'.get? b = some o) → R (.ok .next) { s with heap := h', toks := tk })
    (h : J 0 s) : codeAny (MM w) A (.forLoop target (.ref I) body [] env) R s := by
  refine codeAny_forLoop_any (fun m s' => ∃ j, m = n - j ∧ j ≤ n ∧ J j s') (fun m s' hI => ?_) n ⟨0, rfl, Nat.zero_le _, h⟩
  obtain ⟨j, rfl, hj, hJj⟩ := hI
  obtain ⟨W, ρ, μ, is, vs, xw, xt, st, xm, hl, hc, step⟩ := hJ j s' hJj
  by_cases hlt : j < n
  · refine wpAny_mono (K.more j W env ρ μ s' (fun _ s₁ => wpAny (MM w) A (execs body env) (fun f s₃ => match f with
            | .next | .cont => ∃ m', m' < n - j ∧ ∃ j, m' = n - j ∧ j ≤ n ∧ J j s₃
            | .brk => R (.ok .next) s₃
            | .ret v => R (.ok (.ret v)) s₃) (notedBy (MM w) A env fun e s' => R (.error e) s') s₁) (notedBy (MM w) A env fun e s' => R (.error e) s') hlt is vs xw xt st htg st.ap xm hl hc fun s₁ is₁ st₁ ch => wpAny_mono (step hlt s₁ _ is₁ st₁ ch) (fun f s₃ h₃ => ?_) fun _ _ x => x) (fun r s₁ h₁ => ?_) fun _ _ x => x
    · cases f with
      | next => exact ⟨n - (j + 1), Nat.sub_succ_lt_self _ _ hlt, j + 1, rfl, hlt, h₃⟩
      | cont => exact ⟨n - (j + 1), Nat.sub_succ_lt_self _ _ hlt, j + 1, rfl, hlt, h₃⟩
      | brk => exact h₃
      | ret v => exact h₃
    · obtain ⟨v, rfl, h₁⟩ := h₁
      exact h₁
  · obtain rfl : j = n := antiL hj hlt
    exact K.done s' _ _ is fun h' tk hk => wpAny_execs_nil (hE s' hJj h' tk hk)

/-- what a loop's body may change -/
def PX (X : Addr → Prop) (env : Env) (a : Addr) : Prop := X a ∨ a = env.locals ∨ ∃ m, env.cells.lookup m = some a
def MuSub (μ ν : List (Addr × Mu)) : Prop := ∀ p ∈ ν, ∃ q ∈ μ, q.1 = p.1 ∧ ∀ dx l, p.2 = .acc dx l → ∃ l', q.2 = .acc dx l'
theorem MuSub.refl (μ : List (Addr × Mu)) : MuSub μ μ := fun p hp => ⟨p, hp, rfl, fun dx l e => ⟨l, e⟩⟩
theorem MuSub.trans {μ ν ξ : List (Addr × Mu)} (x : MuSub μ ν) (y : MuSub ν ξ) : MuSub μ ξ := fun p hp => by
  obtain ⟨q, hq, e, f⟩ := y p hp
  obtain ⟨r, hr, e', f'⟩ := x q hq
  refine ⟨r, hr, e'.trans e, fun dx l h => ?_⟩
  obtain ⟨l', h'⟩ := f dx l h
  exact f' dx l' h'
theorem MuSub.upd (μ : List (Addr × Mu)) (a : Addr) (l : List (PySem.Str × PySem.Str)) : MuSub μ (updM μ a l) := fun p hp => by
  obtain ⟨q, hq, rfl⟩ := List.mem_map.mp hp
  refine ⟨q, hq, ?_, fun dx l' h => ?_⟩
  · split <;> rfl
  · obtain ⟨q1, q2⟩ := q
    split at h
    · cases q2 with
      | acc d l2 => cases h; exact ⟨l2, rfl⟩
      | opn l2 => cases h
    · exact ⟨l', h⟩

theorem Bd.for {target iter : Expr} {body : List Stmt} {p : Pos} {n : Nat} {bd : Nat → Rho} (hsrc : SrcG true w k env ρ μ iter target n bd) (b : Bd w W env ρ μ P s₀ s) (ok : AOk k A) (htg : Tgt env target)
    (hX : ∀ a, X a → W a ∧ a ≠ tblA ∧ (P a ∨ s₀.heap.get? a = none)) (ρs : Nat → Rho) (μs : Nat → List (Addr × Mu)) (h0 : ρs 0 = ρ) (hm0 : μs 0 = μ) (hsub : ∀ j, MuSub μ (μs j))
    (step : ∀ j W' s₁ (Q' : Flow → Shared → Prop) (E' : Value → Shared → Prop), j < n → (∀ a, W a → W' a) → Bd w W' env (bd j ++ ρs j) (μs j) (PX X env) s₁ s₁ → (∀ s₂, Bd w W' env (ρs (j + 1)) (μs (j + 1)) (PX X env) s₁ s₂ → Q' .next s₂) → wpAny (MM w) A (execs body env) Q' E' s₁)
    (h : ∀ s', Bd w W env (ρs n) (μs n) P s₀ s' → wpAny (MM w) A (execs rest env) Q E s')
    (hs : ∀ x, foldedSetIterable iter env x = pure x := by intro _; rfl) : wpAny (MM w) A (execs (.For target iter body [] p :: rest) env) Q E s := by
  subst h0
  subst hm0
  refine wpAny_execs_cons (wpAny_For ?_ hs)
  refine hsrc W A E s _ ok b.toSt fun s₂ W' I wr fp IS VS g hw st₂ fr₂ hfp is vs₂ K => ?_
  have xw : ∀ a ∈ wr, W' a := fun a ha => (hw a).mpr (.inr ha)
  have nowr : ∀ a, W a → a ∉ wr := fun a ha q => by
    obtain ⟨o, e⟩ := b.live a ha
    rw [fr₂ a q] at e; cases e
  have xt : tblA ∉ wr := nowr _ b.wt
  have xmj : ∀ j, MuX (· ∈ wr) (μs j) := fun j p hp => by
    obtain ⟨q, hq, e, f⟩ := hsub j p hp
    refine ⟨e ▸ nowr _ (b.mw q hq).1, fun dx l h => ?_⟩
    obtain ⟨l', h'⟩ := f dx l h
    exact nowr _ ((b.mw q hq).2 dx l' h')
  have ht : ∀ a ∈ fp, a ≠ tblA := fun a ha e => by
    rcases hfp a ha with q | q
    · exact xt (e ▸ q)
    · exact q.1 e
  have offb : ∀ a ∈ fp, ∀ o, s₂.heap.get? a = some o → (∀ xs n, o.data ≠ .seq xs n) → (∀ xs, o.data ≠ .fields xs) → s.heap.get? a ≠ none → False := fun a ha o e h1 h2 h3 => by
    rcases hfp a ha with q | ⟨_, _, o', e', q⟩
    · exact h3 (fr₂ a q)
    · rw [e] at e'; cases e'
      rcases q with ⟨xs, n, q⟩ | ⟨xs, q⟩
      · exact h1 _ _ q
      · exact h2 _ q
  have hl : env.locals ∉ fp := fun q => by
    obtain ⟨m, hm⟩ := st₂.ns
    obtain ⟨o, ho, h1, h2⟩ := bx_ns hm
    refine offb _ q o ho h1 h2 fun e => ?_
    obtain ⟨m, o, es, ep, ho, _⟩ := b.ns
    rw [e] at ho; cases ho
  have hc : ∀ n c, env.cells.lookup n = some c → c ∉ fp := fun n c hc q => by
    obtain ⟨m, hm⟩ := st₂.cells n c hc
    obtain ⟨o, ho, h1, h2⟩ := bx_cell hm
    refine offb _ q o ho h1 h2 fun e => ?_
    obtain ⟨m, o, ho, _⟩ := b.cells n c hc
    rw [e] at ho; cases ho
  have offX : ∀ a ∈ fp, ¬ PX X env a := fun a ha q => by
    rcases q with q | q | ⟨m, q⟩
    · have wa := (hX a q).1
      rcases hfp a ha with z | ⟨_, z, _⟩
      · exact nowr a wa z
      · rcases z with z | ⟨z, _⟩
        · exact z wa
        · cases z
    · exact hl (q ▸ ha)
    · exact hc m a q ha
  have b₂ : Bd w W' env (ρs 0) (μs 0) P s₀ s₂ := ⟨st₂, b.ef.trans g.ef, b.fl, b.fc⟩
  have s0wr : ∀ a o, ¬ P a → a ≠ tblA → s₀.heap.get? a = some o → a ∉ wr := fun a o np nt e q => by
    have := b.ef.keep a o nt np e
    rw [fr₂ a q] at this; cases this
  have s0X : ∀ a o, ¬ P a → s₀.heap.get? a = some o → ¬ PX X env a := fun a o np e q => by
    rcases q with q | q | ⟨m, q⟩
    · rcases (hX a q).2.2 with z | z
      · exact np z
      · rw [z] at e; cases e
    · subst q
      rcases b.fl with z | z
      · rw [z] at e; cases e
      · exact np z
    · rcases b.fc m a q with z | z
      · rw [z] at e; cases e
      · exact np z
  refine forJ (K A ok.hh) htg (fun j s' => IS j s'.heap ∧ VS W' s'.heap ∧ Bd w W' env (ρs j) (μs j) P s₀ s') ?_ ?_ ⟨is, vs₂, b₂⟩
  · rintro j s' ⟨is', vs', bj⟩
    refine ⟨W', ρs j, μs j, is', vs', xw, xt, bj.toSt, xmj j, hl, hc, fun hlt s₁ E₁ is₁ st₁ ch => ?_⟩
    have hb : Bd w W' env (bd j ++ ρs j) (μs j) (PX X env) s₁ s₁ := ⟨st₁, .refl, .inr (.inr (.inl rfl)), fun n c hc => .inr (.inr (.inr ⟨n, hc⟩))⟩
    refine step j W' s₁ _ E₁ hlt (fun a ha => (hw a).mpr (.inl ha)) hb fun s₃ b₃ => ?_
    have notSeqL : ∀ (h : Heap) a o, h.get? a = some o → ((∃ xs n, o.data = .seq xs n) ∨ ∃ xs, o.data = .fields xs) → (∃ m, h.Ns a m) → False := fun h a o e q hm => by
      obtain ⟨m, hm⟩ := hm
      obtain ⟨o', ho, h1, h2⟩ := bx_ns hm
      rw [e] at ho; cases ho
      rcases q with ⟨xs, n, q⟩ | ⟨xs, q⟩
      · exact h1 _ _ q
      · exact h2 _ q
    have notSeqC : ∀ (h : Heap) a o, h.get? a = some o → ((∃ xs n, o.data = .seq xs n) ∨ ∃ xs, o.data = .fields xs) → (∃ v, h.IsCell a v) → False := fun h a o e q hm => by
      obtain ⟨m, hm⟩ := hm
      obtain ⟨o', ho, h1, h2⟩ := bx_cell hm
      rw [e] at ho; cases ho
      rcases q with ⟨xs, n, q⟩ | ⟨xs, q⟩
      · exact h1 _ _ q
      · exact h2 _ q
    have pr₁ : Pr W' W' s'.heap s₁.heap := fun a o n e q => ⟨ch.keep a o (fun z => n (xw a z)) (fun c => notSeqL _ a o e q (c ▸ bj.ns)) (fun m _ c => notSeqC _ a o e q (bj.cells m a c)) e, n⟩
    have pr₃ : Pr W' W' s₁.heap s₃.heap := fun a o n e q => ⟨b₃.ef.keep a o (fun c => n (c ▸ st₁.wt)) (fun c => by
      rcases c with c | c | ⟨m, c⟩
      · exact n ((hw a).mpr (.inl (hX a c).1))
      · exact notSeqL _ a o e q (c ▸ st₁.ns)
      · exact notSeqC _ a o e q (st₁.cells m a c)) e, n⟩
    refine ⟨(K A ok.hh).frame _ _ _ is₁ (b₃.ef.offw fun a ha => ⟨ht a ha, offX a ha⟩), (K A ok.hh).vpr _ _ _ _ pr₃ ((K A ok.hh).vpr _ _ _ _ pr₁ vs'), b₃.toSt, ⟨fun a o nt np e => ?_, fun ps e => ?_, (b₃.ef.os.trans ch.os).trans bj.ef.os⟩, b.fl, b.fc⟩
    · have nx := s0X a o np e
      have e1 := bj.ef.keep a o nt np e
      have e2 := ch.keep a o (s0wr a o np nt e) (fun c => nx (.inr (.inl c))) (fun m _ c => nx (.inr (.inr ⟨m, c⟩))) e1
      exact b₃.ef.keep a o nt nx e2
    · obtain ⟨m, e⟩ := bj.ef.tab _ e
      obtain ⟨m', e⟩ := (ch.ef bj.toSt xt).tab _ e
      obtain ⟨m'', e⟩ := b₃.ef.tab _ e
      exact ⟨m ++ m' ++ m'', by rw [e, Array.append_assoc, Array.append_assoc, Array.append_assoc]⟩
  · rintro s' ⟨is', vs', bj⟩ h' tk hk
    have hk' : ∀ a o, ¬ a ∈ wr → s'.heap.get? a = some o → h'.get? a = some o := fun a o n e => hk a o n e
    refine h _ ⟨bj.toSt.chgTo (X := (· ∈ wr)) (tk := tk) hk' xw xt (fun a => ⟨fun q => ⟨(hw a).mpr (.inl q), nowr a q⟩, fun q => ?_⟩) (xmj n), ⟨fun a o nt np e => hk a o (s0wr a o np nt e) (bj.ef.keep a o nt np e), fun ps e => ?_, bj.ef.os⟩, b.fl, b.fc⟩
    · rcases (hw a).mp q.1 with z | z
      · exact z
      · exact absurd z q.2
    · obtain ⟨m, e⟩ := bj.ef.tab _ e
      exact ⟨m, hk _ _ xt e⟩
end
end Mine
open PySem PySem.W PyProof.Rows
set_option Elab.async false
set_option maxRecDepth 100000
set_option linter.unusedVariables false
namespace Mine

variable {w : World} {k k' : Nat} {env : Env} {ρ : Rho} {μ μ' μ'' : List (Addr × Mu)}

section
variable {W P X Y : Addr → Prop} {s₀ s s' : Shared} {A : Around} {E : Value → Shared → Prop} {Q : Flow → Shared → Prop} {rest : List Stmt}

/-- a step that changes Y and makes X -/
theorem St.grow {W' : Addr → Prop} (st : St w W env ρ μ s) (ef : Ef Y s s') (yw : ∀ a, Y a → W a) (b : Bs w W' μ' s') (hw : ∀ a, W' a → W a ∨ s.heap.get? a = Option.none) (hw2 : ∀ a, W a → W' a) : St w W' env ρ μ' s' := by
  have pr : Pr W W' s.heap s'.heap := fun a o n e _ => ⟨ef.keep a o (fun c => n (c ▸ st.wt)) (fun q => n (yw _ q)) e, fun q => by
    rcases hw a q with q | q
    · exact n q
    · rw [q] at e; cases e⟩
  have kl : ∀ o, s.heap.get? env.locals = some o → s'.heap.get? env.locals = some o := fun o e => ef.keep _ _ st.offT.1 (fun q => st.lw (yw _ q)) e
  have kc : ∀ n c o, env.cells.lookup n = some c → s.heap.get? c = some o → s'.heap.get? c = some o := fun n c o hc e => ef.keep _ _ (st.offT.2 n c hc) (fun q => st.cw n c hc (yw _ q)) e
  exact {
    toBs := b
    ek := st.ek
    eg := st.eg
    eb := st.eb
    ns := let ⟨m, o, es, ep, ho, r⟩ := st.ns; ⟨m, o, es, ep, kl _ ho, r⟩
    lo := st.lo
    lw := fun q => by
      rcases hw _ q with q | q
      · exact st.lw q
      · obtain ⟨m, o, es, ep, ho, r⟩ := st.ns
        rw [q] at ho; cases ho
    cells := fun n c hc => let ⟨v, o, ho, r⟩ := st.cells n c hc; ⟨v, o, kc n c _ hc ho, r⟩
    co := st.co
    cw := fun n c hc q => by
      rcases hw _ q with q | q
      · exact st.cw n c hc q
      · obtain ⟨v, o, ho, r⟩ := st.cells n c hc
        rw [q] at ho; cases ho
    ap := st.ap
    loc := fun n d e => by
      obtain ⟨v, h1, h2⟩ := st.loc n d e
      refine ⟨v, ?_, h2.pr pr⟩
      cases h1 with
      | loc m h1 h2 h3 => exact .loc m h1 (let ⟨o, es, ep, ho, r⟩ := h2; ⟨o, es, ep, kl _ ho, r⟩) h3
      | cell c h1 h2 h3 => exact .cell c h1 h2 (let ⟨o, ho, r⟩ := h3; ⟨o, kc _ c _ h2 ho, r⟩) }

theorem St.efX (st : St w W env ρ μ s) (ef : Ef X s s') (xw : ∀ a, X a → W a) (b : Bs w W μ' s') : St w W env ρ μ' s' := st.grow ef xw b (fun a q => .inl q) fun a q => q
theorem Bd.nextX (b : Bd w W env ρ μ P s₀ s) (st : St w W env ρ μ' s') (ef : Ef X s s') (hX : ∀ a, X a → P a ∨ s₀.heap.get? a = none) : Bd w W env ρ μ' P s₀ s' :=
  ⟨st, ⟨fun a o nt np e => ef.keep a o nt (fun q => (hX a q).elim np fun z => by rw [z] at e; cases e) (b.ef.keep a o nt np e), fun ps e => by
    obtain ⟨m, e⟩ := b.ef.tab _ e
    obtain ⟨m', e⟩ := ef.tab _ e
    exact ⟨m ++ m', by rw [e, Array.append_assoc]⟩, ef.os.trans b.ef.os⟩, b.fl, b.fc⟩
theorem DIn.ef {v : Value} {d : D} (x : DIn W s.heap v d) (ef : Ef X s s') (xw : ∀ a, X a → W a) (wt : W tblA) : DIn W s'.heap v d := x.pr fun a o n e _ => ⟨ef.keep a o (fun c => n (c ▸ wt)) (fun q => n (xw _ q)) e, n⟩
theorem DAll.ef {v : List Value} {d : List D} (x : DAll W s.heap v d) (ef : Ef X s s') (xw : ∀ a, X a → W a) (wt : W tblA) : DAll W s'.heap v d := x.pr fun a o n e _ => ⟨ef.keep a o (fun c => n (c ▸ wt)) (fun q => n (xw _ q)) e, n⟩
end

/-- an expression that changes what X names -/
def EvX (w : World) (k : Nat) (env : Env) (ρ : Rho) (μ : List (Addr × Mu)) (e : Expr) (X : Addr → Prop) (μ' : List (Addr × Mu)) (d : D) : Prop :=
  ∀ (W : Addr → Prop) (A : Around) (E : Value → Shared → Prop) (s : Shared) (Q : Value → Shared → Prop), AOk k A → St w W env ρ μ s →
    (∀ v s', St w W env ρ μ' s' → Ef X s s' → DIn W s'.heap v d → Q v s') → wpAny (MM w) A (eval e env) Q E s

theorem EvX.pop {o : Expr} {apos pos : Pos} {a dx : Addr} {l : List (PySem.Str × PySem.Str)} (ho : Ev w (k + 2) env ρ μ o (.obj a)) (hm : (a, Mu.acc dx l) ∈ μ) (hz : l.length ≤ 1000) (he : MTree o "pop" apos pos [] env) :
    EvX w (k + 2) env ρ μ (.Call (.Attribute o "pop" apos) [] [] pos) (· = a) (if l.length = 0 then μ else updM μ a l.dropLast) (if l.length = 0 then .tup [.str "", .str ""] else stoneD (l.getLastD ("", ""))) := by
  intro W A E s Q ok st h
  obtain ⟨pl, he⟩ := he
  rw [he]
  refine wpAny_bind (ho W A E s _ ok st fun v s₁ st₁ g₁ d₁ => ?_)
  cases d₁
  obtain ⟨vs, n, hsh, t, t', e, da, ed⟩ := acc_of st₁.toBs hm
  refine wpAny_bind (wpAny_standAt (wpAny_bind (wpAny_holding ?_)))
  refine acc_getMethod st₁.tx.k e ed (f := .ref 61) (tf := .type "function") (by kernel_rfl) (by kernel_rfl) (by decide) (by decide) ?_
  refine callWith_fn st₁.tx (o := fnO w 61) (fd := fdO w 61) (by kernel_rfl) (by kernel_rfl) ?_
  have wa := (st.mw _ hm).1
  exact fx_pop (k := k) hm (szL hz (by decide)) W A E s₁ _ _ ok st₁.toBs (.cons (.obj a) .nil) fun v s₂ b₂ e₂ d₂ => h v s₂ (st₁.efX e₂ (fun x hx => by rw [hx]; exact wa) b₂) (g₁.ef.trans e₂) d₂

/-- «*t» of a pair -/
theorem star_tup {W : Addr → Prop} {A : Around} {E : Value → Shared → Prop} {s : Shared} {v : Value} {ds : List D} {Q : List Value → Shared → Prop} (dv : DIn W s.heap v (.tup ds)) (hz : ds.length ≤ 100)
    (h : ∀ vs h', (∀ b o, s.heap.get? b = some o → h'.get? b = some o) → DAll W h' vs ds → Q vs { s with heap := h' }) : StarOf (MM w) A E v Q s := by
  cases dv with
  | @tup a vs _ hw ht da =>
    obtain ⟨o, ho, hc, n, hd⟩ := ht
    have hT : s.TypeIs (.ref a) "tuple" := ⟨o, ho, hc⟩
    unfold StarOf notIterableAtAll
    refine wpAny_bind (wpAny_specialOf hT PySem.F.slot_tuple_iter.lookup (wpAny_pure ⟨rfl, ?_⟩))
    refine wpAny_collect_seq a (.inr rfl) ho hc hd (fun h' hk => ?_) (by rw [List.size_toArray, da.length]; exact szL hz (by decide))
    exact h vs h' hk (da.pr fun b o n e _ => ⟨hk b o e, n⟩)

end Mine
open PySem PySem.W PyProof.Rows
set_option Elab.async false
set_option maxRecDepth 100000
set_option linter.unusedVariables false
namespace Mine

variable {w : World} {k k' : Nat} {env : Env} {ρ : Rho} {μ μ' μ'' : List (Addr × Mu)}

/-- piles of stones, all small -/
structure PSm (ps : List Pile) : Prop where
  len : ps.length ≤ 8
  row : ∀ p ∈ ps, p.l.length ≤ 100
  one : ∀ p ∈ ps, ∀ q ∈ p.l, q.1.length = 1 ∧ q.2.length = 1

theorem sl8 {n : Nat} (h : n ≤ 1000) : n ≤ sizeLine := szL h (by decide)

/-- the run, told by the sizes from the greatest on -/
structure RunIs (ps : List Pile) (m : Nat) : Prop where
  pos : 1 ≤ m
  le : m ≤ ps.length
  go : ∀ j (h1 : 1 ≤ j) (h2 : j < m), (ps[j]'(Nat.lt_of_lt_of_le h2 le)).l.length + 1 = (ps[j - 1]'(Nat.lt_of_le_of_lt (Nat.sub_le _ _) (Nat.lt_of_lt_of_le h2 le))).l.length
  stop : ∀ h : m < ps.length, (ps[m]'h).l.length + 1 ≠ (ps[m - 1]'(Nat.lt_of_le_of_lt (Nat.sub_le _ _) h)).l.length

theorem twc_eq (a b : Int) : (twc a b == 0) = decide (a = b) := by
  unfold twc b2i
  by_cases h1 : b < a
  · have h2 : ¬ a < b := Int.not_lt.mpr (Int.le_of_lt h1)
    simp [h1, h2]
    exact Int.ne_of_gt h1
  · by_cases h2 : a < b
    · simp [h1, h2]
      exact Int.ne_of_lt h2
    · simp [h1, h2]
      exact Int.le_antisymm (Int.not_lt.mp h1) (Int.not_lt.mp h2)

theorem pile_item {ps : List Pile} {j : Nat} (h : j < ps.length) : pyGet (ps.map fun p => D.obj p.a) (j : Int) = some (.obj (ps[j]'h).a) := by
  rw [pyGet_nat, List.getElem?_map, List.getElem?_eq_getElem h]; rfl

theorem run_test {ps : List Pile} {j : Nat} {p1 p2 p3 p4 p5 p6 p7 p8 p9 q1 q2 q3 q4 q5 q6 q7 q8 q9 r1 r2 r3 r4 r5 : Pos} {n1 n2 n3 : Nat} (hp : PIn μ ps) (sm : PSm ps) (hlen : env.kindOf "len" = some .globalImplicit) (htw : env.kindOf "three_way_cmp" = some .globalImplicit) (h1 : 1 ≤ j) (hj : j ≤ ps.length) :
    Tr w (k + 2) env [("run", .int (j : Int)), ("piles", pilesD ps)] μ (.BoolOp .And [.Compare (.Name "run" p1) [.Lt] [.Call (.Name "len" p2) [.Name "piles" p3] [] p4] p5,
      .Compare (.Call (.Name "three_way_cmp" p6) [.BinOp (.Call (.Name "len" p7) [.Subscript (.Name "piles" p8) (.Name "run" p9) q1] [] q2) .Add (.Constant (.int 2) n1 q3) q4, .Call (.Name "len" q5) [.Subscript (.Name "piles" q6) (.BinOp (.Name "run" q7) .Sub (.Constant (.int 1) n2 q8) q9) r1] [] r2] [] r3) [.Eq] [.Constant (.int 0) n3 r4] r5] r1)
      (if h : j < ps.length then decide ((ps[j]'h).l.length + 1 = (ps[j - 1]'(Nat.lt_of_le_of_lt (Nat.sub_le _ _) h)).l.length) else false) := by
  have hlz : (ps.map fun p => D.obj p.a).length ≤ sizeLine := by rw [List.length_map]; exact sl8 (Nat.le_trans sm.len (by decide))
  have lenP : ∀ j (hj : j < ps.length), Fn w (k + 2) μ (.builtin "len") [.obj (ps[j]'hj).a] (.int (2 * (ps[j]'hj).l.length)) := fun j hj => Fn.lenPile (hp _ (List.getElem_mem hj)) (sm.one _ (List.getElem_mem hj)) (Nat.le_trans (sm.row _ (List.getElem_mem hj)) (by decide))
  refine Tr.cast (Tr.and (a := decide ((j : Int) < (ps.map fun p => D.obj p.a).length)) (b := if h : j < ps.length then decide ((ps[j]'h).l.length + 1 = (ps[j - 1]'(Nat.lt_of_le_of_lt (Nat.sub_le _ _) h)).l.length) else false) (.cmp (.name rfl) (.call (nm_len hlen) (.blt _) (.one (.name rfl)) (Fn.len hlz)) .ltI) fun ha => ?_) ?_
  · have hlt : j < ps.length := by simpa using ha
    rw [dif_pos hlt]
    refine Tr.cast (.cmp (.call (nm_twc htw) ca_twc (.two (.bin (.call (nm_len hlen) (.blt _) (.one (.item (.name rfl) (.name rfl) (pile_item hlt) hlz)) (lenP j hlt)) .int .add)
      (.call (nm_len hlen) (.blt _) (.one (.item (i := (j : Int) - 1) (.name rfl) (.bin (.name rfl) .int .sub) (by rw [show (j : Int) - 1 = ((j - 1 : Nat) : Int) from natPred h1]; exact pile_item (Nat.lt_of_le_of_lt (Nat.sub_le _ _) hlt)) hlz)) (lenP (j - 1) (Nat.lt_of_le_of_lt (Nat.sub_le _ _) hlt))) rfl rfl) (fn_twc (k := k + 1))) .int .eqI) ?_
    rw [twc_eq]
    congr 1
    exact propext dbl1
  · by_cases hlt : j < ps.length <;> simp [hlt]

set_option maxHeartbeats 1000000 in
theorem fn_run {ps : List Pile} {m : Nat} (hp : PIn μ ps) (sm : PSm ps) (hr : RunIs ps m) : Fn w (k + 3) μ (.ref 141) [pilesD ps] (.int m) := by
  intro W A E s vs Q ok bs dv h
  refine enter (f := 141) (o := fnO w 141) (fd := fdO w 141) (P := fun _ => False) ok bs dv (by kernel_rfl) (by kernel_rfl) (by kernel_rfl) rfl (by kernel_rfl) (par1 (x := "piles") (fun v => by kernel_rfl) (.inl (by kernel_rfl))) rfl (by kernel_rfl) (by kernel_rfl) (fun s₁ L b₁ => ?_) (by kernel_rfl) (by kernel_rfl) (by kernel_rfl)
  have ok' := ok.deeper (env := callEnvC (fdO w 141) L 141)
  refine b₁.assign ok' .int (.loc (by kernel_rfl)) fun s₂ b₂ => ?_
  have pos := hr.pos
  have le := hr.le
  have hm : m - 1 + 1 = m := Nat.sub_add_cancel pos
  refine Bd.whileTo (m := m - 1) (i := 0) (fun j => [("run", .int ((j + 1 : Nat) : Int)), ("piles", pilesD ps)]) (Nat.zero_le _) b₂ ok' (fun j hj => ?_) ?_ (fun j s' Q' E' _ hj b' next => ?_) (fun s' b' => ?_)
  · have jm : j + 1 < m := Nat.add_lt_of_lt_sub hj
    have jl := Nat.lt_of_lt_of_le jm le
    refine Tr.cast (run_test (j := j + 1) hp sm (by kernel_rfl) (by kernel_rfl) (Nat.le_add_left _ _) (Nat.le_of_lt jl)) ?_
    rw [dif_pos jl]
    exact decide_eq_true (hr.go (j + 1) (Nat.le_add_left _ _) jm)
  · refine Tr.cast (run_test (j := m - 1 + 1) hp sm (by kernel_rfl) (by kernel_rfl) (Nat.le_add_left _ _) (by rw [hm]; exact le)) ?_
    by_cases hlt : m - 1 + 1 < ps.length
    · rw [dif_pos hlt]
      refine decide_eq_false fun e => hr.stop (hm ▸ hlt) ?_
      simpa only [hm] using e
    · rw [dif_neg hlt]
  · refine b'.aug ok' rfl .int (.loc (by kernel_rfl)) fun s₃ b₃ => Bd.nil (next s₃ (b₃.weak fun x d hx => ?_))
    rw [List.lookup_cons] at hx ⊢
    cases e : x == ("run" : PySem.Str) with
    | true => rw [e] at hx; rw [← hx]; rfl
    | false => rw [e] at hx; rw [List.lookup_cons, e]; exact hx
  · refine b'.ret ok' (.name rfl) fun v s₃ b₃ d₃ => ?_
    rw [hm] at d₃
    exact h v s₃ (b₃.out bs) b₃.ef.go d₃
end Mine
open PySem PySem.W PyProof.Rows
set_option Elab.async false
set_option maxRecDepth 100000
set_option linter.unusedVariables false
namespace Mine

variable {w : World} {k k' : Nat} {env : Env} {ρ : Rho} {μ μ' μ'' : List (Addr × Mu)}

section
variable {W P X : Addr → Prop} {s₀ s : Shared} {A : Around} {E : Value → Shared → Prop} {Q : Flow → Shared → Prop} {rest : List Stmt}

theorem St.addMu {a : Addr} {m : Mu} (st : St w W env ρ μ s) (wa : W a) (hd : ∀ dx l, m = .acc dx l → W dx) (hm : MuAt W s.heap a m) : St w W env ρ ((a, m) :: μ) s :=
  { st with
    mw := fun p hp => by
      rcases List.mem_cons.mp hp with rfl | hp
      · exact ⟨wa, hd⟩
      · exact st.mw p hp
    mu := fun p hp => by
      rcases List.mem_cons.mp hp with rfl | hp
      · exact hm
      · exact st.mu p hp }

/-- «x = [..]», a list that will grow -/
theorem Bd.openList {x : PySem.Str} {p q r : Pos} {es : List Expr} {ds : List D} (b : Bd w W env ρ μ P s₀ s) (ok : AOk k A) (he : Evs w k env ρ μ es ds) (hk : Sto env x) (hz : ds.length ≤ sizeLine) (hs : swapsWith (.List es p) (some (.Name x q)) r.line env = pure false)
    (h : ∀ a s', s₀.heap.get? a = none ∨ P a → ¬ W a → Bd w (fun b => W b ∨ b = a) env ((x, .obj a) :: ρ) ((a, .opn ds) :: μ) P s₀ s' → wpAny (MM w) A (execs rest env) Q E s') : wpAny (MM w) A (execs (.Assign [.Name x q] (.List es p) r :: rest) env) Q E s := by
  refine wpAny_execs_cons (wpAny_Assign_Name ?_ hs)
  refine List_ (he W A E s p _ ok b.toSt fun vs s₁ st₁ g₁ d₁ => ?_)
  refine wpAny_newObj_type ?_ (by show vs.toArray.size ≤ sizeLine; rw [List.size_toArray, d₁.length]; exact hz)
  have b₁ := b.next st₁ g₁
  have hn := get_size s₁.heap
  have up : ∀ c o, s₁.heap.get? c = some o → (s₁.heap.push { cls := .type "list", data := .seq vs.toArray }).get? c = some o := fun c o e => Heap.get?_push_of_some _ e
  have ha : (s₁.heap.push { cls := .type "list", data := .seq vs.toArray }).get? s₁.heap.objs.size = some { cls := .type "list", data := .seq vs.toArray } := Heap.get?_push_size _ rfl
  have st₂ := st₁.wide (W' := fun b => W b ∨ b = s₁.heap.objs.size) (X := (· = s₁.heap.objs.size)) (tk := s₁.toks) up (fun c => Iff.rfl) (fun c hc => hc ▸ hn) (fun c hc => ⟨_, hc ▸ ha⟩)
  have st₃ := st₂.addMu (a := s₁.heap.objs.size) (m := .opn ds) (.inr rfl) (fun dx l e => by cases e) ⟨vs, 0, ha, d₁.pr fun c o n e _ => ⟨up c o e, fun q => by
    rcases q with q | q
    · exact n q
    · rw [q, hn] at e; cases e⟩⟩
  have b₃ : Bd w (fun b => W b ∨ b = s₁.heap.objs.size) env ρ ((s₁.heap.objs.size, .opn ds) :: μ) P s₀ { s₁ with heap := s₁.heap.push { cls := .type "list", data := .seq vs.toArray }, toks := s₁.toks } :=
    ⟨st₃, b₁.ef.trans (Go.ef (.of (tk := s₁.toks) up)), b.fl, b.fc⟩
  refine b₃.store hk (.obj _) fun s' b' => h _ s' ?_ (fun q => ?_) b'
  · by_cases hp : P s₁.heap.objs.size
    · exact .inr hp
    · cases e : s₀.heap.get? s₁.heap.objs.size with
      | none => exact .inl rfl
      | some o =>
        by_cases ht : s₁.heap.objs.size = tblA
        · obtain ⟨ps, tt, _⟩ := st₁.tab
          rw [← ht, hn] at tt; cases tt
        · have := b₁.ef.keep _ o ht hp e
          rw [hn] at this; cases this
  · obtain ⟨o, e⟩ := st₁.live _ q
    rw [hn] at e; cases e

/-- a grown list is a list again -/
theorem Bd.close {x : PySem.Str} {a : Addr} {ds : List D} (b : Bd w (fun c => W c ∨ c = a) env ρ ((a, .opn ds) :: μ) P s₀ s) (hx : ρ.lookup x = some (.obj a)) (nW : ¬ W a) (wt : W tblA) (mw : MuW W μ) : Bd w W env ((x, .lst ds) :: ρ) μ P s₀ s := by
  have less : St w W env ρ μ s := by
    have : St w (fun c => W c ∨ c = a) env ρ μ s := { b.toSt with mw := fun p hp => b.mw p (List.mem_cons_of_mem _ hp), mu := fun p hp => b.mu p (List.mem_cons_of_mem _ hp) }
    exact this.less (fun c q => .inl q) wt mw
  refine ⟨{ less with loc := fun y d hy => ?_ }, b.ef, b.fl, b.fc⟩
  rw [List.lookup_cons] at hy
  cases e : y == x with
  | false => rw [e] at hy; exact less.loc y d hy
  | true =>
    rw [e] at hy
    cases hy
    obtain rfl : y = x := by simpa using e
    obtain ⟨v, hv, dv⟩ := less.loc y _ hx
    cases dv
    obtain ⟨vs, n, ho, da⟩ := b.mu _ List.mem_cons_self
    exact ⟨_, hv, .lst nW ⟨n, ho⟩ (da.less fun c q => .inl q)⟩

/-- «len(x)» of a growing list -/
theorem Fn.lenOpn {a : Addr} {ds : List D} (hm : (a, Mu.opn ds) ∈ μ) (hz : ds.length ≤ sizeLine) : Fn w k μ (.builtin "len") [.obj a] (.int ds.length) := by
  intro W A E s vs Q ok bs dv h
  cases dv with
  | cons x r =>
    cases r
    cases x
    obtain ⟨us, n, ho, da⟩ := bs.mu _ hm
    have e := da.length
    refine len_list (items := us.toArray) ⟨_, ho, rfl, n, rfl⟩ (by rw [List.size_toArray, e]; exact sz63 hz) ?_
    rw [List.size_toArray, e]
    exact h _ _ bs.tok .tok (.int _ _)
/-- «x[i]» of a growing list -/
theorem Ev.itemOpn {value slice : Expr} {p : Pos} {a : Addr} {ds : List D} {i : Int} {d : D} (hv : Ev w k env ρ μ value (.obj a)) (hm : (a, Mu.opn ds) ∈ μ) (hi : Ev w k env ρ μ slice (.int i)) (hx : pyGet ds i = some d) (hz : ds.length ≤ sizeLine) : Ev w k env ρ μ (.Subscript value slice p) d := by
  intro W A E s Q ok st h
  refine Subscript_ (hv W A E s _ ok st fun u s₁ st₁ g₁ d₁ => hi W A E s₁ _ ok st₁ fun v s₂ st₂ g₂ d₂ => ?_)
  cases d₂ with
  | int i t =>
    cases d₁
    obtain ⟨us, n, ho, da⟩ := st₂.mu _ hm
    have hl : s₂.heap.IsList a us.toArray := ⟨_, ho, rfl, n, rfl⟩
    exact subTail hl.typeIs slot_list_getitem.lookup (getItem_lst hl da hx hz fun v dv => h v s₂ st₂ (g₁.trans g₂) dv)

def putM (μ : List (Addr × Mu)) (a : Addr) (ds : List D) : List (Addr × Mu) := μ.map fun p => if (p.1 == a) = true then (p.1, match p.2 with | .opn _ => .opn ds | m => m) else p
theorem Bs.put {h' : Heap} {tk : Nat} {a : Addr} {ds ds' : List D} {vs' : List Value} {n' : Nat} (b : Bs w W μ s) (hm : (a, Mu.opn ds) ∈ μ) (hs : ∀ b o, b ≠ a → s.heap.get? b = some o → h'.get? b = some o) (ha : h'.get? a = some { cls := .type "list", data := .seq vs'.toArray n' }) (da : DAll W h' vs' ds') :
    Bs w W (putM μ a ds') { s with heap := h', toks := tk } := by
  have wa : W a := (b.mw _ hm).1
  obtain ⟨vs, n, e, r⟩ := b.mu _ hm
  have oa := (b.mu _ hm).off b.tab
  have pr : Pr W W s.heap h' := fun x o nx ex _ => ⟨hs x o (fun c => nx (c ▸ wa)) ex, nx⟩
  refine ⟨b.tx.at fun x o nx ex => hs x o (fun c => nx (c ▸ b.own _ wa)) ex, ?_, b.bare, b.wt, ?_, b.own, ?_, ?_⟩
  · obtain ⟨ps, tt, rr⟩ := b.tab
    exact ⟨ps, hs _ _ (Ne.symm oa.1) tt, rr⟩
  · intro x hx
    by_cases hxa : x = a
    · subst hxa; exact ⟨_, ha⟩
    · obtain ⟨o, e⟩ := b.live x hx
      exact ⟨o, hs x o hxa e⟩
  · intro p hp
    obtain ⟨p, hp', rfl⟩ := List.mem_map.mp hp
    have z := b.mw p hp'
    split
    · refine ⟨z.1, fun dx₂ l₂ e₂ => ?_⟩
      obtain ⟨p1, p2⟩ := p
      cases p2 with
      | acc d₂ m₂ => cases e₂; exact z.2 _ _ rfl
      | opn m₂ => cases e₂
    · exact z
  · intro p hp
    obtain ⟨p, hp', rfl⟩ := List.mem_map.mp hp
    have z := b.mu p hp'
    obtain ⟨p1, p2⟩ := p
    by_cases hpa : p1 = a
    · subst hpa
      simp only [beq_self_eq_true, if_true]
      cases p2 with
      | acc d₂ m₂ =>
        obtain ⟨⟨vs₂, n₂, e₂, r₂⟩, _⟩ := z
        dsimp only at e₂
        rw [e] at e₂; injection e₂ with e₂; injection e₂ with e₂; cases e₂
      | opn m₂ => exact ⟨vs', n', ha, da⟩
    · have hb : (p1 == a) = false := by simpa using hpa
      simp only [hb, Bool.false_eq_true, if_false]
      cases p2 with
      | acc d₂ m₂ =>
        obtain ⟨⟨vs₂, n₂, e₂, r₂⟩, w₂, hsh₂, t₂, t₂', q₂⟩ := z
        refine ⟨⟨vs₂, n₂, hs _ _ hpa e₂, r₂.pr pr⟩, w₂, hsh₂, t₂, t₂', hs _ _ (fun c => ?_) q₂⟩
        subst c; rw [e] at q₂; injection q₂ with q₂; injection q₂ with q1 q2 q3; cases q3
      | opn m₂ =>
        obtain ⟨vs₂, n₂, e₂, r₂⟩ := z
        exact ⟨vs₂, n₂, hs _ _ hpa e₂, r₂.pr pr⟩
end
end Mine
open PySem PySem.W PyProof.Rows
set_option Elab.async false
set_option maxRecDepth 100000
set_option linter.unusedVariables false
namespace Mine

variable {w : World} {k k' : Nat} {env : Env} {ρ : Rho} {μ μ' μ'' : List (Addr × Mu)}

section
variable {W P X : Addr → Prop} {s₀ s : Shared} {A : Around} {E : Value → Shared → Prop} {Q : Flow → Shared → Prop} {rest : List Stmt}

/-- «x.append(e)», a growing list -/
theorem Bd.append {x : PySem.Str} {p q r r' : Pos} {e : Expr} {a : Addr} {ds : List D} {d : D} (b : Bd w W env ρ μ P s₀ s) (ok : AOk k A) (hx : ρ.lookup x = some (.obj a)) (hd : (x == ("__debug__" : PySem.Str)) = false) (hm : (a, Mu.opn ds) ∈ μ) (hP : P a ∨ s₀.heap.get? a = none) (hz : ds.length ≤ 1000) (he : Ev w k env ρ μ e d)
    (hst : starEach [e] env = [(false, eval e env)]) (ht : MTree (.Name x p) "append" q r [e] env) (hi : interactive env = false) (hsw : swapsWith (.Call (.Attribute (.Name x p) "append" q) [e] [] r) none r'.line env = pure false)
    (h : ∀ s', Bd w W env ρ (putM μ a (ds ++ [d])) P s₀ s' → wpAny (MM w) A (execs rest env) Q E s') : wpAny (MM w) A (execs (.Expr (.Call (.Attribute (.Name x p) "append" q) [e] [] r) r' :: rest) env) Q E s := by
  refine wpAny_execs_cons ?_
  rw [exec_Expr _ _ _ hi hsw]
  refine wpAny_bind (wpAny_standAt (wpAny_bind ?_))
  obtain ⟨pl, ht⟩ := ht
  rw [ht]
  obtain ⟨v, hv, dv⟩ := b.loc x _ hx
  cases dv
  refine wpAny_bind (wpAny_Name (hv.load (h := s.heap) b.ek ?_) hd)
  refine wpAny_bind (wpAny_standAt (wpAny_bind (wpAny_holding ?_)))
  obtain ⟨us, n, ho, da⟩ := b.mu _ hm
  refine Calls.getMethod_list_append ho rfl rfl ?_
  refine callWith_of (.blt "list.append") (by rw [hst]; rfl) ?_
  rw [hst]
  show wpAny _ _ (spliced [(false, eval e env)]) _ _ _
  refine Calls.spliced_cons (he W A E s _ ok b.toSt fun u s₁ st₁ g₁ d₁ => ?_)
  refine Calls.spliced_nil ⟨st₁.tx, ?_⟩
  obtain ⟨us, n, ho, da⟩ := st₁.mu _ hm
  refine append_at ho (fun h' hs hg => ?_) (by rw [List.size_toArray, da.length]; exact szL hz (by decide))
  have wa := (st₁.mw _ hm).1
  have ta := (st₁.mu _ hm).off st₁.tab
  have hs' : ∀ b o, b ≠ a → s₁.heap.get? b = some o → h'.get? b = some o := fun b o nb e => (hs.2 b nb).trans e
  have pr : Pr W W s₁.heap h' := fun b o nb e _ => ⟨hs' b o (fun c => nb (c ▸ wa)) e, nb⟩
  have b₂ := st₁.toBs.put (tk := s₁.toks) (vs' := us ++ [u]) (n' := n + 1) (ds' := ds ++ [d]) hm hs' (by rw [hg]; simp) ((da.pr pr).append (.one (d₁.pr pr)))
  have ef : Ef (· = a) s₁ { s₁ with heap := h', toks := s₁.toks } := Ef.at hs' ta.1
  have st₂ := st₁.efX ef (fun c hc => by rw [hc]; exact wa) b₂
  refine wpAny_dropValue (h _ ((b.next st₁ g₁).nextX st₂ ef fun c hc => by rw [hc]; exact hP))
end
end Mine
open PySem PySem.W PyProof.Rows
set_option Elab.async false
set_option maxRecDepth 100000
set_option linter.unusedVariables false
namespace Mine

variable {w : World} {k k' : Nat} {env : Env} {ρ : Rho} {μ μ' μ'' : List (Addr × Mu)}

def pickL {α : Type} (ds : List α) (lo hi st : Option Int) : List α := (sliceRange (sliceBounds lo hi st ds.length).1 (sliceBounds lo hi st ds.length).2.1 (sliceBounds lo hi st ds.length).2.2).filterMap (ds[·]?)
theorem pick_map {α : Type} (f : α → D) (l : List α) (lo hi st : Option Int) : pick (l.map f) lo hi st = (pickL l lo hi st).map f := by
  unfold pick pickL
  rw [List.length_map, List.map_filterMap]
  congr 1
  funext i
  rw [List.getElem?_map]
def cellF (ns : List Int) (k : Nat) : Int := ([3, 1, 1, 0, 0] : List Int).getD k 0 + (pickL ns (some (k : Int)) none (some 5)).sum
def stepF (cs : List Int) : Nat → List Int
  | 0 => [1 + (cs.getD 1 0).fmod 5]
  | j + 1 => stepF cs j ++ [(stepF cs j).getLastD 0 + 1 + (cs.getD (2 + j) 0).fmod 3]
def cellsF (ns : List Int) : List Int := (List.range 5).map (cellF ns)
def sizesF (ns : List Int) : List Int := stepF (cellsF ns) (((cellsF ns).getD 0 0).fmod 4).toNat


theorem Bd.drop {W P : Addr → Prop} {s₀ s : Shared} {x : PySem.Str} {d : D} (b : Bd w W env ((x, d) :: ρ) μ P s₀ s) (h : ρ.lookup x = Option.none) : Bd w W env ρ μ P s₀ s :=
  b.weak fun y e hy => by
    rw [List.lookup_cons]
    cases q : y == x with
    | false => exact hy
    | true =>
      obtain rfl : y = x := by simpa using q
      rw [h] at hy; cases hy
theorem putM_head {W : Addr → Prop} {a : Addr} {ds ds' : List D} (mw : MuW W μ) (nW : ¬ W a) : putM ((a, .opn ds) :: μ) a ds' = (a, .opn ds') :: μ := by
  unfold putM
  rw [List.map_cons]
  simp only [beq_self_eq_true, if_true]
  congr 1
  conv => rhs; rw [← List.map_id μ]
  refine List.map_congr_left fun p hp => ?_
  rw [if_neg]
  · rfl
  · intro e
    have e : p.1 = a := by simpa using e
    exact nW (e ▸ (mw p hp).1)
theorem pyGet_last {ds : List D} (h : ds ≠ []) : pyGet ds (-1) = ds[ds.length - 1]? := by
  have hp : 0 < ds.length := List.length_pos_iff.mpr h
  exact pyGet_neg (j := 0) hp
theorem stepF_len (cs : List Int) (j : Nat) : (stepF cs j).length = j + 1 := by
  induction j with
  | zero => rfl
  | succ j ih => show (_ ++ [_]).length = _; rw [List.length_append, ih]; rfl
theorem pick_cells (ns : List Int) : ∀ m, m < 4 → pick ((cellsF ns).map D.int) (some 2) (some (2 + ((m : Nat) : Int))) none = (List.range m).map fun j => .int ((cellsF ns).getD (2 + j) 0) :=
  ltS (ltS (ltS (ltS lt0 rfl) rfl) rfl) rfl
set_option maxHeartbeats 2000000 in
theorem fn_sizes {ns : List Int} (hz : ns.length ≤ 1000) : Fn w (k + 1) μ (.ref 124) [.lst (ns.map .int)] (.lst ((sizesF ns).map .int)) := by
  intro W A E s vs Q ok bs dv h
  refine enter (f := 124) (o := fnO w 124) (fd := fdO w 124) (P := fun _ => False) ok bs dv (by kernel_rfl) (by kernel_rfl) (by kernel_rfl) rfl (by kernel_rfl) (par1 (x := "script") (fun v => by kernel_rfl) (.inr ⟨by kernel_rfl, fun n => by kernel_rfl⟩)) rfl (by kernel_rfl) (by kernel_rfl) (fun s₁ L b₁ => ?_) (by kernel_rfl) (by kernel_rfl) (by kernel_rfl)
  have ok' := ok.deeper (env := callEnvC (fdO w 124) L 124)
  have hzl : (ns.map D.int).length ≤ sizeLine := by rw [List.length_map]; exact sl8 hz
  refine b₁.assignC (bs := []) (em := fun Dl env' => emB _ Dl env') (p := fun _ => true) (f := fun j => [.int (cellF ns j)]) (bd := bd2 "k" "base" (fun i => .int (i : Int)) fun i => ([.int 3, .int 1, .int 1, .int 0, .int 0] : List D).getD i .none) (n := 5) ok' (by kernel_rfl) (by kernel_rfl) ?_ rfl (Sc.of (by kernel_rfl)) (fun C => .two _ _ _ _ _ _ (.loc (by kernel_rfl)) (.loc (by kernel_rfl))) (fun _ _ _ => rfl) ?_ (fun C j hj => Te.nil) (fun C Dl j hj _ => Em.base ?_) ?_ fun s₂ b₂ => ?_
  · exact Src.enum (nm_enumerate (by kernel_rfl)) (.list (.cons .int (.cons .int (.cons .int (.cons .int (.cons .int .nil))))))
  · decide
  · have hb : ([.int 3, .int 1, .int 1, .int 0, .int 0] : List D).getD j .none = .int (([3, 1, 1, 0, 0] : List Int).getD j 0) := by
      exact (ltS (ltS (ltS (ltS (ltS lt0 rfl) rfl) rfl) rfl) rfl : ∀ j, j < 5 → ([.int 3, .int 1, .int 1, .int 0, .int 0] : List D).getD j .none = .int (([3, 1, 1, 0, 0] : List Int).getD j 0)) j hj
    refine .bin (.name (congrArg some hb)) (.call (nm_sum (by kernel_rfl)) (.blt _) (.one (Ev.cast (.slice (.name rfl) (.some (.name rfl)) .none (.some .int) (by decide) hzl) (congrArg D.lst (pick_map D.int ns _ _ _)))) .sum) .add
  · rw [outL_range]; exact sl8 (by simp)
  · have hcs : outL 5 (fun _ => true) (fun j => [D.int (cellF ns j)]) = (cellsF ns).map D.int := by rw [outL_range]; unfold cellsF; rw [List.map_map]; rfl
    rw [hcs] at b₂
    obtain ⟨m, hm3, hm⟩ : ∃ m : Nat, m ≤ 3 ∧ (cellF ns 0).fmod 4 = (m : Int) := ⟨_, fm4 _⟩
    have hcz : ((cellsF ns).map D.int).length ≤ sizeLine := by rw [List.length_map]; exact sl8 (by unfold cellsF; simp)
    have hpk : pick ((cellsF ns).map D.int) (some 2) (some (2 + (cellF ns 0).fmod 4)) none = (List.range m).map fun j => .int ((cellsF ns).getD (2 + j) 0) := by
      rw [hm]
      exact pick_cells _ m (Nat.lt_succ_of_le hm3)
    have hst : sizesF ns = stepF (cellsF ns) m := by
      unfold sizesF
      rw [show (cellsF ns).getD 0 0 = cellF ns 0 from rfl, hm]
      rfl
    refine b₂.openList ok' (.one (.bin .int (.bin (.item (i := 1) (.name rfl) .int rfl hcz) .int (.mod (by decide))) .add) rfl) (.loc (by kernel_rfl)) (sl8 (by show 1 ≤ 1000; decide)) rfl fun a s₃ hfr nW b₃ => ?_
    have na : a ≠ tblA := fun e => nW (e ▸ b₂.wt)
    refine Bd.for (X := (· = a)) (Src.list (Ev.cast (.slice (.name rfl) (.some .int) (.some (.bin .int (.bin (.item (i := 0) (.name rfl) .int rfl hcz) .int (.mod (by decide))) .add)) .none (by decide) hcz) (congrArg D.lst hpk))) b₃ ok' (.one _ _ (.loc (by kernel_rfl))) (fun c hc => ⟨.inr hc, hc ▸ na, hc ▸ hfr.elim .inr .inl⟩) (fun j => _) (fun j => (a, Mu.opn ((stepF (cellsF ns) j).map .int)) :: μ) rfl rfl (fun j => ?_) (fun j W' s₄ Q' E' hj hW b₄ next => ?_) fun s₄ b₄ => ?_
    · exact fun p hp => by
        rcases List.mem_cons.mp hp with rfl | hp
        · exact ⟨_, List.mem_cons_self, rfl, fun dx l e => by cases e⟩
        · exact ⟨p, List.mem_cons_of_mem _ hp, rfl, fun dx l e => ⟨l, e⟩⟩
    · have hjm : j < m := by simpa using hj
      have hl := stepF_len (cellsF ns) j
      have hne : (stepF (cellsF ns) j).map D.int ≠ [] := fun e => by
        have := congrArg List.length e
        rw [List.length_map, hl] at this; cases this
      have hlast : pyGet ((stepF (cellsF ns) j).map D.int) (-1) = some (.int ((stepF (cellsF ns) j).getLastD 0)) := by
        rw [pyGet_last hne, List.length_map, List.getElem?_map, hl, List.getLastD_eq_getLast?, List.getLast?_eq_getElem?, hl, List.getElem?_eq_getElem (by rw [hl]; exact Nat.lt_succ_self j)]
        rfl
      have hcell : ((List.range m).map fun j => D.int ((cellsF ns).getD (2 + j) 0)).getD j .none = .int ((cellsF ns).getD (2 + j) 0) := by
        rw [List.getD_eq_getElem?_getD, List.getElem?_map, List.getElem?_range hjm]; rfl
      refine b₄.append (d := .int ((stepF (cellsF ns) j).getLastD 0 + 1 + ((cellsF ns).getD (2 + j) 0).fmod 3)) ok' rfl (by decide) List.mem_cons_self (.inl (.inl rfl)) (by rw [List.length_map, hl]; exact Nat.le_trans hjm (Nat.le_trans hm3 (by decide))) (.bin (.bin (.itemOpn (.name rfl) List.mem_cons_self (.neg .int) hlast (by rw [List.length_map, hl]; exact sl8 (Nat.le_trans hjm (Nat.le_trans hm3 (by decide))))) .int .add) (.bin (.name (congrArg some hcell)) .int (.mod (by decide))) .add) rfl ⟨_, rfl⟩ (by kernel_rfl) rfl fun s₅ b₅ => Bd.nil (next _ ?_)
      rw [putM_head b₂.mw nW] at b₅
      have hs : (stepF (cellsF ns) (j + 1)).map D.int = (stepF (cellsF ns) j).map D.int ++ [.int ((stepF (cellsF ns) j).getLastD 0 + 1 + ((cellsF ns).getD (2 + j) 0).fmod 3)] := List.map_append
      rw [hs]
      exact Bd.drop (x := "cell") b₅ rfl
    · rw [List.length_map, List.length_range, ← hst] at b₄
      refine (b₄.close (x := "sizes") rfl nW b₂.wt b₂.mw).ret ok' (.name rfl) fun v s₅ b₅ d₅ => h v s₅ (b₅.out bs) b₅.ef.go d₅
end Mine
open PySem PySem.W PyProof.Rows
set_option Elab.async false
set_option maxRecDepth 100000
set_option linter.unusedVariables false
namespace Mine

variable {w : World} {k k' : Nat} {env : Env} {ρ : Rho} {μ μ' μ'' : List (Addr × Mu)}

theorem pickL_len {α : Type} (l : List α) (lo hi st : Option Int) : (pickL l lo hi st).length ≤ l.length := by
  have h := slicePick_size_le (l.map fun _ => Value.none).toArray lo hi st
  have e : (slicePick (l.map fun _ => Value.none).toArray lo hi st).size = (pickL l lo hi st).length := by
    unfold slicePick pickL
    rw [List.size_toArray, List.size_toArray, List.length_map]
    have : ∀ js : List Nat, (js.filterMap fun j => (l.map fun _ => Value.none).toArray[j]?).length = (js.filterMap (l[·]?)).length := fun js => by
      induction js with
      | nil => rfl
      | cons j js ih =>
        rw [List.filterMap_cons, List.filterMap_cons]
        have e : (l.map fun _ => Value.none).toArray[j]? = l[j]?.map fun _ => Value.none := by rw [List.getElem?_toArray, List.getElem?_map]
        rw [e]
        cases l[j]? with
        | none => exact ih
        | some x => show _ + 1 = _ + 1; rw [ih]
    exact this _
  rw [e, List.size_toArray, List.length_map] at h
  exact h
theorem pickL_mem {α : Type} {l : List α} {lo hi st : Option Int} {x : α} (h : x ∈ pickL l lo hi st) : x ∈ l := by
  obtain ⟨j, _, hj⟩ := List.mem_filterMap.mp h
  exact List.mem_of_getElem? hj

theorem Cm.leI {a b : Int} : Cm w k .LtE (.int a) (.int b) (decide (a ≤ b)) := by
  intro W A E s μ u v Q ok bs du dv h
  cases du; cases dv
  exact PyProof.Rows.le_int (h _ bs (.refl _))

section
variable {W P X : Addr → Prop} {s₀ s s' : Shared} {A : Around} {E : Value → Shared → Prop} {Q : Flow → Shared → Prop} {rest : List Stmt}

/-- more may change: what was not there -/
theorem St.wideGo (st : St w W env ρ μ s) (g : Go s s') (b : Bs w W μ s') (hn : ∀ a, X a → s.heap.get? a = Option.none) (xl : ∀ a, X a → ∃ o, s'.heap.get? a = some o) : St w (fun a => W a ∨ X a) env ρ μ s' := by
  have pr : Pr W (fun a => W a ∨ X a) s.heap s'.heap := fun a o n e _ => ⟨g.gr.keep a o (fun c => n (c ▸ st.wt)) e, fun q => by
    rcases q with q | q
    · exact n q
    · rw [hn a q] at e; cases e⟩
  have st' := st.go g b
  exact {
    tx := b.tx
    tab := b.tab
    bare := b.bare
    wt := .inl b.wt
    live := fun a q => q.elim (b.live a) (xl a)
    own := fun a q => q.elim (b.own a) fun q => st.tx.fresh (hn a q)
    mw := fun p hp => ⟨.inl (b.mw p hp).1, fun dx l e => .inl ((b.mw p hp).2 dx l e)⟩
    mu := fun p hp => by
      have oa := (st.mu p hp).off st.tab
      have h2 := st.mu p hp
      obtain ⟨p, m⟩ := p
      cases m with
      | acc dx l =>
        obtain ⟨⟨vs, n, e, r⟩, w2, hsh, t, t', q⟩ := h2
        exact ⟨⟨vs, n, g.gr.keep _ _ oa.1 e, r.pr pr⟩, w2, hsh, t, t', g.gr.keep _ _ (oa.2 _ _ rfl) q⟩
      | opn l =>
        obtain ⟨vs, n, e, r⟩ := h2
        exact ⟨vs, n, g.gr.keep _ _ oa.1 e, r.pr pr⟩
    ek := st'.ek
    eg := st'.eg
    eb := st'.eb
    ns := st'.ns
    lo := st'.lo
    lw := fun q => by
      rcases q with q | q
      · exact st.lw q
      · obtain ⟨m, o, es, ep, ho, r⟩ := st.ns
        rw [hn _ q] at ho; cases ho
    cells := st'.cells
    co := st'.co
    cw := fun n c hc q => by
      rcases q with q | q
      · exact st.cw n c hc q
      · obtain ⟨v, o, ho, r⟩ := st.cells n c hc
        rw [hn _ q] at ho; cases ho
    ap := st'.ap
    loc := fun n d e => let ⟨v, h1, h2⟩ := st.loc n d e; ⟨v, h1.gr g.gr st.tab, h2.pr pr⟩ }

/-- «x = [comp]», a list that will grow -/
theorem Bd.assignCO {x : PySem.Str} {q q' : Pos} {elt target iter : Expr} {ifs : List Expr} {gens : List Comprehension} {scope : Scope} {pos : Pos} {bs : List PySem.Str} {em : Addr → Env → Sem Fin → Sem Fin} {n : Nat} {bd : Nat → Rho} {p : Nat → Bool} {f : Nat → List D}
    (b : Bd w W env ρ μ P s₀ s) (ok : AOk k A) (hk : env.kindOf x = some .local)
    (hsw : swapsWith (.ListComp elt (⟨target, iter, ifs, 0⟩ :: gens) scope pos) (some (.Name x q')) q.line env = pure true)
    (hsrc : Src w k env ρ μ iter target n bd) (hkind : scope.kind = .function) (sc : Sc scope env) (htg : ∀ C, Tgt (cEnv scope env C) target)
    (hturn : ∀ C I Dl, compTurn (.ListComp elt (⟨target, iter, ifs, 0⟩ :: gens) scope pos) 0 (.ref I) (.ref Dl) (cEnv scope env C) = turnT target iter ifs (.ref I) (cEnv scope env C) (em Dl (cEnv scope env C) (again (.compLoop (.ListComp elt (⟨target, iter, ifs, 0⟩ :: gens) scope pos) 0 (.ref I) (.ref Dl) (cEnv scope env C)))) (again (.compLoop (.ListComp elt (⟨target, iter, ifs, 0⟩ :: gens) scope pos) 0 (.ref I) (.ref Dl) (cEnv scope env C))))
    (hfr : ∀ x ∈ tn target ++ bs, scope.names.lookup x ≠ some .free)
    (htest : ∀ C j, j < n → Te w k (cEnv scope env C) (bd j ++ fr scope ρ) μ ifs (p j)) (hem : ∀ C Dl j, j < n → p j = true → Em w k (cEnv scope env C) (bd j ++ fr scope ρ) μ Dl bs (em Dl (cEnv scope env C)) (f j)) (hz : (outL n p f).length ≤ sizeLine)
    (h : ∀ a s', s₀.heap.get? a = Option.none ∨ P a → ¬ W a → Bd w (fun b => W b ∨ b = a) env ((x, .obj a) :: ρ) ((a, .opn (outL n p f)) :: μ) P s₀ s' → wpAny (MM w) A (execs rest env) Q E s')
    (hs : ∀ x, foldedSetIterable iter env x = pure x := by intro _; rfl) :
    wpAny (MM w) A (execs (.Assign [.Name x q'] (.ListComp elt (⟨target, iter, ifs, 0⟩ :: gens) scope pos) q :: rest) env) Q E s := by
  refine wpAny_execs_cons ?_
  rw [exec_Assign_Name_used _ _ _ _ hsw]
  refine wpAny_bind (wpAny_standAt (wpAny_bind ?_))
  show wpAny _ A (do let _ ← comprehension (.ListComp elt (⟨target, iter, ifs, 0⟩ :: gens) scope pos) scope env _ (newList []) false (eval iter env) (some (PySem.assign (.Name x q') env))) _ _ s
  refine wpAny_bind (compRun (use := some (PySem.assign (.Name x q') env)) ok b.toSt hsrc hkind sc htg hturn hfr htest hem hz (fun s' Dl C m st' g d hn hC hDC hfresh => ?_) hs)
  obtain ⟨Ds, vs, ⟨nn, la1⟩, la2⟩ := hfresh
  have bx := bx_ns hn
  have hL : env.locals ≠ C := by
    rintro rfl
    obtain ⟨m, o, es, ep, ho, _⟩ := b.ns
    rw [hC] at ho; cases ho
  have nW : ¬ W Dl := fun q => by
    obtain ⟨o, e⟩ := b.live _ q
    rw [Ds] at e; cases e
  have stw : St w (fun a => W a ∨ a = Dl) env ρ μ s' := b.toSt.wideGo (X := (· = Dl)) g st'.toBs (fun a e => e ▸ Ds) fun a e => e ▸ ⟨_, la1⟩
  have st₁ : St w (fun a => W a ∨ a = Dl) env ρ ((Dl, .opn (outL n p f)) :: μ) s' := stw.addMu (.inr rfl) (fun dx l e => by cases e) ⟨vs, nn, la1, la2⟩
  show wpAny _ A (PySem.assign (.Name x q') env (.ref Dl)) _ _ _
  refine wpAny_assign_Name (st₁.store st₁.ap (.loc hk) (.obj Dl) fun h₂ tk c hs₂ hcc ht st₂ => ?_)
  have hc0 : s₀.heap.get? c = Option.none ∨ P c := by
    rcases hcc with q | q
    · exact q ▸ b.fl
    · exact b.fc x c q
  have hcC : C ≠ c := by
    rintro rfl
    rcases hcc with q | q
    · exact hL q.symm
    · obtain ⟨v, o, ho, hd⟩ := b.cells x _ q
      rw [hC] at ho; cases ho
  have hn₂ := hn.sameBut hs₂ hcC
  refine ⟨m, hn₂, fun h₃ hs₃ => wpAny_pure (wpAny_pure (h Dl _ ?_ nW ⟨?_, ?_, b.fl, b.fc⟩))⟩
  · by_cases hp : P Dl
    · exact .inr hp
    · cases e : s₀.heap.get? Dl with
      | none => exact .inl rfl
      | some o =>
        by_cases ht : Dl = tblA
        · exact absurd (ht ▸ b.wt) nW
        · have := b.ef.keep _ o ht hp e
          rw [Ds] at this; cases this
  · have bx₂ := bx_ns hn₂
    have hc : ∀ n c, env.cells.lookup n = some c → c ≠ C := by
      rintro n c hc rfl
      obtain ⟨v, o, ho, _⟩ := b.cells n c hc
      rw [hC] at ho; cases ho
    refine ⟨st₂.toBs.same (tk := tk) bx₂ (b.tx.fresh hC) (fun q => ?_) hs₃, st₂.ek, st₂.eg, st₂.eb, ?_, st₂.lo, st₂.lw, ?_, st₂.co, st₂.cw, st₂.ap, ?_⟩
    · rcases q with q | q
      · obtain ⟨o, e⟩ := b.live _ q
        rw [hC] at e; cases e
      · exact hDC q.symm
    · obtain ⟨m, hm⟩ := st₂.ns
      exact ⟨m, hm.sameBut hs₃ hL⟩
    · intro n c h1
      obtain ⟨v, hv⟩ := st₂.cells n c h1
      exact ⟨v, hv.sameBut hs₃ (hc n c h1)⟩
    · intro x d hx
      obtain ⟨v, hv, dv⟩ := st₂.loc x d hx
      refine ⟨v, ?_, dv.pr (bx₂.pr hs₃)⟩
      cases hv with
      | loc m h1 h2 h3 => exact .loc m h1 (h2.sameBut hs₃ hL) h3
      | cell c h1 h2 h3 => exact .cell c h1 h2 (h3.sameBut hs₃ (hc x c h2))
  · refine ⟨fun a o h1 h2 e => ?_, fun ps e => ?_, g.os.trans b.ef.os⟩
    · have e1 := b.ef.keep a o h1 h2 e
      have e2 := g.gr.keep a o h1 e1
      refine (hs₃.2 a (by rintro rfl; rw [hC] at e1; cases e1)).trans ((hs₂.2 a (by rintro rfl; exact hc0.elim (fun z => by rw [z] at e; cases e) h2)).trans e2)
    · obtain ⟨m, e⟩ := b.ef.tab _ e
      obtain ⟨m', e⟩ := g.gr.tab _ e
      exact ⟨m ++ m', by rw [← Array.append_assoc]; exact (hs₃.2 _ (Ne.symm (bx.tbl st'.tab))).trans ((hs₂.2 _ (Ne.symm ht)).trans e)⟩
end
end Mine
open PySem PySem.W PyProof.Rows
set_option Elab.async false
set_option maxRecDepth 100000
set_option linter.unusedVariables false
namespace Mine

variable {w : World} {k k' : Nat} {env : Env} {ρ : Rho} {μ μ' μ'' : List (Addr × Mu)}

abbrev Stn := PySem.Str × PySem.Str
def lastL (ls : List (List Stn)) : List Stn := ls.getD (ls.length - 1) []
def dueA (ls : List (List Stn)) : List (List Stn) := (List.range (pickL ls none (some (-1)) none).length).map fun (j : Nat) => (pickL ls none (some (-1)) none).getD j [] ++ pickL (pickL (lastL ls) none none (some (-1))) (some (j : Int)) (some ((j : Int) + 1)) none
def dueL (ls : List (List Stn)) (m : Int) : List (List Stn) :=
  if ((lastL ls).length : Int) ≤ m then dueA ls ++ [pickL (lastL ls) none (some (max ((lastL ls).length - ((dueA ls).length : Int)) 0)) none]
  else (List.range ls.length).map (fun (j : Nat) => if (j : Int) < m then pickL (ls.getD j []) none (some (-1)) none else ls.getD j []) ++
    [(List.range (pickL ls none (some m) none).length).map fun (j : Nat) => let l := (pickL ls none (some m) none).getD ((pickL ls none (some m) none).length - 1 - j) []; l.getD (l.length - 1) ("", "")]
def dueF (ls : List (List Stn)) (m : Int) : List (List Stn) := (dueL ls m).filter fun l => !l.isEmpty

theorem map_getD {α : Type} (l : List α) (d : α) (g : α → D) (j : Nat) (h : j < l.length) : (l.map g).getD j .none = g (l.getD j d) := by
  rw [List.getD_eq_getElem?_getD, List.getElem?_map, List.getD_eq_getElem?_getD, List.getElem?_eq_getElem h]; rfl

theorem outL_filter (L : List (List Stn)) : outL L.length (fun j => !PyData.eqv (toP (.lst ((L.getD j []).map stoneD))) (toP (.lst []))) (fun j => [D.lst ((L.getD j []).map stoneD)]) = (L.filter fun l => !l.isEmpty).map fun l => .lst (l.map stoneD) := by
  have key : ∀ l : List Stn, PyData.eqv (toP (.lst (l.map stoneD))) (toP (.lst [])) = l.isEmpty := fun l => by
    cases l with
    | nil => rfl
    | cons x l => simp [toP, toPs, PyData.eqv, PyData.eqvAll]
  simp only [key]
  have e : (List.range L.length).map (fun j => L.getD j []) = L := by
    apply List.ext_getElem
    · simp
    · intro i h1 h2
      simp [List.getElem?_eq_getElem h2]
  have f : ∀ M : List (List Stn), (M.flatMap fun l => if (!l.isEmpty) = true then [D.lst (l.map stoneD)] else []) = (M.filter fun l => !l.isEmpty).map fun l => .lst (l.map stoneD) := fun M => by
    induction M with
    | nil => rfl
    | cons x M ih =>
      rw [List.flatMap_cons, ih, List.filter_cons]
      cases x.isEmpty <;> rfl
  have g := f ((List.range L.length).map fun j => L.getD j [])
  rw [List.flatMap_map] at g
  rw [e] at g
  exact g

theorem SrcG.castN {fz : Bool} {e t : Expr} {n n' : Nat} {bd : Nat → Rho} (h : SrcG fz w k env ρ μ e t n bd) (x : n = n') : SrcG fz w k env ρ μ e t n' bd := x ▸ h
theorem stone_last {l : List Stn} (h : l ≠ []) : pyGet (l.map stoneD) (-1) = some (stoneD (l.getD (l.length - 1) ("", ""))) := by
  have hp' := List.length_pos_iff.mpr h
  rw [pyGet_last (by simpa using h), List.length_map, List.getElem?_map, List.getD_eq_getElem?_getD, List.getElem?_eq_getElem (predL hp')]
  rfl
theorem dueL_len {ls : List (List Stn)} {m : Int} (h1 : ls.length ≤ 100) : (dueL ls m).length ≤ 1000 := by
  unfold dueL dueA
  have := pickL_len ls none (some (-1)) none
  split <;> simp <;> first | exact Nat.le_trans this (Nat.le_trans h1 (by decide)) | exact Nat.le_trans h1 (by decide)
theorem due_filter {ls : List (List Stn)} {m : Int} {p1 p2 p3 p4 p5 p6 p7 : Pos} {scope : Scope} (h1 : ls.length ≤ 100) (h3 : ∀ l ∈ dueL ls m, cmpOk (.lst (l.map stoneD)) = true) (hd : ρ.lookup ("due" : PySem.Str) = some (laidD (dueL ls m)))
    (hk : scope.kind = .function) (sc : scB scope env = true) (hfr : ((tn (.Name "stones" p2)).all fun x => !(scope.names.lookup x == some .free)) = true) (hsto : ∀ C, Sto (cEnv scope env C) "stones") :
    Ev w k env ρ μ (.ListComp (.Name "stones" p1) [⟨.Name "stones" p2, .Name "due" p3, [.Compare (.Name "stones" p4) [.NotEq] [.List [] p5] p6], 0⟩] scope p7) (laidD (dueF ls m)) := by
  refine Ev.comp1 (p := fun j => !PyData.eqv (toP (.lst (((dueL ls m).getD j []).map stoneD))) (toP (.lst []))) (f := fun j => .lst (((dueL ls m).getD j []).map stoneD)) (Src.list (.name hd)) (fun C => .one _ _ (hsto C)) (fun C j hj => ?_) (fun C j hj hp => ?_) ?_ ?_ hk sc hfr (fun _ => rfl)
  · rw [List.length_map] at hj
    refine Te.one (.cmp (.name (congrArg some (map_getD (dueL ls m) [] (fun l => D.lst (l.map stoneD)) j hj))) (.list .nil) (Cm.neD (h3 _ ?_) (by decide)))
    rw [List.getD_eq_getElem?_getD, List.getElem?_eq_getElem hj]
    exact List.getElem_mem _
  · rw [List.length_map] at hj
    exact .name (congrArg some (map_getD (dueL ls m) [] (fun l => D.lst (l.map stoneD)) j hj))
  · rw [List.length_map, outL_filter]; rfl
  · rw [List.length_map]
    exact Nat.le_trans (List.length_filter_le _ _) (sl8 (dueL_len h1))

set_option maxHeartbeats 4000000 in
theorem fn_due {ls : List (List Stn)} {m : Int} (h0 : ls ≠ []) (h1 : ls.length ≤ 100) (h2 : ∀ l ∈ ls, l.length ≤ 100 ∧ l ≠ []) (h3 : ∀ l ∈ dueL ls m, cmpOk (.lst (l.map stoneD)) = true) : Fn w (k + 1) μ (.ref 158) [laidD ls, .int m] (laidD (dueF ls m)) := by
  intro W A E s vs Q ok bs dv h
  refine enter (f := 158) (o := fnO w 158) (fd := fdO w 158) (P := fun _ => False) ok bs dv (by kernel_rfl) (by kernel_rfl) (by kernel_rfl) rfl (by kernel_rfl) (par2 (x := "laid") (y := "run") (fun u v => by kernel_rfl) (by decide) (.inr ⟨by kernel_rfl, fun n => by kernel_rfl⟩) (.inr ⟨by kernel_rfl, fun n => by kernel_rfl⟩)) rfl (by kernel_rfl) (by kernel_rfl) (fun s₁ L b₁ => ?_) (by kernel_rfl) (by kernel_rfl) (by kernel_rfl)
  have ok' := ok.deeper (env := callEnvC (fdO w 158) L 158)
  have hp : 0 < ls.length := List.length_pos_iff.mpr h0
  have hlz : (ls.map fun l => D.lst (l.map stoneD)).length ≤ sizeLine := by rw [List.length_map]; exact sl8 (Nat.le_trans h1 (by decide))
  have hlm : lastL ls ∈ ls := by
    unfold lastL
    rw [List.getD_eq_getElem?_getD, List.getElem?_eq_getElem (Nat.sub_lt hp Nat.one_pos)]
    exact List.getElem_mem _
  have hlast : pyGet (ls.map fun l => D.lst (l.map stoneD)) (-1) = some (.lst ((lastL ls).map stoneD)) := by
    rw [pyGet_last (by simpa using h0), List.length_map, List.getElem?_map, List.getElem?_eq_getElem (Nat.sub_lt hp Nat.one_pos)]
    unfold lastL
    rw [List.getD_eq_getElem?_getD, List.getElem?_eq_getElem (Nat.sub_lt hp Nat.one_pos)]
    rfl
  have hlen : (lastL ls).length ≤ 100 := (h2 _ hlm).1
  have hlsz : ((lastL ls).map stoneD).length ≤ sizeLine := by rw [List.length_map]; exact sl8 (Nat.le_trans hlen (by decide))
  refine b₁.assign ok' (.call (nm_len (by kernel_rfl)) (.blt _) (.one (.item (.name rfl) (.neg .int) hlast hlz)) (Fn.len hlsz)) (.loc (by kernel_rfl)) fun s₂ b₂ => ?_
  rw [List.length_map] at b₂
  have hlq := dueL_len (m := m) h1
  refine b₂.ifs ok' (.cmp (.name rfl) (.name rfl) .leI) (fun hc s₃ b₃ => ?_) fun hc s₃ b₃ => ?_
  · have hle : ((lastL ls).length : Int) ≤ m := of_decide_eq_true hc
    refine b₃.assignCO (bs := []) (em := fun Dl env' => emB _ Dl env') (p := fun _ => true) (f := fun j => [.lst (((pickL ls none (some (-1)) none).getD j [] ++ pickL (pickL (lastL ls) none none (some (-1))) (some (j : Int)) (some ((j : Int) + 1)) none).map stoneD)]) (bd := bd2 "j" "stones" (fun i => .int (i : Int)) fun i => ((pickL ls none (some (-1)) none).map fun l => D.lst (l.map stoneD)).getD i .none) (n := (pickL ls none (some (-1)) none).length) ok' (by kernel_rfl) (by kernel_rfl) ?_ rfl (Sc.of (by kernel_rfl)) (fun C => .two _ _ _ _ _ _ (.loc (by kernel_rfl)) (.loc (by kernel_rfl))) (fun _ _ _ => rfl) ?_ (fun C j hj => Te.nil) (fun C Dl j hj _ => Em.base ?_) ?_ fun a s₄ hfr nW b₄ => ?_
    · exact SrcG.castN (Src.enum (nm_enumerate (by kernel_rfl)) (Ev.cast (.slice (.name rfl) .none (.some (.neg .int)) .none (by decide) hlz) (congrArg D.lst (pick_map (fun l => D.lst (l.map stoneD)) ls _ _ _)))) (by rw [List.length_map])
    · decide
    · rw [List.map_append]
      have hjl : (pickL ls none (some (-1)) none).getD j [] ∈ ls := pickL_mem (by
        rw [List.getD_eq_getElem?_getD, List.getElem?_eq_getElem hj]
        exact List.getElem_mem _)
      refine .bin (.name (congrArg some (map_getD (pickL ls none (some (-1)) none) [] (fun l => D.lst (l.map stoneD)) j hj))) (Ev.cast (.slice (Ev.cast (.slice (.item (.name rfl) (.neg .int) hlast hlz) .none .none (.some (.neg .int)) (by decide) hlsz) (congrArg D.lst (pick_map stoneD (lastL ls) _ _ _))) (.some (.name rfl)) (.some (.bin (.name rfl) .int .add)) .none (by decide) ?_) (congrArg D.lst (pick_map stoneD _ _ _ _))) (Bo.cat ?_)
      · rw [List.length_map]
        exact sl8 (Nat.le_trans (pickL_len _ _ _ _) (Nat.le_trans hlen (by decide)))
      · rw [List.length_map, List.length_map]
        have q1 := (h2 _ hjl).1
        have q2 := Nat.le_trans (pickL_len (pickL (lastL ls) none none (some (-1))) (some (j : Int)) (some ((j : Int) + 1)) none) (pickL_len _ _ _ _)
        exact sl8 (Nat.le_trans (Nat.add_le_add q1 (Nat.le_trans q2 hlen)) (by decide))
    · rw [outL_range, List.length_map, List.length_range]
      exact sl8 (Nat.le_trans (pickL_len _ _ _ _) (Nat.le_trans h1 (by decide)))
    · have hq : outL (pickL ls none (some (-1)) none).length (fun _ => true) (fun j => [D.lst (((pickL ls none (some (-1)) none).getD j [] ++ pickL (pickL (lastL ls) none none (some (-1))) (some (j : Int)) (some ((j : Int) + 1)) none).map stoneD)]) = (dueA ls).map fun l => .lst (l.map stoneD) := by
        rw [outL_range]; unfold dueA; rw [List.map_map]; rfl
      rw [hq] at b₄
      have hal : (dueA ls).length ≤ 100 := by
        unfold dueA
        rw [List.length_map, List.length_range]
        exact Nat.le_trans (pickL_len _ _ _ _) h1
      have hal' : ((dueA ls).map fun l => D.lst (l.map stoneD)).length = (dueA ls).length := List.length_map ..
      refine b₄.append (d := .lst ((pickL (lastL ls) none (some (max ((lastL ls).length - ((dueA ls).length : Int)) 0)) none).map stoneD)) ok' rfl (by decide) List.mem_cons_self (hfr.elim .inr fun q => q.elim) (by rw [hal']; exact Nat.le_trans hal (by decide)) ?_ rfl ⟨_, rfl⟩ (by kernel_rfl) rfl fun s₅ b₅ => Bd.nil ?_
      · exact Ev.cast (.slice (.item (.name rfl) (.neg .int) hlast hlz) .none (.some (.call (nm_max (by kernel_rfl)) (.blt _) (.two (.bin (.name rfl) (.call (nm_len (by kernel_rfl)) (.blt _) (.one (.name rfl)) (Fn.lenOpn List.mem_cons_self (by rw [hal']; exact sl8 (Nat.le_trans hal (by decide))))) .sub) .int) .max2)) .none (by decide) hlsz) (by rw [hal', pick_map])
      · rw [putM_head b₂.mw nW] at b₅
        have hs : ((dueA ls).map fun l => D.lst (l.map stoneD)) ++ [.lst ((pickL (lastL ls) none (some (max ((lastL ls).length - ((dueA ls).length : Int)) 0)) none).map stoneD)] = (dueL ls m).map fun l => .lst (l.map stoneD) := by
          unfold dueL
          rw [if_pos hle, List.map_append]; rfl
        rw [hs] at b₅
        exact (b₅.close (x := "due") rfl nW b₂.wt b₂.mw).ret ok' (due_filter h1 h3 rfl rfl (by kernel_rfl) (by kernel_rfl) (fun C => .loc (by kernel_rfl))) fun v s₆ b₆ d₆ => h v s₆ (b₆.out bs) b₆.ef.go d₆
  · have hle : ¬ ((lastL ls).length : Int) ≤ m := of_decide_eq_false hc
    refine b₃.assignCO (bs := []) (em := fun Dl env' => emB _ Dl env') (p := fun _ => true) (f := fun j => [.lst ((if (j : Int) < m then pickL (ls.getD j []) none (some (-1)) none else ls.getD j []).map stoneD)]) (bd := bd2 "j" "stones" (fun i => .int (i : Int)) fun i => (ls.map fun l => D.lst (l.map stoneD)).getD i .none) (n := ls.length) ok' (by kernel_rfl) (by kernel_rfl) ?_ rfl (Sc.of (by kernel_rfl)) (fun C => .two _ _ _ _ _ _ (.loc (by kernel_rfl)) (.loc (by kernel_rfl))) (fun _ _ _ => rfl) ?_ (fun C j hj => Te.nil) (fun C Dl j hj _ => Em.base ?_) ?_ fun a s₄ hfr nW b₄ => ?_
    · exact SrcG.castN (Src.enum (nm_enumerate (by kernel_rfl)) (.name rfl)) (by rw [List.length_map])
    · decide
    · have hjl : ls.getD j [] ∈ ls := by
        rw [List.getD_eq_getElem?_getD, List.getElem?_eq_getElem hj]
        exact List.getElem_mem _
      refine .ifx (.cmp (.name rfl) (.name rfl) .ltI) (fun q => ?_) fun q => ?_
      · rw [if_pos (of_decide_eq_true q)]
        exact Ev.cast (.slice (.name (congrArg some (map_getD ls [] (fun l => D.lst (l.map stoneD)) j hj))) .none (.some (.neg .int)) .none (by decide) (by rw [List.length_map]; exact sl8 (Nat.le_trans (h2 _ hjl).1 (by decide)))) (congrArg D.lst (pick_map stoneD _ _ _ _))
      · rw [if_neg (of_decide_eq_false q)]
        exact .name (congrArg some (map_getD ls [] (fun l => D.lst (l.map stoneD)) j hj))
    · rw [outL_range, List.length_map, List.length_range]
      exact sl8 (Nat.le_trans h1 (by decide))
    · have hq : outL ls.length (fun _ => true) (fun j => [D.lst ((if (j : Int) < m then pickL (ls.getD j []) none (some (-1)) none else ls.getD j []).map stoneD)]) = ((List.range ls.length).map fun (j : Nat) => if (j : Int) < m then pickL (ls.getD j []) none (some (-1)) none else ls.getD j []).map fun l => .lst (l.map stoneD) := by
        rw [outL_range, List.map_map]; rfl
      rw [hq] at b₄
      refine b₄.append (d := .lst (((List.range (pickL ls none (some m) none).length).map fun (j : Nat) => let l := (pickL ls none (some m) none).getD ((pickL ls none (some m) none).length - 1 - j) []; l.getD (l.length - 1) ("", "")).map stoneD)) ok' rfl (by decide) List.mem_cons_self (hfr.elim .inr fun q => q.elim) (by rw [List.length_map, List.length_map, List.length_range]; exact Nat.le_trans h1 (by decide)) ?_ rfl ⟨_, rfl⟩ (by kernel_rfl) rfl fun s₅ b₅ => Bd.nil ?_
      · have hmem : ∀ j, j < (pickL ls none (some m) none).length → (pickL ls none (some m) none).getD ((pickL ls none (some m) none).length - 1 - j) [] ∈ ls := fun j hj => pickL_mem (by
          rw [List.getD_eq_getElem?_getD, List.getElem?_eq_getElem (nq0 hj)]
          exact List.getElem_mem _)
        refine Ev.comp1 (p := fun _ => true) (f := fun j => stoneD (((pickL ls none (some m) none).getD ((pickL ls none (some m) none).length - 1 - j) []).getD (((pickL ls none (some m) none).getD ((pickL ls none (some m) none).length - 1 - j) []).length - 1) ("", ""))) (Src.rev (nm_reversed (by kernel_rfl)) (Ev.cast (.slice (.name rfl) .none (.some (.name rfl)) .none (by decide) hlz) (congrArg D.lst (pick_map (fun l => D.lst (l.map stoneD)) ls _ _ _)))) (fun C => .one _ _ (.loc (by kernel_rfl))) (fun C j hj => Te.nil) (fun C j hj _ => ?_) ?_ ?_ rfl (by kernel_rfl) (by kernel_rfl) (fun _ => rfl)
        · rw [List.length_map] at hj ⊢
          have q := h2 _ (hmem j hj)
          exact .item (.name (congrArg some (map_getD (pickL ls none (some m) none) [] (fun l => D.lst (l.map stoneD)) _ (nq0 hj)))) (.neg .int) (stone_last q.2) (by rw [List.length_map]; exact sl8 (Nat.le_trans q.1 (by decide)))
        · rw [outL_range, List.length_map, List.map_map]; rfl
        · rw [List.length_map, List.length_map, List.length_range]
          exact sl8 (Nat.le_trans (pickL_len _ _ _ _) (Nat.le_trans h1 (by decide)))
      · rw [putM_head b₂.mw nW] at b₅
        have hs : (((List.range ls.length).map fun (j : Nat) => if (j : Int) < m then pickL (ls.getD j []) none (some (-1)) none else ls.getD j []).map fun l => D.lst (l.map stoneD)) ++ [.lst (((List.range (pickL ls none (some m) none).length).map fun (j : Nat) => let l := (pickL ls none (some m) none).getD ((pickL ls none (some m) none).length - 1 - j) []; l.getD (l.length - 1) ("", "")).map stoneD)] = (dueL ls m).map fun l => .lst (l.map stoneD) := by
          unfold dueL
          rw [if_neg hle, List.map_append]; rfl
        rw [hs] at b₅
        exact (b₅.close (x := "due") rfl nW b₂.wt b₂.mw).ret ok' (due_filter h1 h3 rfl rfl (by kernel_rfl) (by kernel_rfl) (fun C => .loc (by kernel_rfl))) fun v s₆ b₆ d₆ => h v s₆ (b₆.out bs) b₆.ef.go d₆
end Mine
open PySem PySem.W PyProof.Rows
set_option Elab.async false
set_option maxRecDepth 100000
set_option linter.unusedVariables false
namespace Mine

variable {w : World} {k k' : Nat} {env : Env} {ρ : Rho} {μ μ' μ'' : List (Addr × Mu)}

section
variable {W W' P X Y : Addr → Prop} {s₀ s s' : Shared} {A : Around} {E : Value → Shared → Prop} {rest : List Stmt}

/-- «_Accumulator()» -/
theorem ev_new {x : PySem.Str} {p q : Pos} {Q : Value → Shared → Prop} (ok : AOk (k + 2) A) (st : St w W env ρ μ s) (hn : Nm w env x (.ref 101))
    (h : ∀ a dx s', s.heap.get? a = Option.none → s.heap.get? dx = Option.none → a ≠ dx → St w (fun b => W b ∨ b = a ∨ b = dx) env ρ ((a, .acc dx []) :: μ) s' → Go s s' → Q (.ref a) s') : wpAny (MM w) A (eval (.Call (.Name x p) [] [] q) env) Q E s := by
  refine wpAny_Call_NameR (hn W A E s ρ μ p _ st ?_)
  refine callWith_K0 st.tx.k (show keepIn (KK w) (.ref 101) = true by kernel_rfl) ?_
  refine new_acc (k := k) ok st.toBs fun a dx h' tk na nd hne b hk => h a dx _ na nd hne (st.grow (Y := fun _ => False) (Go.ef (.of hk)) (fun _ q => q.elim) b (fun c q => ?_) fun c q => .inl q) (.of hk)
  rcases q with q | q | q
  · exact .inl q
  · exact .inr (q ▸ na)
  · exact .inr (q ▸ nd)

theorem Bd.fresh {a : Addr} (b : Bd w W env ρ μ P s₀ s) (hn : s.heap.get? a = Option.none) : s₀.heap.get? a = Option.none ∨ P a := by
  by_cases hp : P a
  · exact .inr hp
  · cases e : s₀.heap.get? a with
    | none => exact .inl rfl
    | some o =>
      by_cases ht : a = tblA
      · obtain ⟨o', e'⟩ := b.live _ b.wt
        rw [← ht, hn] at e'; cases e'
      · have := b.ef.keep _ o ht hp e
        rw [hn] at this; cases this

/-- «x = _Accumulator()» -/
theorem Bd.assignNew {x y : PySem.Str} {p q q' r : Pos} {Q : Flow → Shared → Prop} (b : Bd w W env ρ μ P s₀ s) (ok : AOk (k + 2) A) (hn : Nm w env x (.ref 101)) (hk : Sto env y) (hs : swapsWith (.Call (.Name x p) [] [] q) (some (.Name y q')) r.line env = pure false)
    (h : ∀ a dx s', (s₀.heap.get? a = Option.none ∨ P a) → (s₀.heap.get? dx = Option.none ∨ P dx) → ¬ W a → ¬ W dx → a ≠ dx → Bd w (fun b => W b ∨ b = a ∨ b = dx) env ((y, .obj a) :: ρ) ((a, .acc dx []) :: μ) P s₀ s' → wpAny (MM w) A (execs rest env) Q E s') :
    wpAny (MM w) A (execs (.Assign [.Name y q'] (.Call (.Name x p) [] [] q) r :: rest) env) Q E s := by
  refine wpAny_execs_cons (wpAny_Assign_Name ?_ hs)
  refine ev_new ok b.toSt hn fun a dx s' na nd hne st g => ?_
  have nw : ∀ c, s.heap.get? c = Option.none → ¬ W c := fun c e q => by
    obtain ⟨o, e'⟩ := b.live _ q
    rw [e] at e'; cases e'
  have b₂ : Bd w (fun b => W b ∨ b = a ∨ b = dx) env ρ ((a, .acc dx []) :: μ) P s₀ s' := ⟨st, b.ef.trans g.ef, b.fl, b.fc⟩
  exact b₂.store hk (.obj a) fun s'' b'' => h a dx s'' (b.fresh na) (b.fresh nd) (nw a na) (nw dx nd) hne b''
end

def muN (ps : List Pile) (μ : List (Addr × Mu)) : List (Addr × Mu) := (ps.reverse.map fun p => (p.a, Mu.acc p.dx p.l)) ++ μ
def inP (ps : List Pile) (a : Addr) : Prop := ∃ p ∈ ps, a = p.a ∨ a = p.dx
theorem muN_snoc (ps : List Pile) (p : Pile) : muN (ps ++ [p]) μ = (p.a, .acc p.dx p.l) :: muN ps μ := by
  unfold muN
  rw [List.reverse_append]; rfl
theorem muN_mem {ps : List Pile} {q : Addr × Mu} (h : q ∈ muN ps μ) : (∃ p ∈ ps, q = (p.a, .acc p.dx p.l)) ∨ q ∈ μ := by
  rcases List.mem_append.mp h with h | h
  · obtain ⟨p, hp, rfl⟩ := List.mem_map.mp h
    exact .inl ⟨p, List.mem_reverse.mp hp, rfl⟩
  · exact .inr h
theorem muN_in {ps : List Pile} : PIn (muN ps μ) ps := fun p hp => List.mem_append_left _ (List.mem_map.mpr ⟨p, List.mem_reverse.mpr hp, rfl⟩)
theorem muN_x {X : Addr → Prop} {ps : List Pile} (h1 : MuX X μ) (h2 : ∀ a, inP ps a → ¬ X a) : MuX X (muN ps μ) := fun q hq => by
  rcases muN_mem hq with ⟨p, hp, rfl⟩ | hq
  · exact ⟨h2 _ ⟨p, hp, .inl rfl⟩, fun dx l e => by cases e; exact h2 _ ⟨p, hp, .inr rfl⟩⟩
  · exact h1 q hq
end Mine
open PySem PySem.W PyProof.Rows
set_option Elab.async false
set_option maxRecDepth 100000
set_option linter.unusedVariables false
namespace Mine

variable {w : World} {k k' : Nat} {env : Env} {ρ : Rho} {μ μ' μ'' : List (Addr × Mu)}

theorem DAll.objs {W W' : Addr → Prop} {h h' : Heap} {as : List Addr} {vs : List Value} (x : DAll W h vs (as.map .obj)) : DAll W' h' vs (as.map .obj) := by
  induction as generalizing vs with
  | nil => cases x; exact .nil
  | cons a as ih =>
    cases x with
    | cons y r =>
      cases y
      exact .cons (.obj a) (ih r)

structure NewP (h : Heap) (n : Nat) (ps : List Pile) : Prop where
  len : ps.length = n
  emp : ∀ p ∈ ps, p.l = []
  nd : (ps.map (·.a)).Nodup
  fr : ∀ a, inP ps a → h.get? a = none

theorem inP_snoc (V : Addr → Prop) (ps : List Pile) (a dx : Addr) (l : List Stn) : (fun b => (V b ∨ inP ps b) ∨ b = a ∨ b = dx) = fun b => V b ∨ inP (ps ++ [⟨a, dx, l⟩]) b := by
  funext b
  apply propext
  unfold inP
  constructor
  · rintro ((q | ⟨p, hp, q⟩) | q)
    · exact .inl q
    · exact .inr ⟨p, List.mem_append_left _ hp, q⟩
    · exact .inr ⟨⟨a, dx, l⟩, List.mem_append_right _ (by simp), q⟩
  · rintro (q | ⟨p, hp, q⟩)
    · exact .inl (.inl q)
    · rcases List.mem_append.mp hp with hp | hp
      · exact .inl (.inr ⟨p, hp, q⟩)
      · rw [List.mem_singleton.mp hp] at q
        exact .inr q

theorem Ef.weakT {X Y : Addr → Prop} {bs : List PySem.Str} {s s' : Shared} (x : Ef (PP X bs env) s s') : Ef (PP (fun a => X a ∨ Y a) bs env) s s' := x.mono (PP.mono (fun a q => .inl q) fun n q => q)

section
variable {W W' P X Y : Addr → Prop} {s₀ s s' : Shared} {A : Around} {E : Value → Shared → Prop} {rest : List Stmt}

set_option maxHeartbeats 2000000 in
theorem newRun {x t : PySem.Str} {p q tp pos ppos : Pos} {iter : Expr} {scope : Scope} {use : Option (Value → Sem Unit)} {Q : Value → Shared → Prop} {n : Nat} {bd : Nat → Rho}
    (ok : AOk (k + 2) A) (st : St w W env ρ μ s) (hsrc : SrcG true w (k + 2) env ρ μ iter (.Name t tp) n bd) (hkind : scope.kind = .function) (sc : Sc scope env) (htg : ∀ C, Tgt (cEnv scope env C) (.Name t tp)) (hnm : ∀ C, Nm w (cEnv scope env C) x (.ref 101))
    (hfr : scope.names.lookup t ≠ some .free) (hz : n ≤ 1000)
    (h : ∀ s' Dl C m ps, NewP s.heap n ps → St w (fun a => W a ∨ inP ps a) env ρ (muN ps μ) s' → Go s s' → DIn (fun a => W a ∨ inP ps a) s'.heap (.ref Dl) (pilesD ps) → s'.heap.Ns C m → s.heap.get? C = none → (∀ a, inP ps a → a ≠ C) → compPost (MM w) A E use Q (.ref Dl) C (.ok .next) s')
    (hs : ∀ x, foldedSetIterable iter env x = pure x := by intro _; rfl) :
    wpAny (MM w) A (comprehension (.ListComp (.Call (.Name x p) [] [] q) [⟨.Name t tp, iter, [], 0⟩] scope pos) scope env ppos (newList []) false (eval iter env) use) Q E s := by
  refine wpAny_comprehension_free (g := ⟨.Name t tp, iter, [], 0⟩) (gs := []) rfl hs (clos_of sc) hkind (fun x hx hl => hl ▸ lookup_of_mem sc.nd (k := x.2) hx) ?_
  refine hsrc W A E s _ ok st fun s₂ W' I wr fp IS VS g hw st₂ fr₂ hfp is vs₂ K => ?_
  refine wpAny_newObj_type ?_ (by size_fits)
  have hD := get_size s₂.heap
  generalize hDl : s₂.heap.objs.size = Dl at *
  generalize hH : s₂.heap.push { cls := .type "list", dict := none, data := .seq ([] : List Value).toArray } = H at *
  have old : ∀ b o, s₂.heap.get? b = some o → H.get? b = some o := fun b o e => hH ▸ Heap.get?_push_of_some _ e
  have hDH : H.get? Dl = some { cls := .type "list", dict := none, data := .seq ([] : List Value).toArray } := by rw [← hH, ← hDl]; exact Heap.get?_push_size _ rfl
  have st₃ : St w (fun a => W' a ∨ a = Dl) env ρ μ { s₂ with heap := H } := st₂.wide (X := (· = Dl)) (tk := s₂.toks) old (fun a => Iff.rfl) (fun a ha => ha ▸ hD) (fun a ha => ⟨_, ha ▸ hDH⟩)
  refine wpAny_cEnv st₃ hkind sc fun e' h' he hel hk st₄ hcn => ?_
  dsimp only at hk st₄ hcn hel he ⊢
  generalize hC : H.objs.size = C at *
  rw [he, hel]
  have hCH : H.get? C = none := hC ▸ get_size H
  have hCs₂ : s₂.heap.get? C = none := by
    cases e : s₂.heap.get? C with
    | none => rfl
    | some o => rw [old _ _ e] at hCH; cases hCH
  have hDC : Dl ≠ C := by rintro rfl; rw [hDH] at hCH; cases hCH
  have nowr : ∀ a, W a → a ∉ wr := fun a ha q => by
    obtain ⟨o, e⟩ := st.live a ha
    rw [fr₂ a q] at e; cases e
  have Ds : s.heap.get? Dl = none := g.none st₂.tab hD
  have Cs : s.heap.get? C = none := g.none st₂.tab hCs₂
  have xt : tblA ∉ wr := nowr _ st.wt
  have nt : Dl ≠ tblA := fun q => by obtain ⟨o, e⟩ := st.live _ st.wt; rw [← q, Ds] at e; cases e
  have xm₂ : MuX (· ∈ wr) μ := fun q hq => ⟨nowr _ (st.mw q hq).1, fun dx l e => nowr _ ((st.mw q hq).2 dx l e)⟩
  have noD : ∀ a, W a → a ≠ Dl := fun a ha q => by
    obtain ⟨o, e⟩ := st.live a ha
    rw [q, Ds] at e; cases e
  have xmD : MuX (· = Dl) μ := fun q hq => ⟨noD _ (st.mw q hq).1, fun dx l e => noD _ ((st.mw q hq).2 dx l e)⟩
  have wrl : ∀ a ∈ wr, ∃ o, s₂.heap.get? a = some o := fun a ha => st₂.live a ((hw a).mpr (.inr ha))
  have ht : ∀ a ∈ fp, a ≠ tblA := fun a ha e => by
    rcases hfp a ha with q | q
    · exact xt (e ▸ q)
    · exact q.1 e
  have fpl : ∀ a ∈ fp, ∃ o, s₂.heap.get? a = some o := fun a ha => by
    rcases hfp a ha with q | ⟨_, _, o, e, _⟩
    · exact wrl a q
    · exact ⟨o, e⟩
  have nD : Dl ∉ fp := fun q => by obtain ⟨o, e⟩ := fpl _ q; rw [hD] at e; cases e
  have hl : (cEnv scope env C).locals ∉ fp := fun q => by
    obtain ⟨o, e⟩ := fpl _ q
    have e' : s₂.heap.get? C = some o := e
    rw [hCs₂] at e'; cases e'
  have hc : ∀ n c, (cEnv scope env C).cells.lookup n = some c → c ∉ fp := fun n c hc q => by
    obtain ⟨v, hv⟩ := st₄.cells n c hc
    obtain ⟨o', ho', h1, h2⟩ := bx_cell hv
    obtain ⟨o, e⟩ := fpl _ q
    rcases hfp _ q with q | ⟨_, _, o2, e2, q⟩
    · have hcs : s.heap.get? c = none := fr₂ c q
      by_cases hfree : scope.names.lookup n = some .free
      · have hm := mem_of_lookup hc
        have hm : (n, c) ∈ cellsFrom (C + 1) scope.names (clOf scope env) := hm
        rw [cellsFrom_app] at hm
        rcases List.mem_append.mp hm with z | z
        · have := lookup_of_mem sc.nd (cellsFrom_mem z)
          rw [hfree] at this; cases this
        · obtain ⟨v, o, ho, _⟩ := st.cells n c (clOf_mem sc z).2
          rw [hcs] at ho; cases ho
      · have := hcn n c hc hfree
        rw [old _ _ e] at this; cases this
    · have := hk _ _ (old _ _ e2)
      rw [show h'.get? c = some o' from ho'] at this; cases this
      rcases q with ⟨xs, n, q⟩ | ⟨xs, q⟩
      · exact h1 _ _ q
      · exact h2 _ q
  have nc : ∀ n, (cEnv scope env C).cells.lookup n ≠ some Dl := fun n q => by
    obtain ⟨v, hv⟩ := st₄.cells n _ q
    obtain ⟨o', ho', h1, h2⟩ := bx_cell hv
    have := hk _ _ hDH
    rw [show h'.get? Dl = some o' from ho'] at this; cases this
    exact h1 _ _ rfl
  have is₄ : IS 0 h' := (K A.in1 ok.hh).frame _ _ _ is fun b hb o e => hk b o (old b o e)
  have vs₄ : VS (fun a => W' a ∨ a = Dl) h' := (K A.in1 ok.hh).vpr _ _ _ _ (fun a o n e _ => ⟨hk a o (old a o e), fun q => by
    rcases q with q | q
    · exact n q
    · rw [q, hD] at e; cases e⟩) vs₂
  have hsh : (fr scope ρ).lookup t = none := by
    cases e : (fr scope ρ).lookup t with
    | none => rfl
    | some d => exact absurd (fr_lookup e).2 hfr
  have wk : ∀ {V : Addr → Prop} {ν : List (Addr × Mu)} j s', St w V (cEnv scope env C) (bd j ++ fr scope ρ) ν s' → St w V (cEnv scope env C) (fr scope ρ) ν s' := fun j s' st' => st'.weak fun y d hy => by
    rw [lookup_app]
    · exact hy
    · intro q hq c
      have hm : q.1 ∈ tn (.Name t tp) := by rw [← (K A ok.hh).nm j]; exact List.mem_map_of_mem hq
      have hm : q.1 = t := List.mem_singleton.mp hm
      rw [← c, hm, hsh] at hy; cases hy
  have fin : ∀ s' vs' ps, NewP h' n ps → St w (fun a => (W a ∨ a = Dl) ∨ inP ps a) (cEnv scope env C) (fr scope ρ) (muN ps μ) s' → s'.heap.PlainList Dl vs'.toArray → DAll W s'.heap vs' ((ps.map (·.a)).map .obj) → Ef (PP (fun a => a ∈ wr ∨ a = Dl) [t] (cEnv scope env C)) { s₂ with heap := h' } s' → compPost (MM w) A E use Q (.ref Dl) C (.ok .next) s' := by
    intro s' vs' ps np st' la' da' ef'
    have go : Go s s' := ⟨⟨fun a o h1 e => ?_, fun ps e => ?_⟩, ef'.os.trans g.os⟩
    · have fr4 : ∀ a, inP ps a → s.heap.get? a = none := fun a q => by
        have e4 := np.fr a q
        cases e : s.heap.get? a with
        | none => rfl
        | some o =>
          by_cases ht : a = tblA
          · obtain ⟨pp, tt, _⟩ := st₄.tab
            rw [ht] at e4
            rw [show h'.get? tblA = _ from tt] at e4; cases e4
          · rw [hk a o (old a o (g.gr.keep a o ht e))] at e4; cases e4
      have mw : MuW (fun a => W a ∨ inP ps a) (muN ps μ) := fun z hz => by
        rcases muN_mem hz with ⟨p, hp, rfl⟩ | hz
        · exact ⟨.inr ⟨p, hp, .inl rfl⟩, fun dx l e => by cases e; exact .inr ⟨p, hp, .inr rfl⟩⟩
        · exact ⟨.inl (st.mw z hz).1, fun dx l e => .inl ((st.mw z hz).2 dx l e)⟩
      have bs' : Bs w (fun a => W a ∨ inP ps a) (muN ps μ) s' := st'.toBs.less (fun a q => q.elim (fun q => .inl (.inl q)) .inr) (.inl st.wt) mw
      obtain ⟨m, hm⟩ := st'.ns
      have h4C : ∃ o, h'.get? C = some o := let ⟨m, o, es, ep, ho, r⟩ := st₄.ns; ⟨o, ho⟩
      have h4D : h'.get? Dl = some { cls := .type "list", dict := none, data := .seq ([] : List Value).toArray } := hk _ _ hDH
      refine h s' Dl C m ps ⟨np.len, np.emp, np.nd, fr4⟩ (st.grow (Y := fun _ => False) go.ef (fun _ q => q.elim) bs' (fun a q => q.elim .inl fun q => .inr (fr4 a q)) fun a q => .inl q) go (.lst (fun q => ?_) la' ?_) hm Cs fun a q e => ?_
      · rcases q with q | q
        · exact noD _ q rfl
        · have := np.fr _ q
          rw [h4D] at this; cases this
      · have := DAll.objs (W' := fun a => W a ∨ inP ps a) (h' := s'.heap) da'
        rw [List.map_map] at this
        exact this
      · obtain ⟨o, e'⟩ := h4C
        have := np.fr _ q
        rw [e, e'] at this; cases this
    · have e2 := g.gr.keep a o h1 e
      refine ef'.keep a o h1 (fun q => ?_) (hk a o (old a o e2))
      rcases q with (q | q) | q | ⟨m, hm, q⟩
      · rw [fr₂ a q] at e; cases e
      · rw [q, Ds] at e; cases e
      · have q' : a = C := q
        rw [q', Cs] at e; cases e
      · have hm : m = t := List.mem_singleton.mp hm
        have := hcn m a q (hm ▸ hfr)
        rw [old _ _ e2] at this; cases this
    · obtain ⟨m, e⟩ := g.gr.tab _ e
      obtain ⟨m', e⟩ := ef'.tab _ (hk _ _ (old _ _ e))
      exact ⟨m ++ m', by rw [e, Array.append_assoc]⟩
  have loop : codeAny (MM w) A (.compLoop (.ListComp (.Call (.Name x p) [] [] q) [⟨.Name t tp, iter, [], 0⟩] scope pos) 0 (.ref I) (.ref Dl) (cEnv scope env C)) (compPost (MM w) A E use Q (.ref Dl) C) { s₂ with heap := h' } := by
    refine loopJ (K A ok.hh) (em := emB (.Call (.Name x p) [] [] q) Dl (cEnv scope env C) (again (.compLoop (.ListComp (.Call (.Name x p) [] [] q) [⟨.Name t tp, iter, [], 0⟩] scope pos) 0 (.ref I) (.ref Dl) (cEnv scope env C)))) rfl (htg C)
      (fun j s' => ∃ ps vs', NewP h' j ps ∧ IS j s'.heap ∧ VS (fun a => (W' a ∨ a = Dl) ∨ inP ps a) s'.heap ∧ St w (fun a => (W' a ∨ a = Dl) ∨ inP ps a) (cEnv scope env C) (fr scope ρ) (muN ps μ) s' ∧ s'.heap.PlainList Dl vs'.toArray ∧ DAll W s'.heap vs' ((ps.map (·.a)).map .obj) ∧ Ef (PP (fun a => a ∈ wr ∨ a = Dl) [t] (cEnv scope env C)) { s₂ with heap := h' } s') ?_ ?_ ?_
    · rintro j s' ⟨ps, vs', np, is', vss, st', la', da', ef'⟩
      have xmj : ∀ {X : Addr → Prop}, MuX X μ → (∀ a, X a → ∃ o, h'.get? a = some o) → MuX X (muN ps μ) := fun hx hl => muN_x hx fun a q z => by
        obtain ⟨o, e⟩ := hl a z
        rw [np.fr a q] at e; cases e
      have wrl4 : ∀ a, a ∈ wr → ∃ o, h'.get? a = some o := fun a ha => by obtain ⟨o, e⟩ := wrl a ha; exact ⟨o, hk _ _ (old _ _ e)⟩
      have Dl4 : ∀ a, a = Dl → ∃ o, h'.get? a = some o := fun a ha => ⟨_, ha ▸ hk _ _ hDH⟩
      refine ⟨_, fr scope ρ, muN ps μ, is', vss, fun a ha => .inl (.inl ((hw a).mpr (.inr ha))), xt, st', xmj xm₂ wrl4, hl, hc, fun hlt s₁ Q E is₁ st₁ ch again' => ?_⟩
      have ef₁ := ch.ef st' xt
      have pr₁ : Pr (fun a => (W' a ∨ a = Dl) ∨ inP ps a) (fun a => (W' a ∨ a = Dl) ∨ inP ps a) s'.heap s₁.heap := fun a o n e q => ⟨by
        refine ch.keep a o (fun q => n (.inl (.inl ((hw a).mpr (.inr q))))) (fun c => ?_) (fun m _ c => ?_) e
        · obtain ⟨m, hm⟩ := st'.ns
          rw [← c] at hm
          obtain ⟨o', ho, h1, h2⟩ := bx_ns hm
          rw [e] at ho; cases ho
          rcases q with ⟨xs, n, q⟩ | ⟨xs, q⟩
          · exact h1 _ _ q
          · exact h2 _ q
        · obtain ⟨v, hv⟩ := st'.cells m a c
          obtain ⟨o', ho, h1, h2⟩ := bx_cell hv
          rw [e] at ho; cases ho
          rcases q with ⟨xs, n, q⟩ | ⟨xs, q⟩
          · exact h1 _ _ q
          · exact h2 _ q, n⟩
      have la₁ : s₁.heap.PlainList Dl vs'.toArray := let ⟨n, e⟩ := la'; ⟨n, ch.keep _ _ (fun q => nD ((K A ok.hh).sub _ q)) (fun c => hDC c) (fun m _ c => nc m c) e⟩
      have vs₁ := (K A ok.hh).vpr _ _ _ _ pr₁ vss
      refine wpAny_pure ?_
      rw [if_pos rfl]
      unfold emB
      refine wpAny_bind (wpAny_bind (ev_new (k := k) ok st₁ (hnm C) fun a dx s₂' na nd hne st₅ g₅ => wpAny_bind ?_))
      have la₂ : s₂'.heap.PlainList Dl vs'.toArray := let ⟨n, e⟩ := la₁; ⟨n, g₅.gr.keep _ _ nt e⟩
      have lenv : vs'.length = j := by rw [da'.length, List.length_map, List.length_map]; exact np.len
      refine wpAny_list_append_plain la₂ (fun h₃ hl₃ hs₃ => wpAny_pure ?_) (by rw [List.size_toArray, lenv]; exact szL (Nat.le_trans (Nat.le_of_lt hlt) hz) (by decide))
      have hk₃ : ∀ b o, ¬ b = Dl → s₂'.heap.get? b = some o → h₃.get? b = some o := fun b o n e => (hs₃.2 b n).trans e
      have ndl : ∀ b, s₁.heap.get? b = none → b ≠ Dl := fun b e c => by
        obtain ⟨n, e'⟩ := la₁
        rw [c, e'] at e; cases e
      have dead : ∀ b, s₁.heap.get? b = none → h'.get? b = none := fun b e => by
        cases e4 : h'.get? b with
        | none => rfl
        | some o =>
          by_cases hb : b = tblA
          · obtain ⟨pp, tt, _⟩ := st₁.tab
            rw [hb, tt] at e; cases e
          · have e5 := (ef'.trans ef₁.weakT).keep b o hb (fun q => ?_) e4
            · rw [e5] at e; cases e
            · rcases q with (q | q) | q | ⟨m, _, q⟩
              · obtain ⟨o', e'⟩ := (K A ok.hh).alive _ _ is₁ b q
                rw [e'] at e; cases e
              · exact ndl b e q
              · obtain ⟨m, o, es, ep, ho, r⟩ := st₁.ns
                rw [← q, e] at ho; cases ho
              · obtain ⟨v, o, ho, r⟩ := st₁.cells m b q
                rw [e] at ho; cases ho
      have pnl : ∀ b, inP ps b → b ≠ a ∧ b ≠ dx := fun b q => by
        obtain ⟨o, e⟩ := st₁.live b (.inr q)
        exact ⟨(fun c => by rw [c, na] at e; cases e), (fun c => by rw [c, nd] at e; cases e)⟩
      have xmD' : MuX (· = Dl) ((a, Mu.acc dx []) :: muN ps μ) := fun z hz => by
        rcases List.mem_cons.mp hz with rfl | hz
        · exact ⟨ndl _ na, fun d l e => by cases e; exact ndl _ nd⟩
        · exact xmj xmD Dl4 z hz
      have st₆ := st₅.chg (tk := s₂'.toks) (X := (· = Dl)) hk₃ (fun b hb => .inl (.inl (.inr hb))) (fun q => nt q.symm) (fun b hb => by obtain ⟨n, e⟩ := hl₃; exact ⟨_, hb ▸ e⟩) xmD'
      rw [inP_snoc (fun b => W' b ∨ b = Dl) ps a dx [], ← muN_snoc ps ⟨a, dx, []⟩] at st₆
      have efT : Ef (PP (fun a => a ∈ wr ∨ a = Dl) [t] (cEnv scope env C)) s₁ { s₂' with heap := h₃, toks := s₂'.toks } := g₅.ef.trans ⟨fun b o _ n e => hk₃ b o (fun q => n (.inl (.inr q))) e, fun pp e => ⟨#[], by simpa using hk₃ _ _ (fun q => nt q.symm) e⟩, rfl⟩
      refine again' _ ⟨ps ++ [⟨a, dx, []⟩], vs' ++ [.ref a], ⟨?_, ?_, ?_, ?_⟩, ?_, ?_, wk j _ st₆, by simpa using hl₃, ?_, (ef'.trans ef₁.weakT).trans efT⟩
      · rw [List.length_append, np.len]; rfl
      · intro p hp
        rcases List.mem_append.mp hp with hp | hp
        · exact np.emp p hp
        · rw [List.mem_singleton.mp hp]
      · rw [List.map_append]
        refine List.nodup_append.mpr ⟨np.nd, by simp, ?_⟩
        intro b hb c hc'
        obtain ⟨p, hp, rfl⟩ := List.mem_map.mp hb
        have hc' : c = a := by simpa using hc'
        rw [hc']
        exact (pnl _ ⟨p, hp, .inl rfl⟩).1
      · rintro b ⟨p, hp, q⟩
        rcases List.mem_append.mp hp with hp | hp
        · exact np.fr b ⟨p, hp, q⟩
        · rw [List.mem_singleton.mp hp] at q
          rcases q with q | q
          · exact dead b (q ▸ na)
          · exact dead b (q ▸ nd)
      · exact (K A ok.hh).frame _ _ _ is₁ fun b hb o e => hk₃ b o (fun q => nD (q ▸ hb)) (g₅.gr.keep b o (ht b hb) e)
      · refine (K A ok.hh).vpr _ _ _ _ (fun b o n e q => ⟨hk₃ b o (fun c => n (.inl (.inr c))) (g₅.gr.keep b o (fun c => n (.inl (.inl (c ▸ (hw _).mpr (.inl st.wt))))) e), fun c => ?_⟩) vs₁
        rcases c with c | ⟨p, hp, c⟩
        · exact n (.inl c)
        · rcases List.mem_append.mp hp with hp | hp
          · exact n (.inr ⟨p, hp, c⟩)
          · rw [List.mem_singleton.mp hp] at c
            rcases c with c | c
            · rw [c, na] at e; cases e
            · rw [c, nd] at e; cases e
      · rw [List.map_append, List.map_append]
        exact (DAll.objs (W := W) (h := s'.heap) da').append (.one (.obj a))
    · rintro s' ⟨ps, vs', np, is', vss, st', la', da', ef'⟩ h₃ tk hk₃
      have wrl4 : ∀ a, a ∈ wr → ∃ o, h'.get? a = some o := fun a ha => by obtain ⟨o, e⟩ := wrl a ha; exact ⟨o, hk _ _ (old _ _ e)⟩
      have nwp : ∀ a, inP ps a → a ∉ wr := fun a q z => by
        obtain ⟨o, e⟩ := wrl4 a z
        rw [np.fr a q] at e; cases e
      have hk₄ : ∀ a o, ¬ a ∈ wr → s'.heap.get? a = some o → h₃.get? a = some o := fun a o n e => hk₃ a o n e
      refine fin _ vs' ps np (st'.chgTo (X := (· ∈ wr)) (tk := tk) hk₄ (fun a ha => .inl (.inl ((hw a).mpr (.inr ha)))) xt (fun a => ?_) (muN_x xm₂ nwp)) (let ⟨n, e⟩ := la'; ⟨n, hk₄ _ _ (fun q => nD ((K A ok.hh).sub _ q)) e⟩) (DAll.objs da') (ef'.trans ⟨fun a o _ n e => hk₄ a o (fun q => n (.inl (.inl q))) e, fun ps e => ⟨#[], by simpa using hk₄ _ _ xt e⟩, rfl⟩)
      constructor
      · rintro ((q | q) | q)
        · exact ⟨.inl (.inl ((hw a).mpr (.inl q))), nowr a q⟩
        · exact ⟨.inl (.inr q), fun z => nD (q ▸ (K A ok.hh).sub _ z)⟩
        · exact ⟨.inr q, nwp a q⟩
      · rintro ⟨(q | q) | q, z⟩
        · rcases (hw a).mp q with q | q
          · exact .inl (.inl q)
          · exact absurd q z
        · exact .inl (.inr q)
        · exact .inr q
    · refine ⟨[], [], ⟨rfl, fun p hp => (List.not_mem_nil hp).elim, List.nodup_nil, fun a ⟨p, hp, _⟩ => (List.not_mem_nil hp).elim⟩, is₄, ?_, ?_, ⟨_, hk _ _ hDH⟩, .nil, .refl⟩
      · exact (K A ok.hh).vpr _ _ _ _ (fun a o n e _ => ⟨e, fun q => q.elim n fun ⟨p, hp, _⟩ => (List.not_mem_nil hp).elim⟩) vs₄
      · have e : (fun a => (W' a ∨ a = Dl) ∨ inP [] a) = fun a => W' a ∨ a = Dl := by
          funext a
          exact propext ⟨fun q => q.elim id fun ⟨p, hp, _⟩ => (List.not_mem_nil hp).elim, .inl⟩
        rw [e]
        exact st₄
  exact startL rfl loop ((K A ok.hh).self 0 _ _ _ is₄ loop)
end
end Mine
open PySem PySem.W PyProof.Rows
set_option Elab.async false
set_option maxRecDepth 100000
set_option linter.unusedVariables false
namespace Mine

variable {w : World} {k k' : Nat} {env : Env} {ρ : Rho} {μ μ' μ'' : List (Addr × Mu)}

theorem updM_self {a dx : Addr} {l l' : List Stn} (h : (a, Mu.acc dx l) ∈ μ) : (a, Mu.acc dx l') ∈ updM μ a l' := by
  unfold updM
  refine List.mem_map.mpr ⟨_, h, ?_⟩
  simp only [beq_self_eq_true, if_true]; rfl
theorem updM_other {a b : Addr} {l' : List Stn} {m : Mu} (h : (b, m) ∈ μ) (hn : b ≠ a) : (b, m) ∈ updM μ a l' := by
  unfold updM
  refine List.mem_map.mpr ⟨_, h, ?_⟩
  have : (b == a) = false := by simpa using hn
  simp only [this, Bool.false_eq_true, if_false]

/-- a test that changes what X names -/
def TrX (w : World) (k : Nat) (env : Env) (ρ : Rho) (μ : List (Addr × Mu)) (e : Expr) (X : Addr → Prop) (μ' : List (Addr × Mu)) (c : Bool) : Prop :=
  ∀ (W : Addr → Prop) (A : Around) (E : Value → Shared → Prop) (s : Shared) (Q : Bool → Shared → Prop), AOk k A → St w W env ρ μ s →
    (∀ s', St w W env ρ μ' s' → Ef X s s' → Q c s') → wpAny (MM w) A (isTrue e env (eval e env)) Q E s
theorem EvX.of {e : Expr} {d : D} (h : Ev w k env ρ μ e d) : EvX w k env ρ μ e (fun _ => False) μ d := fun W A E s Q ok st q => h W A E s Q ok st fun v s' st' g d => q v s' st' g.ef d
theorem TrX.cmp {l r : Expr} {op : CmpOp} {p : Pos} {a b : D} {c : Bool} {X : Addr → Prop} (hl : EvX w k env ρ μ l X μ' a) (hr : Ev w k env ρ μ' r b) (ho : Cm w k op a b c) (hX : ∀ W, MuW W μ → ∀ a, X a → W a) (hm : behindInMarks op r = false := by with_unfolding_all rfl) : TrX w k env ρ μ (.Compare l [op] [r] p) X μ' c := by
  intro W A E s Q ok st h
  refine wpAny_isTrue_Compare1 (hl W A E s _ ok st fun u s₁ st₁ g₁ d₁ => hr W A E s₁ _ ok st₁ fun v s₂ st₂ g₂ d₂ => ho W A E s₂ μ' u v _ ok st₂.toBs (d₁.go g₂ st.wt) d₂ fun s₃ b₃ g₃ => ?_) hm
  exact wpAny_truthy_bool (h s₃ (st₂.go g₃ b₃) (g₁.trans ((g₂.trans g₃).ef)))
theorem TrX.and {x y : Expr} {p : Pos} {a b : Bool} {X : Addr → Prop} (hx : Tr w k env ρ μ x a) (hy : a = true → TrX w k env ρ μ y X μ b) : TrX w k env ρ μ (.BoolOp .And [x, y] p) X μ (a && b) := by
  intro W A E s Q ok st h
  refine isTrue_and (hx W A E s _ ok st fun s₁ st₁ g₁ => ?_)
  cases a with
  | false => exact h s₁ st₁ g₁.ef
  | true =>
    refine isTrue_and (hy rfl W A E s₁ _ ok st₁ fun s₂ st₂ g₂ => ?_)
    cases b with
    | false => exact h s₂ st₂ (g₁.ef.trans g₂)
    | true => exact isTrue_and_nil (h s₂ st₂ (g₁.ef.trans g₂))

section
variable {W W' P X Y : Addr → Prop} {s₀ s s' : Shared} {A : Around} {E : Value → Shared → Prop} {Q : Flow → Shared → Prop} {rest : List Stmt}

theorem Bd.ifsX {t : Expr} {x y : List Stmt} {p : Pos} {c : Bool} (b : Bd w W env ρ μ P s₀ s) (ok : AOk k A) (ht : TrX w k env ρ μ t X μ' c) (hX : ∀ a, X a → P a ∨ s₀.heap.get? a = Option.none)
    (h1 : c = true → ∀ s', Bd w W env ρ μ' P s₀ s' → wpAny (MM w) A (execs x env) (fun f s'' => match f with | .next => wpAny (MM w) A (execs rest env) Q E s'' | f => Q f s'') E s')
    (h2 : c = false → ∀ s', Bd w W env ρ μ' P s₀ s' → wpAny (MM w) A (execs y env) (fun f s'' => match f with | .next => wpAny (MM w) A (execs rest env) Q E s'' | f => Q f s'') E s') :
    wpAny (MM w) A (execs (.If t x y p :: rest) env) Q E s := by
  refine wpAny_execs_cons (wpAny_If (ht W A E s _ ok b.toSt fun s₁ st₁ g₁ => ?_))
  cases c with
  | true => exact h1 rfl s₁ (b.nextX st₁ g₁ hX)
  | false => exact h2 rfl s₁ (b.nextX st₁ g₁ hX)

/-- an expression as a statement -/
theorem Bd.exprX {e : Expr} {p : Pos} {d : D} (b : Bd w W env ρ μ P s₀ s) (ok : AOk k A) (he : EvX w k env ρ μ e X μ' d) (hX : ∀ a, X a → P a ∨ s₀.heap.get? a = Option.none) (hi : interactive env = false) (hsw : swapsWith e Option.none p.line env = pure false)
    (h : ∀ s', Bd w W env ρ μ' P s₀ s' → wpAny (MM w) A (execs rest env) Q E s') : wpAny (MM w) A (execs (.Expr e p :: rest) env) Q E s := by
  refine wpAny_execs_cons ?_
  rw [exec_Expr _ _ _ hi hsw]
  exact wpAny_bind (wpAny_standAt (wpAny_bind (he W A E s _ ok b.toSt fun v s₁ st₁ g₁ d₁ => wpAny_dropValue (h s₁ (b.nextX st₁ g₁ hX)))))

/-- «x = [_Accumulator() for t in iter]» -/
theorem Bd.assignNews {x y t : PySem.Str} {p q tp pos q' r : Pos} {iter : Expr} {scope : Scope} {n : Nat} {bd : Nat → Rho}
    (b : Bd w W env ρ μ P s₀ s) (ok : AOk (k + 2) A) (hk : env.kindOf y = some .local)
    (hsw : swapsWith (.ListComp (.Call (.Name x p) [] [] q) [⟨.Name t tp, iter, [], 0⟩] scope pos) (some (.Name y q')) r.line env = pure true)
    (hsrc : SrcG true w (k + 2) env ρ μ iter (.Name t tp) n bd) (hkind : scope.kind = .function) (sc : Sc scope env) (htg : ∀ C, Tgt (cEnv scope env C) (.Name t tp)) (hnm : ∀ C, Nm w (cEnv scope env C) x (.ref 101))
    (hfr : scope.names.lookup t ≠ some .free) (hz : n ≤ 1000)
    (h : ∀ s' ps, NewP s.heap n ps → (∀ a, inP ps a → (s₀.heap.get? a = Option.none ∨ P a) ∧ ¬ W a) → Bd w (fun a => W a ∨ inP ps a) env ((y, pilesD ps) :: ρ) (muN ps μ) P s₀ s' → wpAny (MM w) A (execs rest env) Q E s')
    (hs : ∀ x, foldedSetIterable iter env x = pure x := by intro _; rfl) :
    wpAny (MM w) A (execs (.Assign [.Name y q'] (.ListComp (.Call (.Name x p) [] [] q) [⟨.Name t tp, iter, [], 0⟩] scope pos) r :: rest) env) Q E s := by
  refine wpAny_execs_cons ?_
  rw [exec_Assign_Name_used _ _ _ _ hsw]
  refine wpAny_bind (wpAny_standAt (wpAny_bind ?_))
  show wpAny _ A (do let _ ← comprehension (.ListComp (.Call (.Name x p) [] [] q) [⟨.Name t tp, iter, [], 0⟩] scope pos) scope env _ (newList []) false (eval iter env) (some (PySem.assign (.Name y q') env))) _ _ s
  refine wpAny_bind (newRun (use := some (PySem.assign (.Name y q') env)) ok b.toSt hsrc hkind sc htg hnm hfr hz (fun s' Dl C m ps np st' g d hn hC hpC => ?_) hs)
  have bx := bx_ns hn
  have hL : env.locals ≠ C := by
    rintro rfl
    obtain ⟨m, o, es, ep, ho, _⟩ := b.ns
    rw [hC] at ho; cases ho
  have nW : ∀ a, inP ps a → ¬ W a := fun a q z => by
    obtain ⟨o, e⟩ := b.live _ z
    rw [np.fr a q] at e; cases e
  show wpAny _ A (PySem.assign (.Name y q') env (.ref Dl)) _ _ _
  refine wpAny_assign_Name (st'.store st'.ap (.loc hk) d fun h₂ tk c hs₂ hcc ht st₂ => ?_)
  have hc0 : s₀.heap.get? c = Option.none ∨ P c := by
    rcases hcc with q | q
    · exact q ▸ b.fl
    · exact b.fc y c q
  have hcC : C ≠ c := by
    rintro rfl
    rcases hcc with q | q
    · exact hL q.symm
    · obtain ⟨v, o, ho, hd⟩ := b.cells y _ q
      rw [hC] at ho; cases ho
  have hn₂ := hn.sameBut hs₂ hcC
  refine ⟨m, hn₂, fun h₃ hs₃ => wpAny_pure (wpAny_pure (h _ ps np (fun a q => ⟨b.fresh (np.fr a q), nW a q⟩) ⟨?_, ?_, b.fl, b.fc⟩))⟩
  · have bx₂ := bx_ns hn₂
    have hc : ∀ n c, env.cells.lookup n = some c → c ≠ C := by
      rintro n c hc rfl
      obtain ⟨v, o, ho, _⟩ := b.cells n c hc
      rw [hC] at ho; cases ho
    refine ⟨st₂.toBs.same (tk := tk) bx₂ (b.tx.fresh hC) (fun q => ?_) hs₃, st₂.ek, st₂.eg, st₂.eb, ?_, st₂.lo, st₂.lw, ?_, st₂.co, st₂.cw, st₂.ap, ?_⟩
    · rcases q with q | q
      · obtain ⟨o, e⟩ := b.live _ q
        rw [hC] at e; cases e
      · exact hpC _ q rfl
    · obtain ⟨m, hm⟩ := st₂.ns
      exact ⟨m, hm.sameBut hs₃ hL⟩
    · intro n c h1
      obtain ⟨v, hv⟩ := st₂.cells n c h1
      exact ⟨v, hv.sameBut hs₃ (hc n c h1)⟩
    · intro x d hx
      obtain ⟨v, hv, dv⟩ := st₂.loc x d hx
      refine ⟨v, ?_, dv.pr (bx₂.pr hs₃)⟩
      cases hv with
      | loc m h1 h2 h3 => exact .loc m h1 (h2.sameBut hs₃ hL) h3
      | cell c h1 h2 h3 => exact .cell c h1 h2 (h3.sameBut hs₃ (hc x c h2))
  · refine ⟨fun a o h1 h2 e => ?_, fun ps e => ?_, g.os.trans b.ef.os⟩
    · have e1 := b.ef.keep a o h1 h2 e
      have e2 := g.gr.keep a o h1 e1
      refine (hs₃.2 a (by rintro rfl; rw [hC] at e1; cases e1)).trans ((hs₂.2 a (by rintro rfl; exact hc0.elim (fun z => by rw [z] at e; cases e) h2)).trans e2)
    · obtain ⟨m, e⟩ := b.ef.tab _ e
      obtain ⟨m', e⟩ := g.gr.tab _ e
      exact ⟨m ++ m', by rw [← Array.append_assoc]; exact (hs₃.2 _ (Ne.symm (bx.tbl st'.tab))).trans ((hs₂.2 _ (Ne.symm ht)).trans e)⟩
end
end Mine
open PySem PySem.W PyProof.Rows
set_option Elab.async false
set_option maxRecDepth 100000
set_option linter.unusedVariables false
namespace Mine

variable {w : World} {k k' : Nat} {env : Env} {ρ : Rho} {μ μ' μ'' : List (Addr × Mu)}
section
variable {A : Around} {E : Value → Shared → Prop} {s : Shared} {W : Addr → Prop} {a dx : Addr} {vs : List Value} {n : Nat}

/-- a method is bound -/
theorem acc_bound {hsh : Int} {t t' : Tok} {expr : Bool} {Q : Value → Shared → Prop} (X : (KK w).In s.heap) (e : s.heap.get? a = some (accO dx vs n)) (ed : s.heap.get? dx = some (accD hsh t t'))
    (h : Q (.ref s.heap.objs.size) { s with heap := s.heap.push (methodObj (.ref 45) (.ref a)), toks := s.toks + 1 }) : wpAny (MM w) A (getAttr (.ref a) "push" expr) Q E s := by
  have I := acc_inst e ed
  have hf : findObj (KK w) 101 (some (accD hsh t t')) "push" = some (.bind (.builtin "function.__get__") (.ref 45)) := by kernel_rfl
  obtain ⟨hh', g, d, tk, os⟩ := s
  have L0 := I.type (M := MM w)
  have L1 := looks_findIn (M := MM w) X (show findIn (KK w) (.ref 101) "__getattribute__" = some (some (.builtin "list.__getattribute__")) by kernel_rfl)
  have L2 := looks_find (M := MM w) X I hf
  unfold getAttr getAttrBy
  refine wpAny_bind (wpAny_mkText (wpAny_holding (wpAny_bind (L0.at (wpAny_bind (L1.at ?_))))))
  have Lg := looks_findIn (M := MM w) X (show findIn (KK w) (.ref 101) "__getattr__" = some none by kernel_rfl)
  show wpAny _ _ (getAttrByItsOwn (.ref a) (.str "push" tk) (.ref 101) (.builtin "list.__getattribute__") true expr) _ _ _
  unfold getAttrByItsOwn hookBefore callGetattribute boundAndCalled
  have f4 := F.slot_list_getattribute.bind (.ref a)
  have hon : (expr && onTheHeap (.builtin "list.__getattribute__")) = false := by cases expr <;> rfl
  refine wpAny_bind (Lg.at (wpAny_bind (wpAny_attempt (wpAny_holding ?_))))
  rw [hon, if_neg Bool.false_ne_true]
  refine wpAny_bind (wpAny_of_eq f4 ?_)
  refine wpAny_mono (Q := fun v s' => v = .ref hh'.objs.size ∧ s' = ⟨hh'.push (methodObj (.ref 45) (.ref a)), g, d, tk + 1, os⟩) (E := fun _ _ => False) (wpAny_call (codeAny_call_builtin (by decide +kernel) am_entry_list_getattribute (@check_slot (MM w) _ _ _ "list.__getattribute__" "list" "__getattribute__" (.ref a) [.str "push" tk] [] _ (by decide +kernel) (by decide +kernel) (acc_isInstance (M := MM w) X e) (F.args_list_getattribute_2 _ _) ?_))) (fun v s' hv => ?_) fun _ _ z => z.elim
  · show wpAny _ _ (Builtin.«object.__getattribute__» ⟨[.ref a, .str "push" tk], []⟩) _ _ _
    refine wpAny_bind (wpAny_pure (wpAny_bind (wpAny_pure (wpAny_bind (L0.at (wpAny_bind (L2.at ?_)))))))
    show wpAny _ _ (holding [.ref 45] (call (.builtin "function.__get__") [.ref 45, .ref a, .ref 101]) >>= ret) _ _ _
    refine wpAny_bind (wpAny_holding (wpAny_call (fn_get (K := KK w) X (by kernel_rfl) ?_)))
    exact wpAny_pure ⟨rfl, rfl⟩
  · obtain ⟨rfl, rfl⟩ := hv
    show wpAny _ _ (handedOut _) _ _ _
    rw [handedOut_of rfl]; exact wpAny_pure h
end

set_option maxHeartbeats 2000000 in
theorem fx_pushC {a dx : Addr} {l : List Stn} {x y : PySem.Str} (hm : (a, Mu.acc dx l) ∈ μ) (hz : l.length ≤ sizeLine) {W : Addr → Prop} {A : Around} {E : Value → Shared → Prop} {s : Shared} {vs : List Value} {Q : Value → Shared → Prop} (ok : AOk (k + 1) A) (bs : Bs w W μ s) (dv : DAll W s.heap vs [.obj a, .str x, .str y])
    (h : ∀ v s', Bs w W (updM μ a (l ++ [(x, y)])) s' → Ef (· = a) s s' → DIn W s'.heap v .none → Q v s') : codeAny (MM w) A (.call (.ref 45) ⟨vs, []⟩) (fun r s' => match r with | .ok (.ret v) => Q v s' | .ok _ => False | .error e => E e s') s := by
  cases dv with
  | cons d1 r =>
    cases r with
    | cons d2 r =>
      cases r with
      | cons d3 r =>
        cases r
        cases d1
        cases d2 with
        | str _ tx =>
        cases d3 with
        | str _ ty =>
        obtain ⟨⟨vs, n, e, da⟩, hne, hsh, t, t', ed⟩ := bs.mu _ hm
        have oa := (bs.mu _ hm).off bs.tab
        refine (ks_codeAny_call_defAt (o := fnO w 45) (fd := fdO w 45) (binds := [("self", .ref a), ("fws", .str x tx), ("string", .str y ty)]) (dp0 ok.dp) (bs.tx.k _ _ (by kernel_rfl)) (by kernel_rfl) bs.tx.nl (codeRec_of bs.tx.k (by kernel_rfl)) rfl (BindsTo.of_eq (by kernel_rfl)) (alls_ok (by kernel_rfl)) (fun z hz => ?_) (fun h₀ hns hk => ?_) (by kernel_rfl) (by kernel_rfl) (by kernel_rfl))
        · simp only [List.mem_cons, List.not_mem_nil, or_false] at hz
          rcases hz with rfl | rfl | rfl <;> kernel_rfl
        have bs₀ : Bs w W μ { s with heap := h₀, toks := s.toks + 3 } := bs.keep hk
        refine wpAt_of_wpAny ?_
        refine wpAny_execs_cons ?_
        rw [exec_Expr _ _ _ (by kernel_rfl) (by kernel_rfl)]
        refine wpAny_bind (wpAny_standAt (wpAny_bind ?_))
        refine MethodCall_ ?_
        refine wpAny_Name (wpAny_loadName_local (by kernel_rfl) (by kernel_rfl) hns rfl ?_) (by decide)
        refine acc_getMethod bs₀.tx.k (hk _ _ e) (hk _ _ ed) (f := .builtin "list.append") (tf := .type "method_descriptor") (by kernel_rfl) (by kernel_rfl) (by decide) (by decide) ?_
        refine callWith_of (.blt "list.append") rfl ?_
        rw [show starEach _ _ = [(false, eval _ _)] from rfl]
        show wpAny _ _ (spliced [(false, eval _ _)]) _ _ _
        refine Calls.spliced_cons ?_
        refine Tuple_ ?_
        rw [show starEach _ _ = [(false, eval _ _), (false, eval _ _)] from rfl]
        show wpAny _ _ (spliced [(false, eval _ _), (false, eval _ _)]) _ _ _
        refine Calls.spliced_cons ?_
        refine wpAny_Name (wpAny_loadName_local (by kernel_rfl) (by kernel_rfl) hns rfl ?_) (by decide)
        refine Calls.spliced_cons ?_
        refine wpAny_Name (wpAny_loadName_local (by kernel_rfl) (by kernel_rfl) hns rfl ?_) (by decide)
        refine Calls.spliced_nil ?_
        refine wpAny_newObj_type ?_ (by size_fits)
        refine Calls.spliced_nil ?_
        have b₁ : Bs w W μ { s with heap := h₀.push { cls := .type "tuple", data := .seq [Value.str x tx, .str y ty].toArray }, toks := s.toks + 3 } := bs₀.push (tk := s.toks + 3) _
        refine ⟨b₁.tx, ?_⟩
        have up : ∀ z o, s.heap.get? z = some o → (h₀.push { cls := .type "tuple", data := .seq [Value.str x tx, .str y ty].toArray }).get? z = some o := fun z o ez => Heap.get?_push_of_some _ (hk _ _ ez)
        have hsz : vs.length = l.length := by rw [da.length, List.length_map]
        refine call_accB (nm := "append") b₁.tx.k (up _ _ e) (.inl (by kernel_rfl)) (by kernel_rfl) (F.args_list_append_2 _ _) (by decide +kernel) F.entry_list_append (acc_append (dx := dx) (items := vs.toArray) (n := n) _ (by rw [List.size_toArray, hsz]; exact hz)) ⟨up _ _ e, ?_⟩
        have dt : DIn W (h₀.push { cls := .type "tuple", data := .seq [Value.str x tx, .str y ty].toArray }) (.ref h₀.objs.size) (stoneD (x, y)) := DIn.newTup bs₀ (.cons (.str _ _) (.cons (.str _ _) .nil)) 0
        generalize hH : h₀.push { cls := .type "tuple", data := .seq [Value.str x tx, .str y ty].toArray } = H at *
        have hsb : Heap.SameBut a H (H.update a (Obj.mapSeq fun z => z.push (.ref h₀.objs.size))) := Heap.SameBut.update ..
        have hs' : ∀ b o, b ≠ a → H.get? b = some o → (H.update a (Obj.mapSeq fun z => z.push (.ref h₀.objs.size))).get? b = some o := fun b o nb e => (hsb.2 b nb).trans e
        obtain ⟨n', hn'⟩ := acc_upd (up _ _ e) fun z => z.push (.ref h₀.objs.size)
        have pr : Pr W W H (H.update a (Obj.mapSeq fun z => z.push (.ref h₀.objs.size))) := fun b o nb e _ => ⟨hs' b o (fun c => nb (c ▸ (bs.mw _ hm).1)) e, nb⟩
        have g₁ : Go s { s with heap := H, toks := s.toks + 3 } := .of up
        have b₂ := b₁.upd (tk := s.toks + 3) (n' := n') (vs' := vs ++ [.ref h₀.objs.size]) (l' := l ++ [(x, y)]) hm hs' (by rw [hn']; simp) (by
          rw [List.map_append]
          exact ((da.go g₁ bs.wt).pr pr).append (.one (dt.pr pr)))
        refine wpAny_dropValue (wpAny_execs_nil ?_)
        exact h .none _ b₂ (g₁.ef.trans (Ef.at hs' oa.1)) .none

/-- the tree of a method call with a star -/
def MTreeS (o : Expr) (name : PySem.Str) (apos pos : Pos) (args : List Expr) (env : Env) : Prop :=
  eval (.Call (.Attribute o name apos) args [] pos) env = (do
      let ov ← eval o env
      standAt apos.atName
      let fx ← holding [ov] (do pure (← getAttr ov name true, []))
      callWith pos fx.1 fx.2 (backTo pos (starEach args env)) [])

theorem EvX.pushS {o e : Expr} {apos pos p : Pos} {a dx : Addr} {l : List Stn} {X : Addr → Prop} {x y : PySem.Str} (ho : Ev w (k + 2) env ρ μ o (.obj a)) (he : EvX w (k + 2) env ρ μ e X μ' (.tup [.str x, .str y])) (hX : ∀ W, MuW W μ → ∀ a, X a → W a) (hm₀ : (a, Mu.acc dx l) ∈ μ) (hm : (a, Mu.acc dx l) ∈ μ') (hz : l.length ≤ 1000)
    (hst : starEach [.Starred e p] env = [(true, eval e env)]) (ht : MTreeS o "push" apos pos [.Starred e p] env) :
    EvX w (k + 2) env ρ μ (.Call (.Attribute o "push" apos) [.Starred e p] [] pos) (fun b => X b ∨ b = a) (updM μ' a (l ++ [(x, y)])) .none := by
  intro W A E s Q ok st h
  rw [ht]
  refine wpAny_bind (ho W A E s _ ok st fun v s₁ st₁ g₁ d₁ => ?_)
  cases d₁
  obtain ⟨vs, n, hsh, t, t', e', da, ed⟩ := acc_of st₁.toBs hm₀
  have xw := hX W st.mw
  have wa := (st.mw _ hm₀).1
  refine wpAny_bind (wpAny_standAt (wpAny_bind (wpAny_holding (wpAny_bind ?_))))
  refine acc_bound st₁.tx.k e' ed (wpAny_pure ?_)
  have up : ∀ c o, s₁.heap.get? c = some o → (s₁.heap.push (methodObj (.ref 45) (.ref a))).get? c = some o := fun c o e => Heap.get?_push_of_some _ e
  have st₂ := st₁.keep (tk := s₁.toks + 1) up
  have hu : (s₁.heap.push (methodObj (.ref 45) (.ref a))).get? s₁.heap.objs.size = some (methodObj (.ref 45) (.ref a)) := Heap.get?_push_size _ rfl
  have nu : ¬ W s₁.heap.objs.size := st₁.toBs.fresh
  generalize hU : s₁.heap.objs.size = u at *
  generalize hH : s₁.heap.push (methodObj (.ref 45) (.ref a)) = H at *
  show wpAny _ _ (callWith pos (.ref u) [] (backTo pos (starEach [.Starred e p] env)) []) _ _ _
  rw [hst]
  refine ks_call (P := fun h => MethP (KK w) u 45 (.ref a) h) rfl (fun h hh => keeps_M (K := KK w) (f := 45) (self := .ref a) (by kernel_rfl) h hh) (ks_lone ?_)
  refine he W A E _ _ ok st₂ fun v s₃ st₃ e₃ d₃ => ?_
  refine star_tup d₃ (by show 2 ≤ 100; decide) fun us h' hk dus => ?_
  have b₃ : Bs w W μ' { s₃ with heap := h' } := st₃.toBs.keep (tk := s₃.toks) hk
  have hu₃ : h'.get? u = some (methodObj (.ref 45) (.ref a)) := hk _ _ (e₃.keep _ _ (fun c => nu (c ▸ st.wt)) (fun q => nu (xw _ q)) hu)
  refine ⟨⟨hu₃, b₃.tx.k⟩, ?_⟩
  refine wpAny_call (method_call hu₃ ?_)
  refine fx_pushC (k := k + 1) hm (sl8 hz) ok b₃ (.cons (.obj a) dus) fun v s₄ b₄ e₄ d₄ => ?_
  have g₂ : Go s₁ { s₁ with heap := H, toks := s₁.toks + 1 } := .of up
  have ef : Ef (fun b => X b ∨ b = a) s s₄ := ((g₁.trans g₂).ef.trans ((e₃.mono fun b q => .inl q).trans (Go.ef (.of (tk := s₃.toks) hk)))).trans (e₄.mono fun b q => .inr q)
  exact h v s₄ (st.efX ef (fun b q => by
    rcases q with q | q
    · exact xw b q
    · rw [q]; exact wa) b₄) ef d₄
end Mine
open PySem PySem.W PyProof.Rows
set_option Elab.async false
set_option maxRecDepth 100000
set_option linter.unusedVariables false
namespace Mine

variable {w : World} {k k' : Nat} {env : Env} {ρ : Rho} {μ μ' μ'' : List (Addr × Mu)}

def withL (ps : List Pile) (f : Nat → List Stn) : List Pile := (List.range ps.length).map fun i => { ps.getD i noPile with l := f i }
theorem withL_len (ps : List Pile) (f : Nat → List Stn) : (withL ps f).length = ps.length := by unfold withL; simp
theorem withL_a (ps : List Pile) (f : Nat → List Stn) : (withL ps f).map (·.a) = ps.map (·.a) := by
  unfold withL
  rw [List.map_map]
  apply List.ext_getElem
  · simp
  · intro i h1 h2
    simp only [List.length_map] at h2
    simp [List.getElem?_eq_getElem h2]
theorem withL_l (ps : List Pile) (f : Nat → List Stn) : (withL ps f).map (·.l) = (List.range ps.length).map f := by
  unfold withL
  rw [List.map_map]; rfl
theorem withL_mem {ps : List Pile} {f : Nat → List Stn} {p : Pile} (h : p ∈ withL ps f) : ∃ i, ∃ hi : i < ps.length, p = { ps[i] with l := f i } := by
  obtain ⟨i, hi, rfl⟩ := List.mem_map.mp h
  have hi := List.mem_range.mp hi
  refine ⟨i, hi, ?_⟩
  rw [List.getD_eq_getElem?_getD, List.getElem?_eq_getElem hi]; rfl
theorem withL_pin {ps : List Pile} {f : Nat → List Stn} (h : ∀ i (hi : i < ps.length), (ps[i].a, Mu.acc ps[i].dx (f i)) ∈ μ) : PIn μ (withL ps f) := fun p hp => by
  obtain ⟨i, hi, rfl⟩ := withL_mem hp
  exact h i hi
theorem withL_inP {ps : List Pile} {f : Nat → List Stn} (a : Addr) : inP (withL ps f) a ↔ inP ps a := by
  constructor
  · rintro ⟨p, hp, q⟩
    obtain ⟨i, hi, rfl⟩ := withL_mem hp
    exact ⟨ps[i], List.getElem_mem hi, q⟩
  · rintro ⟨p, hp, q⟩
    obtain ⟨i, hi, rfl⟩ := List.getElem_of_mem hp
    refine ⟨{ ps[i] with l := f i }, List.mem_map.mpr ⟨i, List.mem_range.mpr hi, ?_⟩, q⟩
    rw [List.getD_eq_getElem?_getD, List.getElem?_eq_getElem hi]; rfl

def pushM (μ : List (Addr × Mu)) (a : Addr) (l : List Stn) : Nat → List (Addr × Mu)
  | 0 => μ
  | i + 1 => updM (pushM μ a l i) a (l.take (i + 1))
theorem pushM_sub (a : Addr) (l : List Stn) (i : Nat) : MuSub μ (pushM μ a l i) := by
  induction i with
  | zero => exact .refl _
  | succ i ih => exact ih.trans (.upd _ _ _)
theorem pushM_self {a dx : Addr} {l : List Stn} (h : (a, Mu.acc dx []) ∈ μ) (i : Nat) : (a, Mu.acc dx (l.take i)) ∈ pushM μ a l i := by
  induction i with
  | zero => exact h
  | succ i ih => exact updM_self ih
theorem pushM_other {a b : Addr} {l : List Stn} {m : Mu} (h : (b, m) ∈ μ) (hn : b ≠ a) (i : Nat) : (b, m) ∈ pushM μ a l i := by
  induction i with
  | zero => exact h
  | succ i ih => exact updM_other ih hn
def pilesM (ps : List Pile) (ls : List (List Stn)) (μ : List (Addr × Mu)) : Nat → List (Addr × Mu)
  | 0 => μ
  | j + 1 => pushM (pilesM ps ls μ j) (ps.getD j noPile).a (ls.getD j []) (ls.getD j []).length
theorem pilesM_sub (ps : List Pile) (ls : List (List Stn)) (j : Nat) : MuSub μ (pilesM ps ls μ j) := by
  induction j with
  | zero => exact .refl _
  | succ j ih => exact ih.trans (pushM_sub _ _ _)
theorem nd_ne {ps : List Pile} (nd : (ps.map (·.a)).Nodup) {i j : Nat} (hi : i < ps.length) (hj : j < ps.length) (h : i ≠ j) : ps[i].a ≠ ps[j].a := fun e => by
  have p := List.pairwise_iff_getElem.mp nd
  rcases Nat.lt_or_gt_of_ne h with q | q
  · refine p i j (by simpa using hi) (by simpa using hj) q ?_
    rw [List.getElem_map, List.getElem_map]; exact e
  · refine p j i (by simpa using hj) (by simpa using hi) q ?_
    rw [List.getElem_map, List.getElem_map]; exact e.symm
theorem getD_pile {ps : List Pile} {j : Nat} (hj : j < ps.length) : ps.getD j noPile = ps[j] := by
  rw [List.getD_eq_getElem?_getD, List.getElem?_eq_getElem hj]; rfl
theorem pilesM_in {ps : List Pile} {ls : List (List Stn)} (nd : (ps.map (·.a)).Nodup) (h : ∀ i (hi : i < ps.length), (ps[i].a, Mu.acc ps[i].dx []) ∈ μ) (j : Nat) (hj : j ≤ ps.length) :
    ∀ i (hi : i < ps.length), (ps[i].a, Mu.acc ps[i].dx (if i < j then ls.getD i [] else [])) ∈ pilesM ps ls μ j := by
  induction j with
  | zero => exact fun i hi => by rw [if_neg (Nat.not_lt_zero _)]; exact h i hi
  | succ j ih =>
    intro i hi
    have ihi := ih (Nat.le_of_succ_le hj) i hi
    have hj' : j < ps.length := hj
    show _ ∈ pushM _ _ _ _
    rw [getD_pile hj']
    by_cases e : i = j
    · subst e
      rw [if_neg (Nat.lt_irrefl _)] at ihi
      rw [if_pos (Nat.lt_succ_self _)]
      have := pushM_self (l := ls.getD i []) ihi (ls.getD i []).length
      rw [List.take_length] at this
      exact this
    · have : (if i < j + 1 then ls.getD i [] else []) = if i < j then ls.getD i [] else [] := by
        by_cases q : i < j
        · rw [if_pos q, if_pos (Nat.lt_succ_of_lt q)]
        · rw [if_neg q, if_neg fun c => (Nat.lt_or_eq_of_le (Nat.le_of_lt_succ c)).elim q e]
      rw [this]
      exact pushM_other ihi (nd_ne nd hi hj' e) _

set_option maxHeartbeats 4000000 in
theorem fn_piles {ls : List (List Stn)} (h1 : ls.length ≤ 100) (h2 : ∀ l ∈ ls, l.length ≤ 100) {W : Addr → Prop} {A : Around} {E : Value → Shared → Prop} {s : Shared} {vs : List Value} {Q : Value → Shared → Prop} (ok : AOk (k + 3) A) (bs : Bs w W μ s) (dv : DAll W s.heap vs [laidD ls])
    (h : ∀ v s' W' μ' ps, (∀ a, W' a ↔ W a ∨ inP ps a) → (∀ a, inP ps a → s.heap.get? a = none) → (ps.map (·.a)).Nodup → ps.map (·.l) = ls → PIn μ' ps → Bs w W' μ' s' → Go s s' → DIn W' s'.heap v (pilesD ps) → Q v s') : wpAny (MM w) A (call (.ref 134) vs) Q E s := by
  refine enter (f := 134) (o := fnO w 134) (fd := fdO w 134) (P := fun _ => False) ok bs dv (by kernel_rfl) (by kernel_rfl) (by kernel_rfl) rfl (by kernel_rfl) (par1 (x := "laid") (fun v => by kernel_rfl) (.inl (by kernel_rfl))) rfl (by kernel_rfl) (by kernel_rfl) (fun s₁ L b₁ => ?_) (by kernel_rfl) (by kernel_rfl) (by kernel_rfl)
  have ok' : AOk (k + 2) (A.deeper (callEnvC (fdO w 134) L 134)) := ok.deeper
  refine b₁.assignNews (bd := bd1 "_" fun i => (ls.map fun l => D.lst (l.map stoneD)).getD i .none) (n := ls.length) ok' (by kernel_rfl) (by kernel_rfl) (SrcG.castN (Src.list (.name rfl)) (by rw [List.length_map])) rfl (Sc.of (by kernel_rfl)) (fun C => .one _ _ (.loc (by kernel_rfl))) (fun C => .glob (by kernel_rfl) (by kernel_rfl)) (by decide) (Nat.le_trans h1 (by decide)) fun s₂ ps np fr b₂ => ?_
  have hpl := np.len
  have h0 : ∀ i (hi : i < ps.length), (ps[i].a, Mu.acc ps[i].dx []) ∈ muN ps μ := fun i hi => by
    have := muN_in (μ := μ) ps[i] (List.getElem_mem hi)
    rwa [np.emp _ (List.getElem_mem hi)] at this
  have hXt : ∀ a, (∃ p ∈ ps, a = p.a) → (W a ∨ inP ps a) ∧ a ≠ tblA ∧ (False ∨ s.heap.get? a = none) := fun a ⟨p, hp, e⟩ => ⟨.inr ⟨p, hp, .inl e⟩, fun c => (fr a ⟨p, hp, .inl e⟩).2 (c ▸ bs.wt), (fr a ⟨p, hp, .inl e⟩).1.elim .inr .inl⟩
  refine Bd.for (X := fun a => ∃ p ∈ ps, a = p.a) (n := ls.length) (SrcG.castN (Src.zip (nm_zip (by kernel_rfl)) (.name rfl) (.name rfl)) (by rw [List.length_map, List.length_map, hpl, Nat.min_self])) b₂ ok' (.two _ _ _ _ _ _ (.loc (by kernel_rfl)) (.loc (by kernel_rfl))) hXt (fun j => _) (fun j => pilesM ps ls (muN ps μ) j) rfl rfl (fun j => pilesM_sub _ _ _) (fun j W' s₄ Q' E' hj hW b₄ next => ?_) fun s₄ b₄ => ?_
  · have hjp : j < ps.length := by rw [hpl]; exact hj
    have hl : (ls.map fun l => D.lst (l.map stoneD)).getD j .none = .lst ((ls.getD j []).map stoneD) := map_getD ls [] (fun l => D.lst (l.map stoneD)) j hj
    have hp : (ps.map fun p => D.obj p.a).getD j .none = .obj ps[j].a := by rw [List.getD_eq_getElem?_getD, List.getElem?_map, List.getElem?_eq_getElem hjp]; rfl
    have hln : (ls.getD j []).length ≤ 100 := h2 _ (by
      rw [List.getD_eq_getElem?_getD, List.getElem?_eq_getElem hj]
      exact List.getElem_mem _)
    have hin := pilesM_in (ls := ls) np.nd h0 j (Nat.le_of_lt hjp) j hjp
    rw [if_neg (Nat.lt_irrefl _)] at hin
    refine Bd.for (X := (· = ps[j].a)) (n := (ls.getD j []).length) (bd := bd1 "stone" fun i => ((ls.getD j []).map stoneD).getD i .none) ?_ b₄ ok' (.one _ _ (.loc (by kernel_rfl))) (fun a e => ?_) (fun j => _) (fun i => pushM (pilesM ps ls (muN ps μ) j) ps[j].a (ls.getD j []) i) rfl rfl (fun i => pushM_sub _ _ _) (fun i W'' s₅ Q'' E'' hi hW' b₅ next' => ?_) fun s₅ b₅ => Bd.nil (next _ ?_)
    · exact SrcG.castN (Src.list (.name (congrArg some hl))) (by rw [List.length_map])
    · exact ⟨hW _ (.inr ⟨ps[j], List.getElem_mem hjp, .inl e⟩), (hXt a ⟨ps[j], List.getElem_mem hjp, e⟩).2.1, .inl (.inl ⟨ps[j], List.getElem_mem hjp, e⟩)⟩
    · have hst : ((ls.getD j []).map stoneD).getD i .none = stoneD ((ls.getD j []).getD i ("", "")) := map_getD _ _ _ i hi
      have hm := pushM_self (l := ls.getD j []) hin i
      have hX' : ∀ a, (False ∨ a = ps[j].a) → PX (· = ps[j].a) (callEnvC (fdO w 134) L 134) a ∨ s₅.heap.get? a = none := fun a q => .inl (.inl (q.elim False.elim id))
      refine b₅.ifsX (X := fun b => False ∨ b = ps[j].a) (c := false) (μ' := updM (pushM (pilesM ps ls (muN ps μ) j) ps[j].a (ls.getD j []) i) ps[j].a ((ls.getD j []).take i ++ [(((ls.getD j []).getD i ("", "")).1, ((ls.getD j []).getD i ("", "")).2)])) ok' ?_ hX' (fun q => by cases q) fun _ s₆ b₆ => Bd.nil (Bd.nil (next' _ ?_))
      · refine TrX.cmp (EvX.pushS (k := k) (dx := ps[j].dx) (.name (congrArg some hp)) (EvX.of (.name (congrArg some hst))) (fun _ _ _ q => q.elim) hm hm (by rw [List.length_take]; exact minL (Nat.le_trans hln (by decide))) rfl rfl) .none Cm.isNotNone ?_
        exact fun V mw a q => q.elim False.elim fun q => q ▸ (mw _ hm).1
      · have e : (ls.getD j []).take (i + 1) = (ls.getD j []).take i ++ [(((ls.getD j []).getD i ("", "")).1, ((ls.getD j []).getD i ("", "")).2)] := by
          rw [List.take_succ_eq_append_getElem hi, List.getD_eq_getElem?_getD (l := ls.getD j []), List.getElem?_eq_getElem hi]; rfl
        have b₇ := Bd.drop (x := "stone") b₆ rfl
        rw [← e] at b₇
        exact b₇
    · show Bd w W' _ _ (pushM (pilesM ps ls (muN ps μ) j) (ps.getD j noPile).a (ls.getD j []) (ls.getD j []).length) _ _ _
      rw [getD_pile hjp]
      exact Bd.drop (x := "pile") (Bd.drop (x := "stones") b₅ rfl) rfl
  · refine b₄.ret ok' (.name rfl) fun v s₅ b₅ d₅ => ?_
    have hin := pilesM_in (ls := ls) np.nd h0 ls.length (Nat.le_of_eq hpl.symm)
    have e1 : pilesD (withL ps fun i => ls.getD i []) = pilesD ps := by
      unfold pilesD
      have := congrArg (List.map D.obj) (withL_a ps fun i => ls.getD i [])
      rw [List.map_map, List.map_map] at this
      exact congrArg D.lst this
    refine h v s₅ _ (pilesM ps ls (muN ps μ) ls.length) (withL ps fun i => ls.getD i []) (fun a => or_congr Iff.rfl (withL_inP a).symm) (fun a q => (fr a ((withL_inP a).mp q)).1.elim id False.elim) (by rw [withL_a]; exact np.nd) ?_ (withL_pin fun i hi => ?_) b₅.toBs b₅.ef.go (e1 ▸ d₅)
    · rw [withL_l, hpl]
      apply List.ext_getElem
      · simp
      · intro i q1 q2
        simp [List.getElem?_eq_getElem q2]
    · have := hin i hi
      rwa [if_pos (hpl ▸ hi)] at this
end Mine
open PySem PySem.W PyProof.Rows
set_option Elab.async false
set_option maxRecDepth 100000
set_option linter.unusedVariables false
namespace Mine

variable {w : World} {k k' : Nat} {env : Env} {ρ : Rho} {μ μ' μ'' : List (Addr × Mu)}

theorem pickL_map {α β : Type} (f : α → β) (l : List α) (lo hi st : Option Int) : pickL (l.map f) lo hi st = (pickL l lo hi st).map f := by
  unfold pickL
  rw [List.length_map, List.map_filterMap]
  congr 1
  funext i
  rw [List.getElem?_map]
theorem pickL_slice (vs : List Value) (lo hi st : Option Int) : pickL vs lo hi st = (slicePick vs.toArray lo hi st).toList := by
  unfold pickL slicePick
  simp
theorem range_getD' {α : Type} (l : List α) (d : α) : (List.range l.length).map (fun j => l.getD j d) = l := by
  apply List.ext_getElem
  · simp
  · intro i h1 h2
    simp [List.getElem?_eq_getElem h2]
def encV (i : Nat) : Value := .bool (i == 0)
theorem pickL_of {α : Type} (d : α) (l : List α) (lo hi st : Option Int) (g : ∀ {β : Type}, List β → List β) (nat : ∀ {β γ : Type} (f : β → γ) (l : List β), g (l.map f) = (g l).map f) (hV : ∀ vs : List Value, (slicePick vs.toArray lo hi st).toList = g vs) : pickL l lo hi st = g l := by
  have key : ∀ n, pickL (List.range n) lo hi st = g (List.range n) := fun n => by
    have h1 := hV ((List.range n).map fun i => Value.str ⟨#[i]⟩ 0)
    rw [← pickL_slice, pickL_map, nat] at h1
    have h2 := congrArg (List.map fun v => match v with | Value.str s _ => s.cps.getD 0 0 | _ => 0) h1
    rw [List.map_map, List.map_map] at h2
    have e : ((fun v => match v with | Value.str s _ => s.cps.getD 0 0 | _ => 0) ∘ fun i => Value.str ⟨#[i]⟩ 0) = id := by funext i; rfl
    rw [e, List.map_id, List.map_id] at h2
    exact h2
  have e := range_getD' l d
  calc pickL l lo hi st = pickL ((List.range l.length).map fun j => l.getD j d) lo hi st := by rw [e]
    _ = (g (List.range l.length)).map fun j => l.getD j d := by rw [pickL_map, key]
    _ = g l := by rw [← nat, e]
theorem pickL_upto {α : Type} (d : α) (l : List α) (b : Nat) : pickL l none (some (b : Int)) none = l.take b :=
  pickL_of d l _ _ _ (fun l => l.take b) (fun f l => List.map_take.symm) fun vs => by rw [slicePick_upto']
theorem pickL_butLast {α : Type} (d : α) (l : List α) : pickL l none (some (-1)) none = l.take (l.length - 1) :=
  pickL_of d l _ _ _ (fun l => l.take (l.length - 1)) (fun f l => by rw [List.length_map, List.map_take]) fun vs => by
    have := slicePick_butLast vs.toArray 1 (by decide)
    rw [show (-((1 : Nat) : Int)) = -1 from rfl] at this
    rw [this]; simp

/-- a stone goes from one pile to the other, again and again -/
def mvG (c : List (List Stn)) (src dst : Nat → Nat) : Nat → List (List Stn)
  | 0 => c
  | j + 1 => ((mvG c src dst j).set (src j) ((mvG c src dst j).getD (src j) []).dropLast).set (dst j) ((mvG c src dst j).getD (dst j) [] ++ [((mvG c src dst j).getD (src j) []).getLastD ("", "")])
def muG (ps : List Pile) (μ : List (Addr × Mu)) (c : List (List Stn)) (src dst : Nat → Nat) : Nat → List (Addr × Mu)
  | 0 => μ
  | j + 1 => updM (updM (muG ps μ c src dst j) (ps.getD (src j) noPile).a ((mvG c src dst j).getD (src j) []).dropLast) (ps.getD (dst j) noPile).a ((mvG c src dst j).getD (dst j) [] ++ [((mvG c src dst j).getD (src j) []).getLastD ("", "")])
theorem mvG_len (c : List (List Stn)) (src dst : Nat → Nat) (j : Nat) : (mvG c src dst j).length = c.length := by
  induction j with
  | zero => rfl
  | succ j ih => show (((mvG c src dst j).set _ _).set _ _).length = _; rw [List.length_set, List.length_set, ih]
theorem muG_sub (ps : List Pile) (c : List (List Stn)) (src dst : Nat → Nat) (j : Nat) : MuSub μ (muG ps μ c src dst j) := by
  induction j with
  | zero => exact .refl _
  | succ j ih => exact (ih.trans (.upd _ _ _)).trans (.upd _ _ _)
/-- the piles hold c -/
def Hold (μ : List (Addr × Mu)) (ps : List Pile) (c : List (List Stn)) : Prop := c.length = ps.length ∧ ∀ i (hi : i < ps.length), (ps[i].a, Mu.acc ps[i].dx (c.getD i [])) ∈ μ
theorem Hold.set {ps : List Pile} {c : List (List Stn)} (h : Hold μ ps c) (nd : (ps.map (·.a)).Nodup) {i : Nat} (hi : i < ps.length) (x : List Stn) : Hold (updM μ (ps.getD i noPile).a x) ps (c.set i x) := by
  refine ⟨by rw [List.length_set]; exact h.1, fun q hq => ?_⟩
  rw [getD_pile hi]
  by_cases e : q = i
  · subst e
    rw [List.getD_eq_getElem?_getD, List.getElem?_set_self (by rw [h.1]; exact hi)]
    exact updM_self (h.2 q hq)
  · rw [List.getD_eq_getElem?_getD, List.getElem?_set_ne (Ne.symm e), ← List.getD_eq_getElem?_getD]
    exact updM_other (h.2 q hq) (nd_ne nd hq hi e)
theorem muG_in {ps : List Pile} {c : List (List Stn)} {src dst : Nat → Nat} {J : Nat} (h : Hold μ ps c) (nd : (ps.map (·.a)).Nodup) (hb : ∀ j, j < J → src j < ps.length ∧ dst j < ps.length) (j : Nat) : j ≤ J → Hold (muG ps μ c src dst j) ps (mvG c src dst j) := by
  induction j with
  | zero => exact fun _ => h
  | succ j ih =>
    intro hj
    have ih := ih (Nat.le_of_succ_le hj)
    exact (ih.set nd (hb j hj).1 _).set nd (hb j hj).2 _
theorem Hold.pin {ps : List Pile} {c : List (List Stn)} (h : Hold μ ps c) : PIn μ (withL ps fun i => c.getD i []) := withL_pin h.2
theorem Hold.of {ps : List Pile} (h : PIn μ ps) : Hold μ ps (ps.map (·.l)) := ⟨List.length_map .., fun i hi => by
  have := h _ (List.getElem_mem hi)
  rw [List.getD_eq_getElem?_getD, List.getElem?_map, List.getElem?_eq_getElem hi]
  exact this⟩

theorem EvX.popN {o : Expr} {apos pos : Pos} {a dx : Addr} {l : List Stn} (ho : Ev w (k + 2) env ρ μ o (.obj a)) (hm : (a, Mu.acc dx l) ∈ μ) (hn : l ≠ []) (hz : l.length ≤ 1000) (he : MTree o "pop" apos pos [] env) :
    EvX w (k + 2) env ρ μ (.Call (.Attribute o "pop" apos) [] [] pos) (· = a) (updM μ a l.dropLast) (stoneD (l.getLastD ("", ""))) := by
  have := EvX.pop (k := k) (apos := apos) (pos := pos) ho hm hz he
  have h0 : ¬ l.length = 0 := fun e => hn (List.length_eq_zero_iff.mp e)
  rwa [if_neg h0, if_neg h0] at this
/-- «o1.push(*o2.pop())» -/
theorem EvX.mv {o1 o2 : Expr} {p1 p2 p3 p4 p5 : Pos} {a b dxa dxb : Addr} {la lb : List Stn} (ho : Ev w (k + 2) env ρ μ o1 (.obj b)) (hp : Ev w (k + 2) env ρ μ o2 (.obj a)) (hma : (a, Mu.acc dxa la) ∈ μ) (hmb : (b, Mu.acc dxb lb) ∈ μ) (hab : b ≠ a) (hn : la ≠ []) (hza : la.length ≤ 1000) (hzb : lb.length ≤ 1000)
    (he : MTree o2 "pop" p2 p3 [] env) (hst : starEach [.Starred (.Call (.Attribute o2 "pop" p2) [] [] p3) p4] env = [(true, eval (.Call (.Attribute o2 "pop" p2) [] [] p3) env)]) (ht : MTreeS o1 "push" p1 p5 [.Starred (.Call (.Attribute o2 "pop" p2) [] [] p3) p4] env) :
    EvX w (k + 2) env ρ μ (.Call (.Attribute o1 "push" p1) [.Starred (.Call (.Attribute o2 "pop" p2) [] [] p3) p4] [] p5) (fun c => c = a ∨ c = b) (updM (updM μ a la.dropLast) b (lb ++ [la.getLastD ("", "")])) .none :=
  EvX.pushS (X := (· = a)) (dx := dxb) (x := (la.getLastD ("", "")).1) (y := (la.getLastD ("", "")).2) ho (EvX.popN hp hma hn hza he) (fun W mw c q => q ▸ (mw _ hma).1) hmb (updM_other hmb hab) hzb hst ht
end Mine
open PySem PySem.W PyProof.Rows
set_option Elab.async false
set_option maxRecDepth 100000
set_option linter.unusedVariables false
namespace Mine

variable {w : World} {k k' : Nat} {env : Env} {ρ : Rho} {μ μ' μ'' : List (Addr × Mu)}

def mvA (ls : List (List Stn)) (m j : Nat) : List (List Stn) := mvG (ls ++ [[]]) (fun j => m - 1 - j) (fun _ => ls.length) j
def mvB (ls : List (List Stn)) (j : Nat) : List (List Stn) := mvG ls (fun _ => ls.length - 1) (fun j => j) j
def movedF (ls : List (List Stn)) (m : Nat) : List (List Stn) :=
  if m < (lastL ls).length then mvA ls m m
  else let c := mvB ls (min (lastL ls).length (ls.length - 1)); if (c.getD (ls.length - 1) []).length = 0 then c.take (ls.length - 1) else c
/-- what the move needs -/
structure MvOk (ls : List (List Stn)) (m : Nat) : Prop where
  a : m < (lastL ls).length → ∀ j, j < m → (mvA ls m j).getD (m - 1 - j) [] ≠ [] ∧ ((mvA ls m j).getD (m - 1 - j) []).length ≤ 1000 ∧ ((mvA ls m j).getD ls.length []).length ≤ 1000
  b : ¬ m < (lastL ls).length → ∀ j, j < min (lastL ls).length (ls.length - 1) → (mvB ls j).getD (ls.length - 1) [] ≠ [] ∧ ((mvB ls j).getD (ls.length - 1) []).length ≤ 1000 ∧ ((mvB ls j).getD j []).length ≤ 1000
  c : ((mvB ls (min (lastL ls).length (ls.length - 1))).getD (ls.length - 1) []).length ≤ 1000

theorem Hold.at {ps : List Pile} {c : List (List Stn)} (h : Hold μ ps c) {i : Nat} (hi : i < ps.length) : ((ps.getD i noPile).a, Mu.acc (ps.getD i noPile).dx (c.getD i [])) ∈ μ := by
  rw [getD_pile hi]; exact h.2 i hi
theorem nd_getD {ps : List Pile} (nd : (ps.map (·.a)).Nodup) {i j : Nat} (hi : i < ps.length) (hj : j < ps.length) (h : i ≠ j) : (ps.getD i noPile).a ≠ (ps.getD j noPile).a := by
  rw [getD_pile hi, getD_pile hj]; exact nd_ne nd hi hj h
theorem Hold.ls {ps : List Pile} {c : List (List Stn)} (h : Hold μ ps c) : (withL ps fun i => c.getD i []).map (·.l) = c := by
  rw [withL_l, ← h.1]; exact range_getD' c []
theorem piles_withL (ps : List Pile) (f : Nat → List Stn) : (withL ps f).map (fun p => D.obj p.a) = ps.map fun p => D.obj p.a := by
  have := congrArg (List.map D.obj) (withL_a ps f)
  rw [List.map_map, List.map_map] at this
  exact this
theorem objs_getD {ps : List Pile} {j : Nat} (h : j < ps.length) : (ps.map fun p => D.obj p.a).getD j .none = .obj (ps.getD j noPile).a := by
  rw [List.getD_eq_getElem?_getD, List.getElem?_map, getD_pile h, List.getElem?_eq_getElem h]; rfl
theorem TrX.cast {e : Expr} {c c' : Bool} {X : Addr → Prop} (h : TrX w k env ρ μ e X μ' c) (x : c = c') : TrX w k env ρ μ e X μ' c' := x ▸ h
theorem EvX.pop0 {o : Expr} {apos pos : Pos} {a dx : Addr} {l : List Stn} (ho : Ev w (k + 2) env ρ μ o (.obj a)) (hm : (a, Mu.acc dx l) ∈ μ) (h0 : l.length = 0) (he : MTree o "pop" apos pos [] env) :
    EvX w (k + 2) env ρ μ (.Call (.Attribute o "pop" apos) [] [] pos) (· = a) μ (.tup [.str "", .str ""]) := by
  have := EvX.pop (k := k) (apos := apos) (pos := pos) ho hm (h0 ▸ Nat.zero_le _) he
  rwa [if_pos h0, if_pos h0] at this
theorem twc_one (a b : Int) : (twc a b == 1) = decide (b < a) := by
  unfold twc b2i
  by_cases h1 : b < a
  · have h2 : ¬ a < b := Int.not_lt.mpr (Int.le_of_lt h1)
    simp [h1, h2]
  · by_cases h2 : a < b <;> simp [h1, h2]
theorem Fn.pc {o : Expr} {p q : Pos} {a dx : Addr} {l : List Stn} (ho : Ev w (k + 1) env ρ μ o (.obj a)) (hm : (a, Mu.acc dx l) ∈ μ) (he : MTree o "part_count" p q [] env) : Ev w (k + 1) env ρ μ (.Call (.Attribute o "part_count" p) [] [] q) (.int l.length) :=
  Ev.meth0 ho hm (show findIn (KK w) (.ref 101) "part_count" = some (some (.ref 98)) by kernel_rfl) (by kernel_rfl) (by decide) (by kernel_rfl) (by kernel_rfl) (fn_part_count hm) he

set_option maxHeartbeats 4000000 in
theorem fn_moved {ps : List Pile} {m : Nat} (hp : PIn μ ps) (sm : PSm ps) (hr : RunIs ps m) (nd : (ps.map (·.a)).Nodup) (mv : MvOk (ps.map (·.l)) m) {W : Addr → Prop} {A : Around} {E : Value → Shared → Prop} {s : Shared} {vs : List Value} {Q : Value → Shared → Prop} (ok : AOk (k + 4) A) (bs : Bs w W μ s) (dv : DAll W s.heap vs [pilesD ps])
    (h : ∀ v s' W' μ' ps', (∀ a, W' a → W a ∨ s.heap.get? a = none) → (∀ a, W a → W' a) → (ps'.map (·.a)).Nodup → ps'.map (·.l) = movedF (ps.map (·.l)) m → PIn μ' ps' → Bs w W' μ' s' → Ef (fun a => ∃ p ∈ ps, a = p.a) s s' → DIn W' s'.heap v (pilesD ps') → Q v s') : wpAny (MM w) A (call (.ref 148) vs) Q E s := by
  refine enter (f := 148) (o := fnO w 148) (fd := fdO w 148) (P := fun a => ∃ p ∈ ps, a = p.a) ok bs dv (by kernel_rfl) (by kernel_rfl) (by kernel_rfl) rfl (by kernel_rfl) (par1 (x := "piles") (fun v => by kernel_rfl) (.inl (by kernel_rfl))) rfl (by kernel_rfl) (by kernel_rfl) (fun s₁ L b₁ => ?_) (by kernel_rfl) (by kernel_rfl) (by kernel_rfl)
  have ok' : AOk (k + 3) (A.deeper (callEnvC (fdO w 148) L 148)) := ok.deeper
  have ok2 : AOk (k + 2) (A.deeper (callEnvC (fdO w 148) L 148)) := ok'.le (Nat.le_succ _)
  have ok1 : AOk (k + 1) (A.deeper (callEnvC (fdO w 148) L 148)) := ok'.le (Nat.add_le_add_left (by decide) _)
  have hn := sm.len
  have hr1 := hr.pos
  have hr2 := hr.le
  have hlz : (ps.map fun p => D.obj p.a).length ≤ sizeLine := by rw [List.length_map]; exact sl8 (Nat.le_trans hn (by decide))
  have hpos : 0 < ps.length := Nat.lt_of_lt_of_le hr1 hr2
  have hli : ps.length - 1 < ps.length := Nat.sub_lt hpos Nat.one_pos
  have hlast : pyGet (ps.map fun p => D.obj p.a) (-1) = some (.obj (ps[ps.length - 1]'hli).a) := by
    rw [pyGet_last (fun e => by have := congrArg List.length e; rw [List.length_map, List.length_nil] at this; rw [this] at hpos; exact absurd hpos (Nat.lt_irrefl 0)), List.length_map, List.getElem?_map, List.getElem?_eq_getElem hli]; rfl
  have hlastl : lastL (ps.map (·.l)) = (ps[ps.length - 1]'hli).l := by
    unfold lastL
    rw [List.length_map, List.getD_eq_getElem?_getD, List.getElem?_map, List.getElem?_eq_getElem hli]; rfl
  have hlen : (lastL (ps.map (·.l))).length ≤ 100 := by rw [hlastl]; exact sm.row _ (List.getElem_mem hli)
  have hm0 := hp _ (List.getElem_mem hli)
  refine b₁.assign ok' (.call (.glob (v := .ref 141) (by kernel_rfl) (by kernel_rfl)) (.fn 141 (fnO w 141) (fdO w 141) (by kernel_rfl) (by kernel_rfl)) (.one (.name rfl)) (fn_run (k := k) hp sm hr)) (.loc (by kernel_rfl)) fun s₂ b₂ => ?_
  refine b₂.assign ok1 (Fn.pc (.item (.name rfl) (.neg .int) hlast hlz) hm0 ⟨_, rfl⟩) (.loc (by kernel_rfl)) fun s₃ b₃ => ?_
  rw [← hlastl] at b₃
  refine b₃.ifs ok1 (Tr.cast (.cmp (.call (nm_twc (by kernel_rfl)) ca_twc (.two (.name rfl) (.name rfl)) (fn_twc (k := k))) .int .eqI) (twc_one _ _)) (fun hc s₄ b₄ => ?_) fun hc s₄ b₄ => Bd.nil ?_
  · have hlt : m < (lastL (ps.map (·.l))).length := Int.ofNat_lt.mp (of_decide_eq_true hc)
    refine b₄.assignNew (x := "_Accumulator") (y := "fresh") (k := k) ok2 (.glob (by kernel_rfl) (by kernel_rfl)) (.loc (by kernel_rfl)) rfl fun fa fdx s₅ f1 f2 n1 n2 hne b₅ => ?_
    have hP : ∀ a, (∃ p ∈ ps, a = p.a) → W a := fun a ⟨p, hp', e⟩ => e ▸ (bs.mw _ (hp p hp')).1
    have hl0 : (ps.map (·.l)).length = ps.length := List.length_map ..
    have hH : Hold ((fa, Mu.acc fdx []) :: μ) (ps ++ [⟨fa, fdx, []⟩]) (ps.map (·.l) ++ [[]]) := by
      have := Hold.of (μ := (fa, Mu.acc fdx []) :: μ) (ps := ps ++ [⟨fa, fdx, []⟩]) fun p hp' => by
        rcases List.mem_append.mp hp' with q | q
        · exact List.mem_cons_of_mem _ (hp p q)
        · rw [List.mem_singleton.mp q]; exact List.mem_cons_self
      rw [List.map_append] at this
      exact this
    have nd' : ((ps ++ [(⟨fa, fdx, []⟩ : Pile)]).map (·.a)).Nodup := by
      rw [List.map_append]
      refine List.nodup_append.mpr ⟨nd, by simp, ?_⟩
      intro b hb c hc'
      obtain ⟨p, hp', rfl⟩ := List.mem_map.mp hb
      have hc' : c = fa := by simpa using hc'
      rw [hc']
      exact fun e => n1 (e ▸ hP _ ⟨p, hp', rfl⟩)
    have hlp : (ps ++ [(⟨fa, fdx, []⟩ : Pile)]).length = ps.length + 1 := by rw [List.length_append]; rfl
    have hin := muG_in (src := fun j => m - 1 - j) (dst := fun _ => (ps.map (·.l)).length) (J := m) hH nd' (fun j hj => ⟨by rw [hlp]; exact Nat.lt_succ_of_lt (nq1 hr2 hj), by rw [hlp, hl0]; exact Nat.lt_succ_self _⟩)
    have hgl : ∀ i, i < ps.length → (ps ++ [(⟨fa, fdx, []⟩ : Pile)]).getD i noPile = ps.getD i noPile := fun i hi => by
      rw [List.getD_eq_getElem?_getD, List.getElem?_append_left hi, ← List.getD_eq_getElem?_getD]
    have hgr : (ps ++ [(⟨fa, fdx, []⟩ : Pile)]).getD ps.length noPile = ⟨fa, fdx, []⟩ := by
      rw [List.getD_eq_getElem?_getD, List.getElem?_append_right (Nat.le_refl _), Nat.sub_self]; rfl
    have htk : pick (ps.map fun p => D.obj p.a) none (some (m : Int)) none = (ps.take m).map fun p => D.obj p.a := by
      rw [pick_map, pickL_upto noPile]
    have htl : ((ps.take m).map fun p => D.obj p.a).length = m := by rw [List.length_map, List.length_take]; exact Nat.min_eq_left hr2
    refine Bd.for (X := fun c => ∃ p ∈ ps ++ [(⟨fa, fdx, []⟩ : Pile)], c = p.a) (n := m) (SrcG.castN (Src.rev (nm_reversed (by kernel_rfl)) (Ev.cast (.slice (.name rfl) .none (.some (.name rfl)) .none (by decide) hlz) (congrArg D.lst htk))) htl) b₅ ok2 (.one _ _ (.loc (by kernel_rfl))) (fun a q => ?_) (fun j => _) (fun j => muG (ps ++ [(⟨fa, fdx, []⟩ : Pile)]) ((fa, Mu.acc fdx []) :: μ) (ps.map (·.l) ++ [[]]) (fun j => m - 1 - j) (fun _ => (ps.map (·.l)).length) j) rfl rfl (fun j => muG_sub _ _ _ _ _) (fun j W' s₆ Q' E' hj hW b₆ next => ?_) fun s₆ b₆ => ?_
    · obtain ⟨p, hp', q⟩ := q
      rcases List.mem_append.mp hp' with z | z
      · exact ⟨.inl (hP a ⟨p, z, q⟩), q ▸ (bs.mu _ (hp p z)).off bs.tab |>.1, .inl ⟨p, z, q⟩⟩
      · rw [List.mem_singleton.mp z] at q
        have q : a = fa := q
        exact ⟨.inr (.inl q), fun c => n1 (q ▸ c ▸ bs.wt), q ▸ f1.symm⟩
    · have hH' := hin j (Nat.le_of_lt hj)
      have hi1 : m - 1 - j < (ps ++ [(⟨fa, fdx, []⟩ : Pile)]).length := by rw [hlp]; exact Nat.lt_succ_of_lt (nq1 hr2 hj)
      have hi2 : (ps.map (·.l)).length < (ps ++ [(⟨fa, fdx, []⟩ : Pile)]).length := by rw [hlp, hl0]; exact Nat.lt_succ_self _
      have hma := hH'.at hi1
      have hmb := hH'.at hi2
      have hmv := mv.a hlt j hj
      have hpl : ((ps.take m).map fun p => D.obj p.a).getD (((ps.take m).map fun p => D.obj p.a).length - 1 - j) .none = .obj ((ps ++ [(⟨fa, fdx, []⟩ : Pile)]).getD (m - 1 - j) noPile).a := by
        rw [htl, objs_getD (by rw [List.length_take, Nat.min_eq_left hr2]; exact nq1 (Nat.le_refl _) hj), hgl _ (nq1 hr2 hj)]
        congr 2
        rw [List.getD_eq_getElem?_getD, List.getElem?_take_of_lt (nq1 (Nat.le_refl _) hj), ← List.getD_eq_getElem?_getD]
      refine b₆.exprX (X := fun c => c = ((ps ++ [(⟨fa, fdx, []⟩ : Pile)]).getD (m - 1 - j) noPile).a ∨ c = ((ps ++ [(⟨fa, fdx, []⟩ : Pile)]).getD (ps.map (·.l)).length noPile).a) (μ' := muG (ps ++ [(⟨fa, fdx, []⟩ : Pile)]) ((fa, Mu.acc fdx []) :: μ) (ps.map (·.l) ++ [[]]) (fun j => m - 1 - j) (fun _ => (ps.map (·.l)).length) (j + 1)) (d := .none) ok2 ?_ (fun c q => ?_) (by kernel_rfl) rfl fun s₇ b₇ => Bd.nil (next _ (Bd.drop (x := "pile") b₇ rfl))
      · refine EvX.mv (k := k) (.name ?_) (.name (congrArg some hpl)) hma hmb (nd_getD nd' hi2 hi1 (by rw [hl0]; exact nq2 hr2 hj)) hmv.1 hmv.2.1 hmv.2.2 ⟨_, rfl⟩ rfl rfl
        rw [hl0, hgr]; rfl
      · refine .inl (.inl ?_)
        rcases q with q | q
        · exact ⟨_, List.getElem_mem hi1, by rw [q, getD_pile hi1]⟩
        · exact ⟨_, List.getElem_mem hi2, by rw [q, getD_pile hi2]⟩
    · have hH' := hin m (Nat.le_refl _)
      refine b₆.ret ok2 (.bin (.name rfl) (.list (.one (.name rfl) rfl) (sl8 (by show 1 ≤ 1000; decide))) (Bo.cat (sl8 (by rw [List.length_map]; exact Nat.le_trans (Nat.succ_le_succ hn) (by decide))))) fun v s₇ b₇ d₇ => ?_
      have fP : ∀ c, ¬ W c → (s.heap.get? c = none ∨ ∃ p ∈ ps, c = p.a) → s.heap.get? c = none := fun c nc q => q.elim id fun q => absurd (hP c q) nc
      refine h v s₇ _ _ (withL (ps ++ [(⟨fa, fdx, []⟩ : Pile)]) fun i => (mvA (ps.map (·.l)) m m).getD i []) (fun a q => ?_) (fun a q => .inl q) (by rw [withL_a]; exact nd') ?_ hH'.pin b₇.toBs b₇.ef ?_
      · rcases q with q | q | q
        · exact .inl q
        · exact .inr (q ▸ fP fa n1 f1)
        · exact .inr (q ▸ fP fdx n2 f2)
      · unfold movedF
        rw [if_pos hlt]
        exact hH'.ls
      · unfold pilesD
        rw [piles_withL, List.map_append]
        exact d₇
  · have hlt : ¬ m < (lastL (ps.map (·.l))).length := fun q => of_decide_eq_false hc (Int.ofNat_lt.mpr q)
    have hP : ∀ a, (∃ p ∈ ps, a = p.a) → W a := fun a ⟨p, hp', e⟩ => e ▸ (bs.mw _ (hp p hp')).1
    have hl0 : (ps.map (·.l)).length = ps.length := List.length_map ..
    have hH : Hold μ ps (ps.map (·.l)) := Hold.of hp
    generalize hJ : min (lastL (ps.map (·.l))).length ((ps.map (·.l)).length - 1) = J at *
    have hJ' : min (lastL (ps.map (·.l))).length (ps.length - 1) = J := by rw [← hJ, hl0]
    have hq : ∀ j, j < J → j < ps.length ∧ j ≠ ps.length - 1 ∧ j < (lastL (ps.map (·.l))).length ∧ j < ps.length - 1 := fun j hj => nq3 (by rw [hJ']; exact hj)
    have hin := muG_in (src := fun _ => (ps.map (·.l)).length - 1) (dst := fun j => j) (J := J) hH nd (fun j hj => ⟨by rw [hl0]; exact hli, (hq j hj).1⟩)
    have htk : pick ((ps.take (ps.length - 1)).map fun p => D.obj p.a) none (some ((lastL (ps.map (·.l))).length : Int)) none = ((ps.take (ps.length - 1)).take (lastL (ps.map (·.l))).length).map fun p => D.obj p.a := by
      rw [pick_map, pickL_upto noPile]
    have htb : pick (ps.map fun p => D.obj p.a) none (some (-1)) none = (ps.take (ps.length - 1)).map fun p => D.obj p.a := by
      rw [pick_map, pickL_butLast noPile]
    have htl : (((ps.take (ps.length - 1)).take (lastL (ps.map (·.l))).length).map fun p => D.obj p.a).length = J := by rw [List.length_map, List.length_take, List.length_take, Nat.min_eq_left (Nat.sub_le _ _)]; exact hJ'
    refine Bd.for (X := fun c => ∃ p ∈ ps, c = p.a) (n := J) (SrcG.castN (Src.list (Ev.cast (.slice (Ev.cast (.slice (.name rfl) .none (.some (.neg .int)) .none (by decide) hlz) (congrArg D.lst htb)) .none (.some (.name rfl)) .none (by decide) (by rw [List.length_map, List.length_take]; exact sl8 (Nat.le_trans (Nat.min_le_right _ _) (Nat.le_trans hn (by decide))))) (congrArg D.lst htk))) htl) b₄ ok2 (.one _ _ (.loc (by kernel_rfl))) (fun a q => ?_) (fun j => _) (fun j => muG ps μ (ps.map (·.l)) (fun _ => (ps.map (·.l)).length - 1) (fun j => j) j) rfl rfl (fun j => muG_sub _ _ _ _ _) (fun j W' s₆ Q' E' hj hW b₆ next => ?_) fun s₆ b₆ => ?_
    · obtain ⟨p, hp', q⟩ := q
      exact ⟨hP a ⟨p, hp', q⟩, q ▸ (bs.mu _ (hp p hp')).off bs.tab |>.1, .inl ⟨p, hp', q⟩⟩
    · have hH' := hin j (Nat.le_of_lt hj)
      have hi1 : (ps.map (·.l)).length - 1 < ps.length := by rw [hl0]; exact hli
      have hi2 : j < ps.length := (hq j hj).1
      have hma := hH'.at hi1
      have hmb := hH'.at hi2
      have hmv := mv.b hlt j (hJ ▸ hj)
      have hpl : (((ps.take (ps.length - 1)).take (lastL (ps.map (·.l))).length).map fun p => D.obj p.a).getD j .none = .obj (ps.getD j noPile).a := by
        rw [objs_getD (by rw [List.length_take, List.length_take, Nat.min_eq_left (Nat.sub_le _ _), hJ']; exact hj)]
        congr 2
        rw [List.getD_eq_getElem?_getD, List.getElem?_take_of_lt (hq j hj).2.2.1, List.getElem?_take_of_lt (hq j hj).2.2.2, ← List.getD_eq_getElem?_getD]
      refine b₆.exprX (X := fun c => c = (ps.getD ((ps.map (·.l)).length - 1) noPile).a ∨ c = (ps.getD j noPile).a) (μ' := muG ps μ (ps.map (·.l)) (fun _ => (ps.map (·.l)).length - 1) (fun j => j) (j + 1)) (d := .none) ok2 ?_ (fun c q => ?_) (by kernel_rfl) rfl fun s₇ b₇ => Bd.nil (next _ (Bd.drop (x := "pile") b₇ rfl))
      · refine EvX.mv (k := k) (.name (congrArg some hpl)) (.item (.name rfl) (.neg .int) ?_ hlz) hma hmb (nd_getD nd hi2 hi1 (by rw [hl0]; exact (hq j hj).2.1)) hmv.1 hmv.2.1 hmv.2.2 ⟨_, rfl⟩ rfl rfl
        rw [hl0, getD_pile hli]
        exact hlast
      · refine .inl (.inl ?_)
        rcases q with q | q
        · exact ⟨_, List.getElem_mem hi1, by rw [q, getD_pile hi1]⟩
        · exact ⟨_, List.getElem_mem hi2, by rw [q, getD_pile hi2]⟩
    · have hH' := hin J (Nat.le_refl _)
      have hi1 : (ps.map (·.l)).length - 1 < ps.length := by rw [hl0]; exact hli
      have hma := hH'.at hi1
      have hcz := mv.c
      rw [hJ] at hcz
      have hlast' : pyGet (ps.map fun p => D.obj p.a) (-1) = some (.obj (ps.getD ((ps.map (·.l)).length - 1) noPile).a) := by rw [hl0, getD_pile hli]; exact hlast
      generalize hc1 : (mvG (ps.map (·.l)) (fun _ => (ps.map (·.l)).length - 1) (fun j => j) J) = c at *
      have hcz : (c.getD ((ps.map (·.l)).length - 1) []).length ≤ 1000 := by rw [← hc1]; exact hcz
      have hmF : movedF (ps.map (·.l)) m = if (c.getD ((ps.map (·.l)).length - 1) []).length = 0 then c.take ((ps.map (·.l)).length - 1) else c := by
        unfold movedF
        rw [if_neg hlt, hJ]
        show (if ((mvG _ _ _ _).getD _ _).length = 0 then _ else _) = _
        rw [hc1]
        show (if _ then (mvG _ _ _ _).take _ else (mvG _ _ _ _)) = _
        rw [hc1]
      refine b₆.ifsX (X := fun x => x = (ps.getD ((ps.map (·.l)).length - 1) noPile).a) (c := (((c.getD ((ps.map (·.l)).length - 1) []).length : Int) == 0) && true) (μ' := muG ps μ (ps.map (·.l)) (fun _ => (ps.map (·.l)).length - 1) (fun j => j) J) ok2 ?_ (fun x q => .inl ⟨_, List.getElem_mem hi1, by rw [q, getD_pile hi1]⟩) (fun hc s₇ b₇ => ?_) fun hc s₇ b₇ => Bd.nil ?_
      · refine TrX.and (Tr.cmp (Fn.pc (k := k + 1) (.item (.name rfl) (.neg .int) hlast' hlz) hma ⟨_, rfl⟩) .int .eqI) fun q => ?_
        have h0 : (c.getD ((ps.map (·.l)).length - 1) []).length = 0 := by rw [beq_iff_eq] at q; exact Int.natCast_eq_zero.mp q
        exact TrX.cast (TrX.cmp (EvX.pop0 (k := k) (.item (.name rfl) (.neg .int) hlast' hlz) hma h0 ⟨_, rfl⟩) (.tuple (.two .str .str) (sl8 (by show 2 ≤ 1000; decide))) (Cm.eqD (by decide +kernel) (by decide +kernel)) (fun V mw x q => q ▸ (mw _ hma).1)) (by decide +kernel)
      · have h0 : (c.getD ((ps.map (·.l)).length - 1) []).length = 0 := by rw [Bool.and_true, beq_iff_eq] at hc; exact Int.natCast_eq_zero.mp hc
        rw [if_pos h0] at hmF
        refine b₇.ret ok2 (Ev.cast (.slice (.name rfl) .none (.some (.neg .int)) .none (by decide) hlz) (congrArg D.lst htb)) fun v s₈ b₈ d₈ => ?_
        refine h v s₈ W _ ((withL ps fun i => c.getD i []).take (ps.length - 1)) (fun a q => .inl q) (fun a q => q) ?_ ?_ (fun p hp' => hH'.pin p (List.mem_of_mem_take hp')) b₈.toBs b₈.ef ?_
        · rw [List.map_take, withL_a]
          exact (List.take_sublist _ _).nodup nd
        · rw [List.map_take, hH'.ls, hmF, hl0]
        · unfold pilesD
          rw [List.map_take, piles_withL, ← List.map_take]
          exact d₈
      · have h0 : ¬ (c.getD ((ps.map (·.l)).length - 1) []).length = 0 := by rw [Bool.and_true, beq_eq_false_iff_ne] at hc; exact fun e => hc (Int.natCast_eq_zero.mpr e)
        rw [if_neg h0] at hmF
        refine b₇.ret ok2 (.name rfl) fun v s₈ b₈ d₈ => ?_
        refine h v s₈ W _ (withL ps fun i => c.getD i []) (fun a q => .inl q) (fun a q => q) (by rw [withL_a]; exact nd) (by rw [hH'.ls, hmF]) hH'.pin b₈.toBs b₈.ef ?_
        unfold pilesD
        rw [piles_withL]
        exact d₈
end Mine
open PySem PySem.W PyProof.Rows
set_option Elab.async false
set_option maxRecDepth 100000
set_option linter.unusedVariables false
namespace Mine

variable {w : World} {k k' : Nat} {env : Env} {ρ : Rho} {μ μ' μ'' : List (Addr × Mu)}

/-- an expression has a datum, whatever is handled -/
def Er (w : World) (env : Env) (ρ : Rho) (μ : List (Addr × Mu)) (e : Expr) (d : D) : Prop :=
  ∀ (W : Addr → Prop) (A : Around) (E : Value → Shared → Prop) (s : Shared) (Q : Value → Shared → Prop), St w W env ρ μ s →
    (∀ v s', St w W env ρ μ s' → Go s s' → DIn W s'.heap v d → Q v s') → wpAny (MM w) A (eval e env) Q E s
theorem Er.ev {e : Expr} {d : D} (h : Er w env ρ μ e d) : Ev w k env ρ μ e d := fun W A E s Q _ st q => h W A E s Q st q
theorem Er.name {x : PySem.Str} {d : D} {p : Pos} (e : ρ.lookup x = some d) (hd : (x == ("__debug__" : PySem.Str)) = false := by decide) : Er w env ρ μ (.Name x p) d := by
  intro W A E s Q st h
  obtain ⟨v, hv, dv⟩ := st.loc x d e
  exact wpAny_Name (hv.load (h := s.heap) st.ek (h v s st (.refl _) dv)) hd
theorem Er.int {i : Int} {n : Nat} {p : Pos} : Er w env ρ μ (.Constant (.int i) n p) (.int i) := fun _ _ _ s _ st h => wpAny_Constant_int (h _ _ st.tok .tok (.int i _))
theorem Er.item {value slice : Expr} {p : Pos} {ds : List D} {i : Int} {d : D} (hv : Er w env ρ μ value (.lst ds)) (hi : Er w env ρ μ slice (.int i)) (hx : pyGet ds i = some d) (hz : ds.length ≤ sizeLine) : Er w env ρ μ (.Subscript value slice p) d := by
  intro W A E s Q st h
  refine Subscript_ (hv W A E s _ st fun u s₁ st₁ g₁ d₁ => hi W A E s₁ _ st₁ fun v s₂ st₂ g₂ d₂ => ?_)
  cases d₂ with
  | int i t =>
    have d₁ := d₁.go g₂ st.wt
    cases d₁ with
    | lst hw hl da => exact subTail hl.isList.typeIs slot_list_getitem.lookup (getItem_lst hl.isList da hx hz fun v dv => h v s₂ st₂ (g₁.trans g₂) dv)
/-- «x[i:]» -/
theorem Er.from {value lo : Expr} {p q : Pos} {ds : List D} {l : Int} (hv : Er w env ρ μ value (.lst ds)) (hl : Er w env ρ μ lo (.int l)) (hz : ds.length ≤ sizeLine) :
    Er w env ρ μ (.Subscript value (.Slice (some lo) none none p) q) (.lst (pick ds (some l) none none)) := by
  intro W A E s Q st h
  refine Subscript_ (hv W A E s _ st fun v s₁ st₁ g₁ d₁ => ?_)
  rw [arm_eval_Slice]
  refine wpAny_bind (hl W A E s₁ _ st₁ fun vl s₂ st₂ g₂ p₂ => wpAny_bind (wpAny_holding (wpAny_pure (wpAny_bind (wpAny_holding (wpAny_pure ?_))))))
  have d₁ := d₁.go g₂ st.wt
  cases p₂ with
  | int _ tl =>
  simp only [newFields]
  refine wpAny_newObj_type ?_ (by size_fits)
  cases d₁ with
  | @lst _ vs _ hw hls da =>
    have b5 := st₂.toBs.push (tk := s₂.toks) { cls := .type "slice", data := .fields [.int l tl, .none, .none].toArray }
    refine subTail (hls.isList.push _).typeIs slot_list_getitem.lookup (wpAny_getItem_list_slice (hls.isList.push _) ⟨_, Heap.get?_push_size _ rfl, rfl, rfl⟩ (.int _ _) .none .none (by decide) ?_ (by rw [List.size_toArray, da.length]; exact hz))
    refine h _ _ (st₂.go ((Go.push (tk := s₂.toks) _).trans (.push (tk := s₂.toks) _)) (b5.push (tk := s₂.toks) _)) ((g₁.trans g₂).trans ((Go.push (tk := s₂.toks) _).trans (.push (tk := s₂.toks) _))) ?_
    have := DIn.newLst b5 (vs := (slicePick vs.toArray (some l) none none).toList) ((da.push _).pick (some l) none none) 0
    simpa using this

/-- «x[i]», out of range -/
theorem item_out {W : Addr → Prop} {A : Around} {E : Value → Shared → Prop} {s : Shared} {Q : Value → Shared → Prop} {value slice : Expr} {p : Pos} {ds : List D} {i : Int} (hA : A.handled = none) (st : St w W env ρ μ s) (hv : Er w env ρ μ value (.lst ds)) (hi : Er w env ρ μ slice (.int i)) (hx : (ds.length : Int) ≤ i) (hb : i ≤ 2 ^ 62)
    (h : ∀ s', St w W env ρ μ s' → Go s s' → ∀ h' tk e, Heap.NewExc s'.heap h' e "IndexError" → E (.ref e) { s' with heap := h', toks := tk }) : wpAny (MM w) A (eval (.Subscript value slice p) env) Q E s := by
  refine Subscript_ (hv W A E s _ st fun u s₁ st₁ g₁ d₁ => hi W A E s₁ _ st₁ fun v s₂ st₂ g₂ d₂ => ?_)
  cases d₂ with
  | int i t =>
    have d₁ := d₁.go g₂ st.wt
    cases d₁ with
    | lst hw hl da =>
      have e := da.length
      exact subTail hl.isList.typeIs slot_list_getitem.lookup (wpAny_getItem_list_out hA hl.isList (by rw [List.size_toArray, e]; exact .inr hx) (Int.le_trans (by decide) (Int.le_trans (Int.natCast_nonneg _) hx)) (Int.lt_of_le_of_lt hb (by decide)) (h s₂ st₂ (g₁.trans g₂)))

/-- all stands but the frames' slots -/
structure Aft (fs : List Addr) (h h' : Heap) : Prop where
  keep : ∀ b o, b ∉ fs → h.get? b = some o → h'.get? b = some o
  ns : ∀ b m, b ∈ fs → h.Ns b m → h'.Ns b m
def frs (l : List Env) : List Addr := l.filterMap (·.frame)
structure FrOk (w : World) (W : Addr → Prop) (l : List Env) (h : Heap) : Prop where
  kind : ∀ f ∈ l, f.scope.kind ≠ .module ∧ ∃ a m, f.frame = some a ∧ h.Ns a m ∧ ¬ W a ∧ Own w a
theorem FrOk.at {W : Addr → Prop} {l : List Env} {h : Heap} (x : FrOk w W l h) {a : Addr} (ha : a ∈ frs l) : (∃ m, h.Ns a m) ∧ ¬ W a ∧ Own w a := by
  obtain ⟨f, hf, e⟩ := List.mem_filterMap.mp ha
  obtain ⟨_, b, m, e', n, r⟩ := x.kind f hf
  rw [e] at e'; cases e'
  exact ⟨⟨m, n⟩, r⟩
theorem St.aft {W : Addr → Prop} {s : Shared} {h' : Heap} {tk : Nat} {l : List Env} (st : St w W env ρ μ s) (ok : FrOk w W l s.heap) (hl : env.locals ∈ frs l) (a : Aft (frs l) s.heap h') : St w W env ρ μ { s with heap := h', toks := tk } := by
  have bx : ∀ b, b ∈ frs l → Bx s.heap b := fun b hb => let ⟨m, n⟩ := (ok.at hb).1; bx_ns n
  have offS : ∀ b o, s.heap.get? b = some o → ((∃ xs n, o.data = .seq xs n) ∨ ∃ xs, o.data = .fields xs) → b ∉ frs l := fun b o e q hb => by
    obtain ⟨o', e', h1, h2⟩ := bx b hb
    rw [e] at e'; cases e'
    rcases q with ⟨xs, n, q⟩ | ⟨xs, q⟩
    · exact h1 _ _ q
    · exact h2 _ q
  have offW : ∀ b, W b → b ∉ frs l := fun b hb q => (ok.at q).2.1 hb
  have nsK : ∀ b m, s.heap.Ns b m → h'.Ns b m := fun b m n => by
    by_cases hb : b ∈ frs l
    · exact a.ns b m hb n
    · obtain ⟨o, es, ep, ho, r⟩ := n
      exact ⟨o, es, ep, a.keep b o hb ho, r⟩
  have cellK : ∀ c v, s.heap.IsCell c v → h'.IsCell c v := fun c v x => by
    obtain ⟨o, ho, hd⟩ := x
    refine ⟨o, a.keep c o (fun q => ?_) ho, hd⟩
    obtain ⟨m, o', es, ep, ho', hd', r⟩ := (ok.at q).1
    rw [ho] at ho'; cases ho'
    rw [hd] at hd'; cases hd'
  have pr : Pr W W s.heap h' := fun b o n e q => ⟨a.keep b o (offS b o e q) e, n⟩
  have tab : Tab h' := let ⟨ps, t, r⟩ := st.tab; ⟨ps, a.keep _ _ (offS _ _ t (.inr ⟨_, rfl⟩)) t, r⟩
  exact {
    tx := st.tx.at fun b o n e => a.keep b o (fun q => n (ok.at q).2.2) e
    tab := tab
    bare := st.bare
    wt := st.wt
    live := fun b hb => let ⟨o, e⟩ := st.live b hb; ⟨o, a.keep b o (offW b hb) e⟩
    own := st.own
    mw := st.mw
    mu := fun p hp => by
      have h2 := st.mu p hp
      have h3 := st.mw p hp
      obtain ⟨p, m⟩ := p
      cases m with
      | acc dx l =>
        obtain ⟨⟨vs, n, e, r⟩, w2, hsh, t, t', q⟩ := h2
        exact ⟨⟨vs, n, a.keep _ _ (offW _ h3.1) e, r.pr pr⟩, w2, hsh, t, t', a.keep _ _ (offW _ (h3.2 _ _ rfl)) q⟩
      | opn l =>
        obtain ⟨vs, n, e, r⟩ := h2
        exact ⟨vs, n, a.keep _ _ (offW _ h3.1) e, r.pr pr⟩
    ek := st.ek
    eg := st.eg
    eb := st.eb
    ns := let ⟨m, n⟩ := st.ns; ⟨m, nsK _ m n⟩
    lo := st.lo
    lw := st.lw
    cells := fun n c hc => let ⟨v, x⟩ := st.cells n c hc; ⟨v, cellK c v x⟩
    co := st.co
    cw := st.cw
    ap := st.ap
    loc := fun n d e => by
      obtain ⟨v, h1, h2⟩ := st.loc n d e
      refine ⟨v, ?_, h2.pr pr⟩
      cases h1 with
      | loc m h1 h2 h3 => exact .loc m h1 (nsK _ m h2) h3
      | cell c h1 h2 h3 => exact .cell c h1 h2 (cellK c _ h3) }

/-- an exception, its traceback, and whether it flies -/
structure Fl (h : Heap) (e T : Addr) (fl : Value) : Prop where
  ne : T ≠ e
  exc : ∃ oe vs, h.get? e = some oe ∧ oe.cls = .type "IndexError" ∧ oe.data = .fields vs ∧ vs[1]? = some (.ref T)
  tb : ∃ oT ts, h.get? T = some oT ∧ oT.data = .fields ts ∧ ts[3]? = some fl
/-- the exception that was raised at h -/
structure Hld (fs : List Addr) (h : Heap) (e T : Addr) (fl : Value) (h' : Heap) : Prop where
  aft : Aft fs h h'
  fl : Fl h' e T fl
  ne : h.get? e = none
  nT : h.get? T = none ∨ T ∈ fs
end Mine
open PySem PySem.W PyProof.Rows
set_option Elab.async false
set_option maxRecDepth 100000
set_option linter.unusedVariables false
namespace Mine

variable {w : World} {k k' : Nat} {env : Env} {ρ : Rho} {μ μ' μ'' : List (Addr × Mu)}

section
variable {W : Addr → Prop} {A : Around} {E : Value → Shared → Prop} {s : Shared} {l : List Env} {L e T : Addr} {h h' : Heap} {fl : Value} {fs : List Addr}

theorem funFrames_of {base h h' : Heap} (k : ∀ b o, h.get? b = some o → h'.get? b = some o) {l : List Env} : (∀ f ∈ l, f.scope.kind ≠ .module ∧ ∃ a m, f.frame = some a ∧ h.Ns a m) → (∀ a ∈ frs l, base.get? a = none) → h'.FunFrames base l := by
  induction l with
  | nil => exact fun _ _ => trivial
  | cons f l ih =>
    intro x y
    obtain ⟨hk, a, m, hf, n⟩ := x f List.mem_cons_self
    obtain ⟨o, es, ep, ho, hd, r⟩ := n
    refine ⟨hk, ⟨a, o, hf, y a (List.mem_filterMap.mpr ⟨f, List.mem_cons_self, hf⟩), k _ _ ho, fun vs q => by rw [hd] at q; cases q⟩, ih (fun g hg => x g (List.mem_cons_of_mem _ hg)) fun b hb => y b ?_⟩
    obtain ⟨g, hg, e⟩ := List.mem_filterMap.mp hb
    exact List.mem_filterMap.mpr ⟨g, List.mem_cons_of_mem _ hg, e⟩

theorem note1 {h' : Heap} {tk : Nat} {Q : Unit → Shared → Prop} (hfr : A.frames = some (env :: l)) (hf : env.frame = some L) (ok : FrOk w W (env :: l) s.heap) (hx : Heap.NewExc s.heap h' e "IndexError")
    (h : ∀ h'' T, Hld (frs (env :: l)) s.heap e T (rawInt L) h'' → Q () { s with heap := h'', toks := tk }) : wpAny (MM w) A (noteFrame (.ref e) env) Q E { s with heap := h', toks := tk } := by
  obtain ⟨ob, t, he, hc, hd⟩ := hx.there
  have hb : ∀ a ∈ frs (env :: l), (hideAll s.heap (frs (env :: l))).get? a = none := fun a ha => hideAll_none _ ha
  have en : e ∉ frs (env :: l) := fun q => by
    obtain ⟨m, o, es, ep, ho, r⟩ := (ok.at q).1
    rw [hx.new] at ho; cases ho
  have hen : (hideAll s.heap (frs (env :: l))).get? e = none := by
    cases q : (hideAll s.heap (frs (env :: l))).get? e with
    | none => rfl
    | some o => have := of_hideAll _ q; rw [hx.new] at this; cases this
  unfold noteFrame
  simp only [hf]
  refine wpAny_bind (wpAny_field he hd (x := .none) (by rfl) ?_)
  rw [if_neg (by decide)]
  refine wpAny_entryW (base := hideAll s.heap (frs (env :: l))) (a0 := t) hfr (funFrames_of hx.keeps (fun f hf => let ⟨a, b, m, c, d, _⟩ := ok.kind f hf; ⟨a, b, m, c, d⟩) hb) hf he (fun b o q => hx.keeps b o (of_hideAll _ q)) hen hd (by show 1 < 6; decide) (by rfl) fun h'' hN => ?_
  obtain ⟨k1, k2, ⟨oe, vs, T, oT, ts, a1, a2, a3, a4, a5, a6, a7, a8, a9⟩, k4⟩ := hN
  have aft : Aft (frs (env :: l)) s.heap h'' := ⟨fun b o nb q => k1 b o (hideAll_get _ q nb), fun b m hb n => Heap.UpToSlots.ns k4 (let ⟨o, es, ep, ho, r⟩ := n; ⟨o, es, ep, hx.keeps _ _ ho, r⟩)⟩
  have nT : s.heap.get? T = none := by
    by_cases q : T ∈ frs (env :: l)
    · obtain ⟨m, n⟩ := (ok.at q).1
      obtain ⟨o, es, ep, ho, hd', r⟩ := aft.ns T m q n
      rw [a7] at ho; cases ho
      rw [a8] at hd'; cases hd'
    · cases z : s.heap.get? T with
      | none => rfl
      | some o => have := hideAll_get _ z q; rw [a5] at this; cases this
  exact h h'' T ⟨aft, ⟨a6, ⟨oe, vs, a1, a2.1.trans hc, a3, a4⟩, oT, ts, a7, a8, a9⟩, hx.new, .inl nT⟩

theorem Hld.off (x : Hld fs h e T fl h') (hn : ∀ b ∈ fs, ∃ m, h.Ns b m) : T ∉ fs ∧ h.get? T = none := by
  have : T ∉ fs := fun q => by
    obtain ⟨m, n⟩ := hn T q
    obtain ⟨o, es, ep, ho, hd, r⟩ := x.aft.ns T m q n
    obtain ⟨oT, ts, b1, b2, b3⟩ := x.fl.tb
    rw [b1] at ho; cases ho
    rw [b2] at hd; cases hd
  exact ⟨this, x.nT.elim id fun q => absurd q this⟩

end
end Mine
open PySem PySem.W PyProof.Rows
set_option Elab.async false
set_option maxRecDepth 100000
set_option linter.unusedVariables false
namespace Mine

variable {w : World} {k k' : Nat} {env : Env} {ρ : Rho} {μ μ' μ'' : List (Addr × Mu)}

section
variable {W P X : Addr → Prop} {s₀ s : Shared} {A : Around} {E : Value → Shared → Prop} {Q : Flow → Shared → Prop} {rest : List Stmt}

theorem Bd.over {x : PySem.Str} {d d' : D} (b : Bd w W env ((x, d) :: (x, d') :: ρ) μ P s₀ s) : Bd w W env ((x, d) :: ρ) μ P s₀ s :=
  b.weak fun y e hy => by
    rw [List.lookup_cons] at hy ⊢
    cases q : y == x with
    | true => rw [q] at hy; exact hy
    | false => rw [q] at hy; rw [List.lookup_cons, q]; exact hy
theorem Bd.again {x : PySem.Str} {d : D} (b : Bd w W env ρ μ P s₀ s) (h : ρ.lookup x = some d) : Bd w W env ((x, d) :: ρ) μ P s₀ s :=
  b.weak fun y e hy => by
    rw [List.lookup_cons] at hy
    cases q : y == x with
    | true =>
      rw [q] at hy; cases hy
      obtain rfl : y = x := by simpa using q
      exact h
    | false => rw [q] at hy; exact hy
/-- only what is listed -/
theorem Bd.only {ρ' : Rho} (b : Bd w W env ρ μ P s₀ s) (h : ∀ p ∈ ρ', ρ.lookup p.1 = some p.2) : Bd w W env ρ' μ P s₀ s :=
  b.weak fun y e hy => h _ (mem_of_lookup hy)

/-- «x += e», whatever is handled -/
theorem Bd.augR {x : PySem.Str} {p q : Pos} {e : Expr} {i j : Int} (b : Bd w W env ρ μ P s₀ s) (hx : ρ.lookup x = some (.int i)) (he : Er w env ρ μ e (.int j)) (hk : Sto env x)
    (h : ∀ s', Bd w W env ((x, .int (i + j)) :: ρ) μ P s₀ s' → wpAny (MM w) A (execs rest env) Q E s') : wpAny (MM w) A (execs (.AugAssign (.Name x p) .Add e q :: rest) env) Q E s := by
  refine wpAny_execs_cons (wpAny_AugAssign_Name ?_)
  obtain ⟨v, hv, dv⟩ := b.loc x _ hx
  refine hv.load (h := s.heap) b.ek ?_
  refine he W A E s _ b.toSt fun u s₁ st₁ g₁ d₁ => ?_
  cases dv
  cases d₁
  refine PyProof.Rows.iadd_int ?_
  exact ((b.next st₁ g₁).next (st₁.tok (tk := s₁.toks + 1)) .tok).store hk (.int _ _) h

def nxt (ns : List Int) (i : Nat) (c : Int) : Nat := i + ((ns.drop i).takeWhile (· == c)).length
theorem nxt_in (ns : List Int) (i : Nat) (c : Int) (j : Nat) (h1 : i ≤ j) (h2 : j < nxt ns i c) : ns[j]? = some c := by
  have hlt : j - i < ((ns.drop i).takeWhile (· == c)).length := Nat.sub_lt_left_of_lt_add h1 h2
  have hm : ((ns.drop i).takeWhile (· == c))[j - i]? = some (((ns.drop i).takeWhile (· == c))[j - i]) := List.getElem?_eq_getElem hlt
  have hall : ∀ x ∈ (ns.drop i).takeWhile (· == c), x = c := fun x hx => by
    have := List.all_eq_true.mp (List.all_takeWhile (l := ns.drop i) (p := (· == c))) x hx
    simpa using this
  have hp := List.takeWhile_prefix (l := ns.drop i) (· == c)
  obtain ⟨t, ht⟩ := hp
  have : (ns.drop i)[j - i]? = some c := by
    rw [← ht, List.getElem?_append_left hlt, hm, hall _ (List.getElem_mem hlt)]
  rw [List.getElem?_drop] at this
  rwa [show i + (j - i) = j from Nat.add_sub_of_le h1] at this
theorem at_stop {α : Type} (p : α → Bool) (l : List α) : l[(l.takeWhile p).length]? = (l.dropWhile p).head? := by
  have e : l[(l.takeWhile p).length]? = (l.takeWhile p ++ l.dropWhile p)[(l.takeWhile p).length]? := by rw [List.takeWhile_append_dropWhile]
  rw [e, List.getElem?_append_right (Nat.le_refl _), Nat.sub_self, List.head?_eq_getElem?]
theorem nxt_stop (ns : List Int) (i : Nat) (c : Int) (h : nxt ns i c < ns.length) : ∃ d, ns[nxt ns i c]? = some d ∧ d ≠ c := by
  have hg : ((ns.drop i).dropWhile (· == c)).head? = some ns[nxt ns i c] := by
    rw [← at_stop, List.getElem?_drop]
    exact List.getElem?_eq_getElem h
  refine ⟨ns[nxt ns i c], List.getElem?_eq_getElem h, fun e => ?_⟩
  have := List.head?_dropWhile_not (· == c) (ns.drop i)
  rw [hg] at this
  simp [e] at this

/-- «while x[i] == v: i += 1» -/
theorem skipW {x i v : PySem.Str} {p1 p2 p3 p4 p5 p6 p7 p8 p9 : Pos} {n : Nat} {ns : List Int} {i₀ : Nat} {c : Int} (b : Bd w W env ρ μ P s₀ s) (hx : ρ.lookup x = some (.lst (ns.map .int))) (hi : ρ.lookup i = some (.int i₀)) (hv : ρ.lookup v = some (.int c)) (hxi : x ≠ i) (hvi : v ≠ i) (hk : Sto env i) (hz : ns.length ≤ 1000) (hz2 : nxt ns i₀ c ≤ 2000)
    (hdx : (x == ("__debug__" : PySem.Str)) = false) (hdi : (i == ("__debug__" : PySem.Str)) = false) (hdv : (v == ("__debug__" : PySem.Str)) = false)
    (hE : ns.length ≤ nxt ns i₀ c → A.handled = none ∧ ∀ s', Bd w W env ((i, .int (nxt ns i₀ c : Nat)) :: ρ) μ P s₀ s' → ∀ h' tk e, Heap.NewExc s'.heap h' e "IndexError" → notedBy (MM w) A env (cameBackBy (MM w) A env E) (.ref e) { s' with heap := h', toks := tk })
    (h : nxt ns i₀ c < ns.length → ∀ s', Bd w W env ((i, .int (nxt ns i₀ c : Nat)) :: ρ) μ P s₀ s' → wpAny (MM w) A (execs rest env) Q E s') :
    wpAny (MM w) A (execs (.While (.Compare (.Subscript (.Name x p1) (.Name i p2) p3) [.Eq] [.Name v p4] p5) [.AugAssign (.Name i p6) .Add (.Constant (.int 1) n p7) p8] [] p9 :: rest) env) Q E s := by
  have hle : i₀ ≤ nxt ns i₀ c := Nat.le_add_right _ _
  refine wpAny_execs_cons (wpAny_While (codeAny_whileLoop (fun m s' => ∃ j, m = nxt ns i₀ c - j ∧ i₀ ≤ j ∧ j ≤ nxt ns i₀ c ∧ Bd w W env ((i, .int (j : Nat)) :: ρ) μ P s₀ s') (fun m s' hI => ?_) (nxt ns i₀ c - i₀) ⟨i₀, rfl, Nat.le_refl _, hle, b.again hi⟩))
  obtain ⟨j, rfl, hij, hj, bj⟩ := hI
  have lx : ((i, D.int (j : Nat)) :: ρ).lookup x = some (.lst (ns.map .int)) := by rw [lookup_cons_ne hxi]; exact hx
  have li : ((i, D.int (j : Nat)) :: ρ).lookup i = some (.int (j : Nat)) := by rw [List.lookup_cons, beq_self_eq_true]
  have lv : ((i, D.int (j : Nat)) :: ρ).lookup v = some (.int c) := by rw [lookup_cons_ne hvi]; exact hv
  have hzl : (ns.map D.int).length ≤ sizeLine := by rw [List.length_map]; exact sl8 hz
  have test : ∀ {d : Int} (hd : ns[j]? = some d) {Q' : Bool → Shared → Prop} {E' : Value → Shared → Prop}, (∀ s₁, St w W env ((i, .int (j : Nat)) :: ρ) μ s₁ → Go s' s₁ → Q' (d == c) s₁) → wpAny (MM w) A (isTrue (.Compare (.Subscript (.Name x p1) (.Name i p2) p3) [.Eq] [.Name v p4] p5) env (eval (.Compare (.Subscript (.Name x p1) (.Name i p2) p3) [.Eq] [.Name v p4] p5) env)) Q' E' s' := fun {d} hd {Q'} {E'} q => by
    refine wpAny_isTrue_Compare1 (Er.item (.name lx hdx) (.name li hdi) (d := .int d) (by rw [pyGet_nat, List.getElem?_map, hd]; rfl) hzl W A _ s' _ bj.toSt fun u s₁ st₁ g₁ d₁ => Er.name lv hdv W A _ s₁ _ st₁ fun v s₂ st₂ g₂ d₂ => ?_) (by with_unfolding_all rfl)
    cases d₁
    cases d₂
    exact eq_int (wpAny_truthy_bool (q s₂ st₂ (g₁.trans g₂)))
  by_cases hlt : j < nxt ns i₀ c
  · refine test (nxt_in ns i₀ c j hij hlt) fun s₁ st₁ g₁ => ?_
    rw [beq_self_eq_true, if_pos rfl]
    exact (bj.next st₁ g₁).augR li .int hk fun s₂ b₂ => Bd.nil ⟨nxt ns i₀ c - (j + 1), Nat.sub_succ_lt_self _ _ hlt, j + 1, rfl, Nat.le_succ_of_le hij, hlt, b₂.over⟩
  · obtain rfl : j = nxt ns i₀ c := antiL hj hlt
    by_cases hs : nxt ns i₀ c < ns.length
    · obtain ⟨d, hd, hdc⟩ := nxt_stop ns i₀ c hs
      refine test hd fun s₁ st₁ g₁ => ?_
      rw [show (d == c) = false by simpa using hdc, if_neg Bool.false_ne_true]
      exact wpAny_execs_nil (h hs s₁ (bj.next st₁ g₁))
    · obtain ⟨hh, hr⟩ := hE (Nat.le_of_not_lt hs)
      refine wpAny_isTrue_Compare1 (item_out hh bj.toSt (.name lx hdx) (.name li hdi) (by rw [List.length_map]; exact Int.ofNat_le.mpr (Nat.le_of_not_lt hs)) (i62' hz2) fun s₁ st₁ g₁ h' tk e hx => ?_) (by with_unfolding_all rfl)
      exact hr s₁ (bj.next st₁ g₁) h' tk e hx
end
end Mine
open PySem PySem.W PyProof.Rows
set_option Elab.async false
set_option maxRecDepth 100000
set_option linter.unusedVariables false
namespace Mine

variable {w : World} {k k' : Nat} {env : Env} {ρ : Rho} {μ μ' μ'' : List (Addr × Mu)}

/-- what a call may do that catches an exception: the callers' frames' slots -/
structure SldEf (fs : List Addr) (s s' : Shared) : Prop where
  keep : ∀ b o, b ∉ fs → b ≠ tblA → s.heap.get? b = some o → s'.heap.get? b = some o
  ns : ∀ b m, b ∈ fs → s.heap.Ns b m → s'.heap.Ns b m
  tab : ∀ ps, s.heap.get? tblA = some (tblO ps) → ∃ more, s'.heap.get? tblA = some (tblO (ps ++ more))
  os : s'.os = s.os

section
variable {W P X : Addr → Prop} {s₀ s s' : Shared} {A : Around} {E : Value → Shared → Prop} {l : List Env} {L e T : Addr} {fl : Value} {fs : List Addr}

theorem ns_tbl {h : Heap} {b : Addr} {m} (n : h.Ns b m) (t : Tab h) : b ≠ tblA := (bx_ns n).tbl t
theorem SldEf.ef (x : SldEf fs s₀ s) (ef : Ef P s s') (hP : ∀ a, P a → s₀.heap.get? a = none) (t : Tab s.heap) : SldEf fs s₀ s' where
  keep := fun b o n t e => ef.keep b o t (fun q => by rw [hP b q] at e; cases e) (x.keep b o n t e)
  ns := fun b m hb n => by
    have n' := x.ns b m hb n
    have ht := ns_tbl n' t
    obtain ⟨o, es, ep, ho, r⟩ := n'
    obtain ⟨o₁, _, _, ho₁, _⟩ := n
    exact ⟨o, es, ep, ef.keep b o ht (fun q => by rw [hP b q] at ho₁; cases ho₁) ho, r⟩
  tab := fun ps e => by
    obtain ⟨m, e⟩ := x.tab ps e
    obtain ⟨m', e⟩ := ef.tab _ e
    exact ⟨m ++ m', by rw [e, Array.append_assoc]⟩
  os := ef.os.trans x.os

theorem St.aftW {h' : Heap} {tk : Nat} (st : St w W env ρ μ s) (ok : FrOk w W l s.heap) (hl : env.locals ∈ frs l) (a : Aft (frs l) s.heap h') (xn : ∀ b, X b → s.heap.get? b = none) (xl : ∀ b, X b → ∃ o, h'.get? b = some o) : St w (fun b => W b ∨ X b) env ρ μ { s with heap := h', toks := tk } := by
  have st' := st.aft (tk := tk) ok hl a
  have bx : ∀ b, b ∈ frs l → Bx s.heap b := fun b hb => let ⟨m, n⟩ := (ok.at hb).1; bx_ns n
  have offS : ∀ b o, s.heap.get? b = some o → ((∃ xs n, o.data = .seq xs n) ∨ ∃ xs, o.data = .fields xs) → b ∉ frs l := fun b o e q hb => by
    obtain ⟨o', e', h1, h2⟩ := bx b hb
    rw [e] at e'; cases e'
    rcases q with ⟨xs, n, q⟩ | ⟨xs, q⟩
    · exact h1 _ _ q
    · exact h2 _ q
  have offW : ∀ b, W b → b ∉ frs l := fun b hb q => (ok.at q).2.1 hb
  have pr : Pr W (fun b => W b ∨ X b) s.heap h' := fun b o n e q => ⟨a.keep b o (offS b o e q) e, fun z => by
    rcases z with z | z
    · exact n z
    · rw [xn b z] at e; cases e⟩
  exact { st' with
    toBs := { st'.toBs with
      wt := .inl st.wt
      live := fun b hb => hb.elim (st'.live b) (xl b)
      own := fun b hb => hb.elim (st.own b) fun q => st.tx.fresh (xn b q)
      mw := fun p hp => ⟨.inl (st.mw p hp).1, fun dx l e => .inl ((st.mw p hp).2 dx l e)⟩
      mu := fun p hp => by
        have h2 := st.mu p hp
        have h3 := st.mw p hp
        obtain ⟨p, m⟩ := p
        cases m with
        | acc dx l =>
          obtain ⟨⟨vs, n, e, r⟩, w2, hsh, t, t', q⟩ := h2
          exact ⟨⟨vs, n, a.keep _ _ (offW _ h3.1) e, r.pr pr⟩, w2, hsh, t, t', a.keep _ _ (offW _ (h3.2 _ _ rfl)) q⟩
        | opn l =>
          obtain ⟨vs, n, e, r⟩ := h2
          exact ⟨vs, n, a.keep _ _ (offW _ h3.1) e, r.pr pr⟩ }
    lw := fun q => by
      rcases q with q | q
      · exact st.lw q
      · obtain ⟨m, o, es, ep, ho, r⟩ := st.ns
        rw [xn _ q] at ho; cases ho
    cw := fun n c hc q => by
      rcases q with q | q
      · exact st.cw n c hc q
      · obtain ⟨v, o, ho, r⟩ := st.cells n c hc
        rw [xn _ q] at ho; cases ho
    loc := fun n d e => by
      obtain ⟨v, h1, h2⟩ := st.loc n d e
      obtain ⟨v', h1', h2'⟩ := st'.loc n d e
      refine ⟨v, ?_, h2.pr pr⟩
      cases h1 with
      | loc m h1 h2 h3 =>
        refine .loc m h1 ?_ h3
        exact a.ns _ m hl h2
      | cell c h1 h2 h3 =>
        refine .cell c h1 h2 ?_
        obtain ⟨o, ho, hd⟩ := h3
        refine ⟨o, a.keep c o (fun q => ?_) ho, hd⟩
        obtain ⟨m, o', es, ep, ho', hd', r⟩ := (ok.at q).1
        rw [ho] at ho'; cases ho'
        rw [hd] at hd'; cases hd' }

/-- an exception is about -/
structure Rs (w : World) (W : Addr → Prop) (env : Env) (ρ : Rho) (μ : List (Addr × Mu)) (fs : List Addr) (s₀ : Shared) (e T : Addr) (fl : Value) (s : Shared) : Prop where
  st : St w (fun a => W a ∨ a = e ∨ a = T) env ρ μ s
  fl : Fl s.heap e T fl
  mx : MuX (fun a => a = e ∨ a = T) μ
  rel : SldEf fs s₀ s
  en : s₀.heap.get? e = none
  tn : s₀.heap.get? T = none
  tt : T ≠ tblA

theorem rs1 {h' : Heap} {tk : Nat} {Q : Unit → Shared → Prop} (hfr : A.frames = some (env :: l)) (hf : env.frame = some env.locals) (ok : FrOk w W (env :: l) s.heap) (st : St w W env ρ μ s) (rel : SldEf (frs l) s₀ s) (dl : s₀.heap.get? env.locals = none) (hx : Heap.NewExc s.heap h' e "IndexError")
    (h : ∀ h'' T, Rs w W env ρ μ (frs l) s₀ e T (rawInt env.locals) { s with heap := h'', toks := tk } → Q () { s with heap := h'', toks := tk }) : wpAny (MM w) A (noteFrame (.ref e) env) Q E { s with heap := h', toks := tk } := by
  refine note1 hfr hf ok hx fun h'' T x => h h'' T ?_
  have hl : env.locals ∈ frs (env :: l) := List.mem_filterMap.mpr ⟨env, List.mem_cons_self, hf⟩
  obtain ⟨nTf, nT⟩ := x.off fun b hb => (ok.at hb).1
  have none₀ : ∀ b, b ∉ frs l → s.heap.get? b = none → s₀.heap.get? b = none := fun b nb hb => by
    cases q : s₀.heap.get? b with
    | none => rfl
    | some o =>
      by_cases ht : b = tblA
      · obtain ⟨ps, t, _⟩ := st.tab
        rw [ht, t] at hb; cases hb
      · have := rel.keep b o nb ht q
        rw [hb] at this; cases this
  have frl : ∀ b, b ∈ frs l → b ∈ frs (env :: l) := fun b hb => by
    obtain ⟨g, hg, e⟩ := List.mem_filterMap.mp hb
    exact List.mem_filterMap.mpr ⟨g, List.mem_cons_of_mem _ hg, e⟩
  have frl' : ∀ b, b ∈ frs (env :: l) → b = env.locals ∨ b ∈ frs l := fun b hb => by
    obtain ⟨g, hg, e⟩ := List.mem_filterMap.mp hb
    rcases List.mem_cons.mp hg with rfl | hg
    · rw [hf] at e; cases e; exact .inl rfl
    · exact .inr (List.mem_filterMap.mpr ⟨g, hg, e⟩)
  have en : e ∉ frs l := fun q => by
    obtain ⟨m, o, es, ep, ho, r⟩ := (ok.at (frl _ q)).1
    rw [x.ne] at ho; cases ho
  have nw : ∀ b, W b → b ≠ e ∧ b ≠ T := fun b hb => by
    obtain ⟨o, z⟩ := st.live b hb
    exact ⟨(fun c => by rw [c, x.ne] at z; cases z), (fun c => by rw [c, nT] at z; cases z)⟩
  refine ⟨st.aftW (X := fun b => b = e ∨ b = T) ok hl x.aft (fun b q => ?_) (fun b q => ?_), x.fl, fun p hp => ⟨fun q => ?_, fun dx ll q z => ?_⟩, ⟨fun b o nb nt q => ?_, fun b m hb n => ?_, fun ps q => ?_, rel.os⟩, none₀ e en x.ne, none₀ T (fun q => nTf (frl _ q)) nT, fun c => by
    obtain ⟨ps, t, _⟩ := st.tab
    rw [c, t] at nT; cases nT⟩
  · rcases q with q | q
    · exact q ▸ x.ne
    · exact q ▸ nT
  · rcases q with q | q
    · obtain ⟨oe, vs, a1, _⟩ := x.fl.exc
      exact ⟨oe, q ▸ a1⟩
    · obtain ⟨oe, vs, a1, _⟩ := x.fl.tb
      exact ⟨oe, q ▸ a1⟩
  · have := nw _ (st.mw p hp).1
    exact q.elim this.1 this.2
  · have := nw _ ((st.mw p hp).2 dx ll q)
    exact z.elim this.1 this.2
  · refine x.aft.keep b o (fun z => ?_) (rel.keep b o nb nt q)
    rcases frl' b z with z | z
    · rw [z, dl] at q; cases q
    · exact nb z
  · exact x.aft.ns b m (frl b hb) (rel.ns b m hb n)
  · obtain ⟨m, q⟩ := rel.tab ps q
    refine ⟨m, x.aft.keep _ _ (fun z => ?_) q⟩
    obtain ⟨m', n⟩ := (ok.at z).1
    exact ns_tbl n st.tab rfl

theorem rsNote {Q : Unit → Shared → Prop} (hf : env.frame = some L) (x : Rs w W env ρ μ fs s₀ e T (rawInt L) s) (q : Q () s) : wpAny (MM w) A (noteFrame (.ref e) env) Q E s := by
  obtain ⟨ne, ⟨oe, vs, a1, a2, a3, a4⟩, oT, ts, b1, b2, b3⟩ := x.fl
  exact wpAny_noteFrame_inFlight hf a1 a3 a4 b1 b2 b3 q
theorem rsSet {o : Option Addr} {Q : Unit → Shared → Prop} (x : Rs w W env ρ μ fs s₀ e T fl s) (q : ∀ h'', Rs w W env ρ μ fs s₀ e T (o.elim Value.none fun f => rawInt f) { s with heap := h'' } → Q () { s with heap := h'' }) : wpAny (MM w) A (setFlight (.ref e) o) Q E s := by
  obtain ⟨ne, ⟨oe, vs, a1, a2, a3, a4⟩, oT, ts, b1, b2, b3⟩ := x.fl
  have hsz3 : 3 < ts.size := (Array.getElem?_eq_some_iff.mp b3).1
  have other : ∀ b, b ≠ T → (s.heap.update T (Obj.mapFields (·.setIfInBounds 3 (o.elim Value.none fun f => rawInt f)))).get? b = s.heap.get? b := fun b hb => Heap.get?_update_other _ _ (Ne.symm hb)
  have hT' := Heap.get?_update_self (Obj.mapFields (·.setIfInBounds 3 (o.elim Value.none fun f => rawInt f))) b1 (Obj.isFreed_of_fields (Obj.data_mapFields b2 _))
  have tt := x.tt
  unfold setFlight
  refine wpAny_bind (wpAny_field a1 a3 a4 ?_)
  rw [if_pos (show (Value.ref T != Value.none) = true from by simp)]
  refine wpAny_setField b1 b2 hsz3 (q _ ⟨x.st.chg (tk := s.toks) (X := (· = T)) (fun b o n e => (other b n).trans e) (fun b hb => .inr (.inr hb)) (fun c => tt c.symm) (fun b hb => by rw [hb]; exact ⟨_, hT'⟩) (fun p hp => ⟨fun c => (x.mx p hp).1 (.inr c), fun dx l e c => (x.mx p hp).2 dx l e (.inr c)⟩), ⟨ne, ⟨oe, vs, (other e (Ne.symm ne)).trans a1, a2, a3, a4⟩, _, _, hT', Obj.data_mapFields b2 _, by simp [hsz3]⟩, x.mx, ⟨fun b o nb nt q => ?_, fun b m hb n => ?_, fun ps q => ?_, x.rel.os⟩, x.en, x.tn, tt⟩)
  · exact (other b (fun c => by rw [c, x.tn] at q; cases q)).trans (x.rel.keep b o nb nt q)
  · obtain ⟨o₁, _, _, ho₁, _⟩ := n
    obtain ⟨o', es, ep, ho, r⟩ := x.rel.ns b m hb ⟨o₁, by assumption, by assumption, ho₁, by assumption⟩
    exact ⟨o', es, ep, (other b (fun c => by rw [c, x.tn] at ho₁; cases ho₁)).trans ho, r⟩
  · obtain ⟨m, q⟩ := x.rel.tab ps q
    exact ⟨m, (other _ (fun c => tt c.symm)).trans q⟩
end
end Mine
open PySem PySem.W PyProof.Rows
set_option Elab.async false
set_option maxRecDepth 100000
set_option linter.unusedVariables false
namespace Mine

variable {w : World} {k k' : Nat} {env : Env} {ρ : Rho} {μ μ' μ'' : List (Addr × Mu)}

section
variable {W P X : Addr → Prop} {s₀ s s' : Shared} {A : Around} {E : Value → Shared → Prop} {l : List Env} {L e T : Addr} {fl : Value} {fs : List Addr}

theorem rsCame (hf : env.frame = some L) (x : Rs w W env ρ μ fs s₀ e T fl s) (q : ∀ h'', Rs w W env ρ μ fs s₀ e T (rawInt L) { s with heap := h'' } → E (.ref e) { s with heap := h'' }) : cameBackBy (MM w) A env E (.ref e) s := by
  obtain ⟨ne, ⟨oe, vs, a1, a2, a3, a4⟩, oT, ts, b1, b2, b3⟩ := x.fl
  unfold cameBackBy
  refine wpAny_bind (wpAny_field a1 a3 a4 ?_)
  rw [if_neg (show ¬ ((Value.ref T == Value.none) = true) from by simp), hf]
  exact rsSet x fun h'' y => q h'' y
theorem rsPass {α : Type} {tag : String} {Q : α → Shared → Prop} (hf : env.frame = some L) (x : Rs w W env ρ μ fs s₀ e T fl s) (q : ∀ h'', Rs w W env ρ μ fs s₀ e T (rawInt L) { s with heap := h'' } → E (.ref e) { s with heap := h'' }) : wpAny (MM w) A (PySem.passOn tag (.ref e) env : Sem α) Q E s := by
  obtain ⟨ne, ⟨oe, vs, a1, a2, a3, a4⟩, oT, ts, b1, b2, b3⟩ := x.fl
  unfold PySem.passOn
  refine wpAny_bind (wpAny_field a1 a3 a4 ?_)
  rw [if_neg (show ¬ ((Value.ref T == Value.none) = true) from by simp), hf]
  first
    | exact wpAny_bind (wpAny_pure (wpAny_bind (rsSet x fun h'' y => wpAny_throw (q h'' y))))
    | exact wpAny_bind (rsSet x fun h'' y => wpAny_throw (q h'' y))

section
variable {p pos : Pos} {b₀ : Stmt} {suite : List Stmt} {Q : Flow → Shared → Prop}
theorem rsCatch (hk : env.kindOf "IndexError" = some .globalImplicit) (x : Rs w W env ρ μ fs s₀ e T fl s)
    (q : ∀ s', Rs w W env ρ μ fs s₀ e T .none s' → wpAny (MM w) (A.mark (some (.ref e))) (execs (b₀ :: suite) env) Q (notedBy (MM w) (A.mark (some (.ref e))) env (cameBackBy (MM w) A env E)) s') :
    wpAny (MM w) A (handleBy (.ref e) env [.ExceptHandler (some (.Name "IndexError" p)) none (b₀ :: suite) pos]) Q E s := by
  have nm : Nm w env "IndexError" (.type "IndexError") := .blt hk (by kernel_rfl) (by rfl)
  refine wpAny_handleBy_builtin (X := "IndexError") (T := "IndexError") (b := true) F.isExc_IndexError F.notTuple_IndexError F.self_IndexError ?_
  refine nm _ _ _ _ ρ μ p _ x.st ⟨rfl, ?_, ?_⟩
  · obtain ⟨oe, vs, a1, a2, _⟩ := x.fl.exc
    exact ⟨oe, a1, a2⟩
  · rw [if_pos rfl]
    exact rsSet x fun h₄ y => q _ y

/-- what an exception meets at the try -/
abbrev TE (w : World) (A : Around) (env : Env) (hs : List ExceptHandler) (Q : Flow → Shared → Prop) (E : Value → Shared → Prop) : Value → Shared → Prop := fun e s₁ =>
  wpAny (MM w) A (noteFrame e env) (fun _ s₂ => wpAny (MM w) A (setFlight e none) (fun _ s₃ => wpAny (MM w) A (handleBy e env hs) Q E s₃) E s₂) E s₁

/-- the clause's suite goes well -/
def Hc (w : World) (A : Around) (W : Addr → Prop) (env : Env) (ρ : Rho) (μ : List (Addr × Mu)) (fs : List Addr) (s₀ : Shared) (b₀ : Stmt) (suite : List Stmt) (Q : Flow → Shared → Prop) (E : Value → Shared → Prop) : Prop :=
  ∀ e T s', Rs w W env ρ μ fs s₀ e T .none s' → wpAny (MM w) (A.mark (some (.ref e))) (execs (b₀ :: suite) env) Q (notedBy (MM w) (A.mark (some (.ref e))) env (cameBackBy (MM w) A env E)) s'

theorem landH (hf : env.frame = some L) (hk : env.kindOf "IndexError" = some .globalImplicit) (hc : Hc w A W env ρ μ fs s₀ b₀ suite Q E) (x : Rs w W env ρ μ fs s₀ e T (rawInt L) s) :
    TE w A env [.ExceptHandler (some (.Name "IndexError" p)) none (b₀ :: suite) pos] Q E (.ref e) s :=
  rsNote hf x (rsSet x fun h'' y => rsCatch hk y fun s' z => hc e T s' z)
theorem landA {h' : Heap} {tk : Nat} (hfr : A.frames = some (env :: l)) (hf : env.frame = some env.locals) (hk : env.kindOf "IndexError" = some .globalImplicit) (hc : Hc w A W env ρ μ (frs l) s₀ b₀ suite Q E) (ok : FrOk w W (env :: l) s.heap) (st : St w W env ρ μ s) (rel : SldEf (frs l) s₀ s) (dl : s₀.heap.get? env.locals = none) (hx : Heap.NewExc s.heap h' e "IndexError") :
    TE w A env [.ExceptHandler (some (.Name "IndexError" p)) none (b₀ :: suite) pos] Q E (.ref e) { s with heap := h', toks := tk } :=
  rs1 hfr hf ok st rel dl hx fun h'' T x => rsSet x fun h₃ y => rsCatch hk y fun s' z => hc e T s' z
theorem landN {E' : Value → Shared → Prop} {h' : Heap} {tk : Nat} (hfr : A.frames = some (env :: l)) (hf : env.frame = some env.locals) (ok : FrOk w W (env :: l) s.heap) (st : St w W env ρ μ s) (rel : SldEf (frs l) s₀ s) (dl : s₀.heap.get? env.locals = none) (hx : Heap.NewExc s.heap h' e "IndexError")
    (q : ∀ T s', Rs w W env ρ μ (frs l) s₀ e T (rawInt env.locals) s' → E' (.ref e) s') : notedBy (MM w) A env (cameBackBy (MM w) A env E') (.ref e) { s with heap := h', toks := tk } :=
  rs1 hfr hf ok st rel dl hx fun h'' T x => rsCame hf x fun h₃ y => q T _ y
end
end

section
variable {W P X : Addr → Prop} {s₀ s s' : Shared} {A : Around} {E : Value → Shared → Prop} {Q : Flow → Shared → Prop} {rest : List Stmt}
theorem getMethod_list_extend {M : Model} {E : Value → Shared → Prop} {l : Addr} {o : Obj} {pl : Sem Bool} {Q : Value × List Value → Shared → Prop} (ho : s.heap.get? l = some o) (hc : o.cls = .type "list") (hd : o.dict = Option.none)
    (h : Q (.builtin "list.extend", [.ref l]) s) : wpAny M A (getMethod (.ref l) "extend" pl) Q E s := by
  have hT : s.TypeIs (.ref l) "list" := ⟨o, ho, hc⟩
  unfold getMethod
  refine wpAny_bind (wpAny_specialOf hT list_getattribute ?_)
  show wpAny M A (if (Manifest.canonical "list.__getattribute__" != "object.__getattribute__") = true then _ else _) Q E s
  rw [canon_list_getattribute, if_neg Bool.false_ne_true]
  refine wpAny_bind (wpAny_specialOf hT list_getattr_none ?_)
  refine wpAny_bind (wpAny_specialOf hT F.slot_list_extend.lookup ?_)
  refine wpAny_bind (wpAny_of_eq F.type_list_extend ?_)
  refine wpAny_bind (wpAny_load ho ?_)
  rw [hd]
  exact wpAny_bind (wpAny_rule (wpAny_pure h))

/-- «x.extend(e)», whatever is handled -/
theorem Bd.extendR {x : PySem.Str} {p q r r' : Pos} {e : Expr} {a : Addr} {ds es : List D} (b : Bd w W env ρ μ P s₀ s) (hx : ρ.lookup x = some (.obj a)) (hd : (x == ("__debug__" : PySem.Str)) = false) (hm : (a, Mu.opn ds) ∈ μ) (hP : P a ∨ s₀.heap.get? a = none) (hz : ds.length ≤ 1000) (hz2 : es.length ≤ 1000) (he : Er w env ρ μ e (.lst es))
    (hst : starEach [e] env = [(false, eval e env)]) (ht : MTree (.Name x p) "extend" q r [e] env) (hi : interactive env = false) (hsw : swapsWith (.Call (.Attribute (.Name x p) "extend" q) [e] [] r) none r'.line env = pure false)
    (h : ∀ s', Bd w W env ρ (putM μ a (ds ++ es)) P s₀ s' → wpAny (MM w) A (execs rest env) Q E s') : wpAny (MM w) A (execs (.Expr (.Call (.Attribute (.Name x p) "extend" q) [e] [] r) r' :: rest) env) Q E s := by
  refine wpAny_execs_cons ?_
  rw [exec_Expr _ _ _ hi hsw]
  refine wpAny_bind (wpAny_standAt (wpAny_bind ?_))
  obtain ⟨pl, ht⟩ := ht
  rw [ht]
  obtain ⟨v, hv, dv⟩ := b.loc x _ hx
  cases dv
  refine wpAny_bind (wpAny_Name (hv.load (h := s.heap) b.ek ?_) hd)
  refine wpAny_bind (wpAny_standAt (wpAny_bind (wpAny_holding ?_)))
  obtain ⟨us, n, ho, da⟩ := b.mu _ hm
  refine getMethod_list_extend ho rfl rfl ?_
  refine callWith_of (.blt "list.extend") (by rw [hst]; rfl) ?_
  rw [hst]
  show wpAny _ _ (spliced [(false, eval e env)]) _ _ _
  refine Calls.spliced_cons (he W A E s _ b.toSt fun u s₁ st₁ g₁ d₁ => ?_)
  refine Calls.spliced_nil ⟨st₁.tx, ?_⟩
  obtain ⟨us, n, ho, da⟩ := st₁.mu _ hm
  cases d₁ with
  | @lst c vs _ hw hl db =>
    obtain ⟨n2, ho2⟩ := hl
    have l1 := da.length
    have l2 := db.length
    have hsz' : us.toArray.size + vs.toArray.size ≤ sizeLine := by rw [List.size_toArray, List.size_toArray, l1, l2]; exact szL (Nat.add_le_add hz hz2) (by decide)
    refine call_meets PySem.F.slot_list_extend ⟨_, ho, rfl⟩ PySem.F.entry_list_extend (PySem.F.args_list_extend_2 _ _) (AutoSeq1.list_extend_list_list_0 a us.toArray n c vs.toArray n2 (extend_door hsz') (Nat.le_trans (Nat.le_add_right _ _) hsz')) ⟨ho, ho2, ?_⟩
    have e1 : us.toArray ++ vs.toArray = (us ++ vs).toArray := by simp
    have hs : Heap.SameBut a s₁.heap (s₁.heap.update a (Obj.mapSeq fun x => x ++ vs.toArray)) := Heap.SameBut.update ..
    have ho' : (s₁.heap.update a (Obj.mapSeq fun x => x ++ vs.toArray)).get? a = some { cls := .type "list", data := .seq (us ++ vs).toArray (if (us.toArray ++ vs.toArray).size == us.toArray.size then n else n + 1) } := by
      rw [Heap.get?_update_self _ ho (by rw [mapSeq_app]; rfl), mapSeq_app, e1]
    generalize hH : s₁.heap.update a (Obj.mapSeq fun x => x ++ vs.toArray) = h' at *
    have wa := (st₁.mw _ hm).1
    have ta := (st₁.mu _ hm).off st₁.tab
    have hs' : ∀ b o, b ≠ a → s₁.heap.get? b = some o → h'.get? b = some o := fun b o nb e => (hs.2 b nb).trans e
    have pr : Pr W W s₁.heap h' := fun b o nb e _ => ⟨hs' b o (fun c => nb (c ▸ wa)) e, nb⟩
    have b₂ := st₁.toBs.put (tk := s₁.toks) (vs' := us ++ vs) (ds' := ds ++ es) hm hs' ho' ((da.pr pr).append (db.pr pr))
    have ef : Ef (· = a) s₁ { s₁ with heap := h', toks := s₁.toks } := Ef.at hs' ta.1
    have st₂ := st₁.efX ef (fun c hc => by rw [hc]; exact wa) b₂
    refine wpAny_dropValue (h _ ((b.next st₁ g₁).nextX st₂ ef fun c hc => by rw [hc]; exact hP))
end
end Mine
open PySem PySem.W PyProof.Rows
set_option Elab.async false
set_option maxRecDepth 100000
set_option linter.unusedVariables false
namespace Mine

variable {w : World} {k k' : Nat} {env : Env} {ρ : Rho} {μ μ' μ'' : List (Addr × Mu)}

theorem pickL_from {α : Type} (d : α) (l : List α) (b : Nat) : pickL l (some (b : Int)) none none = l.drop b :=
  pickL_of d l _ _ _ (fun l => l.drop b) (fun f l => List.map_drop.symm) fun vs => by rw [slicePick_from']
theorem pick_from (l : List Int) (b : Nat) : pick (l.map D.int) (some (b : Int)) none none = (l.drop b).map .int := by rw [pick_map, pickL_from 0]
theorem putM_ne {a a' : Addr} {m : Mu} {ds : List D} (h : a' ≠ a) : putM ((a', m) :: μ) a ds = (a', m) :: putM μ a ds := by
  unfold putM
  rw [List.map_cons]
  have : (a' == a) = false := by simpa using h
  simp only [this, Bool.false_eq_true, if_false]
theorem nxt_le (ns : List Int) (i : Nat) (c : Int) (h : i ≤ ns.length) : nxt ns i c ≤ ns.length := by
  unfold nxt
  have h1 := (List.takeWhile_prefix (l := ns.drop i) (· == c)).length_le
  rw [List.length_drop] at h1
  exact Nat.le_trans (Nat.add_le_add_left h1 i) (Nat.le_of_eq (Nat.add_sub_of_le h))
theorem nxt_ge (ns : List Int) (i : Nat) (c : Int) : i ≤ nxt ns i c := Nat.le_add_right _ _

def sldF (X Y : List Int) : Nat → Nat → Nat → List Int → List Int → Option (List Int × List Int)
  | 0, _, _, _, _ => none
  | n + 1, i, j, m, u =>
    if X.length ≤ i ∨ Y.length ≤ j then some (m ++ X.drop i, u ++ Y.drop j)
    else if X.getD i 0 < Y.getD j 0 then
      if X.length ≤ nxt X (i + 1) (X.getD i 0) then some ((m ++ [X.getD i 0]) ++ X.drop (nxt X (i + 1) (X.getD i 0)), u ++ Y.drop j) else sldF X Y n (nxt X (i + 1) (X.getD i 0)) j (m ++ [X.getD i 0]) u
    else if Y.getD j 0 < X.getD i 0 then
      if Y.length ≤ nxt Y (j + 1) (Y.getD j 0) then some (m ++ X.drop i, (u ++ [Y.getD j 0]) ++ Y.drop (nxt Y (j + 1) (Y.getD j 0))) else sldF X Y n i (nxt Y (j + 1) (Y.getD j 0)) m (u ++ [Y.getD j 0])
    else if X.length ≤ nxt X (i + 1) (X.getD i 0) then
      if Y.length ≤ nxt Y (j + 1) (Y.getD j 0) then none else some (m ++ X.drop (nxt X (i + 1) (X.getD i 0)), u ++ Y.drop (nxt Y (j + 1) (Y.getD j 0)))
    else if Y.length ≤ nxt Y (j + 1) (Y.getD j 0) then some (m ++ X.drop (nxt X (i + 1) (X.getD i 0)), u ++ Y.drop (nxt Y (j + 1) (Y.getD j 0)))
    else sldF X Y n (nxt X (i + 1) (X.getD i 0)) (nxt Y (j + 1) (Y.getD j 0)) m u

abbrev rhoS (X Y : List Int) (am au : Addr) (i j : Nat) : Rho := [("i", .int i), ("j", .int j), ("missing", .obj am), ("unexpected", .obj au), ("expected", .lst (X.map .int)), ("actual", .lst (Y.map .int))]
abbrev muS (μ : List (Addr × Mu)) (am au : Addr) (m u : List Int) : List (Addr × Mu) := (au, .opn (u.map .int)) :: (am, .opn (m.map .int)) :: μ

section
variable {W P X : Addr → Prop} {s₀ s s' : Shared} {A : Around} {E : Value → Shared → Prop} {Q : Flow → Shared → Prop} {rest : List Stmt} {l : List Env} {fs : List Addr}

theorem tailHc {Xs Ys M U m u : List Int} {am au : Addr} {i j : Nat} {p1 p2 p3 p4 p5 p6 p7 p8 q1 q2 q3 q4 q5 q6 q7 q8 q9 : Pos} (hi : interactive env = false) (ht1 : MTree (.Name "missing" p1) "extend" p2 p7 [.Subscript (.Name "expected" p3) (.Slice (some (.Name "i" p4)) none none p5) p6] env) (ht2 : MTree (.Name "unexpected" q1) "extend" q2 q7 [.Subscript (.Name "actual" q3) (.Slice (some (.Name "j" q4)) none none q5) q6] env) (hne : au ≠ am) (mw : MuW W μ) (nam : ¬ W am) (nau : ¬ W au) (hX : Xs.length ≤ 500) (hY : Ys.length ≤ 500) (hm : m.length ≤ 500) (hu : u.length ≤ 500) (hM : m ++ Xs.drop i = M) (hU : u ++ Ys.drop j = U)
    (hq : ∀ e T s' s'', Rs w (fun b => (W b ∨ b = am) ∨ b = au) env (rhoS Xs Ys am au i j) (muS μ am au m u) fs s₀ e T .none s' → Bd w (fun a => ((W a ∨ a = am) ∨ a = au) ∨ a = e ∨ a = T) env (rhoS Xs Ys am au i j) (muS μ am au M U) (PX (fun a => a = am ∨ a = au) env) s' s'' → Q .brk s'') :
    Hc w A (fun b => (W b ∨ b = am) ∨ b = au) env (rhoS Xs Ys am au i j) (muS μ am au m u) fs s₀
      (.Expr (.Call (.Attribute (.Name "missing" p1) "extend" p2) [.Subscript (.Name "expected" p3) (.Slice (some (.Name "i" p4)) none none p5) p6] [] p7) p8)
      [.Expr (.Call (.Attribute (.Name "unexpected" q1) "extend" q2) [.Subscript (.Name "actual" q3) (.Slice (some (.Name "j" q4)) none none q5) q6] [] q7) q8, .Break q9] Q E := by
  intro e T s' x
  have b : Bd w (fun a => ((W a ∨ a = am) ∨ a = au) ∨ a = e ∨ a = T) env (rhoS Xs Ys am au i j) (muS μ am au m u) (PX (fun a => a = am ∨ a = au) env) s' s' := ⟨x.st, .refl, .inr (.inr (.inl rfl)), fun n c hc => .inr (.inr (.inr ⟨n, hc⟩))⟩
  have hd1 : (Xs.drop i).length ≤ 1000 := by rw [List.length_drop]; exact Nat.le_trans (Nat.sub_le _ _) (Nat.le_trans hX (by decide))
  have hd2 : (Ys.drop j).length ≤ 1000 := by rw [List.length_drop]; exact Nat.le_trans (Nat.sub_le _ _) (Nat.le_trans hY (by decide))
  refine b.extendR (a := am) (ds := m.map .int) (es := (Xs.drop i).map .int) rfl (by decide) (List.mem_cons_of_mem _ List.mem_cons_self) (.inl (.inl (.inl rfl))) (by rw [List.length_map]; exact Nat.le_trans hm (by decide)) (by rw [List.length_map]; exact hd1) ?_ rfl ht1 hi rfl fun s₁ b₁ => ?_
  · have := Er.from (w := w) (env := env) (ρ := rhoS Xs Ys am au i j) (μ := muS μ am au m u) (p := p5) (q := p6) (.name (x := "expected") (p := p3) rfl) (.name (x := "i") (p := p4) rfl) (ds := Xs.map .int) (l := (i : Int)) (by rw [List.length_map]; exact sl8 (Nat.le_trans hX (by decide)))
    rw [pick_from] at this
    exact this
  rw [putM_ne hne, putM_head mw nam, ← List.map_append, hM] at b₁
  refine b₁.extendR (a := au) (ds := u.map .int) (es := (Ys.drop j).map .int) rfl (by decide) List.mem_cons_self (.inl (.inl (.inr rfl))) (by rw [List.length_map]; exact Nat.le_trans hu (by decide)) (by rw [List.length_map]; exact hd2) ?_ rfl ht2 hi rfl fun s₂ b₂ => ?_
  · have := Er.from (w := w) (env := env) (ρ := rhoS Xs Ys am au i j) (μ := muS μ am au M u) (p := q5) (q := q6) (.name (x := "actual") (p := q3) rfl) (.name (x := "j") (p := q4) rfl) (ds := Ys.map .int) (l := (j : Int)) (by rw [List.length_map]; exact sl8 (Nat.le_trans hY (by decide)))
    rw [pick_from] at this
    exact this
  have mw2 : MuW (fun b => W b ∨ b = am) ((am, Mu.opn (M.map D.int)) :: μ) := fun p hp => by
    rcases List.mem_cons.mp hp with rfl | hp
    · exact ⟨.inr rfl, fun dx l e => by cases e⟩
    · exact ⟨.inl (mw p hp).1, fun dx l e => .inl ((mw p hp).2 dx l e)⟩
  rw [putM_head mw2 (fun q => q.elim nau hne), ← List.map_append, hU] at b₂
  exact wpAny_execs_cons (wpAny_Break (hq e T s' s₂ x b₂))
end
end Mine
open PySem PySem.W PyProof.Rows
set_option Elab.async false
set_option maxRecDepth 100000
set_option linter.unusedVariables false
namespace Mine

variable {w : World} {k k' : Nat} {env : Env} {ρ : Rho} {μ μ' μ'' : List (Addr × Mu)}

theorem SldEf.refl (fs : List Addr) (s : Shared) : SldEf fs s s := ⟨fun _ _ _ _ e => e, fun _ _ _ n => n, fun ps e => ⟨#[], by simpa using e⟩, rfl⟩
theorem Fl.ef {W : Addr → Prop} {s s' : Shared} {e T : Addr} {fl : Value} (x : Fl s.heap e T fl) (ef : Ef (PX (fun _ => False) env) s s') (st : St w W env ρ μ s) (he : e ≠ tblA) (ht : T ≠ tblA) : Fl s'.heap e T fl := by
  have off : ∀ a o vs, s.heap.get? a = some o → o.data = .fields vs → ¬ PX (fun _ => False) env a := fun a o vs e hd q => by
    rcases q with q | q | ⟨m, q⟩
    · exact q
    · obtain ⟨m, n⟩ := st.ns
      obtain ⟨o', e', h1, h2⟩ := bx_ns n
      rw [q, e'] at e; cases e
      exact h2 _ hd
    · obtain ⟨v, n⟩ := st.cells m a q
      obtain ⟨o', e', h1, h2⟩ := bx_cell n
      rw [e'] at e; cases e
      exact h2 _ hd
  obtain ⟨ne, ⟨oe, vs, a1, a2, a3, a4⟩, oT, ts, b1, b2, b3⟩ := x
  exact ⟨ne, ⟨oe, vs, ef.keep _ _ he (off _ _ _ a1 a3) a1, a2, a3, a4⟩, oT, ts, ef.keep _ _ ht (off _ _ _ b1 b2) b1, b2, b3⟩

theorem Bd.onlyS {W P : Addr → Prop} {s₀ s : Shared} {Xs Ys : List Int} {am au : Addr} {i j : Nat} (b : Bd w W env ρ μ P s₀ s) (h1 : ρ.lookup ("i" : PySem.Str) = some (.int (i : Nat))) (h2 : ρ.lookup ("j" : PySem.Str) = some (.int (j : Nat))) (h3 : ρ.lookup ("missing" : PySem.Str) = some (.obj am)) (h4 : ρ.lookup ("unexpected" : PySem.Str) = some (.obj au)) (h5 : ρ.lookup ("expected" : PySem.Str) = some (.lst (Xs.map .int))) (h6 : ρ.lookup ("actual" : PySem.Str) = some (.lst (Ys.map .int))) : Bd w W env (rhoS Xs Ys am au i j) μ P s₀ s := b.only (by
    intro p hp
    simp only [List.mem_cons, List.not_mem_nil, or_false] at hp
    rcases hp with rfl | rfl | rfl | rfl | rfl | rfl
    · exact h1
    · exact h2
    · exact h3
    · exact h4
    · exact h5
    · exact h6)

theorem snoc500 {l : List Int} {x : Int} (h : l.length ≤ 200) : (l ++ [x]).length ≤ 500 := by
  rw [List.length_append, List.length_singleton]; exact Nat.le_trans (Nat.succ_le_succ h) (by decide)
theorem snocI {l : List Int} {x : Int} {i j : Nat} (h : l.length ≤ i) (h2 : i + 1 ≤ j) : (l ++ [x]).length ≤ j := by
  rw [List.length_append, List.length_singleton]; exact Nat.le_trans (Nat.succ_le_succ h) h2

theorem mcp {o : Expr} {q r : Pos} (h : (q.endLine == r.line) = true) : methodCallPos true o env q r = pure r := by
  unfold methodCallPos; rw [h]; rfl
theorem MTree.sub {x n : PySem.Str} {p q r c : Pos} {a b : Expr} (h : (q.endLine == r.line) = true) : MTree (.Name x p) n q r [.Subscript a b c] env := ⟨_, by
  show (do
    let ov ← eval (.Name x p) env
    standAt q.atName
    let (f, first) ← holding [ov] (calleeOf true (.Name x p) env ov n)
    let callPos ← methodCallPos true (.Name x p) env q r
    callWith callPos f first (backTo r (starEach [.Subscript a b c] env)) []) = _
  rw [mcp h]; rfl⟩
theorem MTree.nam {x n y : PySem.Str} {p q r c : Pos} (h : (q.endLine == r.line) = true) : MTree (.Name x p) n q r [.Name y c] env := ⟨_, by
  show (do
    let ov ← eval (.Name x p) env
    standAt q.atName
    let (f, first) ← holding [ov] (calleeOf true (.Name x p) env ov n)
    let callPos ← methodCallPos true (.Name x p) env q r
    callWith callPos f first (backTo r (starEach [.Name y c] env)) []) = _
  rw [mcp h]; rfl⟩
theorem Bd.castM {W P : Addr → Prop} {s₀ s : Shared} (b : Bd w W env ρ μ P s₀ s) (h : μ = μ') : Bd w W env ρ μ' P s₀ s := h ▸ b

/-- one step of sldF -/
structure SldN (X Y : List Int) (n i j : Nat) (m u M U : List Int) (x y : Int) : Prop where
  lt1 : x < y → X.length ≤ nxt X (i + 1) x → (m ++ [x]) ++ X.drop (nxt X (i + 1) x) = M ∧ u ++ Y.drop j = U
  lt2 : x < y → nxt X (i + 1) x < X.length → sldF X Y n (nxt X (i + 1) x) j (m ++ [x]) u = some (M, U)
  gt1 : ¬ x < y → y < x → Y.length ≤ nxt Y (j + 1) y → m ++ X.drop i = M ∧ (u ++ [y]) ++ Y.drop (nxt Y (j + 1) y) = U
  gt2 : ¬ x < y → y < x → nxt Y (j + 1) y < Y.length → sldF X Y n i (nxt Y (j + 1) y) m (u ++ [y]) = some (M, U)
  eq1 : ¬ x < y → ¬ y < x → X.length ≤ nxt X (i + 1) x → ¬ Y.length ≤ nxt Y (j + 1) y ∧ m ++ X.drop (nxt X (i + 1) x) = M ∧ u ++ Y.drop (nxt Y (j + 1) y) = U
  eq2 : ¬ x < y → ¬ y < x → nxt X (i + 1) x < X.length → Y.length ≤ nxt Y (j + 1) y → m ++ X.drop (nxt X (i + 1) x) = M ∧ u ++ Y.drop (nxt Y (j + 1) y) = U
  eq3 : ¬ x < y → ¬ y < x → nxt X (i + 1) x < X.length → nxt Y (j + 1) y < Y.length → sldF X Y n (nxt X (i + 1) x) (nxt Y (j + 1) y) m u = some (M, U)
theorem sld_eq {a b M U : List Int} (h : some (a, b) = some (M, U)) : a = M ∧ b = U := Prod.mk.inj (Option.some.inj h)
theorem sldF_out {X Y : List Int} {n i j : Nat} {m u M U : List Int} (h : sldF X Y (n + 1) i j m u = some (M, U)) (c : X.length ≤ i ∨ Y.length ≤ j) : m ++ X.drop i = M ∧ u ++ Y.drop j = U :=
  sld_eq ((if_pos c).symm.trans h)
theorem getX {X : List Int} {i : Nat} (c : ¬ X.length ≤ i) : pyGet (X.map .int) (i : Int) = some (.int (X.getD i 0)) := by
  rw [pyGet_nat, List.getElem?_map, List.getElem?_eq_getElem (Nat.lt_of_not_le c), List.getD_eq_getElem?_getD, List.getElem?_eq_getElem (Nat.lt_of_not_le c)]; rfl
theorem sldN_of {X Y : List Int} {n i j : Nat} {m u M U : List Int} {x y : Int} (h : (if x < y then
      if X.length ≤ nxt X (i + 1) x then some ((m ++ [x]) ++ X.drop (nxt X (i + 1) x), u ++ Y.drop j) else sldF X Y n (nxt X (i + 1) x) j (m ++ [x]) u
    else if y < x then
      if Y.length ≤ nxt Y (j + 1) y then some (m ++ X.drop i, (u ++ [y]) ++ Y.drop (nxt Y (j + 1) y)) else sldF X Y n i (nxt Y (j + 1) y) m (u ++ [y])
    else if X.length ≤ nxt X (i + 1) x then
      if Y.length ≤ nxt Y (j + 1) y then none else some (m ++ X.drop (nxt X (i + 1) x), u ++ Y.drop (nxt Y (j + 1) y))
    else if Y.length ≤ nxt Y (j + 1) y then some (m ++ X.drop (nxt X (i + 1) x), u ++ Y.drop (nxt Y (j + 1) y))
    else sldF X Y n (nxt X (i + 1) x) (nxt Y (j + 1) y) m u) = some (M, U)) : SldN X Y n i j m u M U x y := by
  by_cases c : x < y
  · have h := (if_pos c).symm.trans h
    exact ⟨fun _ d => sld_eq ((if_pos d).symm.trans h), fun _ d => (if_neg (Nat.not_le_of_lt d)).symm.trans h, fun q => absurd c q, fun q => absurd c q, fun q => absurd c q, fun q => absurd c q, fun q => absurd c q⟩
  have h := (if_neg c).symm.trans h
  by_cases d : y < x
  · have h := (if_pos d).symm.trans h
    exact ⟨fun q => absurd q c, fun q => absurd q c, fun _ _ e => sld_eq ((if_pos e).symm.trans h), fun _ _ e => (if_neg (Nat.not_le_of_lt e)).symm.trans h, fun _ q => absurd d q, fun _ q => absurd d q, fun _ q => absurd d q⟩
  have h := (if_neg d).symm.trans h
  refine ⟨fun q => absurd q c, fun q => absurd q c, fun _ q => absurd q d, fun _ q => absurd q d, fun _ _ e => ?_, fun _ _ e f => sld_eq ((if_pos f).symm.trans ((if_neg (Nat.not_le_of_lt e)).symm.trans h)), fun _ _ e f => (if_neg (Nat.not_le_of_lt f)).symm.trans ((if_neg (Nat.not_le_of_lt e)).symm.trans h)⟩
  have h := (if_pos e).symm.trans h
  by_cases f : Y.length ≤ nxt Y (j + 1) y
  · exact nomatch (if_pos f).symm.trans h
  · exact ⟨f, sld_eq ((if_neg f).symm.trans h)⟩
theorem sldF_in {X Y : List Int} {n i j : Nat} {m u M U : List Int} (h : sldF X Y (n + 1) i j m u = some (M, U)) (c1 : ¬ X.length ≤ i) (c2 : ¬ Y.length ≤ j) : ∃ x, pyGet (X.map .int) (i : Int) = some (.int x) ∧ ∃ y, pyGet (Y.map .int) (j : Int) = some (.int y) ∧ SldN X Y n i j m u M U x y :=
  ⟨_, getX c1, _, getX c2, sldN_of ((if_neg fun q => q.elim c1 c2).symm.trans h)⟩

/-- what stays through the loop -/
structure SldC (w : World) (k : Nat) (W : Addr → Prop) (env : Env) (μ : List (Addr × Mu)) (A : Around) (l : List Env) (s : Shared) (am au : Addr) : Prop where
  ok : AOk k A
  hfr : A.frames = some (env :: l)
  hf : env.frame = some env.locals
  hin : interactive env = false
  si : Sto env "i"
  sj : Sto env "j"
  se : Sto env "e"
  sa : Sto env "a"
  dl : s.heap.get? env.locals = none
  dc : ∀ n c, env.cells.lookup n = some c → s.heap.get? c = none
  f1 : s.heap.get? am = none
  f2 : s.heap.get? au = none
  tb : Tab s.heap
  p1 : ∀ (m u : List Int) (x : Int), putM (muS μ am au m u) am (m.map D.int ++ [.int x]) = muS μ am au (m ++ [x]) u
  p2 : ∀ (m u : List Int) (x : Int), putM (muS μ am au m u) au (u.map D.int ++ [.int x]) = muS μ am au m (u ++ [x])
  fok : ∀ {ρ μ' s'}, Bd w W env ρ μ' (fun _ => False) s s' → FrOk w W (env :: l) s'.heap
  rel : ∀ {ρ μ' s'}, Bd w W env ρ μ' (fun _ => False) s s' → SldEf (frs l) s s'
/-- how a turn ends -/
structure SldP (w : World) (W : Addr → Prop) (env : Env) (μ : List (Addr × Mu)) (l : List Env) (s : Shared) (Xs Ys M U : List Int) (am au : Addr) (fuel : Nat) (Q : Flow → Shared → Prop) (E : Value → Shared → Prop) : Prop where
  nx : ∀ {i j m u s'}, sldF Xs Ys fuel i j m u = some (M, U) → i ≤ Xs.length → j ≤ Ys.length → m.length ≤ i → u.length ≤ j → Bd w W env (rhoS Xs Ys am au i j) (muS μ am au m u) (fun _ => False) s s' → Q .next s'
  ha : ∀ {i j m u s' h' tk e}, m ++ Xs.drop i = M ∧ u ++ Ys.drop j = U → m.length ≤ 500 → u.length ≤ 500 → Bd w W env (rhoS Xs Ys am au i j) (muS μ am au m u) (fun _ => False) s s' → Heap.NewExc s'.heap h' e "IndexError" → E (.ref e) { s' with heap := h', toks := tk }
  hh : ∀ {i j m u e T s'}, m ++ Xs.drop i = M ∧ u ++ Ys.drop j = U → m.length ≤ 500 → u.length ≤ 500 → Rs w W env (rhoS Xs Ys am au i j) (muS μ am au m u) (frs l) s e T (rawInt env.locals) s' → E (.ref e) s'
theorem absQE {α : Type} {m : Sem α} {A : Around} {Q : α → Shared → Prop} {E : Value → Shared → Prop} {s : Shared} (P : (α → Shared → Prop) → (Value → Shared → Prop) → Prop) (h : P Q E) (H : ∀ Q E, P Q E → wpAny (MM w) A m Q E s) : wpAny (MM w) A m Q E s := H Q E h

set_option maxHeartbeats 8000000 in
theorem fn_sld {Xs Ys M U : List Int} {n : Nat} {l : List Env} (hX : Xs.length ≤ 200) (hY : Ys.length ≤ 200) (hF : sldF Xs Ys n 0 0 [] [] = some (M, U)) {W : Addr → Prop} {A : Around} {E : Value → Shared → Prop} {s : Shared} {vs : List Value} {Q : Value → Shared → Prop} (ok : AOk (k + 1) A) (hfr : A.frames = some l) (fok : FrOk w W l s.heap) (bs : Bs w W μ s) (dv : DAll W s.heap vs [.lst (Xs.map .int), .lst (Ys.map .int)])
    (h : ∀ v s', Bs w W μ s' → SldEf (frs l) s s' → DIn W s'.heap v (.tup [.lst (M.map .int), .lst (U.map .int)]) → Q v s') : wpAny (MM w) A (call (.ref 112) vs) Q E s := by
  refine enter (f := 112) (o := fnO w 112) (fd := fdO w 112) (P := fun _ => False) ok bs dv (by kernel_rfl) (by kernel_rfl) (by kernel_rfl) rfl (by kernel_rfl) (par2 (x := "expected") (y := "actual") (fun u v => by kernel_rfl) (by decide) (.inl (by kernel_rfl)) (.inl (by kernel_rfl))) rfl (by kernel_rfl) (by kernel_rfl) (fun s₁ L b₁ => ?_) (by kernel_rfl) (by kernel_rfl) (by kernel_rfl)
  have ok' : AOk k (A.deeper (callEnvC (fdO w 112) L 112)) := ok.deeper
  have hfr' : (A.deeper (callEnvC (fdO w 112) L 112)).frames = some (callEnvC (fdO w 112) L 112 :: l) := by show A.frames.map _ = _; rw [hfr]; rfl
  have hf : (callEnvC (fdO w 112) L 112).frame = some (callEnvC (fdO w 112) L 112).locals := rfl
  have hk : (callEnvC (fdO w 112) L 112).kindOf "IndexError" = some .globalImplicit := by kernel_rfl
  have hin : interactive (callEnvC (fdO w 112) L 112) = false := by kernel_rfl
  have si : Sto (callEnvC (fdO w 112) L 112) "i" := .loc (by kernel_rfl)
  have sj : Sto (callEnvC (fdO w 112) L 112) "j" := .loc (by kernel_rfl)
  have sm : Sto (callEnvC (fdO w 112) L 112) "missing" := .loc (by kernel_rfl)
  have su : Sto (callEnvC (fdO w 112) L 112) "unexpected" := .loc (by kernel_rfl)
  have se : Sto (callEnvC (fdO w 112) L 112) "e" := .loc (by kernel_rfl)
  have sa : Sto (callEnvC (fdO w 112) L 112) "a" := .loc (by kernel_rfl)
  have dl : s.heap.get? (callEnvC (fdO w 112) L 112).locals = none := b₁.fl.elim id False.elim
  have dc : ∀ n c, (callEnvC (fdO w 112) L 112).cells.lookup n = some c → s.heap.get? c = none := fun n c hc => (b₁.fc n c hc).elim id False.elim
  refine wpAny_execs_cons (wpAny_Assign_two (Er.int W _ _ s₁ _ b₁.toSt fun v s₂ st₂ g₂ d₂ => ?_))
  cases d₂
  refine wpAny_assign_Name ((b₁.next st₂ g₂).store si (.int 0 _) fun s₃ b₃ => wpAny_assign_Name (b₃.store sj (.int 0 _) fun s₄ b₄ => ?_))
  refine b₄.openList ok' Evs.nil sm (Nat.zero_le _) rfl fun am s₅ f1 n1 b₅ => ?_
  refine b₅.openList ok' Evs.nil su (Nat.zero_le _) rfl fun au s₆ f2 n2 b₆ => ?_
  have f1 : s.heap.get? am = none := f1.elim id False.elim
  have f2 : s.heap.get? au = none := f2.elim id False.elim
  have hne : au ≠ am := fun q => n2 (.inr q)
  have nau : ¬ W au := fun q => n2 (.inl q)
  have b₇ := b₆.only (ρ' := rhoS Xs Ys am au 0 0) (by
    intro p hp
    simp only [List.mem_cons, List.not_mem_nil, or_false] at hp
    rcases hp with rfl | rfl | rfl | rfl | rfl | rfl <;> rfl)
  generalize henv : callEnvC (fdO w 112) L 112 = env at *
  generalize hA : A.deeper env = A' at *
  have relOf : ∀ {ρ μ' s'}, Bd w (fun b => (W b ∨ b = am) ∨ b = au) env ρ μ' (fun _ => False) s s' → SldEf (frs l) s s' := fun b => (SldEf.refl _ _).ef b.ef (fun _ q => q.elim) bs.tab
  have fokOf : ∀ {ρ μ' s'}, Bd w (fun b => (W b ∨ b = am) ∨ b = au) env ρ μ' (fun _ => False) s s' → FrOk w (fun b => (W b ∨ b = am) ∨ b = au) (env :: l) s'.heap := fun {ρ μ' s'} b => by
    refine ⟨fun f hf' => ?_⟩
    rcases List.mem_cons.mp hf' with rfl | hf'
    · obtain ⟨m, n⟩ := b.ns
      exact ⟨(by rw [b.ek]; decide), _, m, hf, n, b.lw, b.lo⟩
    · obtain ⟨hk, a, m, e, n, nw, own⟩ := fok.kind f hf'
      refine ⟨hk, a, m, e, (relOf b).ns a m (List.mem_filterMap.mpr ⟨f, hf', e⟩) n, fun q => ?_, own⟩
      obtain ⟨o, es, ep, ho, r⟩ := n
      rcases q with (q | q) | q
      · exact nw q
      · rw [q, f1] at ho; cases ho
      · rw [q, f2] at ho; cases ho
  have mwam : ∀ M : List Int, MuW (fun b => W b ∨ b = am) ((am, Mu.opn (M.map D.int)) :: μ) := fun M p hp => by
    rcases List.mem_cons.mp hp with rfl | hp
    · exact ⟨.inr rfl, fun dx l e => by cases e⟩
    · exact ⟨.inl (bs.mw p hp).1, fun dx l e => .inl ((bs.mw p hp).2 dx l e)⟩
  have fin : ∀ {e T s' s'' i j m u r1 r2 r3 r4 n4 E'}, Rs w (fun b => (W b ∨ b = am) ∨ b = au) env (rhoS Xs Ys am au i j) (muS μ am au m u) (frs l) s e T .none s' → Bd w (fun a => ((W a ∨ a = am) ∨ a = au) ∨ a = e ∨ a = T) env (rhoS Xs Ys am au i j) (muS μ am au M U) (PX (fun a => a = am ∨ a = au) env) s' s'' →
      wpAny (MM w) A' (execs [.Return (some (.Tuple [.Name "missing" r1, .Name "unexpected" r2] n4 r3)) r4] env) (fun fl s' => Q (match fl with | .ret v => v | _ => .none) s') E' s'' := fun {e T s' s'' i j m u r1 r2 r3 r4 n4 E'} x b => by
    have mwau : MuW (fun b => (W b ∨ b = am) ∨ b = au) (muS μ am au M U) := fun p hp => by
      rcases List.mem_cons.mp hp with rfl | hp
      · exact ⟨.inr rfl, fun dx l e => by cases e⟩
      · exact ⟨.inl (mwam M p hp).1, fun dx l e => .inl ((mwam M p hp).2 dx l e)⟩
    have b₂ : Bd w (fun b => (W b ∨ b = am) ∨ b = au) env (rhoS Xs Ys am au i j) (muS μ am au M U) (PX (fun a => a = am ∨ a = au) env) s' s'' := ⟨b.toSt.less (fun a q => .inl q) (.inl (.inl bs.wt)) mwau, b.ef, b.fl, b.fc⟩
    have b₃ := b₂.close (x := "unexpected") rfl n2 (.inl bs.wt) (mwam M)
    have b₄ := b₃.close (x := "missing") rfl n1 bs.wt bs.mw
    refine b₄.ret ok' (.tuple (.two (.name rfl) (.name rfl)) (sl8 (by show 2 ≤ 1000; decide))) fun v s₃ b₅ d₅ => h v s₃ b₅.toBs (x.rel.ef b₅.ef (fun a q => ?_) x.st.tab) d₅
    rcases q with (q | q) | q | ⟨m, q⟩
    · rw [q]; exact f1
    · rw [q]; exact f2
    · rw [q]; exact dl
    · exact dc m a q
  have c : SldC w k (fun b => (W b ∨ b = am) ∨ b = au) env μ A' l s am au := ⟨ok', hfr', hf, hin, si, sj, se, sa, dl, dc, f1, f2, bs.tab,
    fun m u x => by rw [putM_ne hne, putM_head bs.mw (fun q => n1 q), show (m.map D.int) ++ [D.int x] = (m ++ [x]).map .int by rw [List.map_append]; rfl],
    fun m u x => by rw [putM_head (mwam m) n2, show (u.map D.int) ++ [D.int x] = (u ++ [x]).map .int by rw [List.map_append]; rfl], fokOf, relOf⟩
  have hX5 : Xs.length ≤ 500 := Nat.le_trans hX (by decide)
  have hY5 : Ys.length ≤ 500 := Nat.le_trans hY (by decide)
  refine wpAny_execs_cons (wpAny_While (codeAny_whileLoop (fun fuel s' => ∃ i j m u, sldF Xs Ys fuel i j m u = some (M, U) ∧ i ≤ Xs.length ∧ j ≤ Ys.length ∧ m.length ≤ i ∧ u.length ≤ j ∧ Bd w (fun b => (W b ∨ b = am) ∨ b = au) env (rhoS Xs Ys am au i j) (muS μ am au m u) (fun _ => False) s s') (fun fuel s' hI => ?_) n ⟨0, 0, [], [], hF, Nat.zero_le _, Nat.zero_le _, Nat.le_refl _, Nat.le_refl _, b₇⟩))
  clear hF b₁ b₃ b₄ b₅ b₆ b₇ st₂ g₂
  obtain ⟨i, j, m, u, hF, hi, hj, hm, hu, b⟩ := hI
  refine wpAny_isTrue_value (Constant_bool (wpAny_truthy_bool ?_))
  rw [if_pos rfl]
  refine wpAny_execs_cons (wpAny_Try_except ?_)
  cases fuel with
  | zero => cases hF
  | succ fuel =>
  refine absQE (SldP w (fun b => (W b ∨ b = am) ∨ b = au) env μ l s Xs Ys M U am au fuel) ⟨fun h1 h2 h3 h4 h5 b => ?_,
    fun h1 h2 h3 b hx => landA hfr' hf hk (tailHc hin (MTree.sub rfl) (MTree.sub rfl) hne bs.mw (fun q => n1 q) nau hX5 hY5 h2 h3 h1.1 h1.2 fun e T s' s'' x y => fin x y) (c.fok b) b.toSt (c.rel b) dl hx,
    fun h1 h2 h3 x => landH hf hk (tailHc hin (MTree.sub rfl) (MTree.sub rfl) hne bs.mw (fun q => n1 q) nau hX5 hY5 h2 h3 h1.1 h1.2 fun e T s' s'' x y => fin x y) x⟩ fun Q E p => ?_
  · repeat refine Bd.nil ?_
    exact ⟨fuel, Nat.lt_succ_self _, _, _, _, _, h1, h2, h3, h4, h5, b⟩
  clear fin h hfr' hf hk hin si sj sm su se sa dl dc f1 f2 n1 n2 hne nau ok ok' fok bs dv hfr
  generalize (fun b => (W b ∨ b = am) ∨ b = au) = W' at *
  have hX1 : Xs.length ≤ 1000 := Nat.le_trans hX (by decide)
  have hY1 : Ys.length ≤ 1000 := Nat.le_trans hY (by decide)
  have hm5 : m.length ≤ 500 := Nat.le_trans (Nat.le_trans hm hi) hX5
  have hu5 : u.length ≤ 500 := Nat.le_trans (Nat.le_trans hu hj) hY5
  have hxl : (Xs.map D.int).length ≤ sizeLine := by rw [List.length_map]; exact sl8 hX1
  have hyl : (Ys.map D.int).length ≤ sizeLine := by rw [List.length_map]; exact sl8 hY1
  by_cases c1 : Xs.length ≤ i
  · exact wpAny_execs_cons (wpAny_Assign_Name (item_out c.ok.hh b.toSt (.name (x := "expected") rfl) (.name (x := "i") rfl) (i := (i : Int)) (by rw [List.length_map]; exact Int.ofNat_le.mpr c1) (i62 (Nat.le_trans hi hX)) fun s₂ st₂ g₂ h' tk e hx => p.ha (sldF_out hF (.inl c1)) hm5 hu5 (b.next st₂ g₂) hx) rfl)
  by_cases c2 : Ys.length ≤ j
  · refine b.assign c.ok (.item (i := (i : Int)) (.name rfl) (.name rfl) (getX c1) hxl) c.se fun s₂ b₂ => ?_
    exact wpAny_execs_cons (wpAny_Assign_Name (item_out c.ok.hh b₂.toSt (.name (x := "actual") rfl) (.name (x := "j") rfl) (i := (j : Int)) (by rw [List.length_map]; exact Int.ofNat_le.mpr c2) (i62 (Nat.le_trans hj hY)) fun s₃ st₃ g₃ h' tk e hx => p.ha (sldF_out hF (.inr c2)) hm5 hu5 ((b₂.next st₃ g₃).onlyS rfl rfl rfl rfl rfl rfl) hx) rfl)
  obtain ⟨xe, hxe, ya, hya, n⟩ := sldF_in hF c1 c2
  clear hF
  refine b.assign c.ok (.item (i := (i : Int)) (.name rfl) (.name rfl) hxe hxl) c.se fun s₂ b₂ => ?_
  refine b₂.assign c.ok (.item (i := (j : Int)) (.name rfl) (.name rfl) hya hyl) c.sa fun s₃ b₃ => ?_
  clear b b₂ hxe hya hxl hyl
  have nx1 := nxt_le Xs (i + 1) xe (Nat.lt_of_not_le c1)
  have ny1 := nxt_le Ys (j + 1) ya (Nat.lt_of_not_le c2)
  have hnx : nxt Xs (i + 1) xe ≤ 2000 := Nat.le_trans nx1 (Nat.le_trans hX1 (by decide))
  have hny : nxt Ys (j + 1) ya ≤ 2000 := Nat.le_trans ny1 (Nat.le_trans hY1 (by decide))
  have nx2 := nxt_ge Xs (i + 1) xe
  have ny2 := nxt_ge Ys (j + 1) ya
  clear c1 c2
  refine b₃.ifs c.ok (.cmp (.name rfl) (.name rfl) .ltI) (fun hc s₄ b₄ => ?_) fun hc s₄ b₄ => ?_
  · have hc := of_decide_eq_true hc
    have hm6 : (m ++ [xe]).length ≤ 500 := snoc500 (Nat.le_trans (Nat.le_trans hm hi) hX)
    refine b₄.append (a := am) (ds := m.map .int) (d := .int xe) c.ok rfl (by decide) (List.mem_cons_of_mem _ List.mem_cons_self) (.inr c.f1) (by rw [List.length_map]; exact Nat.le_trans hm5 (by decide)) (.name rfl) rfl (MTree.nam rfl) c.hin rfl fun s₅ b₅ => ?_
    refine (b₅.castM (c.p1 m u xe)).aug c.ok rfl .int c.si fun s₆ b₆ => ?_
    refine skipW (x := "expected") (i := "i") (v := "e") (i₀ := i + 1) (c := xe) (ns := Xs) b₆ rfl rfl rfl (by decide) (by decide) c.si hX1 hnx (by decide) (by decide) (by decide) (fun hge => ⟨c.ok.hh, fun s₇ b₇ h' tk e hx => ?_⟩) fun hlt s₇ b₇ => ?_
    · have b₈ := b₇.onlyS (i := nxt Xs (i + 1) xe) (j := j) (Xs := Xs) (Ys := Ys) rfl rfl rfl rfl rfl rfl
      exact landN c.hfr c.hf (c.fok b₈) b₈.toSt (c.rel b₈) c.dl hx fun T s' x => p.hh (n.lt1 hc hge) hm6 hu5 x
    · repeat refine Bd.nil ?_
      exact p.nx (n.lt2 hc hlt) nx1 hj (snocI hm nx2) hu (b₇.onlyS rfl rfl rfl rfl rfl rfl)
  have hc := of_decide_eq_false hc
  refine b₄.ifs c.ok (.cmp (.name rfl) (.name rfl) .gtI) (fun hc2 s₅ b₅ => ?_) fun hc2 s₅ b₅ => ?_
  · have hc2 := of_decide_eq_true hc2
    have hu6 : (u ++ [ya]).length ≤ 500 := snoc500 (Nat.le_trans (Nat.le_trans hu hj) hY)
    refine b₅.append (a := au) (ds := u.map .int) (d := .int ya) c.ok rfl (by decide) List.mem_cons_self (.inr c.f2) (by rw [List.length_map]; exact Nat.le_trans hu5 (by decide)) (.name rfl) rfl (MTree.nam rfl) c.hin rfl fun s₆ b₆ => ?_
    refine (b₆.castM (c.p2 m u ya)).aug c.ok rfl .int c.sj fun s₇ b₇ => ?_
    refine skipW (x := "actual") (i := "j") (v := "a") (i₀ := j + 1) (c := ya) (ns := Ys) b₇ rfl rfl rfl (by decide) (by decide) c.sj hY1 hny (by decide) (by decide) (by decide) (fun hge => ⟨c.ok.hh, fun s₈ b₈ h' tk e hx => ?_⟩) fun hlt s₈ b₈ => ?_
    · have b₉ := b₈.onlyS (i := i) (j := nxt Ys (j + 1) ya) (Xs := Xs) (Ys := Ys) rfl rfl rfl rfl rfl rfl
      exact landN c.hfr c.hf (c.fok b₉) b₉.toSt (c.rel b₉) c.dl hx fun T s' x => p.hh (n.gt1 hc hc2 hge) hm5 hu6 x
    · repeat refine Bd.nil ?_
      exact p.nx (n.gt2 hc hc2 hlt) hi ny1 hm (snocI hu ny2) (b₈.onlyS rfl rfl rfl rfl rfl rfl)
  · have hc2 := of_decide_eq_false hc2
    refine b₅.aug c.ok rfl .int c.si fun s₆ b₆ => ?_
    refine wpAny_execs_cons (wpAny_Try_finally ?_)
    refine skipW (x := "expected") (i := "i") (v := "e") (i₀ := i + 1) (c := xe) (ns := Xs) b₆ rfl rfl rfl (by decide) (by decide) c.si hX1 hnx (by decide) (by decide) (by decide) (fun hge => ⟨c.ok.hh, fun s₇ b₇ h' tk e hx => ?_⟩) fun hlt s₇ b₇ => ?_
    · obtain ⟨hge2, he⟩ := n.eq1 hc hc2 hge
      have b₈ := b₇.only (ρ' := ("a", .int ya) :: rhoS Xs Ys am au (nxt Xs (i + 1) xe) j) (by
        intro p hp
        simp only [List.mem_cons, List.not_mem_nil, or_false] at hp
        rcases hp with rfl | rfl | rfl | rfl | rfl | rfl | rfl <;> rfl)
      refine landN c.hfr c.hf (c.fok b₈) b₈.toSt (c.rel b₈) c.dl hx fun T s' x => ?_
      refine rsNote c.hf x ⟨ref_ne_byPass _, rsNote c.hf x (rsSet x fun h₃ y => ?_)⟩
      have ene : e ≠ tblA := fun q => by
        obtain ⟨ps, t, _⟩ := c.tb
        have := y.en
        rw [q, t] at this; cases this
      have b₉ : Bd w _ env _ _ (PX (fun _ => False) env) { s' with heap := h₃ } { s' with heap := h₃ } := ⟨y.st, .refl, .inr (.inr (.inl rfl)), fun n c hc => .inr (.inr (.inr ⟨n, hc⟩))⟩
      refine b₉.augR rfl .int c.sj fun s₉ c₉ => ?_
      refine skipW (x := "actual") (i := "j") (v := "a") (i₀ := j + 1) (c := ya) (ns := Ys) c₉ rfl rfl rfl (by decide) (by decide) c.sj hY1 hny (by decide) (by decide) (by decide) (fun q => absurd q hge2) fun hlt s₈ c₈ => Bd.nil ?_
      have d₈ := c₈.onlyS (i := nxt Xs (i + 1) xe) (j := nxt Ys (j + 1) ya) (Xs := Xs) (Ys := Ys) rfl rfl rfl rfl rfl rfl
      have z : Rs w W' env (rhoS Xs Ys am au (nxt Xs (i + 1) xe) (nxt Ys (j + 1) ya)) (muS μ am au m u) (frs l) s e T .none s₈ := ⟨d₈.toSt, y.fl.ef c₈.ef y.st ene y.tt, y.mx, y.rel.ef c₈.ef (fun a q => by
        rcases q with q | q | ⟨m, q⟩
        · exact q.elim
        · rw [q]; exact c.dl
        · exact c.dc m a q) y.st.tab, y.en, y.tn, y.tt⟩
      exact rsPass c.hf z fun h'' z' => p.hh he hm5 hu5 z'
    · refine Bd.nil (Bd.nil ?_)
      refine b₇.augR rfl .int c.sj fun s₈ b₈ => ?_
      refine skipW (x := "actual") (i := "j") (v := "a") (i₀ := j + 1) (c := ya) (ns := Ys) b₈ rfl rfl rfl (by decide) (by decide) c.sj hY1 hny (by decide) (by decide) (by decide) (fun hge => ⟨c.ok.hh, fun s₉ b₉ h' tk e hx => ?_⟩) fun hlt2 s₉ b₉ => ?_
      · have c₉ := b₉.onlyS (i := nxt Xs (i + 1) xe) (j := nxt Ys (j + 1) ya) (Xs := Xs) (Ys := Ys) rfl rfl rfl rfl rfl rfl
        exact landN c.hfr c.hf (c.fok c₉) c₉.toSt (c.rel c₉) c.dl hx fun T s' x => rsNote c.hf x (rsCame c.hf x fun h'' y => p.hh (n.eq2 hc hc2 hlt hge) hm5 hu5 y)
      · repeat refine Bd.nil ?_
        exact p.nx (n.eq3 hc hc2 hlt hlt2) nx1 ny1 (Nat.le_trans hm (Nat.le_of_succ_le nx2)) (Nat.le_trans hu (Nat.le_of_succ_le ny2)) (b₉.onlyS rfl rfl rfl rfl rfl rfl)
end Mine
open PySem PySem.W PyProof.Rows
set_option Elab.async false
set_option maxRecDepth 100000
set_option linter.unusedVariables false
namespace Mine

/-- all sizes there are -/
def genS : Nat → List (List Int)
  | 0 => [[1], [2], [3], [4], [5]]
  | n + 1 => (genS n).flatMap fun S => [S ++ [S.getLastD 0 + 1], S ++ [S.getLastD 0 + 2], S ++ [S.getLastD 0 + 3]]
theorem stepF_gen (cs : List Int) (j : Nat) : stepF cs j ∈ genS j := by
  induction j with
  | zero => exact gen0 _
  | succ j ih =>
    refine List.mem_flatMap.mpr ⟨_, ih, ?_⟩
    show stepF cs j ++ [(stepF cs j).getLastD 0 + 1 + (cs.getD (2 + j) 0).fmod 3] ∈ _
    rcases fm3 (cs.getD (2 + j) 0) with h | h | h <;> rw [h]
    · rw [Int.add_zero]; exact List.mem_cons_self
    · rw [Int.add_assoc, show (1 : Int) + 1 = 2 from rfl]; exact List.mem_cons_of_mem _ List.mem_cons_self
    · rw [Int.add_assoc, show (1 : Int) + 2 = 3 from rfl]; exact List.mem_cons_of_mem _ (List.mem_cons_of_mem _ List.mem_cons_self)
theorem sizesF_gen (ns : List Int) : ∃ j, j < 4 ∧ sizesF ns ∈ genS j := ⟨_, Nat.lt_succ_of_le (fm4 _).1, stepF_gen _ _⟩

abbrev intsD (l : List Int) : D := .lst (l.map .int)
def mostF (S : List Int) : Int := S.getLastD 0
def leastF (S : List Int) : Int := S.getD 0 0
def runT (S : List Int) (k : Nat) : Bool := PyData.eqv (toP (intsD (pickL S (some ((S.length : Int) - 1 - (0 + (k : Int)))) none none))) (toP (intsD (rngL (mostF S - (0 + (k : Int))) (mostF S + 1))))
def runF (S : List Int) : Nat := (outL S.length (runT S) fun k => [.int (0 + (k : Int))]).length
/-- the run of piles, greatest first -/
def runGo (ls : List (List Stn)) : Nat → Nat → Nat
  | 0, j => j
  | f + 1, j => if j < ls.length ∧ (ls.getD j []).length + 1 = (ls.getD (j - 1) []).length then runGo ls f (j + 1) else j
def runOf (ls : List (List Stn)) : Nat := runGo ls ls.length 1
def runB (ls : List (List Stn)) (m : Nat) : Bool := decide (1 ≤ m) && (decide (m ≤ ls.length) && ((List.range m).all (fun j => decide (j = 0) || decide ((ls.getD j []).length + 1 = (ls.getD (j - 1) []).length)) && (decide (ls.length ≤ m) || decide ((ls.getD m []).length + 1 ≠ (ls.getD (m - 1) []).length))))
def rowsB (ls : List (List Stn)) : Bool := decide (ls.length ≤ 8) && ls.all fun l => decide (l.length ≤ 100) && (!l.isEmpty && l.all fun q => decide (q.1.length = 1) && (decide (q.2.length = 1) && (PyData.strOk q.1 && PyData.strOk q.2)))
def mvOkB (ls : List (List Stn)) (m : Nat) : Bool :=
  (decide (¬ m < (lastL ls).length) || (List.range m).all fun j => !((mvA ls m j).getD (m - 1 - j) []).isEmpty && (decide (((mvA ls m j).getD (m - 1 - j) []).length ≤ 1000) && decide (((mvA ls m j).getD ls.length []).length ≤ 1000))) &&
  ((decide (m < (lastL ls).length) || (List.range (min (lastL ls).length (ls.length - 1))).all fun j => !((mvB ls j).getD (ls.length - 1) []).isEmpty && (decide (((mvB ls j).getD (ls.length - 1) []).length ≤ 1000) && decide (((mvB ls j).getD j []).length ≤ 1000))) &&
  decide (((mvB ls (min (lastL ls).length (ls.length - 1))).getD (ls.length - 1) []).length ≤ 1000))
def movedS (S : List Int) : List (List Stn) := movedF (laidF S) (runF S)
def afterF (S : List Int) : List Int := (movedS S).reverse.map fun l => (l.length : Int)
def signF (S : List Int) (x : Int) : Int := if (decide (0 ≤ x) && decide (x < (runF S : Int))) = true then -1 else if x = (runF S : Int) then 0 else 1
def trip (l : List Int) : List Int := l.flatMap fun x => [x, x, x]
/-- the second half of the law -/
def endB (S : List Int) : Bool :=
  let c : Int := S.length
  let a := afterF S
  if S = rngL c (2 * c) then decide (a = 1 :: rngL (c + 2) (2 * c + 1))
  else if S = rngL (c + 1) (2 * c + 1) then decide (a = c :: rngL c (2 * c))
  else decide (((List.range (min a.length (a.length - 1))).map fun j => twc (a.getD j 0) ((a.drop 1).getD j 0)) = List.replicate (a.length - 1) (-1)) &&
    (decide (sldF (trip S) (trip a) 50 0 0 [] [] = some (if leastF S ≤ (runF S : Int) then ([leastF S, mostF S + 1 - leastF S], [mostF S + 1, mostF S + 1, mostF S + 1]) else ([mostF S, mostF S, mostF S], [(runF S : Int), mostF S - runF S]))) &&
    decide (movedF (movedS S) (runOf (movedS S)) = laidF S))
def lawB (S : List Int) : Bool :=
  decide (S.length ≤ 4) && (decide (0 < S.length) && (S.all (fun x => decide (1 ≤ x) && decide (x ≤ 20)) && (rowsB (laidF S) && (runB (laidF S) (runF S) && (mvOkB (laidF S) (runF S) && (rowsB (movedS S) && (runB (movedS S) (runOf (movedS S)) && (mvOkB (movedS S) (runOf (movedS S)) &&
  (decide (dueF (laidF S) (runF S : Int) = movedS S) && (decide ((laidF S).reverse.map (fun l => twc (l.length : Int) (runF S : Int)) = S.map (signF S)) && endB S))))))))))

end Mine
open PySem PySem.W PyProof.Rows
set_option Elab.async false
set_option maxRecDepth 100000
set_option linter.unusedVariables false
namespace Mine

variable {w : World} {k k' : Nat} {env : Env} {ρ : Rho} {μ μ' μ'' : List (Addr × Mu)}

theorem foldl_rep (v : Value) (n : Nat) : ∀ (acc : Array Value), List.foldl (fun x1 x2 => x1 ++ x2) acc (List.replicate n #[v]) = acc ++ (List.replicate n v).toArray := by
  induction n with
  | zero => exact fun acc => Array.append_empty.symm
  | succ n ih =>
    intro acc
    rw [List.replicate_succ, List.foldl_cons, ih, List.replicate_succ]
    apply Array.toList_inj.mp
    simp
theorem DAll.rep {W : Addr → Prop} {h : Heap} {v : Value} {d : D} (x : DIn W h v d) (n : Nat) : DAll W h (List.replicate n v) (List.replicate n d) := by
  induction n with
  | zero => exact .nil
  | succ n ih => rw [List.replicate_succ, List.replicate_succ]; exact .cons x ih
/-- «[x] * n» -/
theorem Bo.rep {d : D} {x : Int} (hz : x ≤ 1000) (hx : -1000 ≤ x) : Bo w k .Mult (.lst [d]) (.int x) (.lst (List.replicate x.toNat d)) := by
  intro W A E s μ u v Q ok bs du dv h
  cases du with
  | @lst a vs _ hw hl da =>
    cases da with
    | @cons v₁ vs₁ _ _ d₁ r₁ =>
    cases r₁
    cases dv with
    | int _ tx =>
      obtain ⟨n, ho⟩ := hl
      have ho : s.heap.get? a = some { cls := .type "list", dict := none, data := .seq #[v₁] n, slots := #[] } := ho
      refine wpAny_binaryOp_repeat_ref (T := "list") (U := "int") (by decide) ⟨_, ho, rfl⟩ (fun s' => typeIs_int s' x tx) noFill_list_mul F.fills_int_mul F.slot_int_rmul repeat_list F.slot_int_index.lookup
        (call_meets F.slot_int_rmul (typeIs_int s x tx) F.entry_int_rmul (F.args_int_rmul_2 _ _) (int___rmul___int_list x tx a #[v₁] n)
          ⟨ho, rfl, ⟨_, ho, rfl⟩, call_meets F.slot_list_mul ⟨_, ho, rfl⟩ F.entry_list_mul (F.args_list_mul_2 _ _)
            (AutoListH.list___mul___list_int_3 a #[v₁] n x tx (by simp [Builtin.List.listFitsIndex]; omega) (by simp; omega) (by simp [Builtin.List.listTooLong, sizeLine]; omega))
            ⟨ho, ?_⟩⟩)
      rw [if_neg (by simp), foldl_rep]
      have e : (#[] : Array Value) ++ (List.replicate x.toNat v₁).toArray = (List.replicate x.toNat v₁).toArray := by simp
      rw [e]
      exact h _ _ (bs.push (tk := s.toks) _) (.push (tk := s.toks) _) (.newLst bs (DAll.rep d₁ _) 0)
section
variable {W W' P X Y : Addr → Prop} {s₀ s s' : Shared} {A : Around} {E : Value → Shared → Prop} {Q : Flow → Shared → Prop} {rest : List Stmt}

theorem Bd.storeP {x : PySem.Str} {d : D} {v : Value} {Q : Unit → Shared → Prop} (b : Bd w W env ρ μ P s₀ s) (hk : Sto env x) (dv : DIn W s.heap v d)
    (h : ∀ s', Bd w W env ((x, d) :: ρ) μ P s₀ s' → (∀ v' d', DIn W s.heap v' d' → DIn W s'.heap v' d') → Q () s') : wpAny (MM w) A (storeName env x v) Q E s := by
  refine b.toSt.store b.ap hk dv fun h' tk c hs hc ht st => h _ ⟨st, b.ef.same ?_ hs ht, b.fl, b.fc⟩ fun v' d' dd => dd.pr (Bx.pr ?_ hs)
  · rcases hc with rfl | hc
    · exact b.fl
    · exact b.fc x c hc
  · rcases hc with q | q
    · obtain ⟨m, hm⟩ := b.ns; rw [q]; exact bx_ns hm
    · obtain ⟨v, hv⟩ := b.cells x c q; exact bx_cell hv

/-- «x, y, z = e» -/
theorem Bd.tup3 {x y z : PySem.Str} {p q r t u : Pos} {n : Nat} {e : Expr} {a b' c : D} (b : Bd w W env ρ μ P s₀ s) (ok : AOk k A) (he : Ev w k env ρ μ e (.tup [a, b', c])) (hx : Sto env x) (hy : Sto env y) (hz : Sto env z)
    (hs : swapsWithSole [.Tuple [.Name x p, .Name y q, .Name z r] n t] e u.line env = pure false) (hw : swappedStores [.Tuple [.Name x p, .Name y q, .Name z r] n t] e env = pure none)
    (h : ∀ s', Bd w W env ((z, c) :: (y, b') :: (x, a) :: ρ) μ P s₀ s' → wpAny (MM w) A (execs rest env) Q E s') : wpAny (MM w) A (execs (.Assign [.Tuple [.Name x p, .Name y q, .Name z r] n t] e u :: rest) env) Q E s := by
  refine wpAny_execs_cons (Assign_Tuple (he W A E s _ ok b.toSt fun v s₁ st₁ g₁ d₁ => ?_) hs hw)
  cases d₁ with
  | @tup T vs _ hw' ht da =>
    cases da with
    | cons d1 r1 =>
    cases r1 with
    | cons d2 r2 =>
    cases r2 with
    | cons d3 r3 =>
    cases r3
    refine wpAny_assign_Tuple ok.hh ht rfl rfl fun h₃ hx' => ?_
    have old : ∀ b o, s₁.heap.get? b = some o → h₃.get? b = some o := fun b o e => hx' b o (Nat.ne_of_lt (Heap.lt_size e)) e
    have b₁ := (b.next st₁ g₁).next (st₁.keep (tk := s₁.toks) old) (.of old)
    have up : ∀ v d, DIn W s₁.heap v d → DIn W h₃ v d := fun v d x => x.pr fun a o n e _ => ⟨old a o e, n⟩
    show wpAny _ _ (do holding [_, _] (PySem.assign (.Name x p) env _); holding [_] (PySem.assign (.Name y q) env _); holding [] (PySem.assign (.Name z r) env _); pure ()) _ _ _
    refine wpAny_bind (wpAny_holding (wpAny_assign_Name (b₁.storeP hx (up _ _ d1) fun s₄ b₄ k₄ => wpAny_bind (wpAny_holding (wpAny_assign_Name (b₄.storeP hy (k₄ _ _ (up _ _ d2)) fun s₅ b₅ k₅ => wpAny_bind (wpAny_holding (wpAny_assign_Name (b₅.storeP hz (k₅ _ _ (k₄ _ _ (up _ _ d3))) fun s₆ b₆ k₆ => wpAny_pure (h s₆ b₆))))))))))

/-- «x, y = a, b», swapped -/
theorem Bd.tup2s {x y : PySem.Str} {p q t u : Pos} {n : Nat} {e : Expr} {a b' : D} (b : Bd w W env ρ μ P s₀ s) (ok : AOk k A) (he : Ev w k env ρ μ e (.tup [a, b'])) (hx : Sto env x) (hy : Sto env y)
    (hs : swapsWithSole [.Tuple [.Name x p, .Name y q] n t] e u.line env = pure false) (hw : swappedStores [.Tuple [.Name x p, .Name y q] n t] e env = pure (some [x, y]))
    (h : ∀ s', Bd w W env ((x, a) :: (y, b') :: ρ) μ P s₀ s' → wpAny (MM w) A (execs rest env) Q E s') : wpAny (MM w) A (execs (.Assign [.Tuple [.Name x p, .Name y q] n t] e u :: rest) env) Q E s := by
  refine wpAny_execs_cons (Assign_Tuple_swapped (he W A E s _ ok b.toSt fun v s₁ st₁ g₁ d₁ => ?_) hs hw)
  cases d₁ with
  | @tup T vs _ hw' ht da =>
    cases da with
    | @cons v1 _ _ _ d1 r1 =>
    cases r1 with
    | @cons v2 _ _ _ d2 r2 =>
    cases r2
    refine wpAny_unpackItems_tuple (items := #[v1, v2]) ok.hh ht fun h₃ hx' => ?_
    have old : ∀ b o, s₁.heap.get? b = some o → h₃.get? b = some o := fun b o e => hx' b o (Nat.ne_of_lt (Heap.lt_size e)) e
    have b₁ := (b.next st₁ g₁).next (st₁.keep (tk := s₁.toks) old) (.of old)
    have up : ∀ v d, DIn W s₁.heap v d → DIn W h₃ v d := fun v d x => x.pr fun a o n e _ => ⟨old a o e, n⟩
    show wpAny _ _ (do holding [_] (bindName env y _); holding [] (bindName env x _); pure ()) _ _ _
    exact wpAny_bind (wpAny_holding (wpAny_bindName (b₁.storeP hy (up _ _ d2) fun s₄ b₄ k₄ => wpAny_bind (wpAny_holding (wpAny_bindName (b₄.storeP hx (k₄ _ _ (up _ _ d1)) fun s₅ b₅ k₅ => wpAny_pure (h s₅ b₅)))))))
end
end Mine
open PySem PySem.W PyProof.Rows
set_option Elab.async false
set_option maxRecDepth 100000
set_option linter.unusedVariables false
namespace Mine

variable {w : World} {k k' : Nat} {env : Env} {ρ : Rho} {μ μ' μ'' : List (Addr × Mu)}

theorem trip_out (l : List Int) : outL l.length (fun _ => true) (fun j => [D.int (l.getD j 0), .int (l.getD j 0), .int (l.getD j 0)]) = (trip l).map .int := by
  unfold outL trip
  simp only [if_true]
  have e := range_getD' l 0
  have g : ∀ M : List Nat, (M.flatMap fun j => [D.int (l.getD j 0), .int (l.getD j 0), .int (l.getD j 0)]) = ((M.map fun j => l.getD j 0).flatMap fun x => [x, x, x]).map .int := fun M => by
    induction M with
    | nil => rfl
    | cons j M ih => rw [List.flatMap_cons, ih]; rfl
  rw [g, e]
theorem trip_len (l : List Int) : (trip l).length = 3 * l.length := by
  unfold trip
  induction l with
  | nil => rfl
  | cons x l ih => rw [List.flatMap_cons, List.length_append, ih]; exact tpl

/-- «[x for x in e for _ in range(3)]» -/
theorem Ev.rep3 {e : Expr} {l : List Int} {scope : Scope} {p1 p2 p3 p4 p5 p6 pos : Pos} {n : Nat} (he : Ev w k env ρ μ e (.lst (l.map .int))) (hz : l.length ≤ 100) (hkind : scope.kind = .function) (sc : scB scope env = true) (hx : ∀ C, Sto (cEnv scope env C) "x") (hy : ∀ C, Sto (cEnv scope env C) "_") (hn : ∀ C, Nm w (cEnv scope env C) "range" (.type "range"))
    (h1 : scope.names.lookup ("x" : PySem.Str) ≠ some .free) (h2 : scope.names.lookup ("_" : PySem.Str) ≠ some .free) (hs : ∀ x, foldedSetIterable e env x = pure x := by intro _; rfl) :
    Ev w k env ρ μ (.ListComp (.Name "x" p1) [⟨.Name "x" p2, e, [], 0⟩, ⟨.Name "_" p3, .Call (.Name "range" p4) [.Constant (.int 3) n p5] [] p6, [], 0⟩] scope pos) (.lst ((trip l).map .int)) := by
  refine Ev.cast (Ev.compG (bs := ["_"]) (em := fun Dl env' => emC (.Name "x" p1) [⟨.Name "x" p2, e, [], 0⟩, ⟨.Name "_" p3, .Call (.Name "range" p4) [.Constant (.int 3) n p5] [] p6, [], 0⟩] scope pos 1 (.Call (.Name "range" p4) [.Constant (.int 3) n p5] [] p6) Dl env')
    (n := l.length) (bd := bd1 "x" fun j => (l.map D.int).getD j .none) (p := fun _ => true) (f := fun j => [D.int (l.getD j 0), .int (l.getD j 0), .int (l.getD j 0)])
    (SrcG.castN (Src.list he) (by rw [List.length_map])) hkind (Sc.of sc) (fun C => .one _ _ (hx C)) (fun _ _ _ => rfl) (fun y hy => ?_) (fun C j hj => Te.nil) (fun C Dl j hj _ => ?_) ?_ hs) (congrArg D.lst (trip_out l))
  · have hy : y ∈ [("x" : PySem.Str), "_"] := hy
    rcases List.mem_cons.mp hy with rfl | hy
    · exact h1
    · rw [List.mem_singleton.mp hy]; exact h2
  · have hl : (l.map D.int).getD j .none = .int (l.getD j 0) := by
      rw [List.getD_eq_getElem?_getD, List.getElem?_map, List.getD_eq_getElem?_getD, List.getElem?_eq_getElem hj]; rfl
    refine Em.clause (n := 3) (p := fun _ => true) (f := fun _ => [D.int (l.getD j 0)]) (bs := []) (em := emB (.Name "x" p1) Dl (cEnv scope env C)) rfl (Src.range (a := 0) (b := 3) (.call (hn C) (.typ _) (.one .int) .range1) (by decide) (by decide)) (.one _ _ (hy C)) (fun I => rfl) (fun y hy => ?_) (fun i hi => Te.nil) (fun i hi _ => Em.base (.name (congrArg some hl)))
    rw [List.mem_singleton.mp hy]
    show ((("x" : PySem.Str), (l.map D.int).getD j D.none) :: fr scope ρ).lookup ("_" : PySem.Str) = Option.none
    rw [lookup_cons_ne (by decide)]
    cases e : (fr scope ρ).lookup ("_" : PySem.Str) with
    | none => rfl
    | some d => exact absurd (fr_lookup e).2 h2
  · rw [trip_out, List.length_map, trip_len]
    exact sl8 (tplL hz)

/-- an expression that makes piles -/
def EvG (w : World) (k : Nat) (env : Env) (ρ : Rho) (μ : List (Addr × Mu)) (e : Expr) (Y : Addr → Prop) (R : List (Addr × Mu) → D → Prop) : Prop :=
  ∀ (W : Addr → Prop) (A : Around) (E : Value → Shared → Prop) (s : Shared) (Q : Value → Shared → Prop), AOk k A → St w W env ρ μ s →
    (∀ v s' W' μ' d, R μ' d → (∀ a, W' a → W a ∨ s.heap.get? a = none) → (∀ a, W a → W' a) → St w W' env ρ μ' s' → Ef Y s s' → DIn W' s'.heap v d → Q v s') → wpAny (MM w) A (eval e env) Q E s

theorem EvG.piles {x : PySem.Str} {p q : Pos} {e : Expr} {ls : List (List Stn)} (hn : Nm w env x (.ref 134)) (he : Ev w (k + 3) env ρ μ e (laidD ls)) (h1 : ls.length ≤ 100) (h2 : ∀ l ∈ ls, l.length ≤ 100) (hst : starEach [e] env = [(false, eval e env)]) :
    EvG w (k + 3) env ρ μ (.Call (.Name x p) [e] [] q) (fun _ => False) (fun μ' d => ∃ ps, d = pilesD ps ∧ PIn μ' ps ∧ (ps.map (·.a)).Nodup ∧ ps.map (·.l) = ls) := by
  intro W A E s Q ok st h
  refine wpAny_Call_NameR (hn W A E s ρ μ p _ st ?_)
  refine callWith_of (.fn 134 (fnO w 134) (fdO w 134) (by kernel_rfl) (by kernel_rfl)) (by rw [hst]; rfl) (Evs.one he hst W A E s q _ ok st fun vs s₁ st₁ g₁ d₁ => ⟨st₁.tx, ?_⟩)
  refine fn_piles (k := k) h1 h2 ok st₁.toBs d₁ fun v s₂ W' μ' ps hw fr nd hl pin b₂ g₂ d₂ => ?_
  have hw1 : ∀ a, W' a → W a ∨ s₁.heap.get? a = none := fun a q => ((hw a).mp q).elim .inl fun q => .inr (fr a q)
  exact h v s₂ W' μ' _ ⟨ps, rfl, pin, nd, hl⟩ (fun a q => (hw1 a q).elim .inl fun z => .inr (g₁.none st₁.tab z)) (fun a q => (hw a).mpr (.inl q)) (st₁.grow (Y := fun _ => False) g₂.ef (fun _ q => q.elim) b₂ hw1 fun a q => (hw a).mpr (.inl q)) (g₁.trans g₂).ef d₂
theorem EvG.moved {x : PySem.Str} {p q : Pos} {e : Expr} {ps : List Pile} {m : Nat} (hn : Nm w env x (.ref 148)) (he : Ev w (k + 4) env ρ μ e (pilesD ps)) (hp : PIn μ ps) (sm : PSm ps) (hr : RunIs ps m) (nd : (ps.map (·.a)).Nodup) (mv : MvOk (ps.map (·.l)) m) (hst : starEach [e] env = [(false, eval e env)]) :
    EvG w (k + 4) env ρ μ (.Call (.Name x p) [e] [] q) (fun a => ∃ p ∈ ps, a = p.a) (fun μ' d => ∃ ps', d = pilesD ps' ∧ PIn μ' ps' ∧ (ps'.map (·.a)).Nodup ∧ ps'.map (·.l) = movedF (ps.map (·.l)) m) := by
  intro W A E s Q ok st h
  refine wpAny_Call_NameR (hn W A E s ρ μ p _ st ?_)
  refine callWith_of (.fn 148 (fnO w 148) (fdO w 148) (by kernel_rfl) (by kernel_rfl)) (by rw [hst]; rfl) (Evs.one he hst W A E s q _ ok st fun vs s₁ st₁ g₁ d₁ => ⟨st₁.tx, ?_⟩)
  refine fn_moved (k := k) hp sm hr nd mv ok st₁.toBs d₁ fun v s₂ W' μ' ps' hw hw2 nd' hl pin b₂ ef d₂ => ?_
  exact h v s₂ W' μ' _ ⟨ps', rfl, pin, nd', hl⟩ (fun a q => (hw a q).elim .inl fun z => .inr (g₁.none st₁.tab z)) hw2 (st₁.grow ef (fun a ⟨p, hp', q⟩ => q ▸ (st₁.mw _ (hp p hp')).1) b₂ hw hw2) (g₁.ef.trans ef) d₂
theorem EvG.call1 {x : PySem.Str} {p q : Pos} {e : Expr} {f : Value} {Y : Addr → Prop} {R : List (Addr × Mu) → D → Prop} {d' : D} (hn : Nm w env x f) (hc : Callee w f) (he : EvG w k env ρ μ e Y R) (hf : ∀ μ' d, R μ' d → Fn w k μ' f [d] d') (hst : starEach [e] env = [(false, eval e env)]) :
    EvG w k env ρ μ (.Call (.Name x p) [e] [] q) Y (fun _ d => d = d') := by
  intro W A E s Q ok st h
  refine wpAny_Call_NameR (hn W A E s ρ μ p _ st ?_)
  refine callWith_of hc (by rw [hst]; rfl) ?_
  rw [hst]
  show wpAny _ _ (spliced [(false, eval e env)]) _ _ _
  refine Calls.spliced_cons (he W A E s _ ok st fun v s₁ W' μ' d r hw hw2 st₁ ef d₁ => ?_)
  refine Calls.spliced_nil ⟨st₁.tx, ?_⟩
  refine hf μ' d r W' A E s₁ _ _ ok st₁.toBs (.one d₁) fun v s₂ b₂ g₂ d₂ => h v s₂ W' μ' d' rfl hw hw2 (st₁.go g₂ b₂) (ef.trans g₂.ef) d₂
theorem EvG.cmp {l r : Expr} {op : CmpOp} {p : Pos} {a b : D} {c : Bool} {Y : Addr → Prop} (hl : EvG w k env ρ μ l Y (fun _ d => d = a)) (hr : ∀ μ', Ev w k env ρ μ' r b) (ho : Cm w k op a b c) (hm : behindInMarks op r = false := by with_unfolding_all rfl) : EvG w k env ρ μ (.Compare l [op] [r] p) Y (fun _ d => d = .bool c) := by
  intro W A E s Q ok st h
  refine wpAny_Compare1 (hl W A E s _ ok st fun u s₁ W' μ' d e hw hw2 st₁ ef d₁ => hr μ' W' A E s₁ _ ok st₁ fun v s₂ st₂ g₂ d₂ => ?_) hm
  subst e
  exact ho W' A E s₂ μ' u v _ ok st₂.toBs (d₁.go g₂ st₁.wt) d₂ fun s₃ b₃ g₃ => h _ s₃ W' μ' _ rfl hw hw2 (st₂.go g₃ b₃) (ef.trans (g₂.trans g₃).ef) (.bool c)

section
variable {W W' P X Y : Addr → Prop} {s₀ s s' : Shared} {A : Around} {E : Value → Shared → Prop} {Q : Flow → Shared → Prop} {rest : List Stmt}
theorem Bd.grow (b : Bd w W env ρ μ P s₀ s) (st : St w W' env ρ μ' s') (ef : Ef Y s s') (hY : ∀ a, Y a → P a ∨ s₀.heap.get? a = none) : Bd w W' env ρ μ' P s₀ s' :=
  ⟨st, ⟨fun a o nt np e => ef.keep a o nt (fun q => (hY a q).elim np fun z => by rw [z] at e; cases e) (b.ef.keep a o nt np e), fun ps e => by
    obtain ⟨m, e⟩ := b.ef.tab _ e
    obtain ⟨m', e⟩ := ef.tab _ e
    exact ⟨m ++ m', by rw [e, Array.append_assoc]⟩, ef.os.trans b.ef.os⟩, b.fl, b.fc⟩
theorem Bd.assignG {x : PySem.Str} {p q : Pos} {e : Expr} {R : List (Addr × Mu) → D → Prop} (b : Bd w W env ρ μ P s₀ s) (ok : AOk k A) (he : EvG w k env ρ μ e Y R) (hY : ∀ a, Y a → P a ∨ s₀.heap.get? a = none) (hk : Sto env x)
    (h : ∀ s' W' μ' d, R μ' d → (∀ a, W' a → W a ∨ s₀.heap.get? a = none ∨ P a) → (∀ a, W a → W' a) → Bd w W' env ((x, d) :: ρ) μ' P s₀ s' → wpAny (MM w) A (execs rest env) Q E s') (hs : swapsWith e (some (.Name x p)) q.line env = pure false := by rfl) : wpAny (MM w) A (execs (.Assign [.Name x p] e q :: rest) env) Q E s :=
  wpAny_execs_cons (wpAny_Assign_Name (he W A E s _ ok b.toSt fun v s₁ W' μ' d r hw hw2 st ef dd => (b.grow st ef hY).store hk dd fun s' b' => h s' W' μ' d r (fun a q => (hw a q).elim .inl fun z => .inr (b.fresh z)) hw2 b') hs)
theorem Bd.retG {e : Expr} {p : Pos} {R : List (Addr × Mu) → D → Prop} (b : Bd w W env ρ μ P s₀ s) (ok : AOk k A) (he : EvG w k env ρ μ e Y R) (hY : ∀ a, Y a → P a ∨ s₀.heap.get? a = none)
    (h : ∀ v s' W' μ' d, R μ' d → Bd w W' env ρ μ' P s₀ s' → DIn W' s'.heap v d → Q (.ret v) s') : wpAny (MM w) A (execs (.Return (some e) p :: rest) env) Q E s :=
  wpAny_execs_cons (wpAny_Return_some (he W A E s _ ok b.toSt fun v s₁ W' μ' d r hw hw2 st ef dd => h v s₁ W' μ' d r (b.grow st ef hY) dd))

theorem St.sld {l : List Env} (st : St w W env ρ μ s) (ok : FrOk w W l s.heap) (hl : env.locals ∈ frs l) (x : SldEf (frs l) s s') (b : Bs w W μ s') : St w W env ρ μ s' := by
  have bx : ∀ b, b ∈ frs l → Bx s.heap b := fun b hb => let ⟨m, n⟩ := (ok.at hb).1; bx_ns n
  have offS : ∀ b o, s.heap.get? b = some o → ((∃ xs n, o.data = .seq xs n) ∨ ∃ xs, o.data = .fields xs) → b ∉ frs l := fun b o e q hb => by
    obtain ⟨o', e', h1, h2⟩ := bx b hb
    rw [e] at e'; cases e'
    rcases q with ⟨xs, n, q⟩ | ⟨xs, q⟩
    · exact h1 _ _ q
    · exact h2 _ q
  have pr : Pr W W s.heap s'.heap := fun b o n e q => ⟨x.keep b o (offS b o e q) (fun c => n (c ▸ st.wt)) e, n⟩
  have cellK : ∀ n c v, env.cells.lookup n = some c → s.heap.IsCell c v → s'.heap.IsCell c v := fun n c v hc z => by
    have ht := st.offT.2 n c hc
    obtain ⟨o, ho, hd⟩ := z
    refine ⟨o, x.keep c o (fun q => ?_) ht ho, hd⟩
    obtain ⟨m, o', es, ep, ho', hd', r⟩ := (ok.at q).1
    rw [ho] at ho'; cases ho'
    rw [hd] at hd'; cases hd'
  exact {
    toBs := b
    ek := st.ek
    eg := st.eg
    eb := st.eb
    ns := let ⟨m, n⟩ := st.ns; ⟨m, x.ns _ m hl n⟩
    lo := st.lo
    lw := st.lw
    cells := fun n c hc => let ⟨v, z⟩ := st.cells n c hc; ⟨v, cellK n c v hc z⟩
    co := st.co
    cw := st.cw
    ap := st.ap
    loc := fun n d e => by
      obtain ⟨v, h1, h2⟩ := st.loc n d e
      refine ⟨v, ?_, h2.pr pr⟩
      cases h1 with
      | loc m h1 h2 h3 => exact .loc m h1 (x.ns _ m hl h2) h3
      | cell c h1 h2 h3 => exact .cell c h1 h2 (cellK _ c _ h2 h3) }

/-- «x = sorted_list_difference(a, b)» -/
theorem Bd.assignSld {x f : PySem.Str} {p q r u : Pos} {e1 e2 : Expr} {Xs Ys M U : List Int} {n : Nat} (b : Bd w W env ρ μ (fun _ => False) s₀ s) (ok : AOk (k + 1) A) (hfr : A.frames = some [env]) (hf : env.frame = some env.locals) (hn : Nm w env f (.ref 112)) (h1 : Ev w (k + 1) env ρ μ e1 (.lst (Xs.map .int))) (h2 : Ev w (k + 1) env ρ μ e2 (.lst (Ys.map .int)))
    (hX : Xs.length ≤ 200) (hY : Ys.length ≤ 200) (hF : sldF Xs Ys n 0 0 [] [] = some (M, U)) (hk : Sto env x) (s1 : starEach [e1, e2] env = [(false, eval e1 env), (false, eval e2 env)]) (s2 : starEach [e2] env = [(false, eval e2 env)]) (hs : swapsWith (.Call (.Name f q) [e1, e2] [] r) (some (.Name x p)) u.line env = pure false)
    (h : ∀ s', Bd w W env ((x, .tup [.lst (M.map .int), .lst (U.map .int)]) :: ρ) μ (fun _ => False) s₀ s' → wpAny (MM w) A (execs rest env) Q E s') : wpAny (MM w) A (execs (.Assign [.Name x p] (.Call (.Name f q) [e1, e2] [] r) u :: rest) env) Q E s := by
  refine wpAny_execs_cons (wpAny_Assign_Name ?_ hs)
  refine wpAny_Call_NameR (hn W A E s ρ μ q _ b.toSt ?_)
  refine callWith_of (.fn 112 (fnO w 112) (fdO w 112) (by kernel_rfl) (by kernel_rfl)) (by rw [s1]; rfl) (Evs.two h1 h2 s1 s2 W A E s r _ ok b.toSt fun vs s₁ st₁ g₁ d₁ => ⟨st₁.tx, ?_⟩)
  have b₁ := b.next st₁ g₁
  have fok : FrOk w W [env] s₁.heap := ⟨fun g hg => by
    rw [List.mem_singleton.mp hg]
    obtain ⟨m, n⟩ := st₁.ns
    exact ⟨(by rw [st₁.ek]; decide), _, m, hf, n, st₁.lw, st₁.lo⟩⟩
  have fre : ∀ c, c ∈ frs [env] → c = env.locals := fun c hc => by
    obtain ⟨g, hg, e⟩ := List.mem_filterMap.mp hc
    rw [List.mem_singleton.mp hg, hf] at e
    exact (Option.some.inj e).symm
  have hl : env.locals ∈ frs [env] := List.mem_filterMap.mpr ⟨env, List.mem_singleton.mpr rfl, hf⟩
  refine fn_sld (k := k) hX hY hF ok hfr fok st₁.toBs d₁ fun v s₂ b₂ x₂ d₂ => ?_
  have st₂ := st₁.sld fok hl x₂ b₂
  refine Bd.store (s₀ := s₀) (P := fun _ => False) ⟨st₂, ⟨fun a o nt np e => x₂.keep a o (fun q => ?_) nt (b₁.ef.keep a o nt np e), fun ps e => ?_, x₂.os.trans b₁.ef.os⟩, b.fl, b.fc⟩ hk d₂ h
  · rw [fre a q] at e
    rcases b.fl with z | z
    · rw [z] at e; cases e
    · exact z
  · obtain ⟨m, e⟩ := b₁.ef.tab _ e
    obtain ⟨m', e⟩ := x₂.tab _ e
    exact ⟨m ++ m', by rw [e, Array.append_assoc]⟩
end
end Mine
open PySem PySem.W PyProof.Rows
set_option Elab.async false
set_option maxRecDepth 100000
set_option linter.unusedVariables false
namespace Mine

theorem lawB0 : (List.range 4).all (fun j => (genS j).all lawB) = true := by decide +kernel
theorem lawB_sizes (ns : List Int) : lawB (sizesF ns) = true := by
  obtain ⟨j, hj, h⟩ := sizesF_gen ns
  exact List.all_eq_true.mp (List.all_eq_true.mp lawB0 j (List.mem_range.mpr hj)) _ h

structure RowsOk (ls : List (List Stn)) : Prop where
  len : ls.length ≤ 8
  row : ∀ l ∈ ls, l.length ≤ 100 ∧ l ≠ []
  one : ∀ l ∈ ls, ∀ q ∈ l, q.1.length = 1 ∧ q.2.length = 1 ∧ PyData.strOk q.1 = true ∧ PyData.strOk q.2 = true
theorem RowsOk.of {ls : List (List Stn)} (h : rowsB ls = true) : RowsOk ls := by
  simp only [rowsB, Bool.and_eq_true, decide_eq_true_eq, List.all_eq_true] at h
  refine ⟨h.1, fun l hl => ⟨(h.2 l hl).1, fun e => ?_⟩, fun l hl q hq => ?_⟩
  · have := (h.2 l hl).2.1
    rw [e] at this; simp at this
  · have := (h.2 l hl).2.2 q hq
    exact ⟨this.1, this.2.1, this.2.2.1, this.2.2.2⟩
theorem RowsOk.sm {ps : List Pile} (h : RowsOk (ps.map (·.l))) : PSm ps := by
  refine ⟨by have := h.len; rwa [List.length_map] at this, fun p hp => (h.row _ (List.mem_map_of_mem hp)).1, fun p hp q hq => ?_⟩
  have := h.one _ (List.mem_map_of_mem hp) q hq
  exact ⟨this.1, this.2.1⟩
theorem runIs_of {ps : List Pile} {m : Nat} (h : runB (ps.map (·.l)) m = true) : RunIs ps m := by
  simp only [runB, Bool.and_eq_true, Bool.or_eq_true, decide_eq_true_eq, List.all_eq_true, List.mem_range, List.length_map] at h
  obtain ⟨h1, h2, h3, h4⟩ := h
  have g : ∀ j (hj : j < ps.length), (ps.map (·.l)).getD j [] = (ps[j]'hj).l := fun j hj => by
    rw [List.getD_eq_getElem?_getD, List.getElem?_map, List.getElem?_eq_getElem hj]; rfl
  refine ⟨h1, h2, fun j j1 j2 => ?_, fun hm => ?_⟩
  · rcases h3 j j2 with q | q
    · exact absurd q (Nat.ne_of_gt j1)
    · rw [g j (Nat.lt_of_lt_of_le j2 h2), g (j - 1) (Nat.lt_of_le_of_lt (Nat.sub_le _ _) (Nat.lt_of_lt_of_le j2 h2))] at q; exact q
  · rcases h4 with q | q
    · exact absurd q (Nat.not_le_of_lt hm)
    · rw [g m hm, g (m - 1) (Nat.lt_of_le_of_lt (Nat.sub_le _ _) hm)] at q; exact q
theorem MvOk.of {ls : List (List Stn)} {m : Nat} (h : mvOkB ls m = true) : MvOk ls m := by
  have ne : ∀ l : List Stn, (!l.isEmpty) = true → l ≠ [] := fun l h e => by rw [e] at h; simp at h
  unfold mvOkB at h
  rw [Bool.and_eq_true, Bool.and_eq_true] at h
  obtain ⟨h1, h2, h3⟩ := h
  refine ⟨fun q j hj => ?_, fun q j hj => ?_, of_decide_eq_true h3⟩
  · rw [Bool.or_eq_true] at h1
    rcases h1 with z | z
    · exact absurd q (of_decide_eq_true z)
    · have := List.all_eq_true.mp z j (List.mem_range.mpr hj)
      rw [Bool.and_eq_true, Bool.and_eq_true] at this
      exact ⟨ne _ this.1, of_decide_eq_true this.2.1, of_decide_eq_true this.2.2⟩
  · rw [Bool.or_eq_true] at h2
    rcases h2 with z | z
    · exact absurd (of_decide_eq_true z) q
    · have := List.all_eq_true.mp z j (List.mem_range.mpr hj)
      rw [Bool.and_eq_true, Bool.and_eq_true] at this
      exact ⟨ne _ this.1, of_decide_eq_true this.2.1, of_decide_eq_true this.2.2⟩

structure LawOk (S : List Int) : Prop where
  len : S.length ≤ 4
  pos : 0 < S.length
  val : ∀ x ∈ S, 1 ≤ x ∧ x ≤ 20
  rows : RowsOk (laidF S)
  run : runB (laidF S) (runF S) = true
  mv : MvOk (laidF S) (runF S)
  rows2 : RowsOk (movedS S)
  run2 : runB (movedS S) (runOf (movedS S)) = true
  mv2 : MvOk (movedS S) (runOf (movedS S))
  due : dueF (laidF S) (runF S : Int) = movedS S
  sign : (laidF S).reverse.map (fun l => twc (l.length : Int) (runF S : Int)) = S.map (signF S)
  fin : endB S = true
theorem lawOk (ns : List Int) : LawOk (sizesF ns) := by
  have h := lawB_sizes ns
  generalize sizesF ns = S at h
  unfold lawB at h
  simp only [Bool.and_eq_true, decide_eq_true_eq] at h
  obtain ⟨h1, h2, h3, h4, h5, h6, h7, h8, h9, h10, h11, h12⟩ := h
  refine ⟨h1, h2, fun x hx => ?_, .of h4, h5, .of h6, .of h7, h8, .of h9, h10, h11, h12⟩
  have := List.all_eq_true.mp h3 x hx
  simpa using this

/-- what may be compared -/
structure OkD (n : Nat) (d : D) : Prop where
  rd : rd d = true
  lay : (toP d).canLay0 = true
  dep : (toP d).depth ≤ n
theorem OkD.cmp {n : Nat} {d : D} (h : OkD n d) (hn : n ≤ 64) : cmpOk d = true := by
  unfold cmpOk SeqAt.shaped
  rw [h.rd, h.lay]
  simp only [Bool.true_and, decide_eq_true_eq]
  exact Nat.le_trans h.dep hn
theorem OkD.int {n : Nat} (i : Int) : OkD n (.int i) := ⟨rfl, rfl, Nat.zero_le _⟩
theorem OkD.str {n : Nat} {x : PySem.Str} (h : PyData.strOk x = true) : OkD n (.str x) := ⟨rfl, h, Nat.zero_le _⟩
theorem OkD.all {n : Nat} {l : List D} : (∀ d ∈ l, OkD n d) → rds l = true ∧ PyData.canLayAll0 (toPs l) = true ∧ PyData.depthAll (toPs l) ≤ n := by
  induction l with
  | nil => exact fun _ => ⟨rfl, rfl, Nat.zero_le _⟩
  | cons d l ih =>
    intro h
    obtain ⟨a, b, c⟩ := ih fun x hx => h x (List.mem_cons_of_mem _ hx)
    obtain ⟨a', b', c'⟩ := h d List.mem_cons_self
    refine ⟨?_, ?_, ?_⟩
    · simp only [rds, a, a', Bool.and_self]
    · simp only [toPs, PyData.canLayAll0, b, b', Bool.and_self]
    · simp only [toPs, PyData.depthAll]; exact Nat.max_le.mpr ⟨c', c⟩
theorem OkD.lst {n : Nat} {l : List D} (h : ∀ d ∈ l, OkD n d) : OkD (n + 1) (.lst l) := by
  obtain ⟨a, b, c⟩ := OkD.all h
  refine ⟨by simpa only [Mine.rd] using a, by simpa only [toP, PyData.canLay0] using b, ?_⟩
  simp only [toP, PyData.depth]; exact Nat.succ_le_succ c
theorem OkD.tup {n : Nat} {l : List D} (h : ∀ d ∈ l, OkD n d) : OkD (n + 1) (.tup l) := by
  obtain ⟨a, b, c⟩ := OkD.all h
  refine ⟨by simpa only [Mine.rd] using a, by simpa only [toP, PyData.canLay0] using b, ?_⟩
  simp only [toP, PyData.depth]; exact Nat.succ_le_succ c
theorem OkD.ints (l : List Int) : OkD 1 (intsD l) := .lst fun d hd => by
  obtain ⟨i, _, rfl⟩ := List.mem_map.mp hd
  exact .int i
theorem RowsOk.okD {ls : List (List Stn)} (h : RowsOk ls) : OkD 3 (laidD ls) := .lst fun d hd => by
  obtain ⟨l, hl, rfl⟩ := List.mem_map.mp hd
  refine .lst fun d hd => ?_
  obtain ⟨q, hq, rfl⟩ := List.mem_map.mp hd
  have := h.one l hl q hq
  refine .tup fun d hd => ?_
  rcases List.mem_cons.mp hd with rfl | hd
  · exact .str this.2.2.1
  · rw [List.mem_singleton.mp hd]; exact .str this.2.2.2
theorem eqv_self {n : Nat} {d : D} (h : OkD n d) : PyData.eqv (toP d) (toP d) = true := PySem.SeqAt.eqv_refl _ h.lay
theorem eqv_ints : ∀ a b : List Int, PyData.eqv (toP (intsD a)) (toP (intsD b)) = decide (a = b) := by
  have h : ∀ a b : List Int, PyData.eqvAll (toPs (a.map .int)) (toPs (b.map .int)) = decide (a = b) := by
    intro a
    induction a with
    | nil => intro b; cases b <;> simp [toPs, PyData.eqvAll]
    | cons x a ih =>
      intro b
      cases b with
      | nil => simp [toPs, PyData.eqvAll]
      | cons y b =>
        simp only [List.map_cons, toPs, PyData.eqvAll, toP, PyData.eqv, ih b]
        by_cases h1 : x = y <;> by_cases h2 : a = b <;> simp [h1, h2]
  intro a b
  simp only [toP, PyData.eqv]
  exact h a b
end Mine
open PySem PySem.W PyProof.Rows
set_option Elab.async false
set_option maxRecDepth 100000
set_option linter.unusedVariables false
namespace Mine

variable {w : World} {k k' : Nat} {env : Env} {ρ : Rho} {μ μ' μ'' : List (Addr × Mu)}

theorem ints_getD (l : List Int) (j : Nat) (h : j < l.length) : (l.map D.int).getD j .none = .int (l.getD j 0) := by
  rw [List.getD_eq_getElem?_getD, List.getElem?_map, List.getD_eq_getElem?_getD, List.getElem?_eq_getElem h]; rfl

section
variable {S : List Int} (L : LawOk S)
include L
theorem LawOk.ne : S ≠ [] := fun e => by have := L.pos; rw [e] at this; exact absurd this (Nat.lt_irrefl _)
theorem LawOk.szl : (S.map D.int).length ≤ sizeLine := by rw [List.length_map]; exact sl8 (Nat.le_trans L.len (by decide))
theorem LawOk.most : 1 ≤ mostF S ∧ mostF S ≤ 20 := by
  refine L.val _ ?_
  unfold mostF
  have h := L.pos
  rw [List.getLastD_eq_getLast?, List.getLast?_eq_getElem?, List.getElem?_eq_getElem (predL h)]
  exact List.getElem_mem _
theorem LawOk.sm : Sm S := ⟨L.len, fun x hx => have := L.val x hx; ⟨Int.le_trans (by decide) this.1, Int.le_trans this.2 (by decide)⟩⟩
theorem LawOk.laidlen : (laidF S).length = S.length := by unfold laidF; simp
theorem LawOk.first : pyGet (S.map D.int) 0 = some (.int (leastF S)) := by
  have h := L.pos
  show (S.map D.int)[0]? = _
  rw [List.getElem?_map, List.getElem?_eq_getElem h]
  unfold leastF
  rw [List.getD_eq_getElem?_getD, List.getElem?_eq_getElem h]; rfl
theorem LawOk.last : pyGet (S.map D.int) (-1) = some (.int (mostF S)) := by
  have h := L.pos
  rw [pyGet_last (fun e => L.ne (List.map_eq_nil_iff.mp e)), List.length_map, List.getElem?_map, List.getElem?_eq_getElem (predL h)]
  unfold mostF
  rw [List.getLastD_eq_getLast?, List.getLast?_eq_getElem?, List.getElem?_eq_getElem (predL h)]; rfl
end

theorem lrB {m : Int} {j : Nat} (h1 : 1 ≤ m) (h2 : m ≤ 20) (hj : j < 4) : Fn w k μ (.type "list") [.rng (m - (0 + (j : Int))) (m + 1)] (.lst ((rngL (m - (0 + (j : Int))) (m + 1)).map .int)) := Fn.listRange (lr1 h1 h2 hj) (in40 (m := 21) ⟨Int.le_trans (by decide) (Int.add_le_add_right h1 1), Int.add_le_add_right h2 1⟩ (by decide)) (lr2 hj)
theorem runOut_le (S : List Int) (n : Nat) : (outL n (runT S) fun k => [D.int (0 + (k : Int))]).length ≤ n := by
  induction n with
  | zero => exact Nat.le_refl _
  | succ n ih =>
    rw [outL_succ, List.length_append]
    split
    · exact Nat.succ_le_succ ih
    · exact Nat.le_succ_of_le ih
/-- «run = len([..])» -/
theorem law_run {S : List Int} (L : LawOk S) {p1 p2 p3 p4 p5 p6 p7 p8 p9 q1 q2 q3 q4 q5 q6 q7 q8 q9 r1 r2 r3 r4 r5 r6 r7 : Pos} {n1 n2 : Nat} {scope : Scope}
    (h1 : ρ.lookup ("sizes" : PySem.Str) = some (intsD S)) (h2 : ρ.lookup ("count" : PySem.Str) = some (.int S.length)) (h3 : ρ.lookup ("most" : PySem.Str) = some (.int (mostF S)))
    (hr : env.kindOf "range" = some .globalImplicit) (hk : scope.kind = .function) (sc : scB scope env = true) (hfr : ((tn (.Name "k" p2)).all fun x => !(scope.names.lookup x == some .free)) = true) (hs : ∀ C, Sto (cEnv scope env C) "k")
    (e1 : ∀ j, (bd1 "k" (fun i => D.int (0 + (i : Int))) j ++ fr scope ρ).lookup ("sizes" : PySem.Str) = some (intsD S)) (e2 : ∀ j, (bd1 "k" (fun i => D.int (0 + (i : Int))) j ++ fr scope ρ).lookup ("count" : PySem.Str) = some (.int S.length)) (e3 : ∀ j, (bd1 "k" (fun i => D.int (0 + (i : Int))) j ++ fr scope ρ).lookup ("most" : PySem.Str) = some (.int (mostF S)))
    (hc1 : ∀ C, (cEnv scope env C).kindOf "list" = some .globalImplicit) (hc2 : ∀ C, (cEnv scope env C).kindOf "range" = some .globalImplicit) :
    Ev w k env ρ μ (.ListComp (.Name "k" p1) [⟨.Name "k" p2, .Call (.Name "range" p3) [.Name "count" p4] [] p5, [.Compare (.Subscript (.Name "sizes" p6) (.Slice (some (.BinOp (.BinOp (.Name "count" p7) .Sub (.Constant (.int 1) n1 p8) p9) .Sub (.Name "k" q1) q2)) none none q3) q4) [.Eq]
      [.Call (.Name "list" q5) [.Call (.Name "range" q6) [.BinOp (.Name "most" q7) .Sub (.Name "k" q8) q9, .BinOp (.Name "most" r1) .Add (.Constant (.int 1) n2 r2) r3] [] r4] [] r5] r6], 0⟩] scope r7) (.lst (outL S.length (runT S) fun k => [.int (0 + (k : Int))])) := by
  have hl := L.len
  refine Ev.comp1 (p := runT S) (f := fun k => .int (0 + (k : Int))) (SrcG.castN (Src.range (a := 0) (b := S.length) (.call (nm_range hr) (.typ _) (.one (.name h2)) .range1) (by decide) (i40 hl)) (by rw [Int.sub_zero]; rfl)) (fun C => .one _ _ (hs C)) (fun C j hj => ?_) (fun C j hj _ => .name rfl) rfl ?_ hk sc hfr (fun _ => rfl)
  · have hm := L.most
    refine Te.one (.cmp (Ev.cast (.slice (.name (e1 j)) (.some (.bin (.bin (.name (e2 j)) .int .sub) (.name rfl) .sub)) .none .none (by decide) L.szl) (congrArg D.lst (pick_map D.int S _ _ _)))
      (.call (nm_list (hc1 C)) (.typ _) (.one (.call (nm_range (hc2 C)) (.typ _) (.two (.bin (.name (e3 j)) (.name rfl) .sub) (.bin (.name (e3 j)) .int .add)) .range2)) (lrB hm.1 hm.2 (Nat.lt_of_lt_of_le hj hl))) (Cm.eqD ((OkD.ints _).cmp (by decide)) ((OkD.ints _).cmp (by decide))))
  · exact Nat.le_trans (runOut_le S _) (sl8 (Nat.le_trans hl (by decide)))
end Mine
open PySem PySem.W PyProof.Rows
set_option Elab.async false
set_option maxRecDepth 100000
set_option linter.unusedVariables false
namespace Mine

variable {w : World} {k k' : Nat} {env : Env} {ρ : Rho} {μ μ' μ'' : List (Addr × Mu)}

theorem ca_f {f : Addr} (h : (KK w).lookup f = some (fnO w f)) (h2 : (fnO w f).data = .func (fdO w f)) : Callee w (.ref f) := .fn f (fnO w f) (fdO w f) h h2
theorem Bo.mul2 {b : Int} : Bo w k .Mult (.int 2) (.int b) (.int (2 * b)) := Bo.mul (IntMulOk.of_left (by decide))

theorem range_rev {α : Type} (l : List α) (d : α) (g : α → D) : (List.range l.length).map (fun j => g (l.getD (l.length - 1 - j) d)) = l.reverse.map g := by
  apply List.ext_getElem
  · simp
  · intro i h1 h2
    simp only [List.length_map, List.length_reverse] at h2
    simp only [List.getElem_map, List.getElem_range, List.getElem_reverse]
    rw [List.getD_eq_getElem?_getD, List.getElem?_eq_getElem (nq0 h2)]; rfl
theorem Ev.typ {x : PySem.Str} {n : String} {p : Pos} (hn : Nm w env x (.type n)) : Ev w k env ρ μ (.Name x p) (.typ n) := fun W A E s Q ok st h => hn W A E s ρ μ p _ st (h _ s st (.refl _) (.typ n))
theorem outL_none (n : Nat) (f : Nat → List D) : outL n (fun _ => false) f = [] := by
  unfold outL
  simp
theorem piles_after {ps : List Pile} {ls : List (List Stn)} (h : ps.map (·.l) = ls) (g : List Stn → Int) : (List.range (ps.map fun p => D.obj p.a).length).map (fun j => D.int (g (ps.getD (ps.length - 1 - j) noPile).l)) = (ls.reverse.map g).map .int := by
  rw [List.length_map, range_rev ps noPile fun p => D.int (g p.l), ← h, ← List.map_reverse, List.map_map, List.map_map]; rfl

theorem listR {a b : Int} (ha : 0 ≤ a ∧ a ≤ 100) (hb : 0 ≤ b ∧ b ≤ 100) : Fn w k μ (.type "list") [.rng a b] (intsD (rngL a b)) := Fn.listRange (in40 ha (by decide)) (in40 hb (by decide)) (toN24 ha.1 hb.2)
theorem rngL_len1 {n : Nat} (h : n ≤ 4) : 1 + (rngL ((n : Int) + 2) (2 * (n : Int) + 1)).length ≤ 1000 ∧ 1 + (rngL (n : Int) (2 * (n : Int))).length ≤ 1000 := by
  unfold rngL
  rw [List.length_map, List.length_map, List.length_range, List.length_range]
  exact rl1 h
theorem RowsOk.okRow {ls : List (List Stn)} (h : RowsOk ls) {l : List Stn} (hl : l ∈ ls) : OkD 2 (.lst (l.map stoneD)) := by
  refine .lst fun d hd => ?_
  obtain ⟨q, hq, rfl⟩ := List.mem_map.mp hd
  have := h.one l hl q hq
  refine .tup fun d hd => ?_
  rcases List.mem_cons.mp hd with rfl | hd
  · exact .str this.2.2.1
  · rw [List.mem_singleton.mp hd]; exact .str this.2.2.2
theorem LawOk.dueC {S : List Int} (L : LawOk S) : ∀ l ∈ dueL (laidF S) (runF S : Int), cmpOk (.lst (l.map stoneD)) = true := fun l hl => by
  by_cases e : l = []
  · rw [e]; exact (OkD.lst (n := 1) fun d hd => (List.not_mem_nil hd).elim).cmp (by decide)
  · have hm : l ∈ dueF (laidF S) (runF S : Int) := List.mem_filter.mpr ⟨hl, by cases l with
      | nil => exact absurd rfl e
      | cons x l => rfl⟩
    rw [L.due] at hm
    exact (L.rows2.okRow hm).cmp (by decide)
theorem Bd.ifM {W P : Addr → Prop} {s₀ s : Shared} {A : Around} {E : Value → Shared → Prop} {Q : Flow → Shared → Prop} {rest : List Stmt} {t : Expr} {x y : List Stmt} {p : Pos} {c : Bool} {ρ' : Rho} (b : Bd w W env ρ μ P s₀ s) (ok : AOk k A) (ht : Tr w k env ρ μ t c)
    (hx : c = true → ∀ s' Q', Bd w W env ρ μ P s₀ s' → (∀ s'', Bd w W env ρ' μ P s₀ s'' → Q' .next s'') → wpAny (MM w) A (execs x env) Q' E s')
    (hy : c = false → ∀ s' Q', Bd w W env ρ μ P s₀ s' → (∀ s'', Bd w W env ρ' μ P s₀ s'' → Q' .next s'') → wpAny (MM w) A (execs y env) Q' E s')
    (h : ∀ s'', Bd w W env ρ' μ P s₀ s'' → wpAny (MM w) A (execs rest env) Q E s'') : wpAny (MM w) A (execs (.If t x y p :: rest) env) Q E s :=
  b.ifs ok ht (fun e s' b' => hx e s' _ b' h) fun e s' b' => hy e s' _ b' h

set_option maxHeartbeats 16000000 in
theorem fn_law {ns : List Int} (hz : ns.length ≤ 1000) {W : Addr → Prop} {A : Around} {E : Value → Shared → Prop} {s : Shared} {vs : List Value} {Q : Value → Shared → Prop} (ok : AOk (k + 5) A) (hfr : A.frames = some []) (bs : Bs w W [] s) (hW : ∀ a, W a → a = tblA) (dv : DAll W s.heap vs [.lst (ns.map .int)])
    (h : ∀ s' W' μ', Bs w W' μ' s' → Go s s' → Q (.bool true) s') : wpAny (MM w) A (call (.ref 163) vs) Q E s := by
  refine enter (f := 163) (o := fnO w 163) (fd := fdO w 163) (P := fun _ => False) ok bs dv (by kernel_rfl) (by kernel_rfl) (by kernel_rfl) rfl (by kernel_rfl) (par1 (x := "script") (fun v => by kernel_rfl) (.inl (by kernel_rfl))) rfl (by kernel_rfl) (by kernel_rfl) (fun s₁ L b₁ => ?_) (by kernel_rfl) (by kernel_rfl) (by kernel_rfl)
  have ok' : AOk (k + 4) (A.deeper (callEnvC (fdO w 163) L 163)) := ok.deeper
  have ok3 : AOk (k + 3) (A.deeper (callEnvC (fdO w 163) L 163)) := ok'.le (Nat.le_succ _)
  have ok2 : AOk (k + 2) (A.deeper (callEnvC (fdO w 163) L 163)) := ok3.le (Nat.le_succ _)
  have ok1 : AOk (k + 1) (A.deeper (callEnvC (fdO w 163) L 163)) := ok2.le (Nat.le_succ _)
  have hfr' : (A.deeper (callEnvC (fdO w 163) L 163)).frames = some [callEnvC (fdO w 163) L 163] := by show A.frames.map _ = _; rw [hfr]; rfl
  have q_len : (callEnvC (fdO w 163) L 163).kindOf "len" = some .globalImplicit := by kernel_rfl
  have q_range : (callEnvC (fdO w 163) L 163).kindOf "range" = some .globalImplicit := by kernel_rfl
  refine b₁.assign ok1 (.call (.glob (v := .ref 124) (by kernel_rfl) (by kernel_rfl)) (ca_f (by kernel_rfl) (by kernel_rfl)) (.one (.name rfl)) (fn_sizes (k := k) hz)) (.cellB (by kernel_rfl) (by kernel_rfl)) fun s₂ b₂ => ?_
  have LS := lawOk ns
  generalize sizesF ns = S at LS b₂
  have hl := LS.len
  have hS1 : S.length ≤ 1000 := Nat.le_trans hl (by decide)
  have hS2 : S.length ≤ 100 := Nat.le_trans hl (by decide)
  refine b₂.tup3 ok1 (a := .int S.length) (b' := .int (leastF S)) (c := .int (mostF S)) (.tuple (.cons (Ev.cast (.call (nm_len q_len) (.blt _) (.one (.name rfl)) (Fn.len LS.szl)) (by rw [List.length_map])) (.two (.item (.name rfl) .int LS.first LS.szl) (.item (.name rfl) (.neg .int) LS.last LS.szl))) (sl8 (by show 3 ≤ 1000; decide)))
    (.cellB (by kernel_rfl) (by kernel_rfl)) (.loc (by kernel_rfl)) (.cellB (by kernel_rfl) (by kernel_rfl)) rfl (by kernel_rfl) fun s₃ b₃ => ?_
  have hrl := runOut_le S S.length
  have hrn : runF S ≤ S.length := hrl
  refine b₃.assign (d := .int (runF S)) ok1 ?_ (.cellB (by kernel_rfl) (by kernel_rfl)) fun s₄ b₄ => ?_
  · refine .call (nm_len q_len) (.blt _) (.one (d := .lst (outL S.length (runT S) fun k => [.int (0 + (k : Int))])) ?_) (Fn.len (sl8 (Nat.le_trans hrl hS1)))
    exact law_run LS rfl rfl rfl q_range rfl (by kernel_rfl) (by kernel_rfl) (fun C => .loc (by kernel_rfl)) (fun j => rfl) (fun j => rfl) (fun j => rfl) (fun C => by kernel_rfl) (fun C => by kernel_rfl)
  refine b₄.assign (d := laidD (laidF S)) ok1 ?_ (.loc (by kernel_rfl)) fun s₅ b₅ => ?_
  · exact .call (.glob (v := .ref 129) (by kernel_rfl) (by kernel_rfl)) (ca_f (by kernel_rfl) (by kernel_rfl)) (.one (.name rfl)) (fn_laid (k := k) LS.sm)
  refine b₅.assignG ok3 (EvG.piles (k := k) (ls := laidF S) (.glob (by kernel_rfl) (by kernel_rfl)) (.name rfl) (by rw [LS.laidlen]; exact hS2) (fun l hl => (LS.rows.row l hl).1) rfl) (fun _ q => q.elim) (.loc (by kernel_rfl)) fun s₆ W₁ μ₁ d r hw hw2 b₆ => ?_
  obtain ⟨ps, rfl, pin, nd, hpl⟩ := r
  have hwd : ∀ a, W₁ a → a = tblA ∨ s.heap.get? a = none := fun a q => (hw a q).elim (fun q => .inl (hW a q)) fun q => .inr (q.elim id False.elim)
  have sm : PSm ps := RowsOk.sm (hpl ▸ LS.rows)
  have hri : RunIs ps (runF S) := runIs_of (hpl ▸ LS.run)
  have hpsl : ps.length = S.length := by rw [← LS.laidlen, ← hpl, List.length_map]
  have hsz : ps.length ≤ 1000 := by rw [hpsl]; exact hS1
  have okL : OkD 3 (laidD (laidF S)) := LS.rows.okD
  refine b₆.ifs (c := false) ok2 ?_ (fun q => by cases q) fun _ s₇ b₇ => Bd.nil ?_
  · have e1 : (List.range (ps.map fun p => D.obj p.a).length).map (fun j => D.int (2 * ((ps.getD j noPile).l.length : Int))) = ((laidF S).map fun l => 2 * (l.length : Int)).map .int := by
      rw [List.length_map, range_getD ps noPile fun p => D.int (2 * (p.l.length : Int)), ← hpl, List.map_map, List.map_map]; rfl
    have e2 : (List.range ((laidF S).map fun l => D.lst (l.map stoneD)).length).map (fun j => D.int (2 * (((laidF S).getD j []).length : Int))) = ((laidF S).map fun l => 2 * (l.length : Int)).map .int := by
      rw [List.length_map, range_getD (laidF S) [] fun l => D.int (2 * (l.length : Int)), List.map_map]; rfl
    refine Tr.cast (Tr.or (a := !PyData.eqv (toP (laidD (laidF S))) (toP (laidD (laidF S)))) (b := !PyData.eqv (toP (intsD ((laidF S).map fun l => 2 * (l.length : Int)))) (toP (intsD ((laidF S).map fun l => 2 * (l.length : Int)))))
      (Tr.cmp (a := laidD (laidF S)) (b := laidD (laidF S)) ?_ (.name rfl) (Cm.neD (okL.cmp (by decide)) (okL.cmp (by decide)))) fun _ => Tr.cmp (a := intsD ((laidF S).map fun l => 2 * (l.length : Int))) (b := intsD ((laidF S).map fun l => 2 * (l.length : Int))) ?_ ?_ (Cm.neD ((OkD.ints _).cmp (by decide)) ((OkD.ints _).cmp (by decide)))) (by rw [eqv_self okL, eqv_self (OkD.ints _)]; rfl)
    · exact Ev.cast (.call (.glob (v := .ref 153) (by kernel_rfl) (by kernel_rfl)) (ca_f (by kernel_rfl) (by kernel_rfl)) (.one (.name rfl)) (fn_stones (k := k + 1) pin hsz fun p hp => Nat.le_trans (sm.row p hp) (by decide))) (congrArg laidD hpl)
    · refine Ev.comp1 (p := fun _ => true) (f := fun j => .int (2 * ((ps.getD j noPile).l.length : Int))) (Src.list (.name rfl)) (fun C => .one _ _ (.loc (by kernel_rfl))) (fun C j hj => Te.nil) (fun C j hj _ => ?_) ?_ ?_ rfl (by kernel_rfl) (by kernel_rfl) (fun _ => rfl)
      · rw [List.length_map] at hj
        have hg := getD_pile hj
        refine .call (nm_len (by kernel_rfl)) (.blt _) (.one (.name (congrArg some (objs_getD hj)))) (Fn.lenPile (dx := (ps.getD j noPile).dx) ?_ ?_ ?_)
        · rw [hg]; exact pin _ (List.getElem_mem hj)
        · rw [hg]; exact sm.one _ (List.getElem_mem hj)
        · rw [hg]; exact Nat.le_trans (sm.row _ (List.getElem_mem hj)) (by decide)
      · rw [outL_range, e1]
      · rw [List.length_map, List.length_map]; exact sl8 (by rw [LS.laidlen]; exact hS1)
    · refine Ev.comp1 (p := fun _ => true) (f := fun j => .int (2 * (((laidF S).getD j []).length : Int))) (Src.list (.name rfl)) (fun C => .one _ _ (.loc (by kernel_rfl))) (fun C j hj => Te.nil) (fun C j hj _ => ?_) ?_ ?_ rfl (by kernel_rfl) (by kernel_rfl) (fun _ => rfl)
      · rw [List.length_map] at hj
        have hmem : (laidF S).getD j [] ∈ laidF S := by
          rw [List.getD_eq_getElem?_getD, List.getElem?_eq_getElem hj]
          exact List.getElem_mem _
        have hle := (LS.rows.row _ hmem).1
        refine .bin .int (Ev.cast (.call (nm_len (by kernel_rfl)) (.blt _) (.one (.name (congrArg some (map_getD (laidF S) [] (fun l => D.lst (l.map stoneD)) j hj)))) (Fn.len (by rw [List.length_map]; exact sl8 (Nat.le_trans hle (by decide))))) (by rw [List.length_map])) Bo.mul2
      · rw [outL_range, e2]
      · rw [List.length_map, List.length_map]; exact sl8 (by rw [LS.laidlen]; exact hS1)
  have hsg : (List.range (ps.map fun p => D.obj p.a).length).map (fun j => D.int (twc ((ps.getD (ps.length - 1 - j) noPile).l.length : Int) (runF S : Int))) = (S.map (signF S)).map .int := by
    rw [piles_after hpl fun l => twc (l.length : Int) (runF S : Int), LS.sign]
  refine b₇.assignC (bs := []) (em := fun Dl env' => emB _ Dl env') (p := fun _ => true) (f := fun j => [.int (twc ((ps.getD (ps.length - 1 - j) noPile).l.length : Int) (runF S : Int))]) (bd := bd1 "pile" fun j => (ps.map fun p => D.obj p.a).getD ((ps.map fun p => D.obj p.a).length - 1 - j) .none) (n := (ps.map fun p => D.obj p.a).length) ok2 (by kernel_rfl) (by kernel_rfl)
    (Src.rev (nm_reversed (by kernel_rfl)) (.name rfl)) rfl (Sc.of (by kernel_rfl)) (fun C => .one _ _ (.loc (by kernel_rfl))) (fun _ _ _ => rfl) ?_ (fun C j hj => Te.nil) (fun C Dl j hj _ => Em.base ?_) ?_ fun s₈ b₈ => ?_
  · decide
  · rw [List.length_map] at hj
    have hj2 : ps.length - 1 - j < ps.length := nq0 hj
    have hnm : (ps.map fun p => D.obj p.a).getD ((ps.map fun p => D.obj p.a).length - 1 - j) .none = .obj (ps.getD (ps.length - 1 - j) noPile).a := by rw [List.length_map]; exact objs_getD hj2
    refine .call (nm_twc (by kernel_rfl)) ca_twc (.two (Fn.pc (k := k + 1) (dx := (ps.getD (ps.length - 1 - j) noPile).dx) (.name (congrArg some hnm)) ?_ ⟨_, rfl⟩) (.name rfl)) (fn_twc (k := k + 1))
    rw [getD_pile hj2]; exact pin _ (List.getElem_mem hj2)
  · rw [outL_range, List.length_map, List.length_range, List.length_map]; exact sl8 hsz
  rw [outL_range, hsg] at b₈
  refine b₈.ifs (c := false) ok2 ?_ (fun q => by cases q) fun _ s₉ b₉ => Bd.nil ?_
  · refine Tr.cast (c := !PyData.eqv (toP (intsD (S.map (signF S)))) (toP (intsD (S.map (signF S))))) (Tr.cmp (.name rfl) ?_ (Cm.neD ((OkD.ints _).cmp (by decide)) ((OkD.ints _).cmp (by decide)))) (by rw [eqv_self (OkD.ints _)]; rfl)
    refine Ev.comp1 (p := fun _ => true) (f := fun j => .int (signF S (S.getD j 0))) (Src.list (.name rfl)) (fun C => .one _ _ (.loc (by kernel_rfl))) (fun C j hj => Te.nil) (fun C j hj _ => ?_) ?_ ?_ rfl (by kernel_rfl) (by kernel_rfl) (fun _ => rfl)
    · rw [List.length_map] at hj
      refine .ifx (.cmp (.name (congrArg some (ints_getD S j hj))) (.call (nm_range (by kernel_rfl)) (.typ _) (.one (.name rfl)) .range1) .inR) (fun q => Ev.cast (.neg .int) ?_) fun q => .ifx (.cmp (.name (congrArg some (ints_getD S j hj))) (.name rfl) .eqI) (fun q2 => Ev.cast .int ?_) fun q2 => Ev.cast .int ?_
      · unfold signF; rw [if_pos q]
      · unfold signF; rw [if_neg (by rw [q]; decide), if_pos (by simpa using q2)]
      · unfold signF; rw [if_neg (by rw [q]; decide), if_neg (by simpa using q2)]
    · rw [outL_range, List.length_map, range_getD S 0 fun x => D.int (signF S x), List.map_map]; rfl
    · rw [List.length_map, List.length_map]; exact sl8 hS1
  refine b₉.ifs (c := false) ok3 ?_ (fun q => by cases q) fun _ s₁₀ b₁₀ => Bd.nil ?_
  · refine Tr.cast (Tr.or (a := ((runF S : Int) != runF S)) (b := !PyData.eqv (toP (.lst [])) (toP (.lst []))) (Tr.cmp (.call (.glob (v := .ref 141) (by kernel_rfl) (by kernel_rfl)) (ca_f (by kernel_rfl) (by kernel_rfl)) (.one (.name rfl)) (fn_run (k := k) pin sm hri)) (.name rfl) .neI) fun _ => Tr.cmp (a := .lst []) (b := .lst []) ?_ (.list .nil) (Cm.neD (by decide) (by decide))) ?_
    · refine Ev.comp1 (p := fun _ => !(Value.type "int" == Value.type "int")) (f := fun j => .int (signF S (S.getD j 0))) (Src.list (.name rfl)) (fun C => .one _ _ (.loc (by kernel_rfl))) (fun C j hj => Te.one ?_) (fun C j hj hp => ?_) ?_ ?_ rfl (by kernel_rfl) (by kernel_rfl) (fun _ => rfl)
      · rw [List.length_map] at hj
        have e := ints_getD (S.map (signF S)) j hj
        exact .cmp (.call (nm_type (by kernel_rfl)) (.typ _) (.one (.name (congrArg some e))) Fn.type) (.typ (nm_int (by kernel_rfl))) Cm.isNotTyp
      · exact absurd hp (by decide)
      · exact outL_none _ _
      · exact Nat.zero_le _
    · have : ((runF S : Int) != runF S) = false := by simp
      rw [this]; rfl
  have hpw : ∀ p ∈ ps, s.heap.get? p.a = none := fun p hp => (hwd _ (b₁₀.mw _ (pin p hp)).1).elim (fun q => absurd q ((b₁₀.mu _ (pin p hp)).off b₁₀.tab).1) id
  refine b₁₀.assignG ok' (EvG.moved (k := k) (ps := ps) (m := runF S) (.glob (by kernel_rfl) (by kernel_rfl)) (.name rfl) pin sm hri nd (hpl ▸ LS.mv) rfl) (fun a ⟨p, hp, q⟩ => .inr (q ▸ hpw p hp)) (.loc (by kernel_rfl)) fun s₁₁ W₂ μ₂ d r hw3 hw4 b₁₁ => ?_
  obtain ⟨ps2, rfl, pin2, nd2, hpl2⟩ := r
  rw [hpl] at hpl2
  replace hpl2 : ps2.map (·.l) = movedS S := hpl2
  have hwd2 : ∀ a, W₂ a → a = tblA ∨ s.heap.get? a = none := fun a q => (hw3 a q).elim (hwd a) fun q => .inr (q.elim id False.elim)
  have sm2 : PSm ps2 := RowsOk.sm (hpl2 ▸ LS.rows2)
  have hri2 : RunIs ps2 (runOf (movedS S)) := runIs_of (hpl2 ▸ LS.run2)
  have okM : OkD 3 (laidD (movedS S)) := LS.rows2.okD
  have hl2 := sm2.len
  have hal : (afterF S).length = ps2.length := by
    unfold afterF
    rw [List.length_map, List.length_reverse, ← hpl2, List.length_map]
  have hapos : 1 ≤ ps2.length := by
    exact Nat.le_trans hri2.pos hri2.le
  refine b₁₁.ifs (c := false) ok1 ?_ (fun q => by cases q) fun _ s₁₂ b₁₂ => Bd.nil ?_
  · refine Tr.cast (c := !PyData.eqv (toP (laidD (movedS S))) (toP (laidD (movedS S)))) (Tr.cmp ?_ ?_ (Cm.neD (okM.cmp (by decide)) (okM.cmp (by decide)))) (by rw [eqv_self okM]; rfl)
    · exact Ev.cast (.call (.glob (v := .ref 153) (by kernel_rfl) (by kernel_rfl)) (ca_f (by kernel_rfl) (by kernel_rfl)) (.one (.name rfl)) (fn_stones (k := k) pin2 (Nat.le_trans hl2 (by decide)) fun p hp => Nat.le_trans (sm2.row p hp) (by decide))) (congrArg laidD hpl2)
    · refine Ev.cast (.call (.glob (v := .ref 158) (by kernel_rfl) (by kernel_rfl)) (ca_f (by kernel_rfl) (by kernel_rfl)) (.two (.name rfl) (.name rfl)) (fn_due (k := k) (fun e => ?_) (by rw [LS.laidlen]; exact hS2) LS.rows.row LS.dueC)) (congrArg laidD LS.due)
      have h1 := LS.laidlen
      have h2 := LS.pos
      rw [e] at h1
      rw [← h1] at h2
      exact absurd h2 (Nat.lt_irrefl 0)
  have haf : (List.range (ps2.map fun p => D.obj p.a).length).map (fun j => D.int ((ps2.getD (ps2.length - 1 - j) noPile).l.length : Int)) = (afterF S).map .int := piles_after hpl2 fun l => (l.length : Int)
  refine b₁₂.assignC (bs := []) (em := fun Dl env' => emB _ Dl env') (p := fun _ => true) (f := fun j => [.int ((ps2.getD (ps2.length - 1 - j) noPile).l.length : Int)]) (bd := bd1 "pile" fun j => (ps2.map fun p => D.obj p.a).getD ((ps2.map fun p => D.obj p.a).length - 1 - j) .none) (n := (ps2.map fun p => D.obj p.a).length) ok1 (by kernel_rfl) (by kernel_rfl)
    (Src.rev (nm_reversed (by kernel_rfl)) (.name rfl)) rfl (Sc.of (by kernel_rfl)) (fun C => .one _ _ (.loc (by kernel_rfl))) (fun _ _ _ => rfl) ?_ (fun C j hj => Te.nil) (fun C Dl j hj _ => Em.base ?_) ?_ fun s₁₃ b₁₃ => ?_
  · decide
  · rw [List.length_map] at hj
    have hj2 : ps2.length - 1 - j < ps2.length := nq0 hj
    have hnm : (ps2.map fun p => D.obj p.a).getD ((ps2.map fun p => D.obj p.a).length - 1 - j) .none = .obj (ps2.getD (ps2.length - 1 - j) noPile).a := by rw [List.length_map]; exact objs_getD hj2
    refine Fn.pc (k := k) (dx := (ps2.getD (ps2.length - 1 - j) noPile).dx) (.name (congrArg some hnm)) ?_ ⟨_, rfl⟩
    rw [getD_pile hj2]; exact pin2 _ (List.getElem_mem hj2)
  · rw [outL_range, List.length_map, List.length_range, List.length_map]; exact sl8 (Nat.le_trans hl2 (by decide))
  rw [outL_range, haf] at b₁₃
  have hF := LS.fin
  unfold endB at hF
  dsimp only at hF
  have halen : (afterF S).length ≤ 8 := by rw [hal]; exact hl2
  have hazl : ((afterF S).map D.int).length ≤ sizeLine := by rw [List.length_map]; exact sl8 (Nat.le_trans halen (by decide))
  have hm := LS.most
  obtain ⟨c0, c1, c2, c3, c4⟩ := bnds hl
  generalize afterF S = a at *
  refine b₁₃.ifs (c := decide (S = rngL (S.length : Int) (2 * (S.length : Int)))) ok1 ?_ (fun hc s₁₄ b₁₄ => ?_) fun hc s₁₄ b₁₄ => Bd.nil ?_
  · exact Tr.cast (Tr.cmp (a := intsD S) (b := intsD (rngL (S.length : Int) (2 * (S.length : Int)))) (.name rfl) (.call (nm_list (by kernel_rfl)) (.typ _) (.one (.call (nm_range q_range) (.typ _) (.two (.name rfl) (.bin .int (.name rfl) Bo.mul2)) .range2)) (listR c0 c1)) (Cm.eqD ((OkD.ints _).cmp (by decide)) ((OkD.ints _).cmp (by decide)))) (eqv_ints _ _)
  · rw [if_pos (of_decide_eq_true hc)] at hF
    have hE : PyData.eqv (toP (intsD a)) (toP (intsD (1 :: rngL ((S.length : Int) + 2) (2 * (S.length : Int) + 1)))) = true := by rw [eqv_ints]; exact hF
    refine b₁₄.ret ok1 (Ev.cast (.cmp (a := intsD a) (b := intsD (1 :: rngL ((S.length : Int) + 2) (2 * (S.length : Int) + 1))) (.name rfl) (.bin (.list (.one .int) (sl8 (by show 1 ≤ 1000; decide))) (.call (nm_list (by kernel_rfl)) (.typ _) (.one (.call (nm_range q_range) (.typ _) (.two (.bin (.name rfl) .int .add) (.bin (.bin .int (.name rfl) Bo.mul2) .int .add)) .range2)) (listR c3 c4)) (Bo.cat ?_)) (Cm.eqD ((OkD.ints _).cmp (by decide)) ((OkD.ints _).cmp (by decide)))) (congrArg D.bool hE)) fun v s₁₅ b₁₅ d₁₅ => ?_
    · rw [List.length_map]; exact sl8 (rngL_len1 hl).1
    · cases d₁₅
      exact h s₁₅ _ _ b₁₅.toBs b₁₅.ef.go
  rw [if_neg (of_decide_eq_false hc)] at hF
  refine b₁₄.ifs (c := decide (S = rngL ((S.length : Int) + 1) (2 * (S.length : Int) + 1))) ok1 ?_ (fun hc2 s₁₅ b₁₅ => ?_) fun hc2 s₁₅ b₁₅ => Bd.nil ?_
  · exact Tr.cast (Tr.cmp (a := intsD S) (b := intsD (rngL ((S.length : Int) + 1) (2 * (S.length : Int) + 1))) (.name rfl) (.call (nm_list (by kernel_rfl)) (.typ _) (.one (.call (nm_range q_range) (.typ _) (.two (.bin (.name rfl) .int .add) (.bin (.bin .int (.name rfl) Bo.mul2) .int .add)) .range2)) (listR c2 c4)) (Cm.eqD ((OkD.ints _).cmp (by decide)) ((OkD.ints _).cmp (by decide)))) (eqv_ints _ _)
  · rw [if_pos (of_decide_eq_true hc2)] at hF
    have hE : PyData.eqv (toP (intsD a)) (toP (intsD ((S.length : Int) :: rngL (S.length : Int) (2 * (S.length : Int))))) = true := by rw [eqv_ints]; exact hF
    refine b₁₅.ret ok1 (Ev.cast (.cmp (a := intsD a) (b := intsD ((S.length : Int) :: rngL (S.length : Int) (2 * (S.length : Int)))) (.name rfl) (.bin (.list (.one (.name rfl)) (sl8 (by show 1 ≤ 1000; decide))) (.call (nm_list (by kernel_rfl)) (.typ _) (.one (.call (nm_range q_range) (.typ _) (.two (.name rfl) (.bin .int (.name rfl) Bo.mul2)) .range2)) (listR c0 c1)) (Bo.cat ?_)) (Cm.eqD ((OkD.ints _).cmp (by decide)) ((OkD.ints _).cmp (by decide)))) (congrArg D.bool hE)) fun v s₁₆ b₁₆ d₁₆ => ?_
    · rw [List.length_map]; exact sl8 (rngL_len1 hl).2
    · cases d₁₆
      exact h s₁₆ _ _ b₁₆.toBs b₁₆.ef.go
  rw [if_neg (of_decide_eq_false hc2)] at hF
  simp only [Bool.and_eq_true, decide_eq_true_eq] at hF
  obtain ⟨hF1, hF2, hF3⟩ := hF
  have hn1 : pick (a.map D.int) (some ((1 : Nat) : Int)) none none = (a.drop 1).map .int := pick_from a 1
  refine b₁₅.ifs (c := false) ok1 ?_ (fun q => by cases q) fun _ s₁₆ b₁₆ => Bd.nil ?_
  · refine Tr.cast (c := !PyData.eqv (toP (intsD (List.replicate (a.length - 1) (-1)))) (toP (intsD (List.replicate (a.length - 1) (-1))))) (Tr.cmp ?_ ?_ (Cm.neD ((OkD.ints _).cmp (by decide)) ((OkD.ints _).cmp (by decide)))) (by rw [eqv_self (OkD.ints _)]; rfl)
    · refine Ev.comp1 (p := fun _ => true) (f := fun j => .int (twc (a.getD j 0) ((a.drop 1).getD j 0))) (SrcG.castN (n' := min a.length (a.length - 1)) (Src.zip (nm_zip (by kernel_rfl)) (.name rfl) (Ev.cast (.slice (.name rfl) (.some .int) .none .none (by decide) hazl) (congrArg D.lst hn1))) (by rw [List.length_map, List.length_map, List.length_drop])) (fun C => .two _ _ _ _ _ _ (.loc (by kernel_rfl)) (.loc (by kernel_rfl))) (fun C j hj => Te.nil) (fun C j hj _ => ?_) ?_ ?_ rfl (by kernel_rfl) (by kernel_rfl) (fun _ => rfl)
      · have h1 := ints_getD a j (Nat.lt_of_lt_of_le hj (Nat.min_le_left _ _))
        have h2 := ints_getD (a.drop 1) j (by rw [List.length_drop]; exact Nat.lt_of_lt_of_le hj (Nat.min_le_right _ _))
        exact .call (nm_twc (by kernel_rfl)) ca_twc (.two (.name (congrArg some h1)) (.name (congrArg some h2))) (fn_twc (k := k))
      · rw [outL_range, ← hF1, List.map_map]; rfl
      · rw [List.length_map, List.length_replicate]; exact sl8 (Nat.le_trans (Nat.sub_le _ _) (Nat.le_trans halen (by decide)))
    · refine Ev.cast (.bin (.list (.one (.neg .int)) (sl8 (by show 1 ≤ 1000; decide))) (.bin (.call (nm_len q_len) (.blt _) (.one (.name rfl)) (Fn.len hazl)) .int .sub) (Bo.rep (by rw [List.length_map]; exact (repB halen).1) (by rw [List.length_map]; exact (repB halen).2.1))) ?_
      rw [List.length_map]
      show D.lst _ = D.lst ((List.replicate (a.length - 1) (-1)).map D.int)
      rw [List.map_replicate, (repB halen).2.2]
  have hla : a.length ≤ 100 := Nat.le_trans halen (by decide)
  refine b₁₆.tup2s ok1 (a := intsD (trip S)) (b' := intsD (trip a)) (.tuple (.two (.rep3 (.name rfl) hS2 rfl (by kernel_rfl) (fun C => .loc (by kernel_rfl)) (fun C => .loc (by kernel_rfl)) (fun C => nm_range (by kernel_rfl)) (by decide) (by decide)) (.rep3 (.name rfl) hla rfl (by kernel_rfl) (fun C => .loc (by kernel_rfl)) (fun C => .loc (by kernel_rfl)) (fun C => nm_range (by kernel_rfl)) (by decide) (by decide))) (sl8 (by show 2 ≤ 1000; decide))) (.loc (by kernel_rfl)) (.loc (by kernel_rfl)) rfl (by kernel_rfl) fun s₁₇ b₁₇ => ?_
  generalize hMU : (if leastF S ≤ (runF S : Int) then (([leastF S, mostF S + 1 - leastF S] : List Int), ([mostF S + 1, mostF S + 1, mostF S + 1] : List Int)) else ([mostF S, mostF S, mostF S], [(runF S : Int), mostF S - runF S])) = MU at hF2
  obtain ⟨M, U⟩ := MU
  refine b₁₇.assignSld (M := M) (U := U) (n := 50) (k := k) ok1 hfr' rfl (.glob (by kernel_rfl) (by kernel_rfl)) (.name rfl) (.name rfl) (by rw [trip_len]; exact Nat.le_trans (Nat.mul_le_mul_left 3 hl) (by decide)) (by rw [trip_len]; exact Nat.le_trans (Nat.mul_le_mul_left 3 halen) (by decide)) hF2 (.loc (by kernel_rfl)) rfl rfl rfl fun s₁₈ b₁₈ => ?_
  refine b₁₈.ifM (c := decide (leastF S ≤ (runF S : Int))) (ρ' := [("due", .tup [intsD M, intsD U]), ("told", .tup [intsD M, intsD U]), ("ahead", intsD (trip S)), ("behind", intsD (trip a)), ("sizes", intsD S), ("after", intsD a), ("moved", pilesD ps2), ("laid", laidD (laidF S))]) ok1 (.cmp (.name rfl) (.name rfl) .leI) (fun q s' Q' b nx => ?_) (fun q s' Q' b nx => ?_) fun s₁₉ b₁₉ => ?_
  · rw [if_pos (of_decide_eq_true q)] at hMU
    obtain ⟨rfl, rfl⟩ := Prod.mk.inj hMU
    refine b.assign (d := .tup [intsD [leastF S, mostF S + 1 - leastF S], intsD [mostF S + 1, mostF S + 1, mostF S + 1]]) ok1 ?_ (.loc (by kernel_rfl)) fun s'' b'' => Bd.nil (nx _ (b''.only ?_))
    · exact .tuple (.two (.list (.two (.name rfl) (.bin (.bin (.name rfl) .int .add) (.name rfl) .sub)) (sl8 (by show 2 ≤ 1000; decide))) (.bin (.list (.one (.bin (.name rfl) .int .add)) (sl8 (by show 1 ≤ 1000; decide))) .int (Bo.rep (by decide) (by decide)))) (sl8 (by show 2 ≤ 1000; decide))
    · intro p hp
      simp only [List.mem_cons, List.not_mem_nil, or_false] at hp
      rcases hp with rfl | rfl | rfl | rfl | rfl | rfl | rfl | rfl <;> rfl
  · rw [if_neg (of_decide_eq_false q)] at hMU
    obtain ⟨rfl, rfl⟩ := Prod.mk.inj hMU
    refine b.assign (d := .tup [intsD [mostF S, mostF S, mostF S], intsD [(runF S : Int), mostF S - runF S]]) ok1 ?_ (.loc (by kernel_rfl)) fun s'' b'' => Bd.nil (nx _ (b''.only ?_))
    · exact .tuple (.two (.bin (.list (.one (.name rfl)) (sl8 (by show 1 ≤ 1000; decide))) .int (Bo.rep (by decide) (by decide))) (.list (.two (.name rfl) (.bin (.name rfl) (.name rfl) .sub)) (sl8 (by show 2 ≤ 1000; decide)))) (sl8 (by show 2 ≤ 1000; decide))
    · intro p hp
      simp only [List.mem_cons, List.not_mem_nil, or_false] at hp
      rcases hp with rfl | rfl | rfl | rfl | rfl | rfl | rfl | rfl <;> rfl
  have okT : OkD 2 (.tup [intsD M, intsD U]) := .tup fun d hd => by
    rcases List.mem_cons.mp hd with rfl | hd
    · exact .ints _
    · rw [List.mem_singleton.mp hd]; exact .ints _
  have okP : OkD 2 (.lst [intsD (trip S), intsD (trip a)]) := .lst fun d hd => by
    rcases List.mem_cons.mp hd with rfl | hd
    · exact .ints _
    · rw [List.mem_singleton.mp hd]; exact .ints _
  refine b₁₉.ifs (c := false) ok1 ?_ (fun q => by cases q) fun _ s₂₀ b₂₀ => Bd.nil ?_
  · refine Tr.cast (Tr.or (a := !PyData.eqv (toP (.tup [intsD M, intsD U])) (toP (.tup [intsD M, intsD U]))) (b := !PyData.eqv (toP (.lst [intsD (trip S), intsD (trip a)])) (toP (.lst [intsD (trip S), intsD (trip a)])))
      (Tr.cmp (.name rfl) (.name rfl) (Cm.neD (okT.cmp (by decide)) (okT.cmp (by decide)))) fun _ => Tr.cmp (a := .lst [intsD (trip S), intsD (trip a)]) (b := .lst [intsD (trip S), intsD (trip a)]) (.list (.two (.name rfl) (.name rfl)) (sl8 (by show 2 ≤ 1000; decide))) ?_ (Cm.neD (okP.cmp (by decide)) (okP.cmp (by decide)))) (by rw [eqv_self okT, eqv_self okP]; rfl)
    refine Ev.comp1 (n := 2) (bd := bd1 "row" fun i => ([intsD S, intsD a] : List D).getD i .none) (p := fun _ => true) (f := fun j => intsD (trip (if j = 0 then S else a))) (Src.list (.list (.two (.name rfl) (.name rfl)) (sl8 (by show 2 ≤ 1000; decide)))) (fun C => .one _ _ (.loc (by kernel_rfl))) (fun C j hj => Te.nil) (fun C j hj _ => ?_) rfl (sl8 (by show 2 ≤ 1000; decide)) rfl (by kernel_rfl) (by kernel_rfl) (fun _ => rfl)
    have hrow : ([intsD S, intsD a] : List D).getD j .none = intsD (if j = 0 then S else a) := by
      match j, hj with
      | 0, _ => rfl
      | 1, _ => rfl
    have hlen : (if j = 0 then S else a).length ≤ 100 := by
      split
      · exact hS2
      · exact hla
    exact .rep3 (.name (congrArg some hrow)) hlen rfl (by kernel_rfl) (fun C => .loc (by kernel_rfl)) (fun C => .loc (by kernel_rfl)) (fun C => nm_range (by kernel_rfl)) (by decide) (by decide)
  refine b₂₀.retG ok' (EvG.cmp (a := laidD (laidF S)) (b := laidD (laidF S)) (EvG.call1 (.glob (v := .ref 153) (by kernel_rfl) (by kernel_rfl)) (ca_f (by kernel_rfl) (by kernel_rfl)) (EvG.moved (k := k) (ps := ps2) (m := runOf (movedS S)) (.glob (by kernel_rfl) (by kernel_rfl)) (.name rfl) pin2 sm2 hri2 nd2 (hpl2 ▸ LS.mv2) rfl) (fun μ' d r => ?_) rfl) (fun μ' => .name rfl) (Cm.eqD (okL.cmp (by decide)) (okL.cmp (by decide)))) (fun a ⟨p, hp, q⟩ => .inr ?_) fun v s₂₁ W' μ' d r b₂₁ d₂₁ => ?_
  · obtain ⟨ps3, rfl, pin3, nd3, hpl3⟩ := r
    rw [hpl2] at hpl3
    have hpl3' : ps3.map (·.l) = laidF S := hpl3.trans hF3
    have sm3 : PSm ps3 := RowsOk.sm (hpl3' ▸ LS.rows)
    have e := fn_stones (w := w) (k := k + 3) pin3 (Nat.le_trans sm3.len (by decide)) fun p hp => Nat.le_trans (sm3.row p hp) (by decide)
    rw [show ps3.map Pile.l = laidF S from hpl3'] at e
    exact e
  · exact q ▸ (hwd2 _ (b₂₀.mw _ (pin2 p hp)).1).elim (fun z => absurd z ((b₂₀.mu _ (pin2 p hp)).off b₂₀.tab).1) id
  · rw [r] at d₂₁
    rw [eqv_self okL] at d₂₁
    cases d₂₁
    exact h s₂₁ _ _ b₂₁.toBs b₂₁.ef.go
end Mine
open PySem PySem.W PyProof.Rows
set_option Elab.async false
set_option maxRecDepth 100000
set_option linter.unusedVariables false
namespace Mine

variable {w : World}
noncomputable def myK (P : Params) : Frag := (63, { cls := .none, data := .fields #[] }) :: hd.heap_39 P

theorem myK_k {h : Heap} (X : (myK w.params).In h) : (KK w).In h := fun a o e => X a o (by
  unfold myK
  rw [List.lookup_cons]
  cases q : a == 63 with
  | false => exact e
  | true =>
    have q : a = 63 := by simpa using q
    rw [q, (own_tbl w).k] at e; cases e)
theorem well_ints {P : Params} {W : Addr → Prop} {h : Heap} {ns : List Int} : ∀ {vs : List Value}, WellAll P h vs (ofPys (ns.map .int)) → DAll W h vs (ns.map .int) := by
  induction ns with
  | nil => intro vs x; cases x; exact .nil
  | cons n ns ih =>
    intro vs x
    cases x with
    | cons a r =>
      cases a
      exact .cons (.int n _) (ih r)

theorem finish {s₁ : Shared} {mg mb : PySem.Str → Option Value} {fa a : Addr} {ns : List Int} {Q : Value → Shared → Prop} {E : Value → Shared → Prop} (X : (myK w.params).In s₁.heap) (tg : s₁.heap.Ns mainGlobals mg) (tb : s₁.heap.Ns builtinsNs mb) (tbb : ∀ x : PySem.Str, x ≠ "__name__" → mb x = bootBuiltins x) (tn : s₁.heap.NoLimit)
    (bm : ∃ bm ob, mg "__builtins__" = some (.ref bm) ∧ bm ≠ builtinsNs ∧ s₁.heap.get? bm = some ob ∧ ob.cls = .type "module" ∧ ob.dict = some builtinsNs ∧ ob.data = .plain) (hmg : mg "law" = some (.ref fa)) (hg : s₁.gens = #[]) (w1 : Well w.params s₁.heap (.ref a) (ofPy (.list (ns.map .int)))) (hlen : ns.length ≤ 63)
    (h : ∀ s', OldK s₁.heap s'.heap → s'.os = s₁.os → AllBare s'.gens → Q (.bool true) s') : wpAny (MM w) callerA (call (.ref fa) [.ref a]) Q E s₁ := by
  have K := myK_k X
  have t63 : s₁.heap.get? tblA = some (tblO #[]) := X 63 _ (by unfold myK; rw [List.lookup_cons, beq_self_eq_true])
  have hfa : fa = 163 := by
    have := mg_of (n := "law") (v := .ref 163) K tg (by kernel_rfl)
    rw [hmg] at this; cases this; rfl
  subst hfa
  have bs : Bs w (· = tblA) [] s₁ := by
    refine ⟨⟨K, ⟨mg, tg⟩, ⟨mb, tb, tbb⟩, tn, ?_⟩, ⟨#[], t63, trivial⟩, .of_eq hg, rfl, fun a q => q ▸ ⟨_, t63⟩, fun a q => q ▸ own_tbl w, (fun p hp => nomatch hp), (fun p hp => nomatch hp)⟩
    obtain ⟨b, ob, h1, _, h3, h4, h5, h6⟩ := bm
    have := mg_of (n := "__builtins__") (v := .ref 4) K tg (by kernel_rfl)
    rw [h1] at this; cases this
    exact ⟨ob, h3, h4, h5, h6⟩
  have w2 : Well w.params s₁.heap (.ref a) (.list (ofPys (ns.map .int))) := w1
  cases w2 with
  | @list _ vs _ ho hall =>
    refine fn_law (k := 0) (ns := ns) (Nat.le_trans hlen (by decide)) ⟨rfl, by decide, by decide⟩ rfl bs (fun a q => q) (.one (.lst (fun q => ?_) ⟨0, ho⟩ (well_ints hall))) fun s' W' μ' b' g => h s' ⟨fun b o e => ?_, fun b o e => ?_⟩ g.os b'.bare
    · rw [q, t63] at ho; cases ho
    · by_cases hb : b = tblA
      · subst hb
        rw [t63] at e; cases e
        obtain ⟨o, vs, _, _, _, _, _, _, _, h1, h2, h3, h4, _⟩ := codeHd_of_K (c := 67) (P := 63) K (by kernel_rfl)
        obtain ⟨more, hm⟩ := g.gr.tab _ t63
        exact .inr (.inl ⟨⟨67, o, vs, h1, h2, h3, h4⟩, rfl, #[], more, rfl, hm⟩)
      · exact .inl (g.gr.keep b o hb e)
    · by_cases hb : b = tblA
      · subst hb
        obtain ⟨more, hm⟩ := g.gr.tab _ t63
        exact ⟨_, hm⟩
      · exact ⟨o, g.gr.keep b o hb e⟩
end Mine
open PySem PySem.W PyProof.Rows
set_option Elab.async false
set_option maxRecDepth 100000
theorem PySem.Challenge.cw_tv0017_01_holds : PySem.Challenge.rw_tv0017_01.Holds := by
  refine Mine.hd ?_
  intro w s₀ s₁ mg mb G Y fa o pm cd doc dV kV ho hd hcd hD hmg hg args vals as hpre hlay hrd hwl hlo
  have KX : (Mine.myK w.params).In s₁.heap := kIn_of Y
  have T := G.T
  clear Y ho hd hcd hD
  have hmg' : mg (PySem.Str.ofString "law") = some (.ref fa) := hmg
  clear hmg
  wrow_args hpre hlay hrd hwl hlo
  rename_i ns _ _ _ _ _ _ _ a _ _ _ _ w1 _ _ _ hc _
  refine Mine.finish (ns := ns) KX T.g T.b T.builtins T.nolimit T.bmain hmg' hg w1 (by omega) fun s' hold hos hbare => ?_
  exact ⟨.inl ⟨.bool true, .bool true, [], rfl, raisesW_false (by wrow_none_raised), .bool true, (by wrow_post), unshared_nil⟩, hold, hos, hbare⟩
