import JvmDerived
import JvmDerived.Pilot.@@N@@Statement
import JvmDerived.Pilot.@@N@@Code
set_option linter.unusedVariables false
set_option linter.unusedSimpArgs false
namespace Jvm.RoadKit
open Sem ClassFile Op Lib Jvm.Stand Jvm.Free Jvm.LawKit
section New
variable {p : Program} {l : Launch} {e : Env} {R : Room} {s : State} {m : MethodId} {args : Array Value} {below : List Frame} {meth : Method} {c : Code} {T : State} {locs : List Loc} {cells slots : Nat}
theorem retI (X : Stand p l e R s m args below meth c T locs cells slots) (hx : p.tables.exec = Jvm.exec) {pc : Nat} {Ls : Array Slot} {z : Int32} {rest : List Value} (hret : meth.sig.returnType = some .int) (hd : decode c.code pc = .ok (.ireturn, 1)) {fs : List Frame}
    (hl : ∀ (f : JFrame) (acts : List Action), f.method = m → f.locked = none → f.entered = [] → (doReturn e (T.setTop f) acts (some (.int z))).1 = T.setFrames fs) : Steps p.tables e below (T.setTop (mkF m pc Ls (.int z :: rest))) (T.setFrames fs) := by
  have hm' : T.vm.method? m = some meth := X.method'
  have hn : narrow .int (.int z) = .int z := rfl
  show Steps p.tables e below (T.setTop { method := m, pc := pc, locals := Ls, stack := _ :: rest, locked := none }) _
  jvm_step X.here [X.here.top, hx, hd, hm', hret, hn]
  first | (intro acts; rw [hl _ acts rfl rfl rfl]) | rw [hl _ _ rfl rfl rfl]
  exact Steps.refl _
end New
end Jvm.RoadKit
namespace Jvm.Pilot.@@N@@
open Jvm Jvm.ClassFile Sem Op Lib Jvm.Free Jvm.Stand Jvm.LawKit Jvm.RoadKit Bundle Jvm.Pilot.@@N@@.Jvm.D
/-! the plain law: the tree of times, no program in sight -/
def own_upd (f : Nat → Int64) (i : Nat) (v : Int64) : Nat → Int64 := fun j => if j = i then v else f j
def own_path (v : Int64) : Nat → Nat → (Nat → Int64) → (Nat → Int64)
  | 0, _, f => f
  | k + 1, i, f => if i = 0 then f else own_path v k (i / 2) (own_upd f i v)
def own_tree (q : Nat) (f : Nat → Int64) : Prop := ∀ i, 1 ≤ i → i < q → ∀ s : Int64, s < f i ↔ (s < f (2 * i) ∨ s < f (2 * i + 1))
def own_on (i j : Nat) : Prop := ∃ n, i / 2 ^ n = j
theorem own_path0 (v : Int64) (k : Nat) (f : Nat → Int64) : own_path v k 0 f = f := by cases k <;> simp [own_path]
theorem own_pathS (v : Int64) (k i : Nat) (f : Nat → Int64) (h : i ≠ 0) : own_path v (k + 1) i f = own_path v k (i / 2) (own_upd f i v) := by simp [own_path, h]
theorem own_upd_hit (f : Nat → Int64) (i : Nat) (v : Int64) : own_upd f i v i = v := if_pos rfl
theorem own_upd_miss (f : Nat → Int64) {i j : Nat} (v : Int64) (h : j ≠ i) : own_upd f i v j = f j := if_neg h
theorem own_div1 (i n : Nat) : i / 2 ^ (n + 1) = i / 2 / 2 ^ n := by rw [Nat.pow_succ, Nat.mul_comm, Nat.div_div_eq_div_mul]
theorem own_div2 (i n : Nat) : i / 2 ^ (n + 1) = i / 2 ^ n / 2 := by rw [Nat.pow_succ, Nat.div_div_eq_div_mul]
theorem own_path_at (v : Int64) : ∀ (k i : Nat) (f : Nat → Int64) (j : Nat), i ≤ k → 1 ≤ j → (own_on i j → own_path v k i f j = v) ∧ (¬ own_on i j → own_path v k i f j = f j) := by
  intro k
  induction k with
  | zero =>
    intro i f j hi hj
    have h0 : i = 0 := by omega
    subst h0
    refine ⟨?_, fun _ => rfl⟩
    rintro ⟨n, hn⟩
    rw [Nat.zero_div] at hn
    omega
  | succ k ih =>
    intro i f j hi hj
    by_cases h0 : i = 0
    · subst h0
      rw [own_path0]
      refine ⟨?_, fun _ => rfl⟩
      rintro ⟨n, hn⟩
      rw [Nat.zero_div] at hn
      omega
    · rw [own_pathS v k i f h0]
      obtain ⟨a, b⟩ := ih (i / 2) (own_upd f i v) j (by omega) hj
      by_cases hon : own_on (i / 2) j
      · refine ⟨fun _ => a hon, fun hn => absurd ?_ hn⟩
        obtain ⟨n, hn⟩ := hon
        exact ⟨n + 1, by rw [own_div1]; exact hn⟩
      · rw [b hon]
        by_cases hj' : j = i
        · subst hj'
          exact ⟨fun _ => own_upd_hit _ _ _, fun hn => absurd ⟨0, by rw [Nat.pow_zero, Nat.div_one]⟩ hn⟩
        · refine ⟨?_, fun _ => own_upd_miss _ _ hj'⟩
          rintro ⟨n, hn⟩
          cases n with
          | zero => rw [Nat.pow_zero, Nat.div_one] at hn; omega
          | succ n => rw [own_div1] at hn; exact absurd ⟨n, hn⟩ hon
theorem own_top {q : Nat} {f : Nat → Int64} (h : own_tree q f) : ∀ c, 1 ≤ c → c < 2 * q → ¬ f 1 < f c := by
  intro c
  induction c using Nat.strongRecOn with
  | ind c ih =>
    intro h1 h2
    by_cases hc : c = 1
    · subst hc; rw [Int64.lt_iff_toInt_lt]; omega
    · have i1 := ih (c / 2) (by omega) (by omega) (by omega)
      have t := h (c / 2) (by omega) (by omega) (f (c / 2))
      have n0 : ¬ f (c / 2) < f (c / 2) := by rw [Int64.lt_iff_toInt_lt]; omega
      have n1 : ¬ f (c / 2) < f c := by
        intro q1
        apply n0
        rw [t]
        rcases Nat.mod_two_eq_zero_or_one c with hm | hm
        · left; rw [show 2 * (c / 2) = c by omega]; exact q1
        · right; rw [show 2 * (c / 2) + 1 = c by omega]; exact q1
      rw [Int64.lt_iff_toInt_lt] at *
      omega
theorem own_on_one : ∀ i, 1 ≤ i → own_on i 1 := by
  intro i
  induction i using Nat.strongRecOn with
  | ind i ih =>
    intro h1
    by_cases hc : i = 1
    · exact ⟨0, by rw [Nat.pow_zero, Nat.div_one]; exact hc⟩
    · obtain ⟨n, hn⟩ := ih (i / 2) (by omega) (by omega)
      exact ⟨n + 1, by rw [own_div1]; exact hn⟩
theorem own_refer {q d : Nat} {f : Nat → Int64} {v : Int64} (ht : own_tree q f) (hv : f 1 < v) (hd : d < q) :
    own_tree q (own_path v (q + d) (q + d) f) ∧ own_path v (q + d) (q + d) f 1 = v ∧ ∀ e, e < q → own_path v (q + d) (q + d) f (q + e) = if e = d then v else f (q + e) := by
  have A := fun j hj => own_path_at v (q + d) (q + d) f j (Nat.le_refl _) hj
  have hle : ∀ c, 1 ≤ c → c < 2 * q → ¬ v < own_path v (q + d) (q + d) f c := by
    intro c h1 h2
    by_cases hon : own_on (q + d) c
    · rw [(A c h1).1 hon, Int64.lt_iff_toInt_lt]; omega
    · rw [(A c h1).2 hon]
      have := own_top ht c h1 h2
      rw [Int64.lt_iff_toInt_lt] at *
      omega
  refine ⟨?_, (A 1 (Nat.le_refl _)).1 (own_on_one _ (by omega)), ?_⟩
  · intro j h1 h2 s
    by_cases hj : own_on (q + d) j
    · rw [(A j h1).1 hj]
      obtain ⟨n, hn⟩ := hj
      cases n with
      | zero => rw [Nat.pow_zero, Nat.div_one] at hn; omega
      | succ n =>
        rw [own_div2] at hn
        have l0 := hle (2 * j) (by omega) (by omega)
        have l1 := hle (2 * j + 1) (by omega) (by omega)
        constructor
        · intro hs
          have hcase : (q + d) / 2 ^ n = 2 * j ∨ (q + d) / 2 ^ n = 2 * j + 1 := by omega
          rcases hcase with hcase | hcase
          · left; rw [(A (2 * j) (by omega)).1 ⟨n, hcase⟩]; exact hs
          · right; rw [(A (2 * j + 1) (by omega)).1 ⟨n, hcase⟩]; exact hs
        · intro hs
          rw [Int64.lt_iff_toInt_lt] at *
          rw [Int64.lt_iff_toInt_lt] at hs
          omega
    · have m0 : ¬ own_on (q + d) (2 * j) := by
        rintro ⟨n, hn⟩
        exact hj ⟨n + 1, by rw [own_div2, hn]; omega⟩
      have m1 : ¬ own_on (q + d) (2 * j + 1) := by
        rintro ⟨n, hn⟩
        exact hj ⟨n + 1, by rw [own_div2, hn]; omega⟩
      rw [(A j h1).2 hj, (A (2 * j) (by omega)).2 m0, (A (2 * j + 1) (by omega)).2 m1]
      exact ht j h1 h2 s
  · intro e he
    by_cases hed : e = d
    · rw [if_pos hed, hed]
      exact (A (q + d) (by omega)).1 ⟨0, by rw [Nat.pow_zero, Nat.div_one]⟩
    · rw [if_neg hed]
      refine (A (q + e) (by omega)).2 ?_
      rintro ⟨n, hn⟩
      cases n with
      | zero => rw [Nat.pow_zero, Nat.div_one] at hn; omega
      | succ n =>
        rw [own_div1] at hn
        have := Nat.div_le_self ((q + d) / 2) (2 ^ n)
        omega
def own_odd : Nat → Nat → Nat
  | 0, n => n
  | k + 1, n => if n % 2 = 0 then own_odd k (n / 2) else n
def own_out (f : Nat → Int64) (s : Int64) : Nat → Nat → Nat
  | 0, n => n
  | k + 1, n => if n = 0 then 0 else if s < f n then n else own_out f s k (own_odd n n - 1)
def own_dn (f : Nat → Int64) (s : Int64) (q : Nat) : Nat → Nat → Nat
  | 0, n => n
  | k + 1, n => if n < q then own_dn f s q k (if s < f (2 * n + 1) then 2 * n + 1 else 2 * n) else n
theorem own_oddE {k n : Nat} (h : n % 2 = 0) : own_odd (k + 1) n = own_odd k (n / 2) := by simp [own_odd, h]
theorem own_oddO {k n : Nat} (h : ¬ n % 2 = 0) : own_odd (k + 1) n = n := by simp [own_odd, h]
theorem own_out0 {f : Nat → Int64} {s : Int64} {k : Nat} : own_out f s k 0 = 0 := by cases k <;> simp [own_out]
theorem own_outY {f : Nat → Int64} {s : Int64} {k n : Nat} (h0 : n ≠ 0) (h : s < f n) : own_out f s (k + 1) n = n := by simp [own_out, h0, h]
theorem own_outN {f : Nat → Int64} {s : Int64} {k n : Nat} (h0 : n ≠ 0) (h : ¬ s < f n) : own_out f s (k + 1) n = own_out f s k (own_odd n n - 1) := by simp [own_out, h0, h]
theorem own_dnR {f : Nat → Int64} {s : Int64} {q k n : Nat} (h0 : n < q) (h : s < f (2 * n + 1)) : own_dn f s q (k + 1) n = own_dn f s q k (2 * n + 1) := by simp [own_dn, h0, h]
theorem own_dnL {f : Nat → Int64} {s : Int64} {q k n : Nat} (h0 : n < q) (h : ¬ s < f (2 * n + 1)) : own_dn f s q (k + 1) n = own_dn f s q k (2 * n) := by simp [own_dn, h0, h]
theorem own_dnE {f : Nat → Int64} {s : Int64} {q k n : Nat} (h0 : ¬ n < q) : own_dn f s q k n = n := by cases k <;> simp [own_dn, h0]
theorem own_e1 (n k : Nat) : n * 2 ^ (k + 1) = (2 * n) * 2 ^ k := by rw [Nat.pow_succ, Nat.mul_comm 2 n, Nat.mul_assoc, Nat.mul_comm 2]
theorem own_sub {q : Nat} {f : Nat → Int64} (ht : own_tree q f) (s : Int64) : ∀ k n, 1 ≤ n → (n + 1) * 2 ^ k ≤ 2 * q → (¬ s < f n) → ∀ l, n * 2 ^ k ≤ l → l < (n + 1) * 2 ^ k → ¬ s < f l := by
  intro k
  induction k with
  | zero =>
    intro n h1 h2 h3 l h4 h5
    rw [Nat.pow_zero, Nat.mul_one] at h4 h5
    rw [show l = n by omega]
    exact h3
  | succ k ih =>
    intro n h1 h2 h3 l h4 h5
    rw [own_e1] at h2 h4 h5
    have hp : 1 ≤ 2 ^ k := Nat.one_le_two_pow
    have hq : n + 1 ≤ q := by
      have := Nat.le_mul_of_pos_right (2 * (n + 1)) hp
      omega
    rw [ht n h1 (by omega) s, not_or] at h3
    by_cases hl : l < (2 * n + 1) * 2 ^ k
    · refine ih (2 * n) (by omega) ?_ h3.1 l h4 hl
      have : (2 * n + 1) * 2 ^ k ≤ (2 * (n + 1)) * 2 ^ k := Nat.mul_le_mul_right _ (by omega)
      omega
    · exact ih (2 * n + 1) (by omega) h2 h3.2 l (by omega) h5
theorem own_odd_spec : ∀ k n h j, n ≤ k → 1 ≤ n → 2 ^ h ≤ n → n < 2 ^ (h + 1) → ∃ h' j', h' + j' = h + j ∧ 2 ^ h' ≤ own_odd k n ∧ own_odd k n < 2 ^ (h' + 1) ∧ own_odd k n % 2 = 1 ∧ own_odd k n * 2 ^ j' = n * 2 ^ j ∧ own_odd k n ≤ n := by
  intro k
  induction k with
  | zero => intro n h j h1 h2; omega
  | succ k ih =>
    intro n h j h1 h2 h3 h4
    by_cases hm : n % 2 = 0
    · rw [own_oddE hm]
      cases h with
      | zero => rw [Nat.zero_add, Nat.pow_one] at h4; omega
      | succ h =>
        rw [Nat.pow_succ] at h3 h4
        rw [Nat.pow_succ] at h4
        obtain ⟨h', j', e1, e2, e3, e4, e5, e6⟩ := ih (n / 2) h (j + 1) (by omega) (by omega) (by omega) (by rw [Nat.pow_succ]; omega)
        refine ⟨h', j', by omega, e2, e3, e4, ?_, by omega⟩
        rw [e5, own_e1, show 2 * (n / 2) = n by omega]
    · rw [own_oddO hm]
      exact ⟨h, j, rfl, h3, h4, by omega, rfl, Nat.le_refl _⟩
def own_inv (p b : Nat) (f : Nat → Int64) (s : Int64) (n : Nat) : Prop := ∃ h j, h + j = p ∧ 2 ^ h ≤ n ∧ n < 2 ^ (h + 1) ∧ (n + 1) * 2 ^ j ≤ 2 ^ p + b ∧ ∀ l, (n + 1) * 2 ^ j ≤ l → l < 2 ^ p + b → ¬ s < f l
theorem own_out_spec {p b : Nat} {f : Nat → Int64} {s : Int64} (ht : own_tree (2 ^ p) f) (hb : b ≤ 2 ^ p) : ∀ k n, n ≤ k → (n = 0 → ∀ l, 2 ^ p ≤ l → l < 2 ^ p + b → ¬ s < f l) → (n ≠ 0 → own_inv p b f s n) →
    (own_out f s k n = 0 ∧ ∀ l, 2 ^ p ≤ l → l < 2 ^ p + b → ¬ s < f l) ∨ (own_out f s k n ≠ 0 ∧ s < f (own_out f s k n) ∧ own_inv p b f s (own_out f s k n)) := by
  intro k
  induction k with
  | zero =>
    intro n h0 h1 h2
    rw [show n = 0 by omega, own_out0]
    exact Or.inl ⟨rfl, h1 (by omega)⟩
  | succ k ih =>
    intro n h0 h1 h2
    by_cases hn : n = 0
    · subst hn
      rw [own_out0]
      exact Or.inl ⟨rfl, h1 rfl⟩
    · by_cases hs : s < f n
      · rw [own_outY hn hs]
        exact Or.inr ⟨hn, hs, h2 hn⟩
      · rw [own_outN hn hs]
        obtain ⟨h, j, e1, e2, e3, e4, e5⟩ := h2 hn
        obtain ⟨h', j', o1, o2, o3, o4, o5, o6⟩ := own_odd_spec n n h j (Nat.le_refl _) (by omega) e2 e3
        have all : ∀ l, n * 2 ^ j ≤ l → l < 2 ^ p + b → ¬ s < f l := by
          intro l l1 l2
          by_cases hl : l < (n + 1) * 2 ^ j
          · exact own_sub ht s j n (by omega) (by omega) hs l l1 hl
          · exact e5 l (by omega) l2
        rw [← o5] at all
        have hend : own_odd n n * 2 ^ j' ≤ 2 ^ p + b := by
          rw [o5]
          have : n * 2 ^ j ≤ (n + 1) * 2 ^ j := Nat.mul_le_mul_right _ (by omega)
          omega
        generalize own_odd n n = o at *
        refine ih (o - 1) (by omega) ?_ ?_
        · intro ho l l1 l2
          have ho1 : o = 1 := by omega
          subst ho1
          cases h' with
          | zero => rw [Nat.zero_add] at o1; rw [o1, e1, Nat.one_mul] at all; exact all l l1 l2
          | succ h' =>
            rw [Nat.pow_succ] at o2
            have := Nat.one_le_two_pow (n := h')
            omega
        · intro ho
          cases h' with
          | zero => rw [Nat.zero_add, Nat.pow_one] at o3; omega
          | succ h' =>
            refine ⟨h' + 1, j', by omega, ?_, by omega, ?_, ?_⟩
            · rw [Nat.pow_succ] at o2 ⊢; omega
            · rw [show o - 1 + 1 = o by omega]; exact hend
            · rw [show o - 1 + 1 = o by omega]; exact all
theorem own_dn_spec {p b : Nat} {f : Nat → Int64} {s : Int64} (ht : own_tree (2 ^ p) f) (hb : b ≤ 2 ^ p) : ∀ k n, 2 ^ p ≤ n + k → own_inv p b f s n → s < f n →
    2 ^ p ≤ own_dn f s (2 ^ p) k n ∧ own_dn f s (2 ^ p) k n < 2 ^ p + b ∧ s < f (own_dn f s (2 ^ p) k n) ∧ ∀ l, own_dn f s (2 ^ p) k n < l → l < 2 ^ p + b → ¬ s < f l := by
  intro k
  induction k with
  | zero =>
    intro n h0 h1 h2
    rw [own_dnE (by omega)]
    obtain ⟨h, j, e1, e2, e3, e4, e5⟩ := h1
    cases j with
    | zero =>
      rw [Nat.pow_zero, Nat.mul_one] at e4 e5
      exact ⟨by omega, by omega, h2, fun l l1 l2 => e5 l (by omega) l2⟩
    | succ j =>
      have : 2 ^ (h + 1) ≤ 2 ^ p := Nat.pow_le_pow_right (by omega) (by omega)
      omega
  | succ k ih =>
    intro n h0 h1 h2
    by_cases hn : n < 2 ^ p
    · obtain ⟨h, j, e1, e2, e3, e4, e5⟩ := h1
      have hn1 : 1 ≤ n := Nat.le_trans Nat.one_le_two_pow e2
      cases j with
      | zero => rw [Nat.add_zero] at e1; rw [e1] at e2; omega
      | succ j =>
        rw [own_e1] at e4 e5
        have a1 : 2 ^ (h + 1) ≤ 2 * n := by rw [Nat.pow_succ]; omega
        have a2 : 2 * n + 1 < 2 ^ (h + 1 + 1) := by rw [Nat.pow_succ]; omega
        by_cases hr : s < f (2 * n + 1)
        · rw [own_dnR hn hr]
          exact ih (2 * n + 1) (by omega) ⟨h + 1, j, by omega, by omega, a2, e4, e5⟩ hr
        · rw [own_dnL hn hr]
          have hl : s < f (2 * n) := ((ht n hn1 hn s).mp h2).resolve_right hr
          have le : (2 * n + 1) * 2 ^ j ≤ (2 * (n + 1)) * 2 ^ j := Nat.mul_le_mul_right _ (by omega)
          refine ih (2 * n) (by omega) ⟨h + 1, j, by omega, a1, by omega, by omega, ?_⟩ hl
          intro l l1 l2
          by_cases hll : l < (2 * (n + 1)) * 2 ^ j
          · exact own_sub ht s j (2 * n + 1) (by omega) (show (2 * (n + 1)) * 2 ^ j ≤ 2 * 2 ^ p by omega) hr l l1 hll
          · exact e5 l (by omega) l2
    · rw [own_dnE hn]
      obtain ⟨h, j, e1, e2, e3, e4, e5⟩ := h1
      cases j with
      | zero =>
        rw [Nat.pow_zero, Nat.mul_one] at e4 e5
        exact ⟨by omega, by omega, h2, fun l l1 l2 => e5 l (by omega) l2⟩
      | succ j =>
        have : 2 ^ (h + 1) ≤ 2 ^ p := Nat.pow_le_pow_right (by omega) (by omega)
        omega
def own_spec (F : Nat → Int64) (b : Nat) (s : Int64) (r : Int) : Prop := (r = -1 ∧ ∀ d, d < b → ¬ s < F d) ∨ ∃ d, d < b ∧ r = (d : Int) ∧ s < F d ∧ ∀ e, d < e → e < b → ¬ s < F e
theorem own_spec_uniq {F : Nat → Int64} {b : Nat} {s : Int64} {r r' : Int} (h : own_spec F b s r) (h' : own_spec F b s r') : r = r' := by
  rcases h with ⟨e, a⟩ | ⟨d, d1, d2, d3, d4⟩ <;> rcases h' with ⟨e', a'⟩ | ⟨d', d1', d2', d3', d4'⟩
  · omega
  · exact absurd d3' (a d' d1')
  · exact absurd d3 (a' d d1)
  · by_cases h1 : d < d'
    · exact absurd d3' (d4 d' h1 d1')
    · by_cases h2 : d' < d
      · exact absurd d3 (d4' d h2 d1)
      · omega
theorem own_spec_congr {F G : Nat → Int64} {b : Nat} {s : Int64} {r : Int} (e : ∀ d, d < b → F d = G d) (h : own_spec F b s r) : own_spec G b s r := by
  rcases h with ⟨h1, a⟩ | ⟨d, d1, d2, d3, d4⟩
  · exact Or.inl ⟨h1, fun d hd => by rw [← e d hd]; exact a d hd⟩
  · exact Or.inr ⟨d, d1, d2, by rw [← e d d1]; exact d3, fun x hx hb => by rw [← e x hb]; exact d4 x hx hb⟩
/-- the node at which the first loop stops, and the leaf at which the second does -/
def own_n1 (p : Nat) (f : Nat → Int64) (s : Int64) (b : Nat) : Nat := own_out f s (2 ^ p + b - 1) (2 ^ p + b - 1)
def own_n2 (p : Nat) (f : Nat → Int64) (s : Int64) (b : Nat) : Nat := own_dn f s (2 ^ p) (2 ^ p) (own_n1 p f s b)
theorem own_inner {p b : Nat} {f : Nat → Int64} {s : Int64} (ht : own_tree (2 ^ p) f) (hb : b ≤ 2 ^ p) (h1 : 1 ≤ b) :
    (own_n1 p f s b = 0 → own_spec (fun d => f (2 ^ p + d)) b s (-1)) ∧ (own_n1 p f s b ≠ 0 → 2 ^ p ≤ own_n2 p f s b ∧ own_n2 p f s b < 2 ^ p + b ∧ own_spec (fun d => f (2 ^ p + d)) b s ((own_n2 p f s b : Int) - (2 ^ p : Nat))) := by
  have hp : 1 ≤ 2 ^ p := Nat.one_le_two_pow
  have o := own_out_spec (s := s) ht hb (2 ^ p + b - 1) (2 ^ p + b - 1) (Nat.le_refl _) (fun h => by omega) (fun _ => ⟨p, 0, rfl, by omega, by rw [Nat.pow_succ]; omega, by rw [Nat.pow_zero]; omega, fun l l1 l2 => by rw [Nat.pow_zero] at l1; omega⟩)
  have own : own_out f s (2 ^ p + b - 1) (2 ^ p + b - 1) = own_n1 p f s b := rfl
  rw [own] at o
  refine ⟨fun h => ?_, fun h => ?_⟩
  · rcases o with ⟨-, a⟩ | ⟨a, -⟩
    · exact Or.inl ⟨rfl, fun d hd => a _ (by omega) (by omega)⟩
    · exact absurd h a
  · rcases o with ⟨a, -⟩ | ⟨-, a, i⟩
    · exact absurd a h
    · obtain ⟨d1, d2, d3, d4⟩ := own_dn_spec ht hb (2 ^ p) (own_n1 p f s b) (by omega) i a
      have own' : own_dn f s (2 ^ p) (2 ^ p) (own_n1 p f s b) = own_n2 p f s b := rfl
      rw [own'] at d1 d2 d3 d4
      generalize own_n2 p f s b = r at *
      refine ⟨d1, d2, Or.inr ⟨r - 2 ^ p, by omega, by omega, ?_, fun e e1 e2 => d4 _ (by omega) (by omega)⟩⟩
      show s < f (2 ^ p + (r - 2 ^ p))
      rw [show 2 ^ p + (r - 2 ^ p) = r by omega]
      exact d3
theorem own_odd_le : ∀ k n, n ≤ k → 1 ≤ n → own_odd k n ≤ n ∧ 1 ≤ own_odd k n := by
  intro k
  induction k with
  | zero => intro n h1 h2; omega
  | succ k ih =>
    intro n h1 h2
    by_cases hm : n % 2 = 0
    · rw [own_oddE hm]
      have := ih (n / 2) (by omega) (by omega)
      omega
    · rw [own_oddO hm]; omega
theorem own_out_le {f : Nat → Int64} {s : Int64} : ∀ k n, own_out f s k n ≤ n := by
  intro k
  induction k with
  | zero => intro n; exact Nat.le_refl _
  | succ k ih =>
    intro n
    by_cases hn : n = 0
    · subst hn; rw [own_out0]; omega
    · by_cases hs : s < f n
      · rw [own_outY hn hs]; omega
      · rw [own_outN hn hs]
        have := ih (own_odd n n - 1)
        have := own_odd_le n n (Nat.le_refl _) (by omega)
        omega
/-! small naturals as ints -/
theorem own_t {n : Nat} (h : n < 2147483648) : n.toInt32.toInt = n := len_toInt h
theorem own_i {x : Int32} {n : Nat} (h : n < 2147483648) (e : x.toInt = n) : x = n.toInt32 := Int32.toInt_inj.mp (by rw [own_t h]; exact e)
theorem own_tn {n : Nat} (h : n < 2147483648) : n.toInt32.toNatClampNeg = n := by
  show n.toInt32.toInt.toNat = n
  rw [own_t h]; rfl
theorem own_half {n : Nat} (h : n < 2147483648) : n.toInt32 / (2 : Int32) = (n / 2).toInt32 := by
  have q := (c_idiv n.toInt32 2 2 (by decide) (by decide)).1 (by rw [own_t h]; omega)
  rw [own_t h] at q
  exact own_i (by omega) (by rw [q]; omega)
theorem own_par {n : Nat} (h : n < 2147483648) : n.toInt32 % (2 : Int32) = (n % 2).toInt32 := by
  have q := (c_irem n.toInt32 2 2 (by decide)).1 (by rw [own_t h]; omega)
  rw [own_t h] at q
  exact own_i (by omega) (by rw [q]; omega)
theorem own_plus {a b : Nat} (h : a + b < 2147483648) : a.toInt32 + b.toInt32 = (a + b).toInt32 := by
  have q := c_iadd a.toInt32 b.toInt32
  have r := rng32 (a.toInt32 + b.toInt32)
  rw [own_t (by omega), own_t (by omega)] at q
  exact own_i h (by omega)
theorem own_minus {a b : Nat} (h : a < 2147483648) (h1 : b ≤ a) : a.toInt32 - b.toInt32 = (a - b).toInt32 := by
  have q := c_isub a.toInt32 b.toInt32
  have r := rng32 (a.toInt32 - b.toInt32)
  rw [own_t (by omega), own_t (by omega)] at q
  exact own_i (by omega) (by omega)
theorem own_dbl {n : Nat} (h : 2 * n < 2147483648) : (2 : Int32) * n.toInt32 = (2 * n).toInt32 := by
  have q := c_imul (2 : Int32) n.toInt32
  have r := rng32 ((2 : Int32) * n.toInt32)
  rw [own_t (by omega), show (2 : Int32).toInt = 2 from by decide] at q
  exact own_i h (by omega)
theorem own_inc {n : Nat} (h : n + 1 < 2147483648) : n.toInt32 + (1 : Int32) = (n + 1).toInt32 := own_plus (b := 1) h
theorem own_dec {n : Nat} (h : n < 2147483648) (h1 : 1 ≤ n) : n.toInt32 - (1 : Int32) = (n - 1).toInt32 := own_minus (b := 1) h h1
theorem own_lt {a b : Nat} (ha : a < 2147483648) (hb : b < 2147483648) : a.toInt32 < b.toInt32 ↔ a < b := by
  rw [Int32.lt_iff_toInt_lt, own_t ha, own_t hb]; omega
theorem own_pos {n : Nat} (h : n < 2147483648) : (0 : Int32) < n.toInt32 ↔ n ≠ 0 := by
  rw [Int32.lt_iff_toInt_lt, own_t h, show (0 : Int32).toInt = 0 from rfl]; omega
theorem own_is {a b : Nat} (ha : a < 2147483648) (hb : b < 2147483648) : a.toInt32 = b.toInt32 ↔ a = b := by
  rw [← Int32.toInt_inj, own_t ha, own_t hb]; omega
/-! an array of longs, by its values -/
def own_A (Z : State) (h : Heap) (b : Addr) (N : Nat) (f : Nat → Int64) : Prop := ∃ cl : Cell, Arr Z h b cl .long ∧ cl.slots.size = N ∧ ∀ j, j < N → cl.slots[j]? = some (.long (f j))
theorem own_A_lt {Z : State} {h : Heap} {b : Addr} {N : Nat} {f : Nat → Int64} (F : own_A Z h b N f) : b < h.size := by obtain ⟨cl, A, -⟩ := F; exact A.lt
theorem own_A_ext {Z : State} {h h' : Heap} {b : Addr} {N : Nat} {f : Nat → Int64} (F : own_A Z h b N f) (E : Ext h h') : own_A Z h' b N f := by obtain ⟨cl, A, r⟩ := F; exact ⟨cl, A.ext E, r⟩
theorem own_A_keep {Z : State} {h h' : Heap} {b : Addr} {N : Nat} {f : Nat → Int64} {ws : List Addr} (F : own_A Z h b N f) (K : Keep h h' ws) (q : b ∉ ws) : own_A Z h' b N f := by obtain ⟨cl, A, r⟩ := F; exact ⟨cl, ⟨K.2.1 b cl A.1 q, A.2⟩, r⟩
theorem own_A_other {Z : State} {h h' : Heap} {a b : Addr} {N sl : Nat} {v : Value} {f : Nat → Int64} (F : own_A Z h b N f) (W : Wr h h' a sl v) (q : b ≠ a) : own_A Z h' b N f := by obtain ⟨cl, A, r⟩ := F; exact ⟨cl, A.other W q, r⟩
theorem own_slot (cl : Cell) (i j : Nat) (v : Value) : (cl.setSlot i v).slots[j]? = if i = j then (if i < cl.slots.size then some v else none) else cl.slots[j]? := by
  show (cl.slots.setIfInBounds i v)[j]? = _
  rw [Array.getElem?_setIfInBounds]
theorem own_A_set {Z : State} {h h' : Heap} {b : Addr} {N i : Nat} {x : Int64} {f : Nat → Int64} {cl : Cell} (A : Arr Z h b cl .long) (S : cl.slots.size = N) (H : ∀ j, j < N → cl.slots[j]? = some (.long (f j))) (W : Wr h h' b i (.long x)) (hi : i < N) : own_A Z h' b N (own_upd f i x) := by
  refine ⟨_, A.same W, by rw [sz_set]; exact S, fun j hj => ?_⟩
  rw [own_slot]
  by_cases e : i = j
  · rw [if_pos e, if_pos (by omega), e, own_upd_hit]
  · rw [if_neg e, own_upd_miss _ _ (fun q => e q.symm)]; exact H j hj
theorem own_A_new {Z : State} {h : Heap} {b : Addr} {k : ClassId} {n : Nat} (A : Arr Z h b (newA k .long n.toInt32) .long) (hn : n < 2147483648) : own_A Z h b n (fun _ => 0) := by
  have h0 : ¬ n.toInt32 < 0 := by rw [Int32.lt_iff_toInt_lt, own_t hn, show (0 : Int32).toInt = 0 from rfl]; omega
  obtain ⟨cl, B, -, S, -, H, -⟩ := Arv.new A h0
  rw [own_tn hn] at S
  exact ⟨cl, B, S, fun j hj => (H j (by omega)).trans rfl⟩
theorem own_rd {cl : Cell} {N i : Nat} {f : Nat → Int64} {j : Int32} (S : cl.slots.size = N) (H : ∀ j, j < N → cl.slots[j]? = some (.long (f j))) (e : j = i.toInt32) (hi : i < N) (hN : N < 2147483648) : ¬ (j < 0 ∨ cl.slots.size ≤ j.toNatClampNeg) ∧ cl.slots[j.toNatClampNeg]? = some (.long (f i)) := by
  subst e
  rw [S, own_tn (by omega)]
  refine ⟨?_, H i hi⟩
  rw [Int32.lt_iff_toInt_lt, own_t (by omega), show (0 : Int32).toInt = 0 from rfl]
  omega
theorem d_max_0 : decode jdk_29_method_65_code 0 = .ok (.iload_n 0, 1) := by decide +kernel
theorem d_max_1 : decode jdk_29_method_65_code 1 = .ok (.iload_n 1, 1) := by decide +kernel
theorem d_max_2 : decode jdk_29_method_65_code 2 = .ok (.if_icmp .lt 7, 3) := by decide +kernel
theorem d_max_5 : decode jdk_29_method_65_code 5 = .ok (.iload_n 0, 1) := by decide +kernel
theorem d_max_6 : decode jdk_29_method_65_code 6 = .ok (.goto 4, 3) := by decide +kernel
theorem d_max_9 : decode jdk_29_method_65_code 9 = .ok (.iload_n 1, 1) := by decide +kernel
theorem d_max_10 : decode jdk_29_method_65_code 10 = .ok (.ireturn, 1) := by decide +kernel
theorem d_highestOneBit_0 : decode jdk_33_method_45_code 0 = .ok (.iload_n 0, 1) := by decide +kernel
theorem d_highestOneBit_1 : decode jdk_33_method_45_code 1 = .ok (.ldc 127, 2) := by decide +kernel
theorem d_highestOneBit_3 : decode jdk_33_method_45_code 3 = .ok (.iload_n 0, 1) := by decide +kernel
theorem d_highestOneBit_4 : decode jdk_33_method_45_code 4 = .ok (.invokestatic 51, 3) := by decide +kernel
theorem d_highestOneBit_7 : decode jdk_33_method_45_code 7 = .ok (.iushr, 1) := by decide +kernel
theorem d_highestOneBit_8 : decode jdk_33_method_45_code 8 = .ok (.iand, 1) := by decide +kernel
theorem d_highestOneBit_9 : decode jdk_33_method_45_code 9 = .ok (.ireturn, 1) := by decide +kernel
theorem d_numberOfLeadingZeros_0 : decode jdk_33_method_47_code 0 = .ok (.iload_n 0, 1) := by decide +kernel
theorem d_numberOfLeadingZeros_1 : decode jdk_33_method_47_code 1 = .ok (.ifCond .gt 14, 3) := by decide +kernel
theorem d_numberOfLeadingZeros_4 : decode jdk_33_method_47_code 4 = .ok (.iload_n 0, 1) := by decide +kernel
theorem d_numberOfLeadingZeros_5 : decode jdk_33_method_47_code 5 = .ok (.ifCond .ne 8, 3) := by decide +kernel
theorem d_numberOfLeadingZeros_8 : decode jdk_33_method_47_code 8 = .ok (.bipush 32, 2) := by decide +kernel
theorem d_numberOfLeadingZeros_10 : decode jdk_33_method_47_code 10 = .ok (.goto 4, 3) := by decide +kernel
theorem d_numberOfLeadingZeros_13 : decode jdk_33_method_47_code 13 = .ok (.iconst 0, 1) := by decide +kernel
theorem d_numberOfLeadingZeros_14 : decode jdk_33_method_47_code 14 = .ok (.ireturn, 1) := by decide +kernel
theorem d_numberOfLeadingZeros_15 : decode jdk_33_method_47_code 15 = .ok (.bipush 31, 2) := by decide +kernel
theorem d_numberOfLeadingZeros_17 : decode jdk_33_method_47_code 17 = .ok (.istore_n 1, 1) := by decide +kernel
theorem d_numberOfLeadingZeros_18 : decode jdk_33_method_47_code 18 = .ok (.iload_n 0, 1) := by decide +kernel
theorem d_numberOfLeadingZeros_19 : decode jdk_33_method_47_code 19 = .ok (.ldc_w 264, 3) := by decide +kernel
theorem d_numberOfLeadingZeros_22 : decode jdk_33_method_47_code 22 = .ok (.if_icmp .lt 11, 3) := by decide +kernel
theorem d_numberOfLeadingZeros_25 : decode jdk_33_method_47_code 25 = .ok (.iinc 1 (-16), 3) := by decide +kernel
theorem d_numberOfLeadingZeros_28 : decode jdk_33_method_47_code 28 = .ok (.iload_n 0, 1) := by decide +kernel
theorem d_numberOfLeadingZeros_29 : decode jdk_33_method_47_code 29 = .ok (.bipush 16, 2) := by decide +kernel
theorem d_numberOfLeadingZeros_31 : decode jdk_33_method_47_code 31 = .ok (.iushr, 1) := by decide +kernel
theorem d_numberOfLeadingZeros_32 : decode jdk_33_method_47_code 32 = .ok (.istore_n 0, 1) := by decide +kernel
theorem d_numberOfLeadingZeros_33 : decode jdk_33_method_47_code 33 = .ok (.iload_n 0, 1) := by decide +kernel
theorem d_numberOfLeadingZeros_34 : decode jdk_33_method_47_code 34 = .ok (.sipush 256, 3) := by decide +kernel
theorem d_numberOfLeadingZeros_37 : decode jdk_33_method_47_code 37 = .ok (.if_icmp .lt 11, 3) := by decide +kernel
theorem d_numberOfLeadingZeros_40 : decode jdk_33_method_47_code 40 = .ok (.iinc 1 (-8), 3) := by decide +kernel
theorem d_numberOfLeadingZeros_43 : decode jdk_33_method_47_code 43 = .ok (.iload_n 0, 1) := by decide +kernel
theorem d_numberOfLeadingZeros_44 : decode jdk_33_method_47_code 44 = .ok (.bipush 8, 2) := by decide +kernel
theorem d_numberOfLeadingZeros_46 : decode jdk_33_method_47_code 46 = .ok (.iushr, 1) := by decide +kernel
theorem d_numberOfLeadingZeros_47 : decode jdk_33_method_47_code 47 = .ok (.istore_n 0, 1) := by decide +kernel
theorem d_numberOfLeadingZeros_48 : decode jdk_33_method_47_code 48 = .ok (.iload_n 0, 1) := by decide +kernel
theorem d_numberOfLeadingZeros_49 : decode jdk_33_method_47_code 49 = .ok (.bipush 16, 2) := by decide +kernel
theorem d_numberOfLeadingZeros_51 : decode jdk_33_method_47_code 51 = .ok (.if_icmp .lt 10, 3) := by decide +kernel
theorem d_numberOfLeadingZeros_54 : decode jdk_33_method_47_code 54 = .ok (.iinc 1 (-4), 3) := by decide +kernel
theorem d_numberOfLeadingZeros_57 : decode jdk_33_method_47_code 57 = .ok (.iload_n 0, 1) := by decide +kernel
theorem d_numberOfLeadingZeros_58 : decode jdk_33_method_47_code 58 = .ok (.iconst 4, 1) := by decide +kernel
theorem d_numberOfLeadingZeros_59 : decode jdk_33_method_47_code 59 = .ok (.iushr, 1) := by decide +kernel
theorem d_numberOfLeadingZeros_60 : decode jdk_33_method_47_code 60 = .ok (.istore_n 0, 1) := by decide +kernel
theorem d_numberOfLeadingZeros_61 : decode jdk_33_method_47_code 61 = .ok (.iload_n 0, 1) := by decide +kernel
theorem d_numberOfLeadingZeros_62 : decode jdk_33_method_47_code 62 = .ok (.iconst 4, 1) := by decide +kernel
theorem d_numberOfLeadingZeros_63 : decode jdk_33_method_47_code 63 = .ok (.if_icmp .lt 10, 3) := by decide +kernel
theorem d_numberOfLeadingZeros_66 : decode jdk_33_method_47_code 66 = .ok (.iinc 1 (-2), 3) := by decide +kernel
theorem d_numberOfLeadingZeros_69 : decode jdk_33_method_47_code 69 = .ok (.iload_n 0, 1) := by decide +kernel
theorem d_numberOfLeadingZeros_70 : decode jdk_33_method_47_code 70 = .ok (.iconst 2, 1) := by decide +kernel
theorem d_numberOfLeadingZeros_71 : decode jdk_33_method_47_code 71 = .ok (.iushr, 1) := by decide +kernel
theorem d_numberOfLeadingZeros_72 : decode jdk_33_method_47_code 72 = .ok (.istore_n 0, 1) := by decide +kernel
theorem d_numberOfLeadingZeros_73 : decode jdk_33_method_47_code 73 = .ok (.iload_n 1, 1) := by decide +kernel
theorem d_numberOfLeadingZeros_74 : decode jdk_33_method_47_code 74 = .ok (.iload_n 0, 1) := by decide +kernel
theorem d_numberOfLeadingZeros_75 : decode jdk_33_method_47_code 75 = .ok (.iconst 1, 1) := by decide +kernel
theorem d_numberOfLeadingZeros_76 : decode jdk_33_method_47_code 76 = .ok (.iushr, 1) := by decide +kernel
theorem d_numberOfLeadingZeros_77 : decode jdk_33_method_47_code 77 = .ok (.isub, 1) := by decide +kernel
theorem d_numberOfLeadingZeros_78 : decode jdk_33_method_47_code 78 = .ok (.ireturn, 1) := by decide +kernel
theorem pn_int : plainName "java/lang/Integer" = true := by first | (simp [plainName, overriddenIn]; done) | decide +kernel
theorem ef_mx (m : MethodId) (x0 : Int32) (x1 : Int32) : entryFrame m #[(.int x0), (.int x1)] 2 = mkF m 0 #[.val (.int x0), .val (.int x1)] [] := by first | (simp [entryFrame, mkF, argsToLocals, Value.category]; done) | rfl
theorem ef_nlz (m : MethodId) (x0 : Int32) : entryFrame m #[(.int x0)] 2 = mkF m 0 #[.val (.int x0), .unset] [] := by first | (simp [entryFrame, mkF, argsToLocals, Value.category]; done) | rfl
theorem ef_hob (m : MethodId) (x0 : Int32) : entryFrame m #[(.int x0)] 1 = mkF m 0 #[.val (.int x0)] [] := by first | (simp [entryFrame, mkF, argsToLocals, Value.category]; done) | rfl
theorem pd_ii_i : parseMethodDescriptor "(II)I" = some ⟨[.int, .int], some .int⟩ := by decide +kernel
theorem pd_i_i : parseMethodDescriptor "(I)I" = some ⟨[.int], some .int⟩ := by decide +kernel
def own_mx (a b : Int32) : Int32 := if a < b then b else a
def Q_rm_mx (Z : State) (p1 : Int32) (p2 : Int32)  (h0 : Heap) (n0 : Nat) (v : Option Value) (h : Heap) (L : List Loc) : Prop := (v = some (.int (own_mx p1 p2)) ∧ Fr n0 L ∧ h = h0)
set_option maxRecDepth 65536 in
set_option maxHeartbeats 40000000 in
theorem rm_mx (l : Launch) (Z : State) (a0 : Array Value) (hw : ∀ d ∈ tables_1, d.before a0 Z = true) (ws : List Jvm.Cond) (p1 : Int32) (p2 : Int32) (h0 : Heap) (n0 : Nat)  :
    MetFree l (⟨"java/lang/Math", "max", "(II)I"⟩ : MethodName) (head1 (Jvm.Cond.code (⟨"java/lang/Math", "max", "(II)I"⟩ : MethodName) jdk_29_method_65_code 2 (some .int) :: ws) ({ frames := 0, cells := 0, slots := 0, locals := 0 } : Room)) (fun a U => a = #[(.int p1), (.int p2)] ∧ Z.Warmed39 U.vm ∧ U.heap = h0) (fun _ _ _ _ _ => True) (fun _ U oc U' => ∃ v L, oc = .returned v ∧ Q_rm_mx Z p1 p2 h0 n0 v U'.heap L ∧ FrameEnd U oc U' L ({ frames := 0, cells := 0, slots := 0, locals := 0 } : Room).cells ({ frames := 0, cells := 0, slots := 0, locals := 0 } : Room).slots) := by
  refine MetFree.of_bodySF (Jvm.Free.JP.mathPlain rfl (by decide +kernel)) hisR ?_
  intro p e s m args below meth c s₁ Bd hml0 hP hK
  obtain ⟨rfl, hZ, hh⟩ := hP
  have hx := Bd.exec
  have hby := Bd.bytes
  have hml : c.maxLocals = 2 := hml0
  have hown : s.vm.findClass "java/lang/Math" = some m.cls := findClass_of_methodNamed Bd.named
  have hnm := (name_of_methodNamed Bd.named Bd.method).1
  have X0 : Stand p l e ({ frames := 0, cells := 0, slots := 0, locals := 0 } : Room) s m #[(.int p1), (.int p2)] below meth c s₁ [] 0 0 := Stand.of_body Bd
  have e0 : s₁.heap = h0 := by rw [← hh, Bd.state]; rfl
  have N0 := Fr.nil n0
  have pre0 : ∀ t, Steps p.tables e below (s₁.setTop (mkF m 0 #[.val (.int p1), .val (.int p2)] [])) t → Steps p.tables e below (s₁.setTop (entryFrame m #[(.int p1), (.int p2)] 2)) t := fun t k => castTop (ef_mx m p1 p2) k
  obtain ⟨fs, hr, hrun, hended, hW, hsame⟩ := X0.leave (v := some (.int (own_mx p1 p2))) (fun h => by rw [Bd.returns] at h; cases h)
  refine ⟨_, _, pre0 _ ?_, hrun, hended, _, _, rfl, ⟨rfl, N0, e0⟩, ⟨_, rfl⟩, hW, hsame.mono (by decide) (by decide)⟩
  show Steps p.tables e below (s₁.setTop (mkF m 0 #[.val (.int p1), .val (.int p2)] [])) _
  refine XS.iloadN X0.here hx rfl (hb hby d_max_0) rfl ?_
  show Steps p.tables e below (s₁.setTop (mkF m 1 #[.val (.int p1), .val (.int p2)] [(.int p1)])) _
  refine XS.iloadN X0.here hx rfl (hb hby d_max_1) rfl ?_
  by_cases hc2 : p1 < p2
  · show Steps p.tables e below (s₁.setTop (mkF m 2 #[.val (.int p1), .val (.int p2)] [(.int p2), (.int p1)])) _
    refine XS.icmpYes X0.here hx rfl (pc0 := 2) (pc' := 9) rfl (hb hby d_max_2) rfl (tlt hc2).1 (by decide) (by decide) ?_
    show Steps p.tables e below (s₁.setTop (mkF m 9 #[.val (.int p1), .val (.int p2)] [])) _
    refine XS.iloadN X0.here hx rfl (hb hby d_max_9) rfl ?_
    show Steps p.tables e below (s₁.setTop (mkF m 10 #[.val (.int p1), .val (.int p2)] [(.int p2)])) _
    have hv : own_mx p1 p2 = p2 := if_pos hc2
    rw [hv] at hr
    exact retI X0 hx Bd.returns (hb hby d_max_10) hr
  · show Steps p.tables e below (s₁.setTop (mkF m 2 #[.val (.int p1), .val (.int p2)] [(.int p2), (.int p1)])) _
    refine XS.icmpNo X0.here hx rfl (hb hby d_max_2) rfl (flt hc2).1 ?_
    show Steps p.tables e below (s₁.setTop (mkF m 5 #[.val (.int p1), .val (.int p2)] [])) _
    refine XS.iloadN X0.here hx rfl (hb hby d_max_5) rfl ?_
    show Steps p.tables e below (s₁.setTop (mkF m 6 #[.val (.int p1), .val (.int p2)] [(.int p1)])) _
    refine XS.goto X0.here hx rfl (pc0 := 6) (pc' := 10) rfl (hb hby d_max_6) (by decide) (by decide) ?_
    show Steps p.tables e below (s₁.setTop (mkF m 10 #[.val (.int p1), .val (.int p2)] [(.int p1)])) _
    have hv : own_mx p1 p2 = p1 := if_neg hc2
    rw [hv] at hr
    exact retI X0 hx Bd.returns (hb hby d_max_10) hr
def own_y1 (x : Int32) : Int32 := if x < (16 : Int32) then x else ((x.toUInt32 >>> ((4 : Int32) &&& 31).toUInt32).toInt32)
def own_k1 (x : Int32) : Int32 := if x < (16 : Int32) then (31 : Int32) else ((31 : Int32) + (-4 : Int32))
def own_y2 (x : Int32) : Int32 := if own_y1 x < (4 : Int32) then own_y1 x else (((own_y1 x).toUInt32 >>> ((2 : Int32) &&& 31).toUInt32).toInt32)
def own_k2 (x : Int32) : Int32 := if own_y1 x < (4 : Int32) then own_k1 x else (own_k1 x + (-2 : Int32))
def own_nlz (x : Int32) : Int32 := own_k2 x - (((own_y2 x).toUInt32 >>> ((1 : Int32) &&& 31).toUInt32).toInt32)
def Q_rm_nlz (Z : State) (p1 : Int32)  (h0 : Heap) (n0 : Nat) (v : Option Value) (h : Heap) (L : List Loc) : Prop := (v = some (.int (own_nlz p1)) ∧ Fr n0 L ∧ h = h0)
set_option maxRecDepth 65536 in
set_option maxHeartbeats 40000000 in
theorem rm_nlz (l : Launch) (Z : State) (a0 : Array Value) (hw : ∀ d ∈ tables_1, d.before a0 Z = true) (ws : List Jvm.Cond) (p1 : Int32) (h0 : Heap) (n0 : Nat) (q0 : (0 : Int32) < p1) (q1 : p1 < (256 : Int32)) :
    MetFree l (⟨"java/lang/Integer", "numberOfLeadingZeros", "(I)I"⟩ : MethodName) (head1 (Jvm.Cond.code (⟨"java/lang/Integer", "numberOfLeadingZeros", "(I)I"⟩ : MethodName) jdk_33_method_47_code 2 (some .int) :: ws) ({ frames := 0, cells := 0, slots := 0, locals := 0 } : Room)) (fun a U => a = #[(.int p1)] ∧ Z.Warmed39 U.vm ∧ U.heap = h0) (fun _ _ _ _ _ => True) (fun _ U oc U' => ∃ v L, oc = .returned v ∧ Q_rm_nlz Z p1 h0 n0 v U'.heap L ∧ FrameEnd U oc U' L ({ frames := 0, cells := 0, slots := 0, locals := 0 } : Room).cells ({ frames := 0, cells := 0, slots := 0, locals := 0 } : Room).slots) := by
  refine MetFree.of_bodySF (plainFor_of_name pn_int) hisR ?_
  intro p e s m args below meth c s₁ Bd hml0 hP hK
  obtain ⟨rfl, hZ, hh⟩ := hP
  have hx := Bd.exec
  have hby := Bd.bytes
  have hml : c.maxLocals = 2 := hml0
  have hown : s.vm.findClass "java/lang/Integer" = some m.cls := findClass_of_methodNamed Bd.named
  have hnm := (name_of_methodNamed Bd.named Bd.method).1
  have X0 : Stand p l e ({ frames := 0, cells := 0, slots := 0, locals := 0 } : Room) s m #[(.int p1)] below meth c s₁ [] 0 0 := Stand.of_body Bd
  have e0 : s₁.heap = h0 := by rw [← hh, Bd.state]; rfl
  have N0 := Fr.nil n0
  have pre0 : ∀ t, Steps p.tables e below (s₁.setTop (mkF m 0 #[.val (.int p1), .unset] [])) t → Steps p.tables e below (s₁.setTop (entryFrame m #[(.int p1)] 2)) t := fun t k => castTop (ef_nlz m p1) k
  obtain ⟨fs, hr, hrun, hended, hW, hsame⟩ := X0.leave (v := some (.int (own_nlz p1))) (fun h => by rw [Bd.returns] at h; cases h)
  refine ⟨_, _, pre0 _ ?_, hrun, hended, _, _, rfl, ⟨rfl, N0, e0⟩, ⟨_, rfl⟩, hW, hsame.mono (by decide) (by decide)⟩
  have hc1 : (0 : Int32) < p1 := q0
  have hc37 : p1 < (256 : Int32) := q1
  have hc22 : p1 < (65536 : Int32) := by
    rw [Int32.lt_iff_toInt_lt] at *
    rw [show (65536 : Int32).toInt = 65536 from by decide]
    rw [show (256 : Int32).toInt = 256 from by decide] at q1
    omega
  show Steps p.tables e below (s₁.setTop (mkF m 0 #[.val (.int p1), .unset] [])) _
  refine XS.iloadN X0.here hx rfl (hb hby d_numberOfLeadingZeros_0) rfl ?_
  show Steps p.tables e below (s₁.setTop (mkF m 1 #[.val (.int p1), .unset] [(.int p1)])) _
  refine XS.ifYes X0.here hx rfl (pc0 := 1) (pc' := 15) rfl (hb hby d_numberOfLeadingZeros_1) rfl ((if0 _ _).trans (tlt hc1).2.2.1) (by decide) (by decide) ?_
  show Steps p.tables e below (s₁.setTop (mkF m 15 #[.val (.int p1), .unset] [])) _
  refine XS.bipush X0.here hx rfl (hb hby d_numberOfLeadingZeros_15) ?_
  show Steps p.tables e below (s₁.setTop (mkF m 17 #[.val (.int p1), .unset] [(.int (31 : Int32))])) _
  refine XS.istoreN X0.here hx rfl (hb hby d_numberOfLeadingZeros_17) rfl (l' := #[.val (.int p1), .val (.int (31 : Int32))]) rfl ?_
  show Steps p.tables e below (s₁.setTop (mkF m 18 #[.val (.int p1), .val (.int (31 : Int32))] [])) _
  refine XS.iloadN X0.here hx rfl (hb hby d_numberOfLeadingZeros_18) rfl ?_
  show Steps p.tables e below (s₁.setTop (mkF m 19 #[.val (.int p1), .val (.int (31 : Int32))] [(.int p1)])) _
  refine Jvm.Stand.ldcWI X0 hx hown (mvT hZ (hw _ (List.mem_of_getElem? (i := 21) rfl))) rfl (hb hby d_numberOfLeadingZeros_19) ?_
  show Steps p.tables e below (s₁.setTop (mkF m 22 #[.val (.int p1), .val (.int (31 : Int32))] [(.int (65536 : Int32)), (.int p1)])) _
  refine XS.icmpYes X0.here hx rfl (pc0 := 22) (pc' := 33) rfl (hb hby d_numberOfLeadingZeros_22) rfl (tlt hc22).1 (by decide) (by decide) ?_
  show Steps p.tables e below (s₁.setTop (mkF m 33 #[.val (.int p1), .val (.int (31 : Int32))] [])) _
  refine XS.iloadN X0.here hx rfl (hb hby d_numberOfLeadingZeros_33) rfl ?_
  show Steps p.tables e below (s₁.setTop (mkF m 34 #[.val (.int p1), .val (.int (31 : Int32))] [(.int p1)])) _
  refine XS.sipush X0.here hx rfl (hb hby d_numberOfLeadingZeros_34) ?_
  show Steps p.tables e below (s₁.setTop (mkF m 37 #[.val (.int p1), .val (.int (31 : Int32))] [(.int (256 : Int32)), (.int p1)])) _
  refine XS.icmpYes X0.here hx rfl (pc0 := 37) (pc' := 48) rfl (hb hby d_numberOfLeadingZeros_37) rfl (tlt hc37).1 (by decide) (by decide) ?_
  show Steps p.tables e below (s₁.setTop (mkF m 48 #[.val (.int p1), .val (.int (31 : Int32))] [])) _
  refine XS.iloadN X0.here hx rfl (hb hby d_numberOfLeadingZeros_48) rfl ?_
  show Steps p.tables e below (s₁.setTop (mkF m 49 #[.val (.int p1), .val (.int (31 : Int32))] [(.int p1)])) _
  refine XS.bipush X0.here hx rfl (hb hby d_numberOfLeadingZeros_49) ?_
  by_cases hc51 : p1 < (16 : Int32)
  · show Steps p.tables e below (s₁.setTop (mkF m 51 #[.val (.int p1), .val (.int (31 : Int32))] [(.int (16 : Int32)), (.int p1)])) _
    refine XS.icmpYes X0.here hx rfl (pc0 := 51) (pc' := 61) rfl (hb hby d_numberOfLeadingZeros_51) rfl (tlt hc51).1 (by decide) (by decide) ?_
    show Steps p.tables e below (s₁.setTop (mkF m 61 #[.val (.int p1), .val (.int (31 : Int32))] [])) _
    refine XS.iloadN X0.here hx rfl (hb hby d_numberOfLeadingZeros_61) rfl ?_
    show Steps p.tables e below (s₁.setTop (mkF m 62 #[.val (.int p1), .val (.int (31 : Int32))] [(.int p1)])) _
    refine XS.iconst X0.here hx rfl (hb hby d_numberOfLeadingZeros_62) ?_
    have y1 : own_y1 p1 = p1 := if_pos hc51
    have k1 : own_k1 p1 = (31 : Int32) := if_pos hc51
    by_cases hc63 : p1 < (4 : Int32)
    · show Steps p.tables e below (s₁.setTop (mkF m 63 #[.val (.int p1), .val (.int (31 : Int32))] [(.int (4 : Int32)), (.int p1)])) _
      refine XS.icmpYes X0.here hx rfl (pc0 := 63) (pc' := 73) rfl (hb hby d_numberOfLeadingZeros_63) rfl (tlt hc63).1 (by decide) (by decide) ?_
      show Steps p.tables e below (s₁.setTop (mkF m 73 #[.val (.int p1), .val (.int (31 : Int32))] [])) _
      refine XS.iloadN X0.here hx rfl (hb hby d_numberOfLeadingZeros_73) rfl ?_
      show Steps p.tables e below (s₁.setTop (mkF m 74 #[.val (.int p1), .val (.int (31 : Int32))] [(.int (31 : Int32))])) _
      refine XS.iloadN X0.here hx rfl (hb hby d_numberOfLeadingZeros_74) rfl ?_
      show Steps p.tables e below (s₁.setTop (mkF m 75 #[.val (.int p1), .val (.int (31 : Int32))] [(.int p1), (.int (31 : Int32))])) _
      refine XS.iconst X0.here hx rfl (hb hby d_numberOfLeadingZeros_75) ?_
      show Steps p.tables e below (s₁.setTop (mkF m 76 #[.val (.int p1), .val (.int (31 : Int32))] [(.int (1 : Int32)), (.int p1), (.int (31 : Int32))])) _
      refine XS.iushr X0.here hx rfl (hb hby d_numberOfLeadingZeros_76) rfl ?_
      show Steps p.tables e below (s₁.setTop (mkF m 77 #[.val (.int p1), .val (.int (31 : Int32))] [(.int ((p1.toUInt32 >>> ((1 : Int32) &&& 31).toUInt32).toInt32)), (.int (31 : Int32))])) _
      refine XS.isub X0.here hx rfl (hb hby d_numberOfLeadingZeros_77) rfl ?_
      show Steps p.tables e below (s₁.setTop (mkF m 78 #[.val (.int p1), .val (.int (31 : Int32))] [(.int ((31 : Int32) - ((p1.toUInt32 >>> ((1 : Int32) &&& 31).toUInt32).toInt32)))])) _
      have y2 : own_y2 p1 = p1 := by rw [own_y2, y1]; exact if_pos hc63
      have k2 : own_k2 p1 = (31 : Int32) := by rw [own_k2, y1, k1]; exact if_pos hc63
      have hv : own_nlz p1 = ((31 : Int32) - ((p1.toUInt32 >>> ((1 : Int32) &&& 31).toUInt32).toInt32)) := by rw [own_nlz, k2, y2]
      rw [hv] at hr
      exact retI X0 hx Bd.returns (hb hby d_numberOfLeadingZeros_78) hr
    · show Steps p.tables e below (s₁.setTop (mkF m 63 #[.val (.int p1), .val (.int (31 : Int32))] [(.int (4 : Int32)), (.int p1)])) _
      refine XS.icmpNo X0.here hx rfl (hb hby d_numberOfLeadingZeros_63) rfl (flt hc63).1 ?_
      show Steps p.tables e below (s₁.setTop (mkF m 66 #[.val (.int p1), .val (.int (31 : Int32))] [])) _
      refine XS.iinc X0.here hx rfl (hb hby d_numberOfLeadingZeros_66) rfl (l' := #[.val (.int p1), .val (.int ((31 : Int32) + (-2 : Int32)))]) rfl ?_
      show Steps p.tables e below (s₁.setTop (mkF m 69 #[.val (.int p1), .val (.int ((31 : Int32) + (-2 : Int32)))] [])) _
      refine XS.iloadN X0.here hx rfl (hb hby d_numberOfLeadingZeros_69) rfl ?_
      show Steps p.tables e below (s₁.setTop (mkF m 70 #[.val (.int p1), .val (.int ((31 : Int32) + (-2 : Int32)))] [(.int p1)])) _
      refine XS.iconst X0.here hx rfl (hb hby d_numberOfLeadingZeros_70) ?_
      show Steps p.tables e below (s₁.setTop (mkF m 71 #[.val (.int p1), .val (.int ((31 : Int32) + (-2 : Int32)))] [(.int (2 : Int32)), (.int p1)])) _
      refine XS.iushr X0.here hx rfl (hb hby d_numberOfLeadingZeros_71) rfl ?_
      show Steps p.tables e below (s₁.setTop (mkF m 72 #[.val (.int p1), .val (.int ((31 : Int32) + (-2 : Int32)))] [(.int ((p1.toUInt32 >>> ((2 : Int32) &&& 31).toUInt32).toInt32))])) _
      refine XS.istoreN X0.here hx rfl (hb hby d_numberOfLeadingZeros_72) rfl (l' := #[.val (.int ((p1.toUInt32 >>> ((2 : Int32) &&& 31).toUInt32).toInt32)), .val (.int ((31 : Int32) + (-2 : Int32)))]) rfl ?_
      show Steps p.tables e below (s₁.setTop (mkF m 73 #[.val (.int ((p1.toUInt32 >>> ((2 : Int32) &&& 31).toUInt32).toInt32)), .val (.int ((31 : Int32) + (-2 : Int32)))] [])) _
      refine XS.iloadN X0.here hx rfl (hb hby d_numberOfLeadingZeros_73) rfl ?_
      show Steps p.tables e below (s₁.setTop (mkF m 74 #[.val (.int ((p1.toUInt32 >>> ((2 : Int32) &&& 31).toUInt32).toInt32)), .val (.int ((31 : Int32) + (-2 : Int32)))] [(.int ((31 : Int32) + (-2 : Int32)))])) _
      refine XS.iloadN X0.here hx rfl (hb hby d_numberOfLeadingZeros_74) rfl ?_
      show Steps p.tables e below (s₁.setTop (mkF m 75 #[.val (.int ((p1.toUInt32 >>> ((2 : Int32) &&& 31).toUInt32).toInt32)), .val (.int ((31 : Int32) + (-2 : Int32)))] [(.int ((p1.toUInt32 >>> ((2 : Int32) &&& 31).toUInt32).toInt32)), (.int ((31 : Int32) + (-2 : Int32)))])) _
      refine XS.iconst X0.here hx rfl (hb hby d_numberOfLeadingZeros_75) ?_
      show Steps p.tables e below (s₁.setTop (mkF m 76 #[.val (.int ((p1.toUInt32 >>> ((2 : Int32) &&& 31).toUInt32).toInt32)), .val (.int ((31 : Int32) + (-2 : Int32)))] [(.int (1 : Int32)), (.int ((p1.toUInt32 >>> ((2 : Int32) &&& 31).toUInt32).toInt32)), (.int ((31 : Int32) + (-2 : Int32)))])) _
      refine XS.iushr X0.here hx rfl (hb hby d_numberOfLeadingZeros_76) rfl ?_
      show Steps p.tables e below (s₁.setTop (mkF m 77 #[.val (.int ((p1.toUInt32 >>> ((2 : Int32) &&& 31).toUInt32).toInt32)), .val (.int ((31 : Int32) + (-2 : Int32)))] [(.int ((((p1.toUInt32 >>> ((2 : Int32) &&& 31).toUInt32).toInt32).toUInt32 >>> ((1 : Int32) &&& 31).toUInt32).toInt32)), (.int ((31 : Int32) + (-2 : Int32)))])) _
      refine XS.isub X0.here hx rfl (hb hby d_numberOfLeadingZeros_77) rfl ?_
      show Steps p.tables e below (s₁.setTop (mkF m 78 #[.val (.int ((p1.toUInt32 >>> ((2 : Int32) &&& 31).toUInt32).toInt32)), .val (.int ((31 : Int32) + (-2 : Int32)))] [(.int (((31 : Int32) + (-2 : Int32)) - ((((p1.toUInt32 >>> ((2 : Int32) &&& 31).toUInt32).toInt32).toUInt32 >>> ((1 : Int32) &&& 31).toUInt32).toInt32)))])) _
      have y2 : own_y2 p1 = ((p1.toUInt32 >>> ((2 : Int32) &&& 31).toUInt32).toInt32) := by rw [own_y2, y1]; exact if_neg hc63
      have k2 : own_k2 p1 = ((31 : Int32) + (-2 : Int32)) := by rw [own_k2, y1, k1]; exact if_neg hc63
      have hv : own_nlz p1 = (((31 : Int32) + (-2 : Int32)) - ((((p1.toUInt32 >>> ((2 : Int32) &&& 31).toUInt32).toInt32).toUInt32 >>> ((1 : Int32) &&& 31).toUInt32).toInt32)) := by rw [own_nlz, k2, y2]
      rw [hv] at hr
      exact retI X0 hx Bd.returns (hb hby d_numberOfLeadingZeros_78) hr
  · show Steps p.tables e below (s₁.setTop (mkF m 51 #[.val (.int p1), .val (.int (31 : Int32))] [(.int (16 : Int32)), (.int p1)])) _
    refine XS.icmpNo X0.here hx rfl (hb hby d_numberOfLeadingZeros_51) rfl (flt hc51).1 ?_
    show Steps p.tables e below (s₁.setTop (mkF m 54 #[.val (.int p1), .val (.int (31 : Int32))] [])) _
    refine XS.iinc X0.here hx rfl (hb hby d_numberOfLeadingZeros_54) rfl (l' := #[.val (.int p1), .val (.int ((31 : Int32) + (-4 : Int32)))]) rfl ?_
    show Steps p.tables e below (s₁.setTop (mkF m 57 #[.val (.int p1), .val (.int ((31 : Int32) + (-4 : Int32)))] [])) _
    refine XS.iloadN X0.here hx rfl (hb hby d_numberOfLeadingZeros_57) rfl ?_
    show Steps p.tables e below (s₁.setTop (mkF m 58 #[.val (.int p1), .val (.int ((31 : Int32) + (-4 : Int32)))] [(.int p1)])) _
    refine XS.iconst X0.here hx rfl (hb hby d_numberOfLeadingZeros_58) ?_
    show Steps p.tables e below (s₁.setTop (mkF m 59 #[.val (.int p1), .val (.int ((31 : Int32) + (-4 : Int32)))] [(.int (4 : Int32)), (.int p1)])) _
    refine XS.iushr X0.here hx rfl (hb hby d_numberOfLeadingZeros_59) rfl ?_
    show Steps p.tables e below (s₁.setTop (mkF m 60 #[.val (.int p1), .val (.int ((31 : Int32) + (-4 : Int32)))] [(.int ((p1.toUInt32 >>> ((4 : Int32) &&& 31).toUInt32).toInt32))])) _
    refine XS.istoreN X0.here hx rfl (hb hby d_numberOfLeadingZeros_60) rfl (l' := #[.val (.int ((p1.toUInt32 >>> ((4 : Int32) &&& 31).toUInt32).toInt32)), .val (.int ((31 : Int32) + (-4 : Int32)))]) rfl ?_
    show Steps p.tables e below (s₁.setTop (mkF m 61 #[.val (.int ((p1.toUInt32 >>> ((4 : Int32) &&& 31).toUInt32).toInt32)), .val (.int ((31 : Int32) + (-4 : Int32)))] [])) _
    refine XS.iloadN X0.here hx rfl (hb hby d_numberOfLeadingZeros_61) rfl ?_
    show Steps p.tables e below (s₁.setTop (mkF m 62 #[.val (.int ((p1.toUInt32 >>> ((4 : Int32) &&& 31).toUInt32).toInt32)), .val (.int ((31 : Int32) + (-4 : Int32)))] [(.int ((p1.toUInt32 >>> ((4 : Int32) &&& 31).toUInt32).toInt32))])) _
    refine XS.iconst X0.here hx rfl (hb hby d_numberOfLeadingZeros_62) ?_
    have y1 : own_y1 p1 = ((p1.toUInt32 >>> ((4 : Int32) &&& 31).toUInt32).toInt32) := if_neg hc51
    have k1 : own_k1 p1 = ((31 : Int32) + (-4 : Int32)) := if_neg hc51
    by_cases hc63 : ((p1.toUInt32 >>> ((4 : Int32) &&& 31).toUInt32).toInt32) < (4 : Int32)
    · show Steps p.tables e below (s₁.setTop (mkF m 63 #[.val (.int ((p1.toUInt32 >>> ((4 : Int32) &&& 31).toUInt32).toInt32)), .val (.int ((31 : Int32) + (-4 : Int32)))] [(.int (4 : Int32)), (.int ((p1.toUInt32 >>> ((4 : Int32) &&& 31).toUInt32).toInt32))])) _
      refine XS.icmpYes X0.here hx rfl (pc0 := 63) (pc' := 73) rfl (hb hby d_numberOfLeadingZeros_63) rfl (tlt hc63).1 (by decide) (by decide) ?_
      show Steps p.tables e below (s₁.setTop (mkF m 73 #[.val (.int ((p1.toUInt32 >>> ((4 : Int32) &&& 31).toUInt32).toInt32)), .val (.int ((31 : Int32) + (-4 : Int32)))] [])) _
      refine XS.iloadN X0.here hx rfl (hb hby d_numberOfLeadingZeros_73) rfl ?_
      show Steps p.tables e below (s₁.setTop (mkF m 74 #[.val (.int ((p1.toUInt32 >>> ((4 : Int32) &&& 31).toUInt32).toInt32)), .val (.int ((31 : Int32) + (-4 : Int32)))] [(.int ((31 : Int32) + (-4 : Int32)))])) _
      refine XS.iloadN X0.here hx rfl (hb hby d_numberOfLeadingZeros_74) rfl ?_
      show Steps p.tables e below (s₁.setTop (mkF m 75 #[.val (.int ((p1.toUInt32 >>> ((4 : Int32) &&& 31).toUInt32).toInt32)), .val (.int ((31 : Int32) + (-4 : Int32)))] [(.int ((p1.toUInt32 >>> ((4 : Int32) &&& 31).toUInt32).toInt32)), (.int ((31 : Int32) + (-4 : Int32)))])) _
      refine XS.iconst X0.here hx rfl (hb hby d_numberOfLeadingZeros_75) ?_
      show Steps p.tables e below (s₁.setTop (mkF m 76 #[.val (.int ((p1.toUInt32 >>> ((4 : Int32) &&& 31).toUInt32).toInt32)), .val (.int ((31 : Int32) + (-4 : Int32)))] [(.int (1 : Int32)), (.int ((p1.toUInt32 >>> ((4 : Int32) &&& 31).toUInt32).toInt32)), (.int ((31 : Int32) + (-4 : Int32)))])) _
      refine XS.iushr X0.here hx rfl (hb hby d_numberOfLeadingZeros_76) rfl ?_
      show Steps p.tables e below (s₁.setTop (mkF m 77 #[.val (.int ((p1.toUInt32 >>> ((4 : Int32) &&& 31).toUInt32).toInt32)), .val (.int ((31 : Int32) + (-4 : Int32)))] [(.int ((((p1.toUInt32 >>> ((4 : Int32) &&& 31).toUInt32).toInt32).toUInt32 >>> ((1 : Int32) &&& 31).toUInt32).toInt32)), (.int ((31 : Int32) + (-4 : Int32)))])) _
      refine XS.isub X0.here hx rfl (hb hby d_numberOfLeadingZeros_77) rfl ?_
      show Steps p.tables e below (s₁.setTop (mkF m 78 #[.val (.int ((p1.toUInt32 >>> ((4 : Int32) &&& 31).toUInt32).toInt32)), .val (.int ((31 : Int32) + (-4 : Int32)))] [(.int (((31 : Int32) + (-4 : Int32)) - ((((p1.toUInt32 >>> ((4 : Int32) &&& 31).toUInt32).toInt32).toUInt32 >>> ((1 : Int32) &&& 31).toUInt32).toInt32)))])) _
      have y2 : own_y2 p1 = ((p1.toUInt32 >>> ((4 : Int32) &&& 31).toUInt32).toInt32) := by rw [own_y2, y1]; exact if_pos hc63
      have k2 : own_k2 p1 = ((31 : Int32) + (-4 : Int32)) := by rw [own_k2, y1, k1]; exact if_pos hc63
      have hv : own_nlz p1 = (((31 : Int32) + (-4 : Int32)) - ((((p1.toUInt32 >>> ((4 : Int32) &&& 31).toUInt32).toInt32).toUInt32 >>> ((1 : Int32) &&& 31).toUInt32).toInt32)) := by rw [own_nlz, k2, y2]
      rw [hv] at hr
      exact retI X0 hx Bd.returns (hb hby d_numberOfLeadingZeros_78) hr
    · show Steps p.tables e below (s₁.setTop (mkF m 63 #[.val (.int ((p1.toUInt32 >>> ((4 : Int32) &&& 31).toUInt32).toInt32)), .val (.int ((31 : Int32) + (-4 : Int32)))] [(.int (4 : Int32)), (.int ((p1.toUInt32 >>> ((4 : Int32) &&& 31).toUInt32).toInt32))])) _
      refine XS.icmpNo X0.here hx rfl (hb hby d_numberOfLeadingZeros_63) rfl (flt hc63).1 ?_
      show Steps p.tables e below (s₁.setTop (mkF m 66 #[.val (.int ((p1.toUInt32 >>> ((4 : Int32) &&& 31).toUInt32).toInt32)), .val (.int ((31 : Int32) + (-4 : Int32)))] [])) _
      refine XS.iinc X0.here hx rfl (hb hby d_numberOfLeadingZeros_66) rfl (l' := #[.val (.int ((p1.toUInt32 >>> ((4 : Int32) &&& 31).toUInt32).toInt32)), .val (.int (((31 : Int32) + (-4 : Int32)) + (-2 : Int32)))]) rfl ?_
      show Steps p.tables e below (s₁.setTop (mkF m 69 #[.val (.int ((p1.toUInt32 >>> ((4 : Int32) &&& 31).toUInt32).toInt32)), .val (.int (((31 : Int32) + (-4 : Int32)) + (-2 : Int32)))] [])) _
      refine XS.iloadN X0.here hx rfl (hb hby d_numberOfLeadingZeros_69) rfl ?_
      show Steps p.tables e below (s₁.setTop (mkF m 70 #[.val (.int ((p1.toUInt32 >>> ((4 : Int32) &&& 31).toUInt32).toInt32)), .val (.int (((31 : Int32) + (-4 : Int32)) + (-2 : Int32)))] [(.int ((p1.toUInt32 >>> ((4 : Int32) &&& 31).toUInt32).toInt32))])) _
      refine XS.iconst X0.here hx rfl (hb hby d_numberOfLeadingZeros_70) ?_
      show Steps p.tables e below (s₁.setTop (mkF m 71 #[.val (.int ((p1.toUInt32 >>> ((4 : Int32) &&& 31).toUInt32).toInt32)), .val (.int (((31 : Int32) + (-4 : Int32)) + (-2 : Int32)))] [(.int (2 : Int32)), (.int ((p1.toUInt32 >>> ((4 : Int32) &&& 31).toUInt32).toInt32))])) _
      refine XS.iushr X0.here hx rfl (hb hby d_numberOfLeadingZeros_71) rfl ?_
      show Steps p.tables e below (s₁.setTop (mkF m 72 #[.val (.int ((p1.toUInt32 >>> ((4 : Int32) &&& 31).toUInt32).toInt32)), .val (.int (((31 : Int32) + (-4 : Int32)) + (-2 : Int32)))] [(.int ((((p1.toUInt32 >>> ((4 : Int32) &&& 31).toUInt32).toInt32).toUInt32 >>> ((2 : Int32) &&& 31).toUInt32).toInt32))])) _
      refine XS.istoreN X0.here hx rfl (hb hby d_numberOfLeadingZeros_72) rfl (l' := #[.val (.int ((((p1.toUInt32 >>> ((4 : Int32) &&& 31).toUInt32).toInt32).toUInt32 >>> ((2 : Int32) &&& 31).toUInt32).toInt32)), .val (.int (((31 : Int32) + (-4 : Int32)) + (-2 : Int32)))]) rfl ?_
      show Steps p.tables e below (s₁.setTop (mkF m 73 #[.val (.int ((((p1.toUInt32 >>> ((4 : Int32) &&& 31).toUInt32).toInt32).toUInt32 >>> ((2 : Int32) &&& 31).toUInt32).toInt32)), .val (.int (((31 : Int32) + (-4 : Int32)) + (-2 : Int32)))] [])) _
      refine XS.iloadN X0.here hx rfl (hb hby d_numberOfLeadingZeros_73) rfl ?_
      show Steps p.tables e below (s₁.setTop (mkF m 74 #[.val (.int ((((p1.toUInt32 >>> ((4 : Int32) &&& 31).toUInt32).toInt32).toUInt32 >>> ((2 : Int32) &&& 31).toUInt32).toInt32)), .val (.int (((31 : Int32) + (-4 : Int32)) + (-2 : Int32)))] [(.int (((31 : Int32) + (-4 : Int32)) + (-2 : Int32)))])) _
      refine XS.iloadN X0.here hx rfl (hb hby d_numberOfLeadingZeros_74) rfl ?_
      show Steps p.tables e below (s₁.setTop (mkF m 75 #[.val (.int ((((p1.toUInt32 >>> ((4 : Int32) &&& 31).toUInt32).toInt32).toUInt32 >>> ((2 : Int32) &&& 31).toUInt32).toInt32)), .val (.int (((31 : Int32) + (-4 : Int32)) + (-2 : Int32)))] [(.int ((((p1.toUInt32 >>> ((4 : Int32) &&& 31).toUInt32).toInt32).toUInt32 >>> ((2 : Int32) &&& 31).toUInt32).toInt32)), (.int (((31 : Int32) + (-4 : Int32)) + (-2 : Int32)))])) _
      refine XS.iconst X0.here hx rfl (hb hby d_numberOfLeadingZeros_75) ?_
      show Steps p.tables e below (s₁.setTop (mkF m 76 #[.val (.int ((((p1.toUInt32 >>> ((4 : Int32) &&& 31).toUInt32).toInt32).toUInt32 >>> ((2 : Int32) &&& 31).toUInt32).toInt32)), .val (.int (((31 : Int32) + (-4 : Int32)) + (-2 : Int32)))] [(.int (1 : Int32)), (.int ((((p1.toUInt32 >>> ((4 : Int32) &&& 31).toUInt32).toInt32).toUInt32 >>> ((2 : Int32) &&& 31).toUInt32).toInt32)), (.int (((31 : Int32) + (-4 : Int32)) + (-2 : Int32)))])) _
      refine XS.iushr X0.here hx rfl (hb hby d_numberOfLeadingZeros_76) rfl ?_
      show Steps p.tables e below (s₁.setTop (mkF m 77 #[.val (.int ((((p1.toUInt32 >>> ((4 : Int32) &&& 31).toUInt32).toInt32).toUInt32 >>> ((2 : Int32) &&& 31).toUInt32).toInt32)), .val (.int (((31 : Int32) + (-4 : Int32)) + (-2 : Int32)))] [(.int ((((((p1.toUInt32 >>> ((4 : Int32) &&& 31).toUInt32).toInt32).toUInt32 >>> ((2 : Int32) &&& 31).toUInt32).toInt32).toUInt32 >>> ((1 : Int32) &&& 31).toUInt32).toInt32)), (.int (((31 : Int32) + (-4 : Int32)) + (-2 : Int32)))])) _
      refine XS.isub X0.here hx rfl (hb hby d_numberOfLeadingZeros_77) rfl ?_
      show Steps p.tables e below (s₁.setTop (mkF m 78 #[.val (.int ((((p1.toUInt32 >>> ((4 : Int32) &&& 31).toUInt32).toInt32).toUInt32 >>> ((2 : Int32) &&& 31).toUInt32).toInt32)), .val (.int (((31 : Int32) + (-4 : Int32)) + (-2 : Int32)))] [(.int ((((31 : Int32) + (-4 : Int32)) + (-2 : Int32)) - ((((((p1.toUInt32 >>> ((4 : Int32) &&& 31).toUInt32).toInt32).toUInt32 >>> ((2 : Int32) &&& 31).toUInt32).toInt32).toUInt32 >>> ((1 : Int32) &&& 31).toUInt32).toInt32)))])) _
      have y2 : own_y2 p1 = ((((p1.toUInt32 >>> ((4 : Int32) &&& 31).toUInt32).toInt32).toUInt32 >>> ((2 : Int32) &&& 31).toUInt32).toInt32) := by rw [own_y2, y1]; exact if_neg hc63
      have k2 : own_k2 p1 = (((31 : Int32) + (-4 : Int32)) + (-2 : Int32)) := by rw [own_k2, y1, k1]; exact if_neg hc63
      have hv : own_nlz p1 = ((((31 : Int32) + (-4 : Int32)) + (-2 : Int32)) - ((((((p1.toUInt32 >>> ((4 : Int32) &&& 31).toUInt32).toInt32).toUInt32 >>> ((2 : Int32) &&& 31).toUInt32).toInt32).toUInt32 >>> ((1 : Int32) &&& 31).toUInt32).toInt32)) := by rw [own_nlz, k2, y2]
      rw [hv] at hr
      exact retI X0 hx Bd.returns (hb hby d_numberOfLeadingZeros_78) hr
def own_hob (p1 : Int32) : Int32 := (p1 &&& (((-2147483648 : Int32).toUInt32 >>> ((own_nlz p1) &&& 31).toUInt32).toInt32))
def Q_rm_hob (Z : State) (p1 : Int32)  (h0 : Heap) (n0 : Nat) (v : Option Value) (h : Heap) (L : List Loc) : Prop := (v = some (.int (own_hob p1)) ∧ Fr n0 L ∧ h = h0)
set_option maxRecDepth 65536 in
set_option maxHeartbeats 40000000 in
theorem rm_hob (l : Launch) (Z : State) (a0 : Array Value) (hw : ∀ d ∈ tables_1, d.before a0 Z = true) (ws : List Jvm.Cond) (p1 : Int32) (h0 : Heap) (n0 : Nat) (q0 : (0 : Int32) < p1) (q1 : p1 < (256 : Int32)) :
    MetFree l (⟨"java/lang/Integer", "highestOneBit", "(I)I"⟩ : MethodName) (head1 (Jvm.Cond.code (⟨"java/lang/Integer", "highestOneBit", "(I)I"⟩ : MethodName) jdk_33_method_45_code 1 (some .int) :: ws) ({ frames := 1, cells := 0, slots := 0, locals := 15 } : Room)) (fun a U => a = #[(.int p1)] ∧ Z.Warmed39 U.vm ∧ U.heap = h0) (fun _ _ _ _ _ => True) (fun _ U oc U' => ∃ v L, oc = .returned v ∧ Q_rm_hob Z p1 h0 n0 v U'.heap L ∧ FrameEnd U oc U' L ({ frames := 1, cells := 0, slots := 0, locals := 15 } : Room).cells ({ frames := 1, cells := 0, slots := 0, locals := 15 } : Room).slots) := by
  refine MetFree.of_bodySF (plainFor_of_name pn_int) hisR ?_
  intro p e s m args below meth c s₁ Bd hml0 hP hK
  obtain ⟨rfl, hZ, hh⟩ := hP
  have hx := Bd.exec
  have hby := Bd.bytes
  have hml : c.maxLocals = 1 := hml0
  have hown : s.vm.findClass "java/lang/Integer" = some m.cls := findClass_of_methodNamed Bd.named
  have hnm := (name_of_methodNamed Bd.named Bd.method).1
  have X0 : Stand p l e ({ frames := 1, cells := 0, slots := 0, locals := 15 } : Room) s m #[(.int p1)] below meth c s₁ [] 0 0 := Stand.of_body Bd
  have e0 : s₁.heap = h0 := by rw [← hh, Bd.state]; rfl
  have N0 := Fr.nil n0
  have pre0 : ∀ t, Steps p.tables e below (s₁.setTop (mkF m 0 #[.val (.int p1)] [])) t → Steps p.tables e below (s₁.setTop (entryFrame m #[(.int p1)] 1)) t := fun t k => castTop (ef_hob m p1) k
  obtain ⟨_, _, ⟨T1, L1, k1, n1⟩, -, X1, ⟨Lc1, hQ1, l1, y1, z1⟩, st1⟩ := Jvm.LawKit.callS X0 hx (y := (⟨"java/lang/Integer", "numberOfLeadingZeros", "(I)I"⟩ : MethodName)) hown (mvT hZ (hw _ (List.mem_of_getElem? (i := 18) rfl))) (mvT hZ (hw _ (List.mem_of_getElem? (i := 19) rfl))) (mvT hZ (hw _ (List.mem_of_getElem? (i := 15) rfl))) (mvT hZ (hw _ (List.mem_of_getElem? (i := 20) rfl))) (by decide) (backOf (W := 2) (rm_nlz l Z a0 hw [] p1 h0 n0 q0 q1) hZ (hw _ (List.mem_of_getElem? (i := 20) rfl)) (hw _ (List.mem_of_getElem? (i := 15) rfl)) (by decide) (by decide)) (g := (mkF m 4 #[.val (.int p1)] [(.int p1), (.int (-2147483648 : Int32)), (.int p1)])) rfl (by rw [hml]; rfl) (argsL := [(.int p1)]) (rest := [(.int (-2147483648 : Int32)), (.int p1)]) (lenOf pd_i_i rfl) rfl (by show 2 * 0 + _ ≤ _; exact Nat.le_of_eq rfl) (hb hby d_highestOneBit_4) (fun _ _ => ⟨rfl, e0, (by decide : 0 + 0 ≤ _), (by decide : 0 + 0 ≤ _)⟩)
  dsimp only [Pt.U, Pt.locs, Pt.cells, Pt.slots] at X1 l1 y1 z1 st1 hQ1
  subst l1 y1 z1
  obtain ⟨rfl, N1q, e1⟩ := hQ1
  have N1 := Fr.app N0 N1q
  obtain ⟨fs, hr, hrun, hended, hW, hsame⟩ := X1.leave (v := some (.int (own_hob p1))) (fun h => by rw [Bd.returns] at h; cases h)
  refine ⟨_, _, pre0 _ ?_, hrun, hended, _, _, rfl, ⟨rfl, N1, e1⟩, ⟨_, rfl⟩, hW, hsame.mono (by decide) (by decide)⟩
  show Steps p.tables e below (s₁.setTop (mkF m 0 #[.val (.int p1)] [])) _
  refine XS.iloadN X0.here hx rfl (hb hby d_highestOneBit_0) rfl ?_
  show Steps p.tables e below (s₁.setTop (mkF m 1 #[.val (.int p1)] [(.int p1)])) _
  refine Jvm.Stand.ldcI X0 hx hown (mvT hZ (hw _ (List.mem_of_getElem? (i := 17) rfl))) rfl (hb hby d_highestOneBit_1) ?_
  show Steps p.tables e below (s₁.setTop (mkF m 3 #[.val (.int p1)] [(.int (-2147483648 : Int32)), (.int p1)])) _
  refine XS.iloadN X0.here hx rfl (hb hby d_highestOneBit_3) rfl ?_
  refine st1 _ ?_
  show Steps p.tables e below (T1.setTop (mkF m 7 #[.val (.int p1)] [(.int (own_nlz p1)), (.int (-2147483648 : Int32)), (.int p1)])) _
  refine XS.iushr X1.here hx rfl (hb hby d_highestOneBit_7) rfl ?_
  show Steps p.tables e below (T1.setTop (mkF m 8 #[.val (.int p1)] [(.int (((-2147483648 : Int32).toUInt32 >>> ((own_nlz p1) &&& 31).toUInt32).toInt32)), (.int p1)])) _
  refine XS.iand X1.here hx rfl (hb hby d_highestOneBit_8) rfl ?_
  show Steps p.tables e below (T1.setTop (mkF m 9 #[.val (.int p1)] [(.int (p1 &&& (((-2147483648 : Int32).toUInt32 >>> ((own_nlz p1) &&& 31).toUInt32).toInt32)))])) _
  exact retI X1 hx Bd.returns (hb hby d_highestOneBit_9) hr
theorem d_init_0 : decode prog_152_method_1_code 0 = .ok (.aload_n 0, 1) := by decide +kernel
theorem d_init_1 : decode prog_152_method_1_code 1 = .ok (.invokespecial 1, 3) := by decide +kernel
theorem d_init_4 : decode prog_152_method_1_code 4 = .ok (.aload_n 0, 1) := by decide +kernel
theorem d_init_5 : decode prog_152_method_1_code 5 = .ok (.iconst 2, 1) := by decide +kernel
theorem d_init_6 : decode prog_152_method_1_code 6 = .ok (.iload_n 1, 1) := by decide +kernel
theorem d_init_7 : decode prog_152_method_1_code 7 = .ok (.imul, 1) := by decide +kernel
theorem d_init_8 : decode prog_152_method_1_code 8 = .ok (.iconst 1, 1) := by decide +kernel
theorem d_init_9 : decode prog_152_method_1_code 9 = .ok (.isub, 1) := by decide +kernel
theorem d_init_10 : decode prog_152_method_1_code 10 = .ok (.iconst 1, 1) := by decide +kernel
theorem d_init_11 : decode prog_152_method_1_code 11 = .ok (.invokestatic 7, 3) := by decide +kernel
theorem d_init_14 : decode prog_152_method_1_code 14 = .ok (.invokestatic 13, 3) := by decide +kernel
theorem d_init_17 : decode prog_152_method_1_code 17 = .ok (.putfield 19, 3) := by decide +kernel
theorem d_init_20 : decode prog_152_method_1_code 20 = .ok (.aload_n 0, 1) := by decide +kernel
theorem d_init_21 : decode prog_152_method_1_code 21 = .ok (.iconst 2, 1) := by decide +kernel
theorem d_init_22 : decode prog_152_method_1_code 22 = .ok (.aload_n 0, 1) := by decide +kernel
theorem d_init_23 : decode prog_152_method_1_code 23 = .ok (.getfield 19, 3) := by decide +kernel
theorem d_init_26 : decode prog_152_method_1_code 26 = .ok (.imul, 1) := by decide +kernel
theorem d_init_27 : decode prog_152_method_1_code 27 = .ok (.newarray .long, 2) := by decide +kernel
theorem d_init_29 : decode prog_152_method_1_code 29 = .ok (.putfield 25, 3) := by decide +kernel
theorem d_init_32 : decode prog_152_method_1_code 32 = .ok (.return_, 1) := by decide +kernel
theorem pn_b : plainName "com/example/mutableau/mutableau/formula/BindingReferences" = true := by first | (simp [plainName, overriddenIn]; done) | decide +kernel
theorem ef_ct (m : MethodId) (x0 : Addr) (x1 : Int32) : entryFrame m #[(.ref x0), (.int x1)] 2 = mkF m 0 #[.val (.ref x0), .val (.int x1)] [] := by first | (simp [entryFrame, mkF, argsToLocals, Value.category]; done) | rfl
theorem pd_ct : parseMethodDescriptor "(I)V" = some ⟨[.int], none⟩ := by decide +kernel
def own_lv (d : Int32) : Int32 := own_hob (own_mx (((2 : Int32) * d) - (1 : Int32)) (1 : Int32))
def Q_rm_ct (Z : State) (o : Addr) (p1 : Int32) (q : Nat) (h0 : Heap) (n0 : Nat) (v : Option Value) (h : Heap) (L : List Loc) : Prop := (v = none ∧ Fr n0 L ∧ Keep h0 h [o] ∧ Exa Z h o "com/example/mutableau/mutableau/formula/BindingReferences" ∧ Fld Z h o "com/example/mutableau/mutableau/formula/BindingReferences" "leaves" "I" (.int q.toInt32) ∧ ∃ b, h0.size ≤ b ∧ Fld Z h o "com/example/mutableau/mutableau/formula/BindingReferences" "latest" "[J" (.ref b) ∧ own_A Z h b (2 * q) (fun _ => 0))
set_option maxRecDepth 65536 in
set_option maxHeartbeats 40000000 in
theorem rm_ct (l : Launch) (Z : State) (a0 : Array Value) (hw : ∀ d ∈ tables_1, d.before a0 Z = true) (ws : List Jvm.Cond) (o : Addr) (p1 : Int32) (h0 : Heap) (n0 : Nat) (q : Nat) (hq : own_lv p1 = q.toInt32) (hq1 : 2 * q ≤ 16) (q0 : (0 : Int32) < own_mx (((2 : Int32) * p1) - (1 : Int32)) (1 : Int32)) (q1 : own_mx (((2 : Int32) * p1) - (1 : Int32)) (1 : Int32) < (256 : Int32)) (Z0 : n0 ≤ h0.size) (F1 : Fld Z h0 o "com/example/mutableau/mutableau/formula/BindingReferences" "leaves" "I" (.int (0 : Int32))) (F2 : Fld Z h0 o "com/example/mutableau/mutableau/formula/BindingReferences" "latest" "[J" .null) (E0 : Exa Z h0 o "com/example/mutableau/mutableau/formula/BindingReferences") (go : n0 ≤ o) :
    MetFree l (⟨"com/example/mutableau/mutableau/formula/BindingReferences", "<init>", "(I)V"⟩ : MethodName) (head1 (Jvm.Cond.code (⟨"com/example/mutableau/mutableau/formula/BindingReferences", "<init>", "(I)V"⟩ : MethodName) prog_152_method_1_code 2 none :: ws) ({ frames := 2, cells := 1, slots := 16, locals := 28 } : Room)) (fun a U => a = #[(.ref o), (.int p1)] ∧ Z.Warmed39 U.vm ∧ U.heap = h0) (fun _ _ _ _ _ => True) (fun _ U oc U' => ∃ v L, oc = .returned v ∧ Q_rm_ct Z o p1 q h0 n0 v U'.heap L ∧ FrameEnd U oc U' L ({ frames := 2, cells := 1, slots := 16, locals := 28 } : Room).cells ({ frames := 2, cells := 1, slots := 16, locals := 28 } : Room).slots) := by
  refine MetFree.of_bodySF (plainFor_of_name pn_b) hisR ?_
  intro p e s m args below meth c s₁ Bd hml0 hP hK
  obtain ⟨rfl, hZ, hh⟩ := hP
  have hx := Bd.exec
  have hby := Bd.bytes
  have hml : c.maxLocals = 2 := hml0
  have hown : s.vm.findClass "com/example/mutableau/mutableau/formula/BindingReferences" = some m.cls := findClass_of_methodNamed Bd.named
  have hnm := (name_of_methodNamed Bd.named Bd.method).1
  have X0 : Stand p l e ({ frames := 2, cells := 1, slots := 16, locals := 28 } : Room) s m #[(.ref o), (.int p1)] below meth c s₁ [] 0 0 := Stand.of_body Bd
  have e0 : s₁.heap = h0 := by rw [← hh, Bd.state]; rfl
  have N0 := Fr.nil n0
  have pre0 : ∀ t, Steps p.tables e below (s₁.setTop (mkF m 0 #[.val (.ref o), .val (.int p1)] [])) t → Steps p.tables e below (s₁.setTop (entryFrame m #[(.ref o), (.int p1)] 2)) t := fun t k => castTop (ef_ct m o p1) k
  obtain ⟨T1, X1, e1, st1⟩ := initO X0 hx hZ hown (hw _ (List.mem_of_getElem? (i := 6) rfl)) (hw _ (List.mem_of_getElem? (i := 7) rfl)) (hw _ (List.mem_of_getElem? (i := 8) rfl)) e0 (g := (mkF m 1 #[.val (.ref o), .val (.int p1)] [(.ref o)])) rfl (by rw [hml]; rfl) rfl (hb hby d_init_1) (by decide) (W := 0) (by show 2 * 0 + _ ≤ _; exact Nat.le_of_eq rfl) (by decide)
  obtain ⟨_, _, ⟨T2, L2, k2, n2⟩, -, X2, ⟨Lc2, hQ2, l2, y2, z2⟩, st2⟩ := Jvm.LawKit.callS X1 hx (y := (⟨"java/lang/Math", "max", "(II)I"⟩ : MethodName)) hown (mvT hZ (hw _ (List.mem_of_getElem? (i := 9) rfl))) (mvT hZ (hw _ (List.mem_of_getElem? (i := 10) rfl))) (mvT hZ (hw _ (List.mem_of_getElem? (i := 11) rfl))) (mvT hZ (hw _ (List.mem_of_getElem? (i := 12) rfl))) (by decide) (backOf (W := 1) (rm_mx l Z a0 hw [] (((2 : Int32) * p1) - (1 : Int32)) (1 : Int32) h0 n0) hZ (hw _ (List.mem_of_getElem? (i := 12) rfl)) (hw _ (List.mem_of_getElem? (i := 11) rfl)) (by decide) (by decide)) (g := (mkF m 11 #[.val (.ref o), .val (.int p1)] [(.int (1 : Int32)), (.int (((2 : Int32) * p1) - (1 : Int32))), (.ref o)])) rfl (by rw [hml]; rfl) (argsL := [(.int (((2 : Int32) * p1) - (1 : Int32))), (.int (1 : Int32))]) (rest := [(.ref o)]) (lenOf pd_ii_i rfl) rfl (by show 2 * 0 + _ ≤ _; exact Nat.le_of_eq rfl) (hb hby d_init_11) (fun _ _ => ⟨rfl, e1, (by decide : 0 + 0 ≤ _), (by decide : 0 + 0 ≤ _)⟩)
  dsimp only [Pt.U, Pt.locs, Pt.cells, Pt.slots] at X2 l2 y2 z2 st2 hQ2
  subst l2 y2 z2
  obtain ⟨rfl, N2q, e2⟩ := hQ2
  have N2 := Fr.app N0 N2q
  obtain ⟨_, _, ⟨T3, L3, k3, n3⟩, -, X3, ⟨Lc3, hQ3, l3, y3, z3⟩, st3⟩ := Jvm.LawKit.callS X2 hx (y := (⟨"java/lang/Integer", "highestOneBit", "(I)I"⟩ : MethodName)) hown (mvT hZ (hw _ (List.mem_of_getElem? (i := 13) rfl))) (mvT hZ (hw _ (List.mem_of_getElem? (i := 14) rfl))) (mvT hZ (hw _ (List.mem_of_getElem? (i := 15) rfl))) (mvT hZ (hw _ (List.mem_of_getElem? (i := 16) rfl))) (by decide) (backOf (W := 1) (rm_hob l Z a0 hw [] (own_mx (((2 : Int32) * p1) - (1 : Int32)) (1 : Int32)) h0 n0 q0 q1) hZ (hw _ (List.mem_of_getElem? (i := 16) rfl)) (hw _ (List.mem_of_getElem? (i := 15) rfl)) (by decide) (by decide)) (g := (mkF m 14 #[.val (.ref o), .val (.int p1)] [(.int (own_mx (((2 : Int32) * p1) - (1 : Int32)) (1 : Int32))), (.ref o)])) rfl (by rw [hml]; rfl) (argsL := [(.int (own_mx (((2 : Int32) * p1) - (1 : Int32)) (1 : Int32)))]) (rest := [(.ref o)]) (lenOf pd_i_i rfl) rfl (by show 2 * 0 + _ ≤ _; exact Nat.le_of_eq rfl) (hb hby d_init_14) (fun _ _ => ⟨rfl, e2, (by decide : 0 + 0 ≤ _), (by decide : 0 + 0 ≤ _)⟩)
  dsimp only [Pt.U, Pt.locs, Pt.cells, Pt.slots] at X3 l3 y3 z3 st3 hQ3
  subst l3 y3 z3
  obtain ⟨rfl, N3q, e3⟩ := hQ3
  have N3 := Fr.app N2 N3q
  obtain ⟨T4, h4, X4, e4, W4, st4⟩ := putF X3 hx hZ hown (host := "") (Or.inl (hw _ (List.mem_of_getElem? (i := 22) rfl))) Via.refl e3 F1 E0 (Or.inr ⟨(hw _ (List.mem_of_getElem? (i := 23) rfl)), rfl, hnm⟩) (hw _ (List.mem_of_getElem? (i := 1) rfl)) (ty := .int) (by decide) rfl rfl (g := (mkF m 17 #[.val (.ref o), .val (.int p1)] [(.int q.toInt32), (.ref o)])) rfl rfl (hb hby d_init_17)
  have N4 := Fr.snoc X4 N3 go
  have K4 : Keep h0 h4 [o] := ((Keep.refl _ _).wr W4 (Or.inl (List.mem_of_getElem? (i := 0) rfl)))
  have E4 := E0.wr W4
  have F14 := F1.same W4
  have sne : Jvm.RoadKit.slotOf Z "com/example/mutableau/mutableau/formula/BindingReferences" "latest" "[J" ≠ Jvm.RoadKit.slotOf Z "com/example/mutableau/mutableau/formula/BindingReferences" "leaves" "I" := slot_ne (C := "com/example/mutableau/mutableau/formula/BindingReferences") (a0 := a0) (Or.inr (hw _ (List.mem_of_getElem? (i := 26) rfl))) (Or.inr (hw _ (List.mem_of_getElem? (i := 23) rfl))) (by decide) (t := .array .long) (t' := .int) (by decide) (by decide)
  have F24 := F2.other W4 (Or.inr sne)
  obtain ⟨T5, X5, e5, st5⟩ := getF X4 hx hZ hown (host := "") (Or.inl (hw _ (List.mem_of_getElem? (i := 22) rfl))) Via.refl e4 F14 (g := (mkF m 23 #[.val (.ref o), .val (.int p1)] [(.ref o), (.int (2 : Int32)), (.ref o)])) rfl rfl (hb hby d_init_23)
  have hN : ((2 : Int32) * q.toInt32) = (2 * q).toInt32 := own_dbl (by omega)
  obtain ⟨T6, h6, k6, X6, e6, E6, A6, st6⟩ := newP X5 hx hZ (hw _ (List.mem_of_getElem? (i := 24) rfl)) e5 (g := (mkF m 27 #[.val (.ref o), .val (.int p1)] [(.int (2 * q).toInt32), (.ref o)])) rfl (hb hby d_init_27) rfl (n := (2 * q).toInt32) (by rw [Int32.lt_iff_toInt_lt, own_t (by omega), show (0 : Int32).toInt = 0 from rfl]; omega) (cap := 16) (by rw [own_tn (by omega)]; exact hq1) (by decide) (by decide) (by decide)
  obtain ⟨b, g6⟩ : ∃ z, z = h4.size := ⟨_, rfl⟩
  rw [← g6] at A6 st6
  have B6 := own_A_new A6 (by omega)
  have F16 := F14.ext E6
  have F26 := F24.ext E6
  have E6' := E4.ext E6
  have K6 := K4.ext E6
  obtain ⟨T7, h7, X7, e7, W7, st7⟩ := putF X6 hx hZ hown (host := "") (Or.inl (hw _ (List.mem_of_getElem? (i := 25) rfl))) Via.refl e6 F26 E6' (Or.inr ⟨(hw _ (List.mem_of_getElem? (i := 26) rfl)), rfl, hnm⟩) (hw _ (List.mem_of_getElem? (i := 1) rfl)) (ty := (.array .long)) (by decide) rfl rfl (g := (mkF m 29 #[.val (.ref o), .val (.int p1)] [(.ref b), (.ref o)])) rfl rfl (hb hby d_init_29)
  have N7 := Fr.snoc X7 N4 go
  have K7 : Keep h0 h7 [o] := K6.wr W7 (Or.inl (List.mem_of_getElem? (i := 0) rfl))
  have hbo : b ≠ o := (Nat.ne_of_lt (Nat.lt_of_lt_of_eq E4.lt g6.symm)).symm
  have B7 := own_A_other B6 W7 hbo
  have E7 := E6'.wr W7
  have F27 := F26.same W7
  have F17 := F16.other W7 (Or.inr (fun q => sne q.symm))
  obtain ⟨fs, hr, hrun, hended, hW, hsame⟩ := X7.leave (v := none) (fun _ => rfl)
  refine ⟨_, _, pre0 _ ?_, hrun, hended, _, _, rfl, ⟨rfl, N7, e7 ▸ K7, e7 ▸ E7, e7 ▸ F17, b, Nat.le_trans K4.1 (Nat.le_of_eq g6.symm), e7 ▸ F27, e7 ▸ B7⟩, ⟨_, rfl⟩, hW, hsame.mono (by decide) (by decide)⟩
  show Steps p.tables e below (s₁.setTop (mkF m 0 #[.val (.ref o), .val (.int p1)] [])) _
  refine XS.aloadN X0.here hx rfl (hb hby d_init_0) rfl rfl ?_
  show Steps p.tables e below (s₁.setTop (mkF m 1 #[.val (.ref o), .val (.int p1)] [(.ref o)])) _
  refine st1 _ ?_
  show Steps p.tables e below (T1.setTop (mkF m 4 #[.val (.ref o), .val (.int p1)] [])) _
  refine XS.aloadN X1.here hx rfl (hb hby d_init_4) rfl rfl ?_
  show Steps p.tables e below (T1.setTop (mkF m 5 #[.val (.ref o), .val (.int p1)] [(.ref o)])) _
  refine XS.iconst X1.here hx rfl (hb hby d_init_5) ?_
  show Steps p.tables e below (T1.setTop (mkF m 6 #[.val (.ref o), .val (.int p1)] [(.int (2 : Int32)), (.ref o)])) _
  refine XS.iloadN X1.here hx rfl (hb hby d_init_6) rfl ?_
  show Steps p.tables e below (T1.setTop (mkF m 7 #[.val (.ref o), .val (.int p1)] [(.int p1), (.int (2 : Int32)), (.ref o)])) _
  refine XS.imul X1.here hx rfl (hb hby d_init_7) rfl ?_
  show Steps p.tables e below (T1.setTop (mkF m 8 #[.val (.ref o), .val (.int p1)] [(.int ((2 : Int32) * p1)), (.ref o)])) _
  refine XS.iconst X1.here hx rfl (hb hby d_init_8) ?_
  show Steps p.tables e below (T1.setTop (mkF m 9 #[.val (.ref o), .val (.int p1)] [(.int (1 : Int32)), (.int ((2 : Int32) * p1)), (.ref o)])) _
  refine XS.isub X1.here hx rfl (hb hby d_init_9) rfl ?_
  show Steps p.tables e below (T1.setTop (mkF m 10 #[.val (.ref o), .val (.int p1)] [(.int (((2 : Int32) * p1) - (1 : Int32))), (.ref o)])) _
  refine XS.iconst X1.here hx rfl (hb hby d_init_10) ?_
  show Steps p.tables e below (T1.setTop (mkF m 11 #[.val (.ref o), .val (.int p1)] [(.int (1 : Int32)), (.int (((2 : Int32) * p1) - (1 : Int32))), (.ref o)])) _
  refine st2 _ ?_
  show Steps p.tables e below (T2.setTop (mkF m 14 #[.val (.ref o), .val (.int p1)] [(.int (own_mx (((2 : Int32) * p1) - (1 : Int32)) (1 : Int32))), (.ref o)])) _
  refine st3 _ ?_
  show Steps p.tables e below (T3.setTop (mkF m 17 #[.val (.ref o), .val (.int p1)] [(.int (own_lv p1)), (.ref o)])) _
  rw [hq]
  show Steps p.tables e below (T3.setTop (mkF m 17 #[.val (.ref o), .val (.int p1)] [(.int q.toInt32), (.ref o)])) _
  refine st4 _ ?_
  show Steps p.tables e below (T4.setTop (mkF m 20 #[.val (.ref o), .val (.int p1)] [])) _
  refine XS.aloadN X4.here hx rfl (hb hby d_init_20) rfl rfl ?_
  show Steps p.tables e below (T4.setTop (mkF m 21 #[.val (.ref o), .val (.int p1)] [(.ref o)])) _
  refine XS.iconst X4.here hx rfl (hb hby d_init_21) ?_
  show Steps p.tables e below (T4.setTop (mkF m 22 #[.val (.ref o), .val (.int p1)] [(.int (2 : Int32)), (.ref o)])) _
  refine XS.aloadN X4.here hx rfl (hb hby d_init_22) rfl rfl ?_
  show Steps p.tables e below (T4.setTop (mkF m 23 #[.val (.ref o), .val (.int p1)] [(.ref o), (.int (2 : Int32)), (.ref o)])) _
  refine st5 _ ?_
  show Steps p.tables e below (T5.setTop (mkF m 26 #[.val (.ref o), .val (.int p1)] [(.int q.toInt32), (.int (2 : Int32)), (.ref o)])) _
  refine XS.imul X5.here hx rfl (hb hby d_init_26) rfl ?_
  show Steps p.tables e below (T5.setTop (mkF m 27 #[.val (.ref o), .val (.int p1)] [(.int ((2 : Int32) * q.toInt32)), (.ref o)])) _
  rw [hN]
  show Steps p.tables e below (T5.setTop (mkF m 27 #[.val (.ref o), .val (.int p1)] [(.int (2 * q).toInt32), (.ref o)])) _
  refine st6 _ ?_
  show Steps p.tables e below (T6.setTop (mkF m 29 #[.val (.ref o), .val (.int p1)] [(.ref b), (.ref o)])) _
  refine st7 _ ?_
  show Steps p.tables e below (T7.setTop (mkF m 32 #[.val (.ref o), .val (.int p1)] [])) _
  exact X7.returnOut hx Bd.returns (hb hby d_init_32) hr
theorem d_refer_0 : decode prog_152_method_3_code 0 = .ok (.aload_n 0, 1) := by decide +kernel
theorem d_refer_1 : decode prog_152_method_3_code 1 = .ok (.getfield 25, 3) := by decide +kernel
theorem d_refer_4 : decode prog_152_method_3_code 4 = .ok (.iconst 1, 1) := by decide +kernel
theorem d_refer_5 : decode prog_152_method_3_code 5 = .ok (.laload, 1) := by decide +kernel
theorem d_refer_6 : decode prog_152_method_3_code 6 = .ok (.lconst 1, 1) := by decide +kernel
theorem d_refer_7 : decode prog_152_method_3_code 7 = .ok (.ladd, 1) := by decide +kernel
theorem d_refer_8 : decode prog_152_method_3_code 8 = .ok (.lstore_n 2, 1) := by decide +kernel
theorem d_refer_9 : decode prog_152_method_3_code 9 = .ok (.aload_n 0, 1) := by decide +kernel
theorem d_refer_10 : decode prog_152_method_3_code 10 = .ok (.getfield 19, 3) := by decide +kernel
theorem d_refer_13 : decode prog_152_method_3_code 13 = .ok (.iload_n 1, 1) := by decide +kernel
theorem d_refer_14 : decode prog_152_method_3_code 14 = .ok (.iadd, 1) := by decide +kernel
theorem d_refer_15 : decode prog_152_method_3_code 15 = .ok (.istore 4, 2) := by decide +kernel
theorem d_refer_17 : decode prog_152_method_3_code 17 = .ok (.iload 4, 2) := by decide +kernel
theorem d_refer_19 : decode prog_152_method_3_code 19 = .ok (.ifCond .le 20, 3) := by decide +kernel
theorem d_refer_22 : decode prog_152_method_3_code 22 = .ok (.aload_n 0, 1) := by decide +kernel
theorem d_refer_23 : decode prog_152_method_3_code 23 = .ok (.getfield 25, 3) := by decide +kernel
theorem d_refer_26 : decode prog_152_method_3_code 26 = .ok (.iload 4, 2) := by decide +kernel
theorem d_refer_28 : decode prog_152_method_3_code 28 = .ok (.lload_n 2, 1) := by decide +kernel
theorem d_refer_29 : decode prog_152_method_3_code 29 = .ok (.lastore, 1) := by decide +kernel
theorem d_refer_30 : decode prog_152_method_3_code 30 = .ok (.iload 4, 2) := by decide +kernel
theorem d_refer_32 : decode prog_152_method_3_code 32 = .ok (.iconst 2, 1) := by decide +kernel
theorem d_refer_33 : decode prog_152_method_3_code 33 = .ok (.idiv, 1) := by decide +kernel
theorem d_refer_34 : decode prog_152_method_3_code 34 = .ok (.istore 4, 2) := by decide +kernel
theorem d_refer_36 : decode prog_152_method_3_code 36 = .ok (.goto (-19), 3) := by decide +kernel
theorem d_refer_39 : decode prog_152_method_3_code 39 = .ok (.return_, 1) := by decide +kernel
theorem ef_rf (m : MethodId) (x0 : Addr) (x1 : Int32) : entryFrame m #[(.ref x0), (.int x1)] 5 = mkF m 0 #[.val (.ref x0), .val (.int x1), .unset, .unset, .unset] [] := by first | (simp [entryFrame, mkF, argsToLocals, Value.category]; done) | rfl
set_option maxRecDepth 65536 in
set_option maxHeartbeats 40000000 in
theorem lp_rf {p : Program} {l : Launch} {e : Env} {R : Room} {s : State} {m : MethodId} {args : Array Value} {below : List Frame} {meth : Method} {c : Code} {cells slots : Nat} {Z : State} {a0 : Array Value} (hx : p.tables.exec = Jvm.exec) (hZ : Z.Warmed39 s.vm) (hw : ∀ d ∈ tables_1, d.before a0 Z = true) (hby : c.code = prog_152_method_3_code) (hown : s.vm.findClass "com/example/mutableau/mutableau/formula/BindingReferences" = some m.cls)  (n0 : Nat) (hs : Heap) (o b : Addr) (p1 : Int32) (v : Int64) (q : Nat) (hq : 2 * q < 2147483648) (hob : o ≠ b) (gb : n0 ≤ b) :
    ∀ (k i : Nat) (f : Nat → Int64) (T0 : State) (locs : List Loc) (h : Heap), i ≤ k → i < 2 * q → Stand p l e R s m args below meth c T0 locs cells slots → T0.heap = h → Fld Z h o "com/example/mutableau/mutableau/formula/BindingReferences" "latest" "[J" (.ref b) → own_A Z h b (2 * q) f → Fr n0 locs → Keep hs h [b] →
      ∃ (T' : State) (locs' : List Loc) (h' : Heap), Stand p l e R s m args below meth c T' locs' cells slots ∧ T'.heap = h' ∧ own_A Z h' b (2 * q) (own_path v k i f) ∧ Fr n0 locs' ∧ Keep hs h' [b] ∧ ∀ t, Steps p.tables e below (T'.setTop (mkF m 39 #[.val (.ref o), .val (.int p1), .val (.long v), .second, .val (.int (0 : Nat).toInt32)] [])) t → Steps p.tables e below (T0.setTop (mkF m 17 #[.val (.ref o), .val (.int p1), .val (.long v), .second, .val (.int i.toInt32)] [])) t := by
  intro k
  induction k with
  | zero =>
    intro i f T0 locs h hi hi2 X0 e0 F A N K
    have h0 : i = 0 := by omega
    subst h0
    refine ⟨T0, locs, h, X0, e0, A, N, K, fun t kt => ?_⟩
    have hc19 : ¬ ((0 : Int32) < (0 : Nat).toInt32) := by decide
    show Steps p.tables e below (T0.setTop (mkF m 17 #[.val (.ref o), .val (.int p1), .val (.long v), .second, .val (.int (0 : Nat).toInt32)] [])) _
    refine XS.iload X0.here hx rfl (hb hby d_refer_17) rfl ?_
    show Steps p.tables e below (T0.setTop (mkF m 19 #[.val (.ref o), .val (.int p1), .val (.long v), .second, .val (.int (0 : Nat).toInt32)] [(.int (0 : Nat).toInt32)])) _
    refine XS.ifYes X0.here hx rfl (pc0 := 19) (pc' := 39) rfl (hb hby d_refer_19) rfl ((if0 _ _).trans (flt hc19).2.2.2) (by decide) (by decide) ?_
    exact kt
  | succ k ih =>
    intro i f T0 locs h hi hi2 X0 e0 F A N K
    by_cases h0 : i = 0
    · subst h0
      rw [own_path0]
      refine ⟨T0, locs, h, X0, e0, A, N, K, fun t kt => ?_⟩
      have hc19 : ¬ ((0 : Int32) < (0 : Nat).toInt32) := by decide
      show Steps p.tables e below (T0.setTop (mkF m 17 #[.val (.ref o), .val (.int p1), .val (.long v), .second, .val (.int (0 : Nat).toInt32)] [])) _
      refine XS.iload X0.here hx rfl (hb hby d_refer_17) rfl ?_
      show Steps p.tables e below (T0.setTop (mkF m 19 #[.val (.ref o), .val (.int p1), .val (.long v), .second, .val (.int (0 : Nat).toInt32)] [(.int (0 : Nat).toInt32)])) _
      refine XS.ifYes X0.here hx rfl (pc0 := 19) (pc' := 39) rfl (hb hby d_refer_19) rfl ((if0 _ _).trans (flt hc19).2.2.2) (by decide) (by decide) ?_
      exact kt
    · rw [own_pathS v k i f h0]
      have hc19 : (0 : Int32) < i.toInt32 := (own_pos (by omega)).mpr h0
      obtain ⟨T1, X1, e1, st1⟩ := getF X0 hx hZ hown (host := "") (Or.inl (hw _ (List.mem_of_getElem? (i := 25) rfl))) Via.refl e0 F (g := (mkF m 23 #[.val (.ref o), .val (.int p1), .val (.long v), .second, .val (.int i.toInt32)] [(.ref o)])) rfl rfl (hb hby d_refer_23)
      obtain ⟨cl, Ar, Sz, H⟩ := A
      obtain ⟨hin, hat⟩ := own_rd (i := i) Sz H rfl hi2 (by omega)
      obtain ⟨T2, h2, X2, e2, W2, st2⟩ := stJ X1 hx hZ e1 Ar (j := i.toInt32) hin (g := (mkF m 29 #[.val (.ref o), .val (.int p1), .val (.long v), .second, .val (.int i.toInt32)] [(.long v), (.int i.toInt32), (.ref b)])) rfl rfl (hb hby d_refer_29)
      rw [own_tn (by omega)] at W2 X2
      have A2 := own_A_set Ar Sz H W2 hi2
      have N2 := Fr.snoc X2 N gb
      have K2 : Keep hs h2 [b] := K.wr W2 (Or.inl (List.mem_of_getElem? (i := 0) rfl))
      have F2 := F.other W2 (Or.inl hob)
      have hhalf : i.toInt32 / (2 : Int32) = (i / 2).toInt32 := own_half (by omega)
      obtain ⟨T', locs', h', X', e', A', N', K', st'⟩ := ih (i / 2) (own_upd f i v) T2 _ h2 (by omega) (by omega) X2 e2 F2 A2 N2 K2
      refine ⟨T', locs', h', X', e', A', N', K', fun t kt => ?_⟩
      show Steps p.tables e below (T0.setTop (mkF m 17 #[.val (.ref o), .val (.int p1), .val (.long v), .second, .val (.int i.toInt32)] [])) _
      refine XS.iload X0.here hx rfl (hb hby d_refer_17) rfl ?_
      show Steps p.tables e below (T0.setTop (mkF m 19 #[.val (.ref o), .val (.int p1), .val (.long v), .second, .val (.int i.toInt32)] [(.int i.toInt32)])) _
      refine XS.ifNo X0.here hx rfl (hb hby d_refer_19) rfl ((if0 _ _).trans (tlt hc19).2.2.2) ?_
      show Steps p.tables e below (T0.setTop (mkF m 22 #[.val (.ref o), .val (.int p1), .val (.long v), .second, .val (.int i.toInt32)] [])) _
      refine XS.aloadN X0.here hx rfl (hb hby d_refer_22) rfl rfl ?_
      show Steps p.tables e below (T0.setTop (mkF m 23 #[.val (.ref o), .val (.int p1), .val (.long v), .second, .val (.int i.toInt32)] [(.ref o)])) _
      refine st1 _ ?_
      show Steps p.tables e below (T1.setTop (mkF m 26 #[.val (.ref o), .val (.int p1), .val (.long v), .second, .val (.int i.toInt32)] [(.ref b)])) _
      refine XS.iload X1.here hx rfl (hb hby d_refer_26) rfl ?_
      show Steps p.tables e below (T1.setTop (mkF m 28 #[.val (.ref o), .val (.int p1), .val (.long v), .second, .val (.int i.toInt32)] [(.int i.toInt32), (.ref b)])) _
      refine XS.lloadN X1.here hx rfl (hb hby d_refer_28) rfl ?_
      show Steps p.tables e below (T1.setTop (mkF m 29 #[.val (.ref o), .val (.int p1), .val (.long v), .second, .val (.int i.toInt32)] [(.long v), (.int i.toInt32), (.ref b)])) _
      refine st2 _ ?_
      show Steps p.tables e below (T2.setTop (mkF m 30 #[.val (.ref o), .val (.int p1), .val (.long v), .second, .val (.int i.toInt32)] [])) _
      refine XS.iload X2.here hx rfl (hb hby d_refer_30) rfl ?_
      show Steps p.tables e below (T2.setTop (mkF m 32 #[.val (.ref o), .val (.int p1), .val (.long v), .second, .val (.int i.toInt32)] [(.int i.toInt32)])) _
      refine XS.iconst X2.here hx rfl (hb hby d_refer_32) ?_
      show Steps p.tables e below (T2.setTop (mkF m 33 #[.val (.ref o), .val (.int p1), .val (.long v), .second, .val (.int i.toInt32)] [(.int (2 : Int32)), (.int i.toInt32)])) _
      refine XS.idiv X2.here hx rfl (hb hby d_refer_33) rfl (by decide) ?_
      show Steps p.tables e below (T2.setTop (mkF m 34 #[.val (.ref o), .val (.int p1), .val (.long v), .second, .val (.int i.toInt32)] [(.int (i.toInt32 / (2 : Int32)))])) _
      refine XS.istore X2.here hx rfl (hb hby d_refer_34) rfl (l' := #[.val (.ref o), .val (.int p1), .val (.long v), .second, .val (.int (i.toInt32 / (2 : Int32)))]) rfl ?_
      show Steps p.tables e below (T2.setTop (mkF m 36 #[.val (.ref o), .val (.int p1), .val (.long v), .second, .val (.int (i.toInt32 / (2 : Int32)))] [])) _
      refine XS.goto X2.here hx rfl (pc0 := 36) (pc' := 17) rfl (hb hby d_refer_36) (by decide) (by decide) ?_
      show Steps p.tables e below (T2.setTop (mkF m 17 #[.val (.ref o), .val (.int p1), .val (.long v), .second, .val (.int (i.toInt32 / (2 : Int32)))] [])) _
      rw [hhalf]
      exact st' t kt
def Q_rm_rf (Z : State) (o : Addr) (p1 : Int32) (d : Nat) (b : Addr) (q : Nat) (f : Nat → Int64) (h0 : Heap) (n0 : Nat) (v : Option Value) (h : Heap) (L : List Loc) : Prop := (v = none ∧ Fr n0 L ∧ Keep h0 h [b] ∧ own_A Z h b (2 * q) (own_path (f 1 + 1) (q + d) (q + d) f))
set_option maxRecDepth 65536 in
set_option maxHeartbeats 40000000 in
theorem rm_rf (l : Launch) (Z : State) (a0 : Array Value) (hw : ∀ d ∈ tables_1, d.before a0 Z = true) (ws : List Jvm.Cond) (o : Addr) (p1 : Int32) (h0 : Heap) (n0 : Nat) (d : Nat) (hd : p1 = d.toInt32) (b : Addr) (q : Nat) (hq : 2 * q < 2147483648) (hdq : d < q) (f : Nat → Int64) (F1 : Fld Z h0 o "com/example/mutableau/mutableau/formula/BindingReferences" "leaves" "I" (.int q.toInt32)) (F2 : Fld Z h0 o "com/example/mutableau/mutableau/formula/BindingReferences" "latest" "[J" (.ref b)) (A0 : own_A Z h0 b (2 * q) f) (hob : o ≠ b) (gb : n0 ≤ b) :
    MetFree l (⟨"com/example/mutableau/mutableau/formula/BindingReferences", "refer", "(I)V"⟩ : MethodName) (head1 (Jvm.Cond.code (⟨"com/example/mutableau/mutableau/formula/BindingReferences", "refer", "(I)V"⟩ : MethodName) prog_152_method_3_code 5 none :: ws) ({ frames := 0, cells := 0, slots := 0, locals := 0 } : Room)) (fun a U => a = #[(.ref o), (.int p1)] ∧ Z.Warmed39 U.vm ∧ U.heap = h0) (fun _ _ _ _ _ => True) (fun _ U oc U' => ∃ v L, oc = .returned v ∧ Q_rm_rf Z o p1 d b q f h0 n0 v U'.heap L ∧ FrameEnd U oc U' L ({ frames := 0, cells := 0, slots := 0, locals := 0 } : Room).cells ({ frames := 0, cells := 0, slots := 0, locals := 0 } : Room).slots) := by
  refine MetFree.of_bodySF (plainFor_of_name pn_b) hisR ?_
  intro p e s m args below meth c s₁ Bd hml0 hP hK
  obtain ⟨rfl, hZ, hh⟩ := hP
  have hx := Bd.exec
  have hby := Bd.bytes
  have hml : c.maxLocals = 5 := hml0
  have hown : s.vm.findClass "com/example/mutableau/mutableau/formula/BindingReferences" = some m.cls := findClass_of_methodNamed Bd.named
  have hnm := (name_of_methodNamed Bd.named Bd.method).1
  have X0 : Stand p l e ({ frames := 0, cells := 0, slots := 0, locals := 0 } : Room) s m #[(.ref o), (.int p1)] below meth c s₁ [] 0 0 := Stand.of_body Bd
  have e0 : s₁.heap = h0 := by rw [← hh, Bd.state]; rfl
  have N0 := Fr.nil n0
  have pre0 : ∀ t, Steps p.tables e below (s₁.setTop (mkF m 0 #[.val (.ref o), .val (.int p1), .unset, .unset, .unset] [])) t → Steps p.tables e below (s₁.setTop (entryFrame m #[(.ref o), (.int p1)] 5)) t := fun t k => castTop (ef_rf m o p1) k
  obtain ⟨T1, X1, e1, st1⟩ := getF X0 hx hZ hown (host := "") (Or.inl (hw _ (List.mem_of_getElem? (i := 25) rfl))) Via.refl e0 F2 (g := (mkF m 1 #[.val (.ref o), .val (.int p1), .unset, .unset, .unset] [(.ref o)])) rfl rfl (hb hby d_refer_1)
  obtain ⟨cl, Ar, Sz, H⟩ := id A0
  obtain ⟨hin, hat⟩ := own_rd (i := 1) Sz H (j := (1 : Int32)) rfl (by omega) (by omega)
  obtain ⟨T2, X2, e2, st2⟩ := getF X1 hx hZ hown (host := "") (Or.inl (hw _ (List.mem_of_getElem? (i := 22) rfl))) Via.refl e1 F1 (g := (mkF m 10 #[.val (.ref o), .val (.int p1), .val (.long ((f 1) + (1 : Int64))), .second, .unset] [(.ref o)])) rfl rfl (hb hby d_refer_10)
  have hsum : q.toInt32 + p1 = (q + d).toInt32 := by rw [hd]; exact own_plus (by omega)
  obtain ⟨T3, L3, h3, X3, e3, A3, N3, K3, st3⟩ := lp_rf hx hZ hw hby hown n0 h0 o b p1 (f 1 + 1) q hq hob gb (q + d) (q + d) f T2 _ h0 (Nat.le_refl _) (by omega) X2 e2 F2 A0 N0 (Keep.refl _ _)
  obtain ⟨fs, hr, hrun, hended, hW, hsame⟩ := X3.leave (v := none) (fun _ => rfl)
  refine ⟨_, _, pre0 _ ?_, hrun, hended, _, _, rfl, ⟨rfl, N3, e3 ▸ K3, e3 ▸ A3⟩, ⟨_, rfl⟩, hW, hsame.mono (by decide) (by decide)⟩
  show Steps p.tables e below (s₁.setTop (mkF m 0 #[.val (.ref o), .val (.int p1), .unset, .unset, .unset] [])) _
  refine XS.aloadN X0.here hx rfl (hb hby d_refer_0) rfl rfl ?_
  show Steps p.tables e below (s₁.setTop (mkF m 1 #[.val (.ref o), .val (.int p1), .unset, .unset, .unset] [(.ref o)])) _
  refine st1 _ ?_
  show Steps p.tables e below (T1.setTop (mkF m 4 #[.val (.ref o), .val (.int p1), .unset, .unset, .unset] [(.ref b)])) _
  refine XS.iconst X1.here hx rfl (hb hby d_refer_4) ?_
  show Steps p.tables e below (T1.setTop (mkF m 5 #[.val (.ref o), .val (.int p1), .unset, .unset, .unset] [(.int (1 : Int32)), (.ref b)])) _
  refine X1.laload hx (j := (1 : Int32)) (v := (.long (f 1))) (by rw [e1]; exact Ar.1) (State.isArrayOf_alike hZ.alike Ar.2.1) Ar.2.2 hin hat (g := (mkF m 5 #[.val (.ref o), .val (.int p1), .unset, .unset, .unset] [(.int (1 : Int32)), (.ref b)])) rfl rfl (hb hby d_refer_5) _ ?_
  show Steps p.tables e below (T1.setTop (mkF m 6 #[.val (.ref o), .val (.int p1), .unset, .unset, .unset] [(.long (f 1))])) _
  refine XS.lconst X1.here hx rfl (hb hby d_refer_6) ?_
  show Steps p.tables e below (T1.setTop (mkF m 7 #[.val (.ref o), .val (.int p1), .unset, .unset, .unset] [(.long (1 : Int64)), (.long (f 1))])) _
  refine XS.ladd X1.here hx rfl (hb hby d_refer_7) rfl ?_
  show Steps p.tables e below (T1.setTop (mkF m 8 #[.val (.ref o), .val (.int p1), .unset, .unset, .unset] [(.long ((f 1) + (1 : Int64)))])) _
  refine XS.lstoreN X1.here hx rfl (hb hby d_refer_8) rfl (l' := #[.val (.ref o), .val (.int p1), .val (.long ((f 1) + (1 : Int64))), .second, .unset]) rfl ?_
  show Steps p.tables e below (T1.setTop (mkF m 9 #[.val (.ref o), .val (.int p1), .val (.long ((f 1) + (1 : Int64))), .second, .unset] [])) _
  refine XS.aloadN X1.here hx rfl (hb hby d_refer_9) rfl rfl ?_
  show Steps p.tables e below (T1.setTop (mkF m 10 #[.val (.ref o), .val (.int p1), .val (.long ((f 1) + (1 : Int64))), .second, .unset] [(.ref o)])) _
  refine st2 _ ?_
  show Steps p.tables e below (T2.setTop (mkF m 13 #[.val (.ref o), .val (.int p1), .val (.long ((f 1) + (1 : Int64))), .second, .unset] [(.int q.toInt32)])) _
  refine XS.iloadN X2.here hx rfl (hb hby d_refer_13) rfl ?_
  show Steps p.tables e below (T2.setTop (mkF m 14 #[.val (.ref o), .val (.int p1), .val (.long ((f 1) + (1 : Int64))), .second, .unset] [(.int p1), (.int q.toInt32)])) _
  refine XS.iadd X2.here hx rfl (hb hby d_refer_14) rfl ?_
  show Steps p.tables e below (T2.setTop (mkF m 15 #[.val (.ref o), .val (.int p1), .val (.long ((f 1) + (1 : Int64))), .second, .unset] [(.int (q.toInt32 + p1))])) _
  refine XS.istore X2.here hx rfl (hb hby d_refer_15) rfl (l' := #[.val (.ref o), .val (.int p1), .val (.long ((f 1) + (1 : Int64))), .second, .val (.int (q.toInt32 + p1))]) rfl ?_
  show Steps p.tables e below (T2.setTop (mkF m 17 #[.val (.ref o), .val (.int p1), .val (.long ((f 1) + (1 : Int64))), .second, .val (.int (q.toInt32 + p1))] [])) _
  rw [hsum]
  refine st3 _ ?_
  show Steps p.tables e below (T3.setTop (mkF m 39 #[.val (.ref o), .val (.int p1), .val (.long ((f 1) + (1 : Int64))), .second, .val (.int (0 : Nat).toInt32)] [])) _
  exact X3.returnOut hx Bd.returns (hb hby d_refer_39) hr
theorem d_innermostSince_0 : decode prog_152_method_4_code 0 = .ok (.iconst (-1), 1) := by decide +kernel
theorem d_innermostSince_1 : decode prog_152_method_4_code 1 = .ok (.istore 4, 2) := by decide +kernel
theorem d_innermostSince_3 : decode prog_152_method_4_code 3 = .ok (.iload_n 1, 1) := by decide +kernel
theorem d_innermostSince_4 : decode prog_152_method_4_code 4 = .ok (.ifCond .le 122, 3) := by decide +kernel
theorem d_innermostSince_7 : decode prog_152_method_4_code 7 = .ok (.aload_n 0, 1) := by decide +kernel
theorem d_innermostSince_8 : decode prog_152_method_4_code 8 = .ok (.getfield 19, 3) := by decide +kernel
theorem d_innermostSince_11 : decode prog_152_method_4_code 11 = .ok (.iload_n 1, 1) := by decide +kernel
theorem d_innermostSince_12 : decode prog_152_method_4_code 12 = .ok (.iadd, 1) := by decide +kernel
theorem d_innermostSince_13 : decode prog_152_method_4_code 13 = .ok (.iconst 1, 1) := by decide +kernel
theorem d_innermostSince_14 : decode prog_152_method_4_code 14 = .ok (.isub, 1) := by decide +kernel
theorem d_innermostSince_15 : decode prog_152_method_4_code 15 = .ok (.istore 5, 2) := by decide +kernel
theorem d_innermostSince_17 : decode prog_152_method_4_code 17 = .ok (.iload 5, 2) := by decide +kernel
theorem d_innermostSince_19 : decode prog_152_method_4_code 19 = .ok (.ifCond .le 50, 3) := by decide +kernel
theorem d_innermostSince_22 : decode prog_152_method_4_code 22 = .ok (.aload_n 0, 1) := by decide +kernel
theorem d_innermostSince_23 : decode prog_152_method_4_code 23 = .ok (.getfield 25, 3) := by decide +kernel
theorem d_innermostSince_26 : decode prog_152_method_4_code 26 = .ok (.iload 5, 2) := by decide +kernel
theorem d_innermostSince_28 : decode prog_152_method_4_code 28 = .ok (.laload, 1) := by decide +kernel
theorem d_innermostSince_29 : decode prog_152_method_4_code 29 = .ok (.lload_n 2, 1) := by decide +kernel
theorem d_innermostSince_30 : decode prog_152_method_4_code 30 = .ok (.lcmp, 1) := by decide +kernel
theorem d_innermostSince_31 : decode prog_152_method_4_code 31 = .ok (.ifCond .gt 38, 3) := by decide +kernel
theorem d_innermostSince_34 : decode prog_152_method_4_code 34 = .ok (.iload 5, 2) := by decide +kernel
theorem d_innermostSince_36 : decode prog_152_method_4_code 36 = .ok (.iconst 2, 1) := by decide +kernel
theorem d_innermostSince_37 : decode prog_152_method_4_code 37 = .ok (.irem, 1) := by decide +kernel
theorem d_innermostSince_38 : decode prog_152_method_4_code 38 = .ok (.ifCond .ne 12, 3) := by decide +kernel
theorem d_innermostSince_41 : decode prog_152_method_4_code 41 = .ok (.iload 5, 2) := by decide +kernel
theorem d_innermostSince_43 : decode prog_152_method_4_code 43 = .ok (.iconst 2, 1) := by decide +kernel
theorem d_innermostSince_44 : decode prog_152_method_4_code 44 = .ok (.idiv, 1) := by decide +kernel
theorem d_innermostSince_45 : decode prog_152_method_4_code 45 = .ok (.istore 5, 2) := by decide +kernel
theorem d_innermostSince_47 : decode prog_152_method_4_code 47 = .ok (.goto (-13), 3) := by decide +kernel
theorem d_innermostSince_50 : decode prog_152_method_4_code 50 = .ok (.iload 5, 2) := by decide +kernel
theorem d_innermostSince_52 : decode prog_152_method_4_code 52 = .ok (.iconst 1, 1) := by decide +kernel
theorem d_innermostSince_53 : decode prog_152_method_4_code 53 = .ok (.if_icmp .ne 7, 3) := by decide +kernel
theorem d_innermostSince_56 : decode prog_152_method_4_code 56 = .ok (.iconst 0, 1) := by decide +kernel
theorem d_innermostSince_57 : decode prog_152_method_4_code 57 = .ok (.goto 7, 3) := by decide +kernel
theorem d_innermostSince_60 : decode prog_152_method_4_code 60 = .ok (.iload 5, 2) := by decide +kernel
theorem d_innermostSince_62 : decode prog_152_method_4_code 62 = .ok (.iconst 1, 1) := by decide +kernel
theorem d_innermostSince_63 : decode prog_152_method_4_code 63 = .ok (.isub, 1) := by decide +kernel
theorem d_innermostSince_64 : decode prog_152_method_4_code 64 = .ok (.istore 5, 2) := by decide +kernel
theorem d_innermostSince_66 : decode prog_152_method_4_code 66 = .ok (.goto (-49), 3) := by decide +kernel
theorem d_innermostSince_69 : decode prog_152_method_4_code 69 = .ok (.iload 5, 2) := by decide +kernel
theorem d_innermostSince_71 : decode prog_152_method_4_code 71 = .ok (.ifCond .le 55, 3) := by decide +kernel
theorem d_innermostSince_74 : decode prog_152_method_4_code 74 = .ok (.iload 5, 2) := by decide +kernel
theorem d_innermostSince_76 : decode prog_152_method_4_code 76 = .ok (.aload_n 0, 1) := by decide +kernel
theorem d_innermostSince_77 : decode prog_152_method_4_code 77 = .ok (.getfield 19, 3) := by decide +kernel
theorem d_innermostSince_80 : decode prog_152_method_4_code 80 = .ok (.if_icmp .ge 37, 3) := by decide +kernel
theorem d_innermostSince_83 : decode prog_152_method_4_code 83 = .ok (.aload_n 0, 1) := by decide +kernel
theorem d_innermostSince_84 : decode prog_152_method_4_code 84 = .ok (.getfield 25, 3) := by decide +kernel
theorem d_innermostSince_87 : decode prog_152_method_4_code 87 = .ok (.iconst 2, 1) := by decide +kernel
theorem d_innermostSince_88 : decode prog_152_method_4_code 88 = .ok (.iload 5, 2) := by decide +kernel
theorem d_innermostSince_90 : decode prog_152_method_4_code 90 = .ok (.imul, 1) := by decide +kernel
theorem d_innermostSince_91 : decode prog_152_method_4_code 91 = .ok (.iconst 1, 1) := by decide +kernel
theorem d_innermostSince_92 : decode prog_152_method_4_code 92 = .ok (.iadd, 1) := by decide +kernel
theorem d_innermostSince_93 : decode prog_152_method_4_code 93 = .ok (.laload, 1) := by decide +kernel
theorem d_innermostSince_94 : decode prog_152_method_4_code 94 = .ok (.lload_n 2, 1) := by decide +kernel
theorem d_innermostSince_95 : decode prog_152_method_4_code 95 = .ok (.lcmp, 1) := by decide +kernel
theorem d_innermostSince_96 : decode prog_152_method_4_code 96 = .ok (.ifCond .le 12, 3) := by decide +kernel
theorem d_innermostSince_99 : decode prog_152_method_4_code 99 = .ok (.iconst 2, 1) := by decide +kernel
theorem d_innermostSince_100 : decode prog_152_method_4_code 100 = .ok (.iload 5, 2) := by decide +kernel
theorem d_innermostSince_102 : decode prog_152_method_4_code 102 = .ok (.imul, 1) := by decide +kernel
theorem d_innermostSince_103 : decode prog_152_method_4_code 103 = .ok (.iconst 1, 1) := by decide +kernel
theorem d_innermostSince_104 : decode prog_152_method_4_code 104 = .ok (.iadd, 1) := by decide +kernel
theorem d_innermostSince_105 : decode prog_152_method_4_code 105 = .ok (.goto 7, 3) := by decide +kernel
theorem d_innermostSince_108 : decode prog_152_method_4_code 108 = .ok (.iconst 2, 1) := by decide +kernel
theorem d_innermostSince_109 : decode prog_152_method_4_code 109 = .ok (.iload 5, 2) := by decide +kernel
theorem d_innermostSince_111 : decode prog_152_method_4_code 111 = .ok (.imul, 1) := by decide +kernel
theorem d_innermostSince_112 : decode prog_152_method_4_code 112 = .ok (.istore 5, 2) := by decide +kernel
theorem d_innermostSince_114 : decode prog_152_method_4_code 114 = .ok (.goto (-40), 3) := by decide +kernel
theorem d_innermostSince_117 : decode prog_152_method_4_code 117 = .ok (.iload 5, 2) := by decide +kernel
theorem d_innermostSince_119 : decode prog_152_method_4_code 119 = .ok (.aload_n 0, 1) := by decide +kernel
theorem d_innermostSince_120 : decode prog_152_method_4_code 120 = .ok (.getfield 19, 3) := by decide +kernel
theorem d_innermostSince_123 : decode prog_152_method_4_code 123 = .ok (.isub, 1) := by decide +kernel
theorem d_innermostSince_124 : decode prog_152_method_4_code 124 = .ok (.istore 4, 2) := by decide +kernel
theorem d_innermostSince_126 : decode prog_152_method_4_code 126 = .ok (.iload 4, 2) := by decide +kernel
theorem d_innermostSince_128 : decode prog_152_method_4_code 128 = .ok (.ireturn, 1) := by decide +kernel
theorem ef_in (m : MethodId) (x0 : Addr) (x1 : Int32) (x2 : Int64) : entryFrame m #[(.ref x0), (.int x1), (.long x2)] 6 = mkF m 0 #[.val (.ref x0), .val (.int x1), .val (.long x2), .second, .unset, .unset] [] := by first | (simp [entryFrame, mkF, argsToLocals, Value.category]; done) | rfl
set_option maxRecDepth 65536 in
set_option maxHeartbeats 40000000 in
theorem lp_od {p : Program} {l : Launch} {e : Env} {R : Room} {s : State} {m : MethodId} {args : Array Value} {below : List Frame} {meth : Method} {c : Code} {cells slots : Nat} {Z : State} {a0 : Array Value} (hx : p.tables.exec = Jvm.exec) (hZ : Z.Warmed39 s.vm) (hw : ∀ d ∈ tables_1, d.before a0 Z = true) (hby : c.code = prog_152_method_4_code) (hown : s.vm.findClass "com/example/mutableau/mutableau/formula/BindingReferences" = some m.cls)  (o : Addr) (p1 : Int32) (sv : Int64) {T0 : State} {locs : List Loc} (X0 : Stand p l e R s m args below meth c T0 locs cells slots) :
    ∀ (k n : Nat), n ≤ k → 1 ≤ n → n < 2147483648 → ∀ t, Steps p.tables e below (T0.setTop (mkF m 50 #[.val (.ref o), .val (.int p1), .val (.long sv), .second, .val (.int (-1 : Int32)), .val (.int (own_odd k n).toInt32)] [])) t → Steps p.tables e below (T0.setTop (mkF m 34 #[.val (.ref o), .val (.int p1), .val (.long sv), .second, .val (.int (-1 : Int32)), .val (.int n.toInt32)] [])) t := by
  intro k
  induction k with
  | zero => intro n h1 h2; omega
  | succ k ih =>
    intro n h1 h2 h3 t kt
    have hpar : n.toInt32 % (2 : Int32) = (n % 2).toInt32 := own_par h3
    have hhalf : n.toInt32 / (2 : Int32) = (n / 2).toInt32 := own_half h3
    show Steps p.tables e below (T0.setTop (mkF m 34 #[.val (.ref o), .val (.int p1), .val (.long sv), .second, .val (.int (-1 : Int32)), .val (.int n.toInt32)] [])) _
    refine XS.iload X0.here hx rfl (hb hby d_innermostSince_34) rfl ?_
    show Steps p.tables e below (T0.setTop (mkF m 36 #[.val (.ref o), .val (.int p1), .val (.long sv), .second, .val (.int (-1 : Int32)), .val (.int n.toInt32)] [(.int n.toInt32)])) _
    refine XS.iconst X0.here hx rfl (hb hby d_innermostSince_36) ?_
    show Steps p.tables e below (T0.setTop (mkF m 37 #[.val (.ref o), .val (.int p1), .val (.long sv), .second, .val (.int (-1 : Int32)), .val (.int n.toInt32)] [(.int (2 : Int32)), (.int n.toInt32)])) _
    refine iremM X0 hx rfl (hb hby d_innermostSince_37) rfl (by decide) ?_
    by_cases hm : n % 2 = 0
    · have hc38 : (n.toInt32 % (2 : Int32)) = (0 : Int32) := by rw [hpar, hm]; rfl
      rw [own_oddE hm] at kt
      show Steps p.tables e below (T0.setTop (mkF m 38 #[.val (.ref o), .val (.int p1), .val (.long sv), .second, .val (.int (-1 : Int32)), .val (.int n.toInt32)] [(.int (n.toInt32 % (2 : Int32)))])) _
      refine XS.ifNo X0.here hx rfl (hb hby d_innermostSince_38) rfl ((if0 _ _).trans (teq hc38).2) ?_
      show Steps p.tables e below (T0.setTop (mkF m 41 #[.val (.ref o), .val (.int p1), .val (.long sv), .second, .val (.int (-1 : Int32)), .val (.int n.toInt32)] [])) _
      refine XS.iload X0.here hx rfl (hb hby d_innermostSince_41) rfl ?_
      show Steps p.tables e below (T0.setTop (mkF m 43 #[.val (.ref o), .val (.int p1), .val (.long sv), .second, .val (.int (-1 : Int32)), .val (.int n.toInt32)] [(.int n.toInt32)])) _
      refine XS.iconst X0.here hx rfl (hb hby d_innermostSince_43) ?_
      show Steps p.tables e below (T0.setTop (mkF m 44 #[.val (.ref o), .val (.int p1), .val (.long sv), .second, .val (.int (-1 : Int32)), .val (.int n.toInt32)] [(.int (2 : Int32)), (.int n.toInt32)])) _
      refine XS.idiv X0.here hx rfl (hb hby d_innermostSince_44) rfl (by decide) ?_
      show Steps p.tables e below (T0.setTop (mkF m 45 #[.val (.ref o), .val (.int p1), .val (.long sv), .second, .val (.int (-1 : Int32)), .val (.int n.toInt32)] [(.int (n.toInt32 / (2 : Int32)))])) _
      refine XS.istore X0.here hx rfl (hb hby d_innermostSince_45) rfl (l' := #[.val (.ref o), .val (.int p1), .val (.long sv), .second, .val (.int (-1 : Int32)), .val (.int (n.toInt32 / (2 : Int32)))]) rfl ?_
      show Steps p.tables e below (T0.setTop (mkF m 47 #[.val (.ref o), .val (.int p1), .val (.long sv), .second, .val (.int (-1 : Int32)), .val (.int (n.toInt32 / (2 : Int32)))] [])) _
      refine XS.goto X0.here hx rfl (pc0 := 47) (pc' := 34) rfl (hb hby d_innermostSince_47) (by decide) (by decide) ?_
      show Steps p.tables e below (T0.setTop (mkF m 34 #[.val (.ref o), .val (.int p1), .val (.long sv), .second, .val (.int (-1 : Int32)), .val (.int (n.toInt32 / (2 : Int32)))] [])) _
      rw [hhalf]
      exact ih (n / 2) (by omega) (by omega) (by omega) t kt
    · have hc38 : ¬ ((n.toInt32 % (2 : Int32)) = (0 : Int32)) := by rw [hpar, show n % 2 = 1 by omega]; decide
      rw [own_oddO hm] at kt
      show Steps p.tables e below (T0.setTop (mkF m 38 #[.val (.ref o), .val (.int p1), .val (.long sv), .second, .val (.int (-1 : Int32)), .val (.int n.toInt32)] [(.int (n.toInt32 % (2 : Int32)))])) _
      refine XS.ifYes X0.here hx rfl (pc0 := 38) (pc' := 50) rfl (hb hby d_innermostSince_38) rfl ((if0 _ _).trans (feq hc38).2) (by decide) (by decide) ?_
      exact kt
set_option maxRecDepth 65536 in
set_option maxHeartbeats 40000000 in
theorem lp_ou {p : Program} {l : Launch} {e : Env} {R : Room} {s : State} {m : MethodId} {args : Array Value} {below : List Frame} {meth : Method} {c : Code} {cells slots : Nat} {Z : State} {a0 : Array Value} (hx : p.tables.exec = Jvm.exec) (hZ : Z.Warmed39 s.vm) (hw : ∀ d ∈ tables_1, d.before a0 Z = true) (hby : c.code = prog_152_method_4_code) (hown : s.vm.findClass "com/example/mutableau/mutableau/formula/BindingReferences" = some m.cls)  (o b : Addr) (p1 : Int32) (sv : Int64) (q : Nat) (hq : 2 * q < 2147483648) (f : Nat → Int64) {h : Heap} {locs : List Loc} (F1 : Fld Z h o "com/example/mutableau/mutableau/formula/BindingReferences" "leaves" "I" (.int q.toInt32)) (F2 : Fld Z h o "com/example/mutableau/mutableau/formula/BindingReferences" "latest" "[J" (.ref b)) (A : own_A Z h b (2 * q) f) :
    ∀ (k n : Nat) (T0 : State), n ≤ k → n < 2 * q → Stand p l e R s m args below meth c T0 locs cells slots → T0.heap = h → ∃ T' : State, Stand p l e R s m args below meth c T' locs cells slots ∧ T'.heap = h ∧ ∀ t, Steps p.tables e below (T'.setTop (mkF m 69 #[.val (.ref o), .val (.int p1), .val (.long sv), .second, .val (.int (-1 : Int32)), .val (.int (own_out f sv k n).toInt32)] [])) t → Steps p.tables e below (T0.setTop (mkF m 17 #[.val (.ref o), .val (.int p1), .val (.long sv), .second, .val (.int (-1 : Int32)), .val (.int n.toInt32)] [])) t := by
  intro k
  induction k with
  | zero =>
    intro n T0 h1 h2 X0 e0
    have h0 : n = 0 := by omega
    subst h0
    rw [own_out0]
    refine ⟨T0, X0, e0, fun t kt => ?_⟩
    have hc19 : ¬ ((0 : Int32) < (0 : Nat).toInt32) := by decide
    show Steps p.tables e below (T0.setTop (mkF m 17 #[.val (.ref o), .val (.int p1), .val (.long sv), .second, .val (.int (-1 : Int32)), .val (.int (0 : Nat).toInt32)] [])) _
    refine XS.iload X0.here hx rfl (hb hby d_innermostSince_17) rfl ?_
    show Steps p.tables e below (T0.setTop (mkF m 19 #[.val (.ref o), .val (.int p1), .val (.long sv), .second, .val (.int (-1 : Int32)), .val (.int (0 : Nat).toInt32)] [(.int (0 : Nat).toInt32)])) _
    refine XS.ifYes X0.here hx rfl (pc0 := 19) (pc' := 69) rfl (hb hby d_innermostSince_19) rfl ((if0 _ _).trans (flt hc19).2.2.2) (by decide) (by decide) ?_
    exact kt
  | succ k ih =>
    intro n T0 h1 h2 X0 e0
    by_cases h0 : n = 0
    · subst h0
      rw [own_out0]
      refine ⟨T0, X0, e0, fun t kt => ?_⟩
      have hc19 : ¬ ((0 : Int32) < (0 : Nat).toInt32) := by decide
      show Steps p.tables e below (T0.setTop (mkF m 17 #[.val (.ref o), .val (.int p1), .val (.long sv), .second, .val (.int (-1 : Int32)), .val (.int (0 : Nat).toInt32)] [])) _
      refine XS.iload X0.here hx rfl (hb hby d_innermostSince_17) rfl ?_
      show Steps p.tables e below (T0.setTop (mkF m 19 #[.val (.ref o), .val (.int p1), .val (.long sv), .second, .val (.int (-1 : Int32)), .val (.int (0 : Nat).toInt32)] [(.int (0 : Nat).toInt32)])) _
      refine XS.ifYes X0.here hx rfl (pc0 := 19) (pc' := 69) rfl (hb hby d_innermostSince_19) rfl ((if0 _ _).trans (flt hc19).2.2.2) (by decide) (by decide) ?_
      exact kt
    · have hc19 : (0 : Int32) < n.toInt32 := (own_pos (by omega)).mpr h0
      obtain ⟨T1, X1, e1, st1⟩ := getF X0 hx hZ hown (host := "") (Or.inl (hw _ (List.mem_of_getElem? (i := 25) rfl))) Via.refl e0 F2 (g := (mkF m 23 #[.val (.ref o), .val (.int p1), .val (.long sv), .second, .val (.int (-1 : Int32)), .val (.int n.toInt32)] [(.ref o)])) rfl rfl (hb hby d_innermostSince_23)
      obtain ⟨cl, Ar, Sz, H⟩ := id A
      obtain ⟨hin, hat⟩ := own_rd (i := n) Sz H rfl h2 (by omega)
      by_cases hs : sv < f n
      · have hc31 : (0 : Int32) < (lcmpW (f n) sv) := (lw_gt _ _).mpr hs
        rw [own_outY h0 hs]
        refine ⟨T1, X1, e1, fun t kt => ?_⟩
        show Steps p.tables e below (T0.setTop (mkF m 17 #[.val (.ref o), .val (.int p1), .val (.long sv), .second, .val (.int (-1 : Int32)), .val (.int n.toInt32)] [])) _
        refine XS.iload X0.here hx rfl (hb hby d_innermostSince_17) rfl ?_
        show Steps p.tables e below (T0.setTop (mkF m 19 #[.val (.ref o), .val (.int p1), .val (.long sv), .second, .val (.int (-1 : Int32)), .val (.int n.toInt32)] [(.int n.toInt32)])) _
        refine XS.ifNo X0.here hx rfl (hb hby d_innermostSince_19) rfl ((if0 _ _).trans (tlt hc19).2.2.2) ?_
        show Steps p.tables e below (T0.setTop (mkF m 22 #[.val (.ref o), .val (.int p1), .val (.long sv), .second, .val (.int (-1 : Int32)), .val (.int n.toInt32)] [])) _
        refine XS.aloadN X0.here hx rfl (hb hby d_innermostSince_22) rfl rfl ?_
        show Steps p.tables e below (T0.setTop (mkF m 23 #[.val (.ref o), .val (.int p1), .val (.long sv), .second, .val (.int (-1 : Int32)), .val (.int n.toInt32)] [(.ref o)])) _
        refine st1 _ ?_
        show Steps p.tables e below (T1.setTop (mkF m 26 #[.val (.ref o), .val (.int p1), .val (.long sv), .second, .val (.int (-1 : Int32)), .val (.int n.toInt32)] [(.ref b)])) _
        refine XS.iload X1.here hx rfl (hb hby d_innermostSince_26) rfl ?_
        show Steps p.tables e below (T1.setTop (mkF m 28 #[.val (.ref o), .val (.int p1), .val (.long sv), .second, .val (.int (-1 : Int32)), .val (.int n.toInt32)] [(.int n.toInt32), (.ref b)])) _
        refine X1.laload hx (j := n.toInt32) (v := (.long (f n))) (by rw [e1]; exact Ar.1) (State.isArrayOf_alike hZ.alike Ar.2.1) Ar.2.2 hin hat (g := (mkF m 28 #[.val (.ref o), .val (.int p1), .val (.long sv), .second, .val (.int (-1 : Int32)), .val (.int n.toInt32)] [(.int n.toInt32), (.ref b)])) rfl rfl (hb hby d_innermostSince_28) _ ?_
        show Steps p.tables e below (T1.setTop (mkF m 29 #[.val (.ref o), .val (.int p1), .val (.long sv), .second, .val (.int (-1 : Int32)), .val (.int n.toInt32)] [(.long (f n))])) _
        refine XS.lloadN X1.here hx rfl (hb hby d_innermostSince_29) rfl ?_
        show Steps p.tables e below (T1.setTop (mkF m 30 #[.val (.ref o), .val (.int p1), .val (.long sv), .second, .val (.int (-1 : Int32)), .val (.int n.toInt32)] [(.long sv), (.long (f n))])) _
        refine XS.lcmp X1.here hx rfl (hb hby d_innermostSince_30) rfl ?_
        show Steps p.tables e below (T1.setTop (mkF m 31 #[.val (.ref o), .val (.int p1), .val (.long sv), .second, .val (.int (-1 : Int32)), .val (.int n.toInt32)] [(.int (lcmpW (f n) sv))])) _
        refine XS.ifYes X1.here hx rfl (pc0 := 31) (pc' := 69) rfl (hb hby d_innermostSince_31) rfl ((if0 _ _).trans (tlt hc31).2.2.1) (by decide) (by decide) ?_
        exact kt
      · have hc31 : ¬ ((0 : Int32) < (lcmpW (f n) sv)) := fun q => hs ((lw_gt _ _).mp q)
        rw [own_outN h0 hs]
        have hod : own_odd n n ≤ n ∧ 1 ≤ own_odd n n := own_odd_le n n (Nat.le_refl _) (by omega)
        obtain ⟨T2, X2, e2, st2⟩ := ih (own_odd n n - 1) T1 (by omega) (by omega) X1 e1
        refine ⟨T2, X2, e2, fun t kt => ?_⟩
        show Steps p.tables e below (T0.setTop (mkF m 17 #[.val (.ref o), .val (.int p1), .val (.long sv), .second, .val (.int (-1 : Int32)), .val (.int n.toInt32)] [])) _
        refine XS.iload X0.here hx rfl (hb hby d_innermostSince_17) rfl ?_
        show Steps p.tables e below (T0.setTop (mkF m 19 #[.val (.ref o), .val (.int p1), .val (.long sv), .second, .val (.int (-1 : Int32)), .val (.int n.toInt32)] [(.int n.toInt32)])) _
        refine XS.ifNo X0.here hx rfl (hb hby d_innermostSince_19) rfl ((if0 _ _).trans (tlt hc19).2.2.2) ?_
        show Steps p.tables e below (T0.setTop (mkF m 22 #[.val (.ref o), .val (.int p1), .val (.long sv), .second, .val (.int (-1 : Int32)), .val (.int n.toInt32)] [])) _
        refine XS.aloadN X0.here hx rfl (hb hby d_innermostSince_22) rfl rfl ?_
        show Steps p.tables e below (T0.setTop (mkF m 23 #[.val (.ref o), .val (.int p1), .val (.long sv), .second, .val (.int (-1 : Int32)), .val (.int n.toInt32)] [(.ref o)])) _
        refine st1 _ ?_
        show Steps p.tables e below (T1.setTop (mkF m 26 #[.val (.ref o), .val (.int p1), .val (.long sv), .second, .val (.int (-1 : Int32)), .val (.int n.toInt32)] [(.ref b)])) _
        refine XS.iload X1.here hx rfl (hb hby d_innermostSince_26) rfl ?_
        show Steps p.tables e below (T1.setTop (mkF m 28 #[.val (.ref o), .val (.int p1), .val (.long sv), .second, .val (.int (-1 : Int32)), .val (.int n.toInt32)] [(.int n.toInt32), (.ref b)])) _
        refine X1.laload hx (j := n.toInt32) (v := (.long (f n))) (by rw [e1]; exact Ar.1) (State.isArrayOf_alike hZ.alike Ar.2.1) Ar.2.2 hin hat (g := (mkF m 28 #[.val (.ref o), .val (.int p1), .val (.long sv), .second, .val (.int (-1 : Int32)), .val (.int n.toInt32)] [(.int n.toInt32), (.ref b)])) rfl rfl (hb hby d_innermostSince_28) _ ?_
        show Steps p.tables e below (T1.setTop (mkF m 29 #[.val (.ref o), .val (.int p1), .val (.long sv), .second, .val (.int (-1 : Int32)), .val (.int n.toInt32)] [(.long (f n))])) _
        refine XS.lloadN X1.here hx rfl (hb hby d_innermostSince_29) rfl ?_
        show Steps p.tables e below (T1.setTop (mkF m 30 #[.val (.ref o), .val (.int p1), .val (.long sv), .second, .val (.int (-1 : Int32)), .val (.int n.toInt32)] [(.long sv), (.long (f n))])) _
        refine XS.lcmp X1.here hx rfl (hb hby d_innermostSince_30) rfl ?_
        show Steps p.tables e below (T1.setTop (mkF m 31 #[.val (.ref o), .val (.int p1), .val (.long sv), .second, .val (.int (-1 : Int32)), .val (.int n.toInt32)] [(.int (lcmpW (f n) sv))])) _
        refine XS.ifNo X1.here hx rfl (hb hby d_innermostSince_31) rfl ((if0 _ _).trans (flt hc31).2.2.1) ?_
        refine lp_od hx hZ hw hby hown o p1 sv X1 n n (Nat.le_refl _) (by omega) (by omega) t ?_
        revert kt st2 hod
        generalize own_odd n n = od
        intro hod st2 kt
        show Steps p.tables e below (T1.setTop (mkF m 50 #[.val (.ref o), .val (.int p1), .val (.long sv), .second, .val (.int (-1 : Int32)), .val (.int od.toInt32)] [])) _
        refine XS.iload X1.here hx rfl (hb hby d_innermostSince_50) rfl ?_
        show Steps p.tables e below (T1.setTop (mkF m 52 #[.val (.ref o), .val (.int p1), .val (.long sv), .second, .val (.int (-1 : Int32)), .val (.int od.toInt32)] [(.int od.toInt32)])) _
        refine XS.iconst X1.here hx rfl (hb hby d_innermostSince_52) ?_
        by_cases ho : od = 1
        · subst ho
          have hc53 : (1 : Nat).toInt32 = (1 : Int32) := rfl
          show Steps p.tables e below (T1.setTop (mkF m 53 #[.val (.ref o), .val (.int p1), .val (.long sv), .second, .val (.int (-1 : Int32)), .val (.int (1 : Nat).toInt32)] [(.int (1 : Int32)), (.int (1 : Nat).toInt32)])) _
          refine XS.icmpNo X1.here hx rfl (hb hby d_innermostSince_53) rfl (teq hc53).2 ?_
          show Steps p.tables e below (T1.setTop (mkF m 56 #[.val (.ref o), .val (.int p1), .val (.long sv), .second, .val (.int (-1 : Int32)), .val (.int (1 : Nat).toInt32)] [])) _
          refine XS.iconst X1.here hx rfl (hb hby d_innermostSince_56) ?_
          show Steps p.tables e below (T1.setTop (mkF m 57 #[.val (.ref o), .val (.int p1), .val (.long sv), .second, .val (.int (-1 : Int32)), .val (.int (1 : Nat).toInt32)] [(.int (0 : Int32))])) _
          refine XS.goto X1.here hx rfl (pc0 := 57) (pc' := 64) rfl (hb hby d_innermostSince_57) (by decide) (by decide) ?_
          show Steps p.tables e below (T1.setTop (mkF m 64 #[.val (.ref o), .val (.int p1), .val (.long sv), .second, .val (.int (-1 : Int32)), .val (.int (1 : Nat).toInt32)] [(.int (0 : Int32))])) _
          refine XS.istore X1.here hx rfl (hb hby d_innermostSince_64) rfl (l' := #[.val (.ref o), .val (.int p1), .val (.long sv), .second, .val (.int (-1 : Int32)), .val (.int (0 : Int32))]) rfl ?_
          show Steps p.tables e below (T1.setTop (mkF m 66 #[.val (.ref o), .val (.int p1), .val (.long sv), .second, .val (.int (-1 : Int32)), .val (.int (0 : Int32))] [])) _
          refine XS.goto X1.here hx rfl (pc0 := 66) (pc' := 17) rfl (hb hby d_innermostSince_66) (by decide) (by decide) ?_
          exact st2 t kt
        · have hc53 : ¬ (od.toInt32 = (1 : Int32)) := fun q => ho ((own_is (b := 1) (by omega) (by omega)).mp q)
          show Steps p.tables e below (T1.setTop (mkF m 53 #[.val (.ref o), .val (.int p1), .val (.long sv), .second, .val (.int (-1 : Int32)), .val (.int od.toInt32)] [(.int (1 : Int32)), (.int od.toInt32)])) _
          refine XS.icmpYes X1.here hx rfl (pc0 := 53) (pc' := 60) rfl (hb hby d_innermostSince_53) rfl (feq hc53).2 (by decide) (by decide) ?_
          show Steps p.tables e below (T1.setTop (mkF m 60 #[.val (.ref o), .val (.int p1), .val (.long sv), .second, .val (.int (-1 : Int32)), .val (.int od.toInt32)] [])) _
          refine XS.iload X1.here hx rfl (hb hby d_innermostSince_60) rfl ?_
          show Steps p.tables e below (T1.setTop (mkF m 62 #[.val (.ref o), .val (.int p1), .val (.long sv), .second, .val (.int (-1 : Int32)), .val (.int od.toInt32)] [(.int od.toInt32)])) _
          refine XS.iconst X1.here hx rfl (hb hby d_innermostSince_62) ?_
          show Steps p.tables e below (T1.setTop (mkF m 63 #[.val (.ref o), .val (.int p1), .val (.long sv), .second, .val (.int (-1 : Int32)), .val (.int od.toInt32)] [(.int (1 : Int32)), (.int od.toInt32)])) _
          refine XS.isub X1.here hx rfl (hb hby d_innermostSince_63) rfl ?_
          show Steps p.tables e below (T1.setTop (mkF m 64 #[.val (.ref o), .val (.int p1), .val (.long sv), .second, .val (.int (-1 : Int32)), .val (.int od.toInt32)] [(.int (od.toInt32 - (1 : Int32)))])) _
          refine XS.istore X1.here hx rfl (hb hby d_innermostSince_64) rfl (l' := #[.val (.ref o), .val (.int p1), .val (.long sv), .second, .val (.int (-1 : Int32)), .val (.int (od.toInt32 - (1 : Int32)))]) rfl ?_
          show Steps p.tables e below (T1.setTop (mkF m 66 #[.val (.ref o), .val (.int p1), .val (.long sv), .second, .val (.int (-1 : Int32)), .val (.int (od.toInt32 - (1 : Int32)))] [])) _
          refine XS.goto X1.here hx rfl (pc0 := 66) (pc' := 17) rfl (hb hby d_innermostSince_66) (by decide) (by decide) ?_
          show Steps p.tables e below (T1.setTop (mkF m 17 #[.val (.ref o), .val (.int p1), .val (.long sv), .second, .val (.int (-1 : Int32)), .val (.int (od.toInt32 - (1 : Int32)))] [])) _
          rw [own_dec (by omega) (by omega)]
          exact st2 t kt
set_option maxRecDepth 65536 in
set_option maxHeartbeats 40000000 in
theorem lp_dn {p : Program} {l : Launch} {e : Env} {R : Room} {s : State} {m : MethodId} {args : Array Value} {below : List Frame} {meth : Method} {c : Code} {cells slots : Nat} {Z : State} {a0 : Array Value} (hx : p.tables.exec = Jvm.exec) (hZ : Z.Warmed39 s.vm) (hw : ∀ d ∈ tables_1, d.before a0 Z = true) (hby : c.code = prog_152_method_4_code) (hown : s.vm.findClass "com/example/mutableau/mutableau/formula/BindingReferences" = some m.cls)  (o b : Addr) (p1 : Int32) (sv : Int64) (q : Nat) (hq : 2 * q < 2147483648) (f : Nat → Int64) {h : Heap} {locs : List Loc} (F1 : Fld Z h o "com/example/mutableau/mutableau/formula/BindingReferences" "leaves" "I" (.int q.toInt32)) (F2 : Fld Z h o "com/example/mutableau/mutableau/formula/BindingReferences" "latest" "[J" (.ref b)) (A : own_A Z h b (2 * q) f) :
    ∀ (k n : Nat) (T0 : State), q ≤ n + k → 1 ≤ n → n < 2 * q → Stand p l e R s m args below meth c T0 locs cells slots → T0.heap = h → ∃ T' : State, Stand p l e R s m args below meth c T' locs cells slots ∧ T'.heap = h ∧ ∀ t, Steps p.tables e below (T'.setTop (mkF m 117 #[.val (.ref o), .val (.int p1), .val (.long sv), .second, .val (.int (-1 : Int32)), .val (.int (own_dn f sv q k n).toInt32)] [])) t → Steps p.tables e below (T0.setTop (mkF m 74 #[.val (.ref o), .val (.int p1), .val (.long sv), .second, .val (.int (-1 : Int32)), .val (.int n.toInt32)] [])) t := by
  intro k
  induction k with
  | zero =>
    intro n T0 h1 h2 h3 X0 e0
    obtain ⟨T1, X1, e1, st1⟩ := getF X0 hx hZ hown (host := "") (Or.inl (hw _ (List.mem_of_getElem? (i := 22) rfl))) Via.refl e0 F1 (g := (mkF m 77 #[.val (.ref o), .val (.int p1), .val (.long sv), .second, .val (.int (-1 : Int32)), .val (.int n.toInt32)] [(.ref o), (.int n.toInt32)])) rfl rfl (hb hby d_innermostSince_77)
    have hc80 : ¬ (n.toInt32 < q.toInt32) := fun q => absurd ((own_lt (by omega) (by omega)).mp q) (by omega)
    rw [own_dnE (by omega)]
    refine ⟨T1, X1, e1, fun t kt => ?_⟩
    show Steps p.tables e below (T0.setTop (mkF m 74 #[.val (.ref o), .val (.int p1), .val (.long sv), .second, .val (.int (-1 : Int32)), .val (.int n.toInt32)] [])) _
    refine XS.iload X0.here hx rfl (hb hby d_innermostSince_74) rfl ?_
    show Steps p.tables e below (T0.setTop (mkF m 76 #[.val (.ref o), .val (.int p1), .val (.long sv), .second, .val (.int (-1 : Int32)), .val (.int n.toInt32)] [(.int n.toInt32)])) _
    refine XS.aloadN X0.here hx rfl (hb hby d_innermostSince_76) rfl rfl ?_
    show Steps p.tables e below (T0.setTop (mkF m 77 #[.val (.ref o), .val (.int p1), .val (.long sv), .second, .val (.int (-1 : Int32)), .val (.int n.toInt32)] [(.ref o), (.int n.toInt32)])) _
    refine st1 _ ?_
    show Steps p.tables e below (T1.setTop (mkF m 80 #[.val (.ref o), .val (.int p1), .val (.long sv), .second, .val (.int (-1 : Int32)), .val (.int n.toInt32)] [(.int q.toInt32), (.int n.toInt32)])) _
    refine XS.icmpYes X1.here hx rfl (pc0 := 80) (pc' := 117) rfl (hb hby d_innermostSince_80) rfl (flt hc80).2.1 (by decide) (by decide) ?_
    exact kt
  | succ k ih =>
    intro n T0 h1 h2 h3 X0 e0
    by_cases hn : n < q
    · obtain ⟨T1, X1, e1, st1⟩ := getF X0 hx hZ hown (host := "") (Or.inl (hw _ (List.mem_of_getElem? (i := 22) rfl))) Via.refl e0 F1 (g := (mkF m 77 #[.val (.ref o), .val (.int p1), .val (.long sv), .second, .val (.int (-1 : Int32)), .val (.int n.toInt32)] [(.ref o), (.int n.toInt32)])) rfl rfl (hb hby d_innermostSince_77)
      have hc80 : n.toInt32 < q.toInt32 := (own_lt (by omega) (by omega)).mpr hn
      obtain ⟨T2, X2, e2, st2⟩ := getF X1 hx hZ hown (host := "") (Or.inl (hw _ (List.mem_of_getElem? (i := 25) rfl))) Via.refl e1 F2 (g := (mkF m 84 #[.val (.ref o), .val (.int p1), .val (.long sv), .second, .val (.int (-1 : Int32)), .val (.int n.toInt32)] [(.ref o)])) rfl rfl (hb hby d_innermostSince_84)
      have hj : ((2 : Int32) * n.toInt32) + (1 : Int32) = (2 * n + 1).toInt32 := by rw [own_dbl (by omega)]; exact own_inc (by omega)
      have hj0 : ((2 : Int32) * n.toInt32) = (2 * n).toInt32 := own_dbl (by omega)
      obtain ⟨cl, Ar, Sz, H⟩ := id A
      obtain ⟨hin, hat⟩ := own_rd (i := 2 * n + 1) Sz H hj (by omega) (by omega)
      by_cases hs : sv < f (2 * n + 1)
      · have hc96 : (0 : Int32) < (lcmpW (f (2 * n + 1)) sv) := (lw_gt _ _).mpr hs
        rw [own_dnR hn hs]
        obtain ⟨T3, X3, e3, st3⟩ := ih (2 * n + 1) T2 (by omega) (by omega) (by omega) X2 e2
        refine ⟨T3, X3, e3, fun t kt => ?_⟩
        show Steps p.tables e below (T0.setTop (mkF m 74 #[.val (.ref o), .val (.int p1), .val (.long sv), .second, .val (.int (-1 : Int32)), .val (.int n.toInt32)] [])) _
        refine XS.iload X0.here hx rfl (hb hby d_innermostSince_74) rfl ?_
        show Steps p.tables e below (T0.setTop (mkF m 76 #[.val (.ref o), .val (.int p1), .val (.long sv), .second, .val (.int (-1 : Int32)), .val (.int n.toInt32)] [(.int n.toInt32)])) _
        refine XS.aloadN X0.here hx rfl (hb hby d_innermostSince_76) rfl rfl ?_
        show Steps p.tables e below (T0.setTop (mkF m 77 #[.val (.ref o), .val (.int p1), .val (.long sv), .second, .val (.int (-1 : Int32)), .val (.int n.toInt32)] [(.ref o), (.int n.toInt32)])) _
        refine st1 _ ?_
        show Steps p.tables e below (T1.setTop (mkF m 80 #[.val (.ref o), .val (.int p1), .val (.long sv), .second, .val (.int (-1 : Int32)), .val (.int n.toInt32)] [(.int q.toInt32), (.int n.toInt32)])) _
        refine XS.icmpNo X1.here hx rfl (hb hby d_innermostSince_80) rfl (tlt hc80).2.1 ?_
        show Steps p.tables e below (T1.setTop (mkF m 83 #[.val (.ref o), .val (.int p1), .val (.long sv), .second, .val (.int (-1 : Int32)), .val (.int n.toInt32)] [])) _
        refine XS.aloadN X1.here hx rfl (hb hby d_innermostSince_83) rfl rfl ?_
        show Steps p.tables e below (T1.setTop (mkF m 84 #[.val (.ref o), .val (.int p1), .val (.long sv), .second, .val (.int (-1 : Int32)), .val (.int n.toInt32)] [(.ref o)])) _
        refine st2 _ ?_
        show Steps p.tables e below (T2.setTop (mkF m 87 #[.val (.ref o), .val (.int p1), .val (.long sv), .second, .val (.int (-1 : Int32)), .val (.int n.toInt32)] [(.ref b)])) _
        refine XS.iconst X2.here hx rfl (hb hby d_innermostSince_87) ?_
        show Steps p.tables e below (T2.setTop (mkF m 88 #[.val (.ref o), .val (.int p1), .val (.long sv), .second, .val (.int (-1 : Int32)), .val (.int n.toInt32)] [(.int (2 : Int32)), (.ref b)])) _
        refine XS.iload X2.here hx rfl (hb hby d_innermostSince_88) rfl ?_
        show Steps p.tables e below (T2.setTop (mkF m 90 #[.val (.ref o), .val (.int p1), .val (.long sv), .second, .val (.int (-1 : Int32)), .val (.int n.toInt32)] [(.int n.toInt32), (.int (2 : Int32)), (.ref b)])) _
        refine XS.imul X2.here hx rfl (hb hby d_innermostSince_90) rfl ?_
        show Steps p.tables e below (T2.setTop (mkF m 91 #[.val (.ref o), .val (.int p1), .val (.long sv), .second, .val (.int (-1 : Int32)), .val (.int n.toInt32)] [(.int ((2 : Int32) * n.toInt32)), (.ref b)])) _
        refine XS.iconst X2.here hx rfl (hb hby d_innermostSince_91) ?_
        show Steps p.tables e below (T2.setTop (mkF m 92 #[.val (.ref o), .val (.int p1), .val (.long sv), .second, .val (.int (-1 : Int32)), .val (.int n.toInt32)] [(.int (1 : Int32)), (.int ((2 : Int32) * n.toInt32)), (.ref b)])) _
        refine XS.iadd X2.here hx rfl (hb hby d_innermostSince_92) rfl ?_
        show Steps p.tables e below (T2.setTop (mkF m 93 #[.val (.ref o), .val (.int p1), .val (.long sv), .second, .val (.int (-1 : Int32)), .val (.int n.toInt32)] [(.int (((2 : Int32) * n.toInt32) + (1 : Int32))), (.ref b)])) _
        refine X2.laload hx (j := (((2 : Int32) * n.toInt32) + (1 : Int32))) (v := (.long (f (2 * n + 1)))) (by rw [e2]; exact Ar.1) (State.isArrayOf_alike hZ.alike Ar.2.1) Ar.2.2 hin hat (g := (mkF m 93 #[.val (.ref o), .val (.int p1), .val (.long sv), .second, .val (.int (-1 : Int32)), .val (.int n.toInt32)] [(.int (((2 : Int32) * n.toInt32) + (1 : Int32))), (.ref b)])) rfl rfl (hb hby d_innermostSince_93) _ ?_
        show Steps p.tables e below (T2.setTop (mkF m 94 #[.val (.ref o), .val (.int p1), .val (.long sv), .second, .val (.int (-1 : Int32)), .val (.int n.toInt32)] [(.long (f (2 * n + 1)))])) _
        refine XS.lloadN X2.here hx rfl (hb hby d_innermostSince_94) rfl ?_
        show Steps p.tables e below (T2.setTop (mkF m 95 #[.val (.ref o), .val (.int p1), .val (.long sv), .second, .val (.int (-1 : Int32)), .val (.int n.toInt32)] [(.long sv), (.long (f (2 * n + 1)))])) _
        refine XS.lcmp X2.here hx rfl (hb hby d_innermostSince_95) rfl ?_
        show Steps p.tables e below (T2.setTop (mkF m 96 #[.val (.ref o), .val (.int p1), .val (.long sv), .second, .val (.int (-1 : Int32)), .val (.int n.toInt32)] [(.int (lcmpW (f (2 * n + 1)) sv))])) _
        refine XS.ifNo X2.here hx rfl (hb hby d_innermostSince_96) rfl ((if0 _ _).trans (tlt hc96).2.2.2) ?_
        show Steps p.tables e below (T2.setTop (mkF m 99 #[.val (.ref o), .val (.int p1), .val (.long sv), .second, .val (.int (-1 : Int32)), .val (.int n.toInt32)] [])) _
        refine XS.iconst X2.here hx rfl (hb hby d_innermostSince_99) ?_
        show Steps p.tables e below (T2.setTop (mkF m 100 #[.val (.ref o), .val (.int p1), .val (.long sv), .second, .val (.int (-1 : Int32)), .val (.int n.toInt32)] [(.int (2 : Int32))])) _
        refine XS.iload X2.here hx rfl (hb hby d_innermostSince_100) rfl ?_
        show Steps p.tables e below (T2.setTop (mkF m 102 #[.val (.ref o), .val (.int p1), .val (.long sv), .second, .val (.int (-1 : Int32)), .val (.int n.toInt32)] [(.int n.toInt32), (.int (2 : Int32))])) _
        refine XS.imul X2.here hx rfl (hb hby d_innermostSince_102) rfl ?_
        show Steps p.tables e below (T2.setTop (mkF m 103 #[.val (.ref o), .val (.int p1), .val (.long sv), .second, .val (.int (-1 : Int32)), .val (.int n.toInt32)] [(.int ((2 : Int32) * n.toInt32))])) _
        refine XS.iconst X2.here hx rfl (hb hby d_innermostSince_103) ?_
        show Steps p.tables e below (T2.setTop (mkF m 104 #[.val (.ref o), .val (.int p1), .val (.long sv), .second, .val (.int (-1 : Int32)), .val (.int n.toInt32)] [(.int (1 : Int32)), (.int ((2 : Int32) * n.toInt32))])) _
        refine XS.iadd X2.here hx rfl (hb hby d_innermostSince_104) rfl ?_
        show Steps p.tables e below (T2.setTop (mkF m 105 #[.val (.ref o), .val (.int p1), .val (.long sv), .second, .val (.int (-1 : Int32)), .val (.int n.toInt32)] [(.int (((2 : Int32) * n.toInt32) + (1 : Int32)))])) _
        refine XS.goto X2.here hx rfl (pc0 := 105) (pc' := 112) rfl (hb hby d_innermostSince_105) (by decide) (by decide) ?_
        show Steps p.tables e below (T2.setTop (mkF m 112 #[.val (.ref o), .val (.int p1), .val (.long sv), .second, .val (.int (-1 : Int32)), .val (.int n.toInt32)] [(.int (((2 : Int32) * n.toInt32) + (1 : Int32)))])) _
        refine XS.istore X2.here hx rfl (hb hby d_innermostSince_112) rfl (l' := #[.val (.ref o), .val (.int p1), .val (.long sv), .second, .val (.int (-1 : Int32)), .val (.int (((2 : Int32) * n.toInt32) + (1 : Int32)))]) rfl ?_
        show Steps p.tables e below (T2.setTop (mkF m 114 #[.val (.ref o), .val (.int p1), .val (.long sv), .second, .val (.int (-1 : Int32)), .val (.int (((2 : Int32) * n.toInt32) + (1 : Int32)))] [])) _
        refine XS.goto X2.here hx rfl (pc0 := 114) (pc' := 74) rfl (hb hby d_innermostSince_114) (by decide) (by decide) ?_
        show Steps p.tables e below (T2.setTop (mkF m 74 #[.val (.ref o), .val (.int p1), .val (.long sv), .second, .val (.int (-1 : Int32)), .val (.int (((2 : Int32) * n.toInt32) + (1 : Int32)))] [])) _
        rw [hj]
        exact st3 t kt
      · have hc96 : ¬ ((0 : Int32) < (lcmpW (f (2 * n + 1)) sv)) := fun q => hs ((lw_gt _ _).mp q)
        rw [own_dnL hn hs]
        obtain ⟨T3, X3, e3, st3⟩ := ih (2 * n) T2 (by omega) (by omega) (by omega) X2 e2
        refine ⟨T3, X3, e3, fun t kt => ?_⟩
        show Steps p.tables e below (T0.setTop (mkF m 74 #[.val (.ref o), .val (.int p1), .val (.long sv), .second, .val (.int (-1 : Int32)), .val (.int n.toInt32)] [])) _
        refine XS.iload X0.here hx rfl (hb hby d_innermostSince_74) rfl ?_
        show Steps p.tables e below (T0.setTop (mkF m 76 #[.val (.ref o), .val (.int p1), .val (.long sv), .second, .val (.int (-1 : Int32)), .val (.int n.toInt32)] [(.int n.toInt32)])) _
        refine XS.aloadN X0.here hx rfl (hb hby d_innermostSince_76) rfl rfl ?_
        show Steps p.tables e below (T0.setTop (mkF m 77 #[.val (.ref o), .val (.int p1), .val (.long sv), .second, .val (.int (-1 : Int32)), .val (.int n.toInt32)] [(.ref o), (.int n.toInt32)])) _
        refine st1 _ ?_
        show Steps p.tables e below (T1.setTop (mkF m 80 #[.val (.ref o), .val (.int p1), .val (.long sv), .second, .val (.int (-1 : Int32)), .val (.int n.toInt32)] [(.int q.toInt32), (.int n.toInt32)])) _
        refine XS.icmpNo X1.here hx rfl (hb hby d_innermostSince_80) rfl (tlt hc80).2.1 ?_
        show Steps p.tables e below (T1.setTop (mkF m 83 #[.val (.ref o), .val (.int p1), .val (.long sv), .second, .val (.int (-1 : Int32)), .val (.int n.toInt32)] [])) _
        refine XS.aloadN X1.here hx rfl (hb hby d_innermostSince_83) rfl rfl ?_
        show Steps p.tables e below (T1.setTop (mkF m 84 #[.val (.ref o), .val (.int p1), .val (.long sv), .second, .val (.int (-1 : Int32)), .val (.int n.toInt32)] [(.ref o)])) _
        refine st2 _ ?_
        show Steps p.tables e below (T2.setTop (mkF m 87 #[.val (.ref o), .val (.int p1), .val (.long sv), .second, .val (.int (-1 : Int32)), .val (.int n.toInt32)] [(.ref b)])) _
        refine XS.iconst X2.here hx rfl (hb hby d_innermostSince_87) ?_
        show Steps p.tables e below (T2.setTop (mkF m 88 #[.val (.ref o), .val (.int p1), .val (.long sv), .second, .val (.int (-1 : Int32)), .val (.int n.toInt32)] [(.int (2 : Int32)), (.ref b)])) _
        refine XS.iload X2.here hx rfl (hb hby d_innermostSince_88) rfl ?_
        show Steps p.tables e below (T2.setTop (mkF m 90 #[.val (.ref o), .val (.int p1), .val (.long sv), .second, .val (.int (-1 : Int32)), .val (.int n.toInt32)] [(.int n.toInt32), (.int (2 : Int32)), (.ref b)])) _
        refine XS.imul X2.here hx rfl (hb hby d_innermostSince_90) rfl ?_
        show Steps p.tables e below (T2.setTop (mkF m 91 #[.val (.ref o), .val (.int p1), .val (.long sv), .second, .val (.int (-1 : Int32)), .val (.int n.toInt32)] [(.int ((2 : Int32) * n.toInt32)), (.ref b)])) _
        refine XS.iconst X2.here hx rfl (hb hby d_innermostSince_91) ?_
        show Steps p.tables e below (T2.setTop (mkF m 92 #[.val (.ref o), .val (.int p1), .val (.long sv), .second, .val (.int (-1 : Int32)), .val (.int n.toInt32)] [(.int (1 : Int32)), (.int ((2 : Int32) * n.toInt32)), (.ref b)])) _
        refine XS.iadd X2.here hx rfl (hb hby d_innermostSince_92) rfl ?_
        show Steps p.tables e below (T2.setTop (mkF m 93 #[.val (.ref o), .val (.int p1), .val (.long sv), .second, .val (.int (-1 : Int32)), .val (.int n.toInt32)] [(.int (((2 : Int32) * n.toInt32) + (1 : Int32))), (.ref b)])) _
        refine X2.laload hx (j := (((2 : Int32) * n.toInt32) + (1 : Int32))) (v := (.long (f (2 * n + 1)))) (by rw [e2]; exact Ar.1) (State.isArrayOf_alike hZ.alike Ar.2.1) Ar.2.2 hin hat (g := (mkF m 93 #[.val (.ref o), .val (.int p1), .val (.long sv), .second, .val (.int (-1 : Int32)), .val (.int n.toInt32)] [(.int (((2 : Int32) * n.toInt32) + (1 : Int32))), (.ref b)])) rfl rfl (hb hby d_innermostSince_93) _ ?_
        show Steps p.tables e below (T2.setTop (mkF m 94 #[.val (.ref o), .val (.int p1), .val (.long sv), .second, .val (.int (-1 : Int32)), .val (.int n.toInt32)] [(.long (f (2 * n + 1)))])) _
        refine XS.lloadN X2.here hx rfl (hb hby d_innermostSince_94) rfl ?_
        show Steps p.tables e below (T2.setTop (mkF m 95 #[.val (.ref o), .val (.int p1), .val (.long sv), .second, .val (.int (-1 : Int32)), .val (.int n.toInt32)] [(.long sv), (.long (f (2 * n + 1)))])) _
        refine XS.lcmp X2.here hx rfl (hb hby d_innermostSince_95) rfl ?_
        show Steps p.tables e below (T2.setTop (mkF m 96 #[.val (.ref o), .val (.int p1), .val (.long sv), .second, .val (.int (-1 : Int32)), .val (.int n.toInt32)] [(.int (lcmpW (f (2 * n + 1)) sv))])) _
        refine XS.ifYes X2.here hx rfl (pc0 := 96) (pc' := 108) rfl (hb hby d_innermostSince_96) rfl ((if0 _ _).trans (flt hc96).2.2.2) (by decide) (by decide) ?_
        show Steps p.tables e below (T2.setTop (mkF m 108 #[.val (.ref o), .val (.int p1), .val (.long sv), .second, .val (.int (-1 : Int32)), .val (.int n.toInt32)] [])) _
        refine XS.iconst X2.here hx rfl (hb hby d_innermostSince_108) ?_
        show Steps p.tables e below (T2.setTop (mkF m 109 #[.val (.ref o), .val (.int p1), .val (.long sv), .second, .val (.int (-1 : Int32)), .val (.int n.toInt32)] [(.int (2 : Int32))])) _
        refine XS.iload X2.here hx rfl (hb hby d_innermostSince_109) rfl ?_
        show Steps p.tables e below (T2.setTop (mkF m 111 #[.val (.ref o), .val (.int p1), .val (.long sv), .second, .val (.int (-1 : Int32)), .val (.int n.toInt32)] [(.int n.toInt32), (.int (2 : Int32))])) _
        refine XS.imul X2.here hx rfl (hb hby d_innermostSince_111) rfl ?_
        show Steps p.tables e below (T2.setTop (mkF m 112 #[.val (.ref o), .val (.int p1), .val (.long sv), .second, .val (.int (-1 : Int32)), .val (.int n.toInt32)] [(.int ((2 : Int32) * n.toInt32))])) _
        refine XS.istore X2.here hx rfl (hb hby d_innermostSince_112) rfl (l' := #[.val (.ref o), .val (.int p1), .val (.long sv), .second, .val (.int (-1 : Int32)), .val (.int ((2 : Int32) * n.toInt32))]) rfl ?_
        show Steps p.tables e below (T2.setTop (mkF m 114 #[.val (.ref o), .val (.int p1), .val (.long sv), .second, .val (.int (-1 : Int32)), .val (.int ((2 : Int32) * n.toInt32))] [])) _
        refine XS.goto X2.here hx rfl (pc0 := 114) (pc' := 74) rfl (hb hby d_innermostSince_114) (by decide) (by decide) ?_
        show Steps p.tables e below (T2.setTop (mkF m 74 #[.val (.ref o), .val (.int p1), .val (.long sv), .second, .val (.int (-1 : Int32)), .val (.int ((2 : Int32) * n.toInt32))] [])) _
        rw [hj0]
        exact st3 t kt
    · obtain ⟨T1, X1, e1, st1⟩ := getF X0 hx hZ hown (host := "") (Or.inl (hw _ (List.mem_of_getElem? (i := 22) rfl))) Via.refl e0 F1 (g := (mkF m 77 #[.val (.ref o), .val (.int p1), .val (.long sv), .second, .val (.int (-1 : Int32)), .val (.int n.toInt32)] [(.ref o), (.int n.toInt32)])) rfl rfl (hb hby d_innermostSince_77)
      have hc80 : ¬ (n.toInt32 < q.toInt32) := fun q => absurd ((own_lt (by omega) (by omega)).mp q) (by omega)
      rw [own_dnE (by omega)]
      refine ⟨T1, X1, e1, fun t kt => ?_⟩
      show Steps p.tables e below (T0.setTop (mkF m 74 #[.val (.ref o), .val (.int p1), .val (.long sv), .second, .val (.int (-1 : Int32)), .val (.int n.toInt32)] [])) _
      refine XS.iload X0.here hx rfl (hb hby d_innermostSince_74) rfl ?_
      show Steps p.tables e below (T0.setTop (mkF m 76 #[.val (.ref o), .val (.int p1), .val (.long sv), .second, .val (.int (-1 : Int32)), .val (.int n.toInt32)] [(.int n.toInt32)])) _
      refine XS.aloadN X0.here hx rfl (hb hby d_innermostSince_76) rfl rfl ?_
      show Steps p.tables e below (T0.setTop (mkF m 77 #[.val (.ref o), .val (.int p1), .val (.long sv), .second, .val (.int (-1 : Int32)), .val (.int n.toInt32)] [(.ref o), (.int n.toInt32)])) _
      refine st1 _ ?_
      show Steps p.tables e below (T1.setTop (mkF m 80 #[.val (.ref o), .val (.int p1), .val (.long sv), .second, .val (.int (-1 : Int32)), .val (.int n.toInt32)] [(.int q.toInt32), (.int n.toInt32)])) _
      refine XS.icmpYes X1.here hx rfl (pc0 := 80) (pc' := 117) rfl (hb hby d_innermostSince_80) rfl (flt hc80).2.1 (by decide) (by decide) ?_
      exact kt
def own_ri (p : Nat) (f : Nat → Int64) (sv : Int64) (p1 : Int32) : Int32 := if (0 : Int32) < p1 then (if own_n1 p f sv p1.toInt.toNat = 0 then (-1 : Int32) else (own_n2 p f sv p1.toInt.toNat).toInt32 - (2 ^ p).toInt32) else (-1 : Int32)
theorem own_ri_spec {p : Nat} {f : Nat → Int64} {sv : Int64} {p1 : Int32} (ht : own_tree (2 ^ p) f) (hp : 2 * 2 ^ p < 2147483648) (hb : p1.toInt ≤ (2 ^ p : Nat)) : own_spec (fun d => f (2 ^ p + d)) p1.toInt.toNat sv (own_ri p f sv p1).toInt := by
  by_cases h : (0 : Int32) < p1
  · have h' := h
    rw [Int32.lt_iff_toInt_lt, show (0 : Int32).toInt = 0 from rfl] at h'
    have I := own_inner (s := sv) ht (b := p1.toInt.toNat) (by omega) (by omega)
    by_cases h1 : own_n1 p f sv p1.toInt.toNat = 0
    · rw [own_ri, if_pos h, if_pos h1]
      exact I.1 h1
    · rw [own_ri, if_pos h, if_neg h1]
      obtain ⟨a, b, c⟩ := I.2 h1
      rw [own_minus (by omega) a, own_t (by omega)]
      rw [show ((own_n2 p f sv p1.toInt.toNat - 2 ^ p : Nat) : Int) = (own_n2 p f sv p1.toInt.toNat : Int) - (2 ^ p : Nat) by omega]
      exact c
  · rw [own_ri, if_neg h]
    rw [Int32.lt_iff_toInt_lt, show (0 : Int32).toInt = 0 from rfl] at h
    exact Or.inl ⟨rfl, fun d hd => by omega⟩
def Q_rm_in (Z : State) (o : Addr) (p1 : Int32) (sv : Int64) (pw : Nat) (f : Nat → Int64) (h0 : Heap) (n0 : Nat) (v : Option Value) (h : Heap) (L : List Loc) : Prop := (v = some (.int (own_ri pw f sv p1)) ∧ Fr n0 L ∧ h = h0)
set_option maxRecDepth 65536 in
set_option maxHeartbeats 40000000 in
theorem rm_in (l : Launch) (Z : State) (a0 : Array Value) (hw : ∀ d ∈ tables_1, d.before a0 Z = true) (ws : List Jvm.Cond) (o : Addr) (p1 : Int32) (sv : Int64) (h0 : Heap) (n0 : Nat) (b : Addr) (pw q : Nat) (hpq : q = 2 ^ pw) (hq : 2 * q < 2147483648) (hbq : p1.toInt ≤ q) (f : Nat → Int64) (F1 : Fld Z h0 o "com/example/mutableau/mutableau/formula/BindingReferences" "leaves" "I" (.int q.toInt32)) (F2 : Fld Z h0 o "com/example/mutableau/mutableau/formula/BindingReferences" "latest" "[J" (.ref b)) (A : own_A Z h0 b (2 * q) f) (ht : own_tree q f) :
    MetFree l (⟨"com/example/mutableau/mutableau/formula/BindingReferences", "innermostSince", "(IJ)I"⟩ : MethodName) (head1 (Jvm.Cond.code (⟨"com/example/mutableau/mutableau/formula/BindingReferences", "innermostSince", "(IJ)I"⟩ : MethodName) prog_152_method_4_code 6 (some .int) :: ws) ({ frames := 0, cells := 0, slots := 0, locals := 0 } : Room)) (fun a U => a = #[(.ref o), (.int p1), (.long sv)] ∧ Z.Warmed39 U.vm ∧ U.heap = h0) (fun _ _ _ _ _ => True) (fun _ U oc U' => ∃ v L, oc = .returned v ∧ Q_rm_in Z o p1 sv pw f h0 n0 v U'.heap L ∧ FrameEnd U oc U' L ({ frames := 0, cells := 0, slots := 0, locals := 0 } : Room).cells ({ frames := 0, cells := 0, slots := 0, locals := 0 } : Room).slots) := by
  refine MetFree.of_bodySF (plainFor_of_name pn_b) hisR ?_
  intro p e s m args below meth c s₁ Bd hml0 hP hK
  obtain ⟨rfl, hZ, hh⟩ := hP
  have hx := Bd.exec
  have hby := Bd.bytes
  have hml : c.maxLocals = 6 := hml0
  have hown : s.vm.findClass "com/example/mutableau/mutableau/formula/BindingReferences" = some m.cls := findClass_of_methodNamed Bd.named
  have hnm := (name_of_methodNamed Bd.named Bd.method).1
  have X0 : Stand p l e ({ frames := 0, cells := 0, slots := 0, locals := 0 } : Room) s m #[(.ref o), (.int p1), (.long sv)] below meth c s₁ [] 0 0 := Stand.of_body Bd
  have e0 : s₁.heap = h0 := by rw [← hh, Bd.state]; rfl
  have N0 := Fr.nil n0
  have pre0 : ∀ t, Steps p.tables e below (s₁.setTop (mkF m 0 #[.val (.ref o), .val (.int p1), .val (.long sv), .second, .unset, .unset] [])) t → Steps p.tables e below (s₁.setTop (entryFrame m #[(.ref o), (.int p1), (.long sv)] 6)) t := fun t k => castTop (ef_in m o p1 sv) k
  by_cases hc4 : (0 : Int32) < p1
  · have hp1 := hc4
    rw [Int32.lt_iff_toInt_lt, show (0 : Int32).toInt = 0 from rfl] at hp1
    obtain ⟨bl, hbl⟩ : ∃ z : Nat, z = p1.toInt.toNat := ⟨_, rfl⟩
    have hblp : p1 = bl.toInt32 := own_i (by omega) (by omega)
    obtain ⟨T1, X1, e1, st1⟩ := getF X0 hx hZ hown (host := "") (Or.inl (hw _ (List.mem_of_getElem? (i := 22) rfl))) Via.refl e0 F1 (g := (mkF m 8 #[.val (.ref o), .val (.int p1), .val (.long sv), .second, .val (.int (-1 : Int32)), .unset] [(.ref o)])) rfl rfl (hb hby d_innermostSince_8)
    have hst : q.toInt32 + p1 - (1 : Int32) = (q + bl - 1).toInt32 := by rw [hblp, own_plus (by omega)]; exact own_dec (by omega) (by omega)
    obtain ⟨T2, X2, e2, st2⟩ := lp_ou hx hZ hw hby hown o b p1 sv q hq f F1 F2 A (q + bl - 1) (q + bl - 1) T1 (Nat.le_refl _) (by omega) X1 e1
    have hn1 : own_out f sv (q + bl - 1) (q + bl - 1) = own_n1 pw f sv p1.toInt.toNat := by rw [← hbl, own_n1, hpq]
    rw [hn1] at st2
    have ht' : own_tree (2 ^ pw) f := hpq ▸ ht
    have I := own_inner (s := sv) ht' (b := p1.toInt.toNat) (by omega) (by omega)
    by_cases hz : (own_n1 pw f sv p1.toInt.toNat) = 0
    · have hc71 : ¬ ((0 : Int32) < (own_n1 pw f sv p1.toInt.toNat).toInt32) := by rw [hz]; decide
      have hv : own_ri pw f sv p1 = (-1 : Int32) := by rw [own_ri, if_pos hc4, if_pos hz]
      obtain ⟨fs, hr, hrun, hended, hW, hsame⟩ := X2.leave (v := some (.int (own_ri pw f sv p1))) (fun h => by rw [Bd.returns] at h; cases h)
      refine ⟨_, _, pre0 _ ?_, hrun, hended, _, _, rfl, ⟨rfl, N0, e2⟩, ⟨_, rfl⟩, hW, hsame.mono (by decide) (by decide)⟩
      rw [hv] at hr
      show Steps p.tables e below (s₁.setTop (mkF m 0 #[.val (.ref o), .val (.int p1), .val (.long sv), .second, .unset, .unset] [])) _
      refine XS.iconst X0.here hx rfl (hb hby d_innermostSince_0) ?_
      show Steps p.tables e below (s₁.setTop (mkF m 1 #[.val (.ref o), .val (.int p1), .val (.long sv), .second, .unset, .unset] [(.int (-1 : Int32))])) _
      refine XS.istore X0.here hx rfl (hb hby d_innermostSince_1) rfl (l' := #[.val (.ref o), .val (.int p1), .val (.long sv), .second, .val (.int (-1 : Int32)), .unset]) rfl ?_
      show Steps p.tables e below (s₁.setTop (mkF m 3 #[.val (.ref o), .val (.int p1), .val (.long sv), .second, .val (.int (-1 : Int32)), .unset] [])) _
      refine XS.iloadN X0.here hx rfl (hb hby d_innermostSince_3) rfl ?_
      show Steps p.tables e below (s₁.setTop (mkF m 4 #[.val (.ref o), .val (.int p1), .val (.long sv), .second, .val (.int (-1 : Int32)), .unset] [(.int p1)])) _
      refine XS.ifNo X0.here hx rfl (hb hby d_innermostSince_4) rfl ((if0 _ _).trans (tlt hc4).2.2.2) ?_
      show Steps p.tables e below (s₁.setTop (mkF m 7 #[.val (.ref o), .val (.int p1), .val (.long sv), .second, .val (.int (-1 : Int32)), .unset] [])) _
      refine XS.aloadN X0.here hx rfl (hb hby d_innermostSince_7) rfl rfl ?_
      show Steps p.tables e below (s₁.setTop (mkF m 8 #[.val (.ref o), .val (.int p1), .val (.long sv), .second, .val (.int (-1 : Int32)), .unset] [(.ref o)])) _
      refine st1 _ ?_
      show Steps p.tables e below (T1.setTop (mkF m 11 #[.val (.ref o), .val (.int p1), .val (.long sv), .second, .val (.int (-1 : Int32)), .unset] [(.int q.toInt32)])) _
      refine XS.iloadN X1.here hx rfl (hb hby d_innermostSince_11) rfl ?_
      show Steps p.tables e below (T1.setTop (mkF m 12 #[.val (.ref o), .val (.int p1), .val (.long sv), .second, .val (.int (-1 : Int32)), .unset] [(.int p1), (.int q.toInt32)])) _
      refine XS.iadd X1.here hx rfl (hb hby d_innermostSince_12) rfl ?_
      show Steps p.tables e below (T1.setTop (mkF m 13 #[.val (.ref o), .val (.int p1), .val (.long sv), .second, .val (.int (-1 : Int32)), .unset] [(.int (q.toInt32 + p1))])) _
      refine XS.iconst X1.here hx rfl (hb hby d_innermostSince_13) ?_
      show Steps p.tables e below (T1.setTop (mkF m 14 #[.val (.ref o), .val (.int p1), .val (.long sv), .second, .val (.int (-1 : Int32)), .unset] [(.int (1 : Int32)), (.int (q.toInt32 + p1))])) _
      refine XS.isub X1.here hx rfl (hb hby d_innermostSince_14) rfl ?_
      show Steps p.tables e below (T1.setTop (mkF m 15 #[.val (.ref o), .val (.int p1), .val (.long sv), .second, .val (.int (-1 : Int32)), .unset] [(.int ((q.toInt32 + p1) - (1 : Int32)))])) _
      refine XS.istore X1.here hx rfl (hb hby d_innermostSince_15) rfl (l' := #[.val (.ref o), .val (.int p1), .val (.long sv), .second, .val (.int (-1 : Int32)), .val (.int ((q.toInt32 + p1) - (1 : Int32)))]) rfl ?_
      show Steps p.tables e below (T1.setTop (mkF m 17 #[.val (.ref o), .val (.int p1), .val (.long sv), .second, .val (.int (-1 : Int32)), .val (.int ((q.toInt32 + p1) - (1 : Int32)))] [])) _
      rw [hst]
      refine st2 _ ?_
      show Steps p.tables e below (T2.setTop (mkF m 69 #[.val (.ref o), .val (.int p1), .val (.long sv), .second, .val (.int (-1 : Int32)), .val (.int (own_n1 pw f sv p1.toInt.toNat).toInt32)] [])) _
      refine XS.iload X2.here hx rfl (hb hby d_innermostSince_69) rfl ?_
      show Steps p.tables e below (T2.setTop (mkF m 71 #[.val (.ref o), .val (.int p1), .val (.long sv), .second, .val (.int (-1 : Int32)), .val (.int (own_n1 pw f sv p1.toInt.toNat).toInt32)] [(.int (own_n1 pw f sv p1.toInt.toNat).toInt32)])) _
      refine XS.ifYes X2.here hx rfl (pc0 := 71) (pc' := 126) rfl (hb hby d_innermostSince_71) rfl ((if0 _ _).trans (flt hc71).2.2.2) (by decide) (by decide) ?_
      show Steps p.tables e below (T2.setTop (mkF m 126 #[.val (.ref o), .val (.int p1), .val (.long sv), .second, .val (.int (-1 : Int32)), .val (.int (own_n1 pw f sv p1.toInt.toNat).toInt32)] [])) _
      refine XS.iload X2.here hx rfl (hb hby d_innermostSince_126) rfl ?_
      show Steps p.tables e below (T2.setTop (mkF m 128 #[.val (.ref o), .val (.int p1), .val (.long sv), .second, .val (.int (-1 : Int32)), .val (.int (own_n1 pw f sv p1.toInt.toNat).toInt32)] [(.int (-1 : Int32))])) _
      exact retI X2 hx Bd.returns (hb hby d_innermostSince_128) hr
    · obtain ⟨I1, I2, -⟩ := I.2 hz
      have hle : (own_n1 pw f sv p1.toInt.toNat) ≤ 2 ^ pw + p1.toInt.toNat - 1 := own_out_le _ _
      have hlt : (own_n1 pw f sv p1.toInt.toNat) < 2 * q := by omega
      have hc71 : (0 : Int32) < (own_n1 pw f sv p1.toInt.toNat).toInt32 := (own_pos (by omega)).mpr hz
      obtain ⟨T3, X3, e3, st3⟩ := lp_dn hx hZ hw hby hown o b p1 sv q hq f F1 F2 A q (own_n1 pw f sv p1.toInt.toNat) T2 (by omega) (by omega) hlt X2 e2
      have hn2 : own_dn f sv q q (own_n1 pw f sv p1.toInt.toNat) = own_n2 pw f sv p1.toInt.toNat := by rw [own_n2, hpq]
      rw [hn2] at st3
      obtain ⟨T4, X4, e4, st4⟩ := getF X3 hx hZ hown (host := "") (Or.inl (hw _ (List.mem_of_getElem? (i := 22) rfl))) Via.refl e3 F1 (g := (mkF m 120 #[.val (.ref o), .val (.int p1), .val (.long sv), .second, .val (.int (-1 : Int32)), .val (.int (own_n2 pw f sv p1.toInt.toNat).toInt32)] [(.ref o), (.int (own_n2 pw f sv p1.toInt.toNat).toInt32)])) rfl rfl (hb hby d_innermostSince_120)
      have hv : own_ri pw f sv p1 = (own_n2 pw f sv p1.toInt.toNat).toInt32 - q.toInt32 := by rw [own_ri, if_pos hc4, if_neg hz, ← hpq]
      obtain ⟨fs, hr, hrun, hended, hW, hsame⟩ := X4.leave (v := some (.int (own_ri pw f sv p1))) (fun h => by rw [Bd.returns] at h; cases h)
      refine ⟨_, _, pre0 _ ?_, hrun, hended, _, _, rfl, ⟨rfl, N0, e4⟩, ⟨_, rfl⟩, hW, hsame.mono (by decide) (by decide)⟩
      rw [hv] at hr
      show Steps p.tables e below (s₁.setTop (mkF m 0 #[.val (.ref o), .val (.int p1), .val (.long sv), .second, .unset, .unset] [])) _
      refine XS.iconst X0.here hx rfl (hb hby d_innermostSince_0) ?_
      show Steps p.tables e below (s₁.setTop (mkF m 1 #[.val (.ref o), .val (.int p1), .val (.long sv), .second, .unset, .unset] [(.int (-1 : Int32))])) _
      refine XS.istore X0.here hx rfl (hb hby d_innermostSince_1) rfl (l' := #[.val (.ref o), .val (.int p1), .val (.long sv), .second, .val (.int (-1 : Int32)), .unset]) rfl ?_
      show Steps p.tables e below (s₁.setTop (mkF m 3 #[.val (.ref o), .val (.int p1), .val (.long sv), .second, .val (.int (-1 : Int32)), .unset] [])) _
      refine XS.iloadN X0.here hx rfl (hb hby d_innermostSince_3) rfl ?_
      show Steps p.tables e below (s₁.setTop (mkF m 4 #[.val (.ref o), .val (.int p1), .val (.long sv), .second, .val (.int (-1 : Int32)), .unset] [(.int p1)])) _
      refine XS.ifNo X0.here hx rfl (hb hby d_innermostSince_4) rfl ((if0 _ _).trans (tlt hc4).2.2.2) ?_
      show Steps p.tables e below (s₁.setTop (mkF m 7 #[.val (.ref o), .val (.int p1), .val (.long sv), .second, .val (.int (-1 : Int32)), .unset] [])) _
      refine XS.aloadN X0.here hx rfl (hb hby d_innermostSince_7) rfl rfl ?_
      show Steps p.tables e below (s₁.setTop (mkF m 8 #[.val (.ref o), .val (.int p1), .val (.long sv), .second, .val (.int (-1 : Int32)), .unset] [(.ref o)])) _
      refine st1 _ ?_
      show Steps p.tables e below (T1.setTop (mkF m 11 #[.val (.ref o), .val (.int p1), .val (.long sv), .second, .val (.int (-1 : Int32)), .unset] [(.int q.toInt32)])) _
      refine XS.iloadN X1.here hx rfl (hb hby d_innermostSince_11) rfl ?_
      show Steps p.tables e below (T1.setTop (mkF m 12 #[.val (.ref o), .val (.int p1), .val (.long sv), .second, .val (.int (-1 : Int32)), .unset] [(.int p1), (.int q.toInt32)])) _
      refine XS.iadd X1.here hx rfl (hb hby d_innermostSince_12) rfl ?_
      show Steps p.tables e below (T1.setTop (mkF m 13 #[.val (.ref o), .val (.int p1), .val (.long sv), .second, .val (.int (-1 : Int32)), .unset] [(.int (q.toInt32 + p1))])) _
      refine XS.iconst X1.here hx rfl (hb hby d_innermostSince_13) ?_
      show Steps p.tables e below (T1.setTop (mkF m 14 #[.val (.ref o), .val (.int p1), .val (.long sv), .second, .val (.int (-1 : Int32)), .unset] [(.int (1 : Int32)), (.int (q.toInt32 + p1))])) _
      refine XS.isub X1.here hx rfl (hb hby d_innermostSince_14) rfl ?_
      show Steps p.tables e below (T1.setTop (mkF m 15 #[.val (.ref o), .val (.int p1), .val (.long sv), .second, .val (.int (-1 : Int32)), .unset] [(.int ((q.toInt32 + p1) - (1 : Int32)))])) _
      refine XS.istore X1.here hx rfl (hb hby d_innermostSince_15) rfl (l' := #[.val (.ref o), .val (.int p1), .val (.long sv), .second, .val (.int (-1 : Int32)), .val (.int ((q.toInt32 + p1) - (1 : Int32)))]) rfl ?_
      show Steps p.tables e below (T1.setTop (mkF m 17 #[.val (.ref o), .val (.int p1), .val (.long sv), .second, .val (.int (-1 : Int32)), .val (.int ((q.toInt32 + p1) - (1 : Int32)))] [])) _
      rw [hst]
      refine st2 _ ?_
      show Steps p.tables e below (T2.setTop (mkF m 69 #[.val (.ref o), .val (.int p1), .val (.long sv), .second, .val (.int (-1 : Int32)), .val (.int (own_n1 pw f sv p1.toInt.toNat).toInt32)] [])) _
      refine XS.iload X2.here hx rfl (hb hby d_innermostSince_69) rfl ?_
      show Steps p.tables e below (T2.setTop (mkF m 71 #[.val (.ref o), .val (.int p1), .val (.long sv), .second, .val (.int (-1 : Int32)), .val (.int (own_n1 pw f sv p1.toInt.toNat).toInt32)] [(.int (own_n1 pw f sv p1.toInt.toNat).toInt32)])) _
      refine XS.ifNo X2.here hx rfl (hb hby d_innermostSince_71) rfl ((if0 _ _).trans (tlt hc71).2.2.2) ?_
      refine st3 _ ?_
      show Steps p.tables e below (T3.setTop (mkF m 117 #[.val (.ref o), .val (.int p1), .val (.long sv), .second, .val (.int (-1 : Int32)), .val (.int (own_n2 pw f sv p1.toInt.toNat).toInt32)] [])) _
      refine XS.iload X3.here hx rfl (hb hby d_innermostSince_117) rfl ?_
      show Steps p.tables e below (T3.setTop (mkF m 119 #[.val (.ref o), .val (.int p1), .val (.long sv), .second, .val (.int (-1 : Int32)), .val (.int (own_n2 pw f sv p1.toInt.toNat).toInt32)] [(.int (own_n2 pw f sv p1.toInt.toNat).toInt32)])) _
      refine XS.aloadN X3.here hx rfl (hb hby d_innermostSince_119) rfl rfl ?_
      show Steps p.tables e below (T3.setTop (mkF m 120 #[.val (.ref o), .val (.int p1), .val (.long sv), .second, .val (.int (-1 : Int32)), .val (.int (own_n2 pw f sv p1.toInt.toNat).toInt32)] [(.ref o), (.int (own_n2 pw f sv p1.toInt.toNat).toInt32)])) _
      refine st4 _ ?_
      show Steps p.tables e below (T4.setTop (mkF m 123 #[.val (.ref o), .val (.int p1), .val (.long sv), .second, .val (.int (-1 : Int32)), .val (.int (own_n2 pw f sv p1.toInt.toNat).toInt32)] [(.int q.toInt32), (.int (own_n2 pw f sv p1.toInt.toNat).toInt32)])) _
      refine XS.isub X4.here hx rfl (hb hby d_innermostSince_123) rfl ?_
      show Steps p.tables e below (T4.setTop (mkF m 124 #[.val (.ref o), .val (.int p1), .val (.long sv), .second, .val (.int (-1 : Int32)), .val (.int (own_n2 pw f sv p1.toInt.toNat).toInt32)] [(.int ((own_n2 pw f sv p1.toInt.toNat).toInt32 - q.toInt32))])) _
      refine XS.istore X4.here hx rfl (hb hby d_innermostSince_124) rfl (l' := #[.val (.ref o), .val (.int p1), .val (.long sv), .second, .val (.int ((own_n2 pw f sv p1.toInt.toNat).toInt32 - q.toInt32)), .val (.int (own_n2 pw f sv p1.toInt.toNat).toInt32)]) rfl ?_
      show Steps p.tables e below (T4.setTop (mkF m 126 #[.val (.ref o), .val (.int p1), .val (.long sv), .second, .val (.int ((own_n2 pw f sv p1.toInt.toNat).toInt32 - q.toInt32)), .val (.int (own_n2 pw f sv p1.toInt.toNat).toInt32)] [])) _
      refine XS.iload X4.here hx rfl (hb hby d_innermostSince_126) rfl ?_
      show Steps p.tables e below (T4.setTop (mkF m 128 #[.val (.ref o), .val (.int p1), .val (.long sv), .second, .val (.int ((own_n2 pw f sv p1.toInt.toNat).toInt32 - q.toInt32)), .val (.int (own_n2 pw f sv p1.toInt.toNat).toInt32)] [(.int ((own_n2 pw f sv p1.toInt.toNat).toInt32 - q.toInt32))])) _
      exact retI X4 hx Bd.returns (hb hby d_innermostSince_128) hr
  · have hv : own_ri pw f sv p1 = (-1 : Int32) := if_neg hc4
    obtain ⟨fs, hr, hrun, hended, hW, hsame⟩ := X0.leave (v := some (.int (own_ri pw f sv p1))) (fun h => by rw [Bd.returns] at h; cases h)
    refine ⟨_, _, pre0 _ ?_, hrun, hended, _, _, rfl, ⟨rfl, N0, e0⟩, ⟨_, rfl⟩, hW, hsame.mono (by decide) (by decide)⟩
    rw [hv] at hr
    show Steps p.tables e below (s₁.setTop (mkF m 0 #[.val (.ref o), .val (.int p1), .val (.long sv), .second, .unset, .unset] [])) _
    refine XS.iconst X0.here hx rfl (hb hby d_innermostSince_0) ?_
    show Steps p.tables e below (s₁.setTop (mkF m 1 #[.val (.ref o), .val (.int p1), .val (.long sv), .second, .unset, .unset] [(.int (-1 : Int32))])) _
    refine XS.istore X0.here hx rfl (hb hby d_innermostSince_1) rfl (l' := #[.val (.ref o), .val (.int p1), .val (.long sv), .second, .val (.int (-1 : Int32)), .unset]) rfl ?_
    show Steps p.tables e below (s₁.setTop (mkF m 3 #[.val (.ref o), .val (.int p1), .val (.long sv), .second, .val (.int (-1 : Int32)), .unset] [])) _
    refine XS.iloadN X0.here hx rfl (hb hby d_innermostSince_3) rfl ?_
    show Steps p.tables e below (s₁.setTop (mkF m 4 #[.val (.ref o), .val (.int p1), .val (.long sv), .second, .val (.int (-1 : Int32)), .unset] [(.int p1)])) _
    refine XS.ifYes X0.here hx rfl (pc0 := 4) (pc' := 126) rfl (hb hby d_innermostSince_4) rfl ((if0 _ _).trans (flt hc4).2.2.2) (by decide) (by decide) ?_
    show Steps p.tables e below (s₁.setTop (mkF m 126 #[.val (.ref o), .val (.int p1), .val (.long sv), .second, .val (.int (-1 : Int32)), .unset] [])) _
    refine XS.iload X0.here hx rfl (hb hby d_innermostSince_126) rfl ?_
    show Steps p.tables e below (s₁.setTop (mkF m 128 #[.val (.ref o), .val (.int p1), .val (.long sv), .second, .val (.int (-1 : Int32)), .unset] [(.int (-1 : Int32))])) _
    exact retI X0 hx Bd.returns (hb hby d_innermostSince_128) hr
theorem own_lvs (n : Nat) (h1 : 1 ≤ n) (h2 : n ≤ 16) : ∃ pw : Nat, own_lv n.toInt32 = (2 ^ pw).toInt32 ∧ n ≤ 2 ^ pw ∧ 2 ^ pw ≤ 16 ∧ (n ≤ 8 → 2 ^ pw ≤ 8) ∧ (0 : Int32) < own_mx (((2 : Int32) * n.toInt32) - (1 : Int32)) (1 : Int32) ∧ own_mx (((2 : Int32) * n.toInt32) - (1 : Int32)) (1 : Int32) < (256 : Int32) := by
  have h : n = 1 ∨ n = 2 ∨ n = 3 ∨ n = 4 ∨ n = 5 ∨ n = 6 ∨ n = 7 ∨ n = 8 ∨ n = 9 ∨ n = 10 ∨ n = 11 ∨ n = 12 ∨ n = 13 ∨ n = 14 ∨ n = 15 ∨ n = 16 := by omega
  rcases h with rfl | rfl | rfl | rfl | rfl | rfl | rfl | rfl | rfl | rfl | rfl | rfl | rfl | rfl | rfl | rfl
  · exact ⟨0, by decide +kernel, by decide +kernel, by decide +kernel, by decide +kernel, by decide +kernel, by decide +kernel⟩
  · exact ⟨1, by decide +kernel, by decide +kernel, by decide +kernel, by decide +kernel, by decide +kernel, by decide +kernel⟩
  · exact ⟨2, by decide +kernel, by decide +kernel, by decide +kernel, by decide +kernel, by decide +kernel, by decide +kernel⟩
  · exact ⟨2, by decide +kernel, by decide +kernel, by decide +kernel, by decide +kernel, by decide +kernel, by decide +kernel⟩
  · exact ⟨3, by decide +kernel, by decide +kernel, by decide +kernel, by decide +kernel, by decide +kernel, by decide +kernel⟩
  · exact ⟨3, by decide +kernel, by decide +kernel, by decide +kernel, by decide +kernel, by decide +kernel, by decide +kernel⟩
  · exact ⟨3, by decide +kernel, by decide +kernel, by decide +kernel, by decide +kernel, by decide +kernel, by decide +kernel⟩
  · exact ⟨3, by decide +kernel, by decide +kernel, by decide +kernel, by decide +kernel, by decide +kernel, by decide +kernel⟩
  · exact ⟨4, by decide +kernel, by decide +kernel, by decide +kernel, by decide +kernel, by decide +kernel, by decide +kernel⟩
  · exact ⟨4, by decide +kernel, by decide +kernel, by decide +kernel, by decide +kernel, by decide +kernel, by decide +kernel⟩
  · exact ⟨4, by decide +kernel, by decide +kernel, by decide +kernel, by decide +kernel, by decide +kernel, by decide +kernel⟩
  · exact ⟨4, by decide +kernel, by decide +kernel, by decide +kernel, by decide +kernel, by decide +kernel, by decide +kernel⟩
  · exact ⟨4, by decide +kernel, by decide +kernel, by decide +kernel, by decide +kernel, by decide +kernel, by decide +kernel⟩
  · exact ⟨4, by decide +kernel, by decide +kernel, by decide +kernel, by decide +kernel, by decide +kernel, by decide +kernel⟩
  · exact ⟨4, by decide +kernel, by decide +kernel, by decide +kernel, by decide +kernel, by decide +kernel, by decide +kernel⟩
  · exact ⟨4, by decide +kernel, by decide +kernel, by decide +kernel, by decide +kernel, by decide +kernel, by decide +kernel⟩
theorem pd_in : parseMethodDescriptor "(IJ)I" = some ⟨[.int, .long], some .int⟩ := by decide +kernel
theorem pd_ex : parseMethodDescriptor "([JIJ)I" = some ⟨[.array .long, .int, .long], some .int⟩ := by decide +kernel
theorem pd_st : parseMethodDescriptor "(Lcom/example/mutableau/mutableau/formula/BindingReferences;[JJIII)V" = some ⟨[.object "com/example/mutableau/mutableau/formula/BindingReferences", .array .long, .long, .int, .int, .int], none⟩ := by decide +kernel
theorem d_step_0 : decode method_2_code 0 = .ok (.iload 4, 2) := by decide +kernel
theorem d_step_2 : decode method_2_code 2 = .ok (.iload 5, 2) := by decide +kernel
theorem d_step_4 : decode method_2_code 4 = .ok (.if_icmp .ge 34, 3) := by decide +kernel
theorem d_step_7 : decode method_2_code 7 = .ok (.lload_n 2, 1) := by decide +kernel
theorem d_step_8 : decode method_2_code 8 = .ok (.iconst 3, 1) := by decide +kernel
theorem d_step_9 : decode method_2_code 9 = .ok (.iload 4, 2) := by decide +kernel
theorem d_step_11 : decode method_2_code 11 = .ok (.imul, 1) := by decide +kernel
theorem d_step_12 : decode method_2_code 12 = .ok (.lushr, 1) := by decide +kernel
theorem d_step_13 : decode method_2_code 13 = .ok (.ldc2_w 7, 3) := by decide +kernel
theorem d_step_16 : decode method_2_code 16 = .ok (.land, 1) := by decide +kernel
theorem d_step_17 : decode method_2_code 17 = .ok (.l2i, 1) := by decide +kernel
theorem d_step_18 : decode method_2_code 18 = .ok (.iload 6, 2) := by decide +kernel
theorem d_step_20 : decode method_2_code 20 = .ok (.irem, 1) := by decide +kernel
theorem d_step_21 : decode method_2_code 21 = .ok (.istore 7, 2) := by decide +kernel
theorem d_step_23 : decode method_2_code 23 = .ok (.aload_n 0, 1) := by decide +kernel
theorem d_step_24 : decode method_2_code 24 = .ok (.iload 7, 2) := by decide +kernel
theorem d_step_26 : decode method_2_code 26 = .ok (.invokevirtual 9, 3) := by decide +kernel
theorem d_step_29 : decode method_2_code 29 = .ok (.aload_n 1, 1) := by decide +kernel
theorem d_step_30 : decode method_2_code 30 = .ok (.iload 7, 2) := by decide +kernel
theorem d_step_32 : decode method_2_code 32 = .ok (.iload 4, 2) := by decide +kernel
theorem d_step_34 : decode method_2_code 34 = .ok (.iconst 1, 1) := by decide +kernel
theorem d_step_35 : decode method_2_code 35 = .ok (.iadd, 1) := by decide +kernel
theorem d_step_36 : decode method_2_code 36 = .ok (.i2l, 1) := by decide +kernel
theorem d_step_37 : decode method_2_code 37 = .ok (.lastore, 1) := by decide +kernel
theorem d_step_38 : decode method_2_code 38 = .ok (.return_, 1) := by decide +kernel
theorem d_expect_0 : decode method_3_code 0 = .ok (.bipush 7, 2) := by decide +kernel
theorem d_expect_2 : decode method_3_code 2 = .ok (.iload_n 1, 1) := by decide +kernel
theorem d_expect_3 : decode method_3_code 3 = .ok (.if_icmp .ge 15, 3) := by decide +kernel
theorem d_expect_6 : decode method_3_code 6 = .ok (.aload_n 0, 1) := by decide +kernel
theorem d_expect_7 : decode method_3_code 7 = .ok (.bipush 7, 2) := by decide +kernel
theorem d_expect_9 : decode method_3_code 9 = .ok (.laload, 1) := by decide +kernel
theorem d_expect_10 : decode method_3_code 10 = .ok (.lload_n 2, 1) := by decide +kernel
theorem d_expect_11 : decode method_3_code 11 = .ok (.lcmp, 1) := by decide +kernel
theorem d_expect_12 : decode method_3_code 12 = .ok (.ifCond .le 6, 3) := by decide +kernel
theorem d_expect_15 : decode method_3_code 15 = .ok (.bipush 7, 2) := by decide +kernel
theorem d_expect_17 : decode method_3_code 17 = .ok (.ireturn, 1) := by decide +kernel
theorem d_expect_18 : decode method_3_code 18 = .ok (.bipush 6, 2) := by decide +kernel
theorem d_expect_20 : decode method_3_code 20 = .ok (.iload_n 1, 1) := by decide +kernel
theorem d_expect_21 : decode method_3_code 21 = .ok (.if_icmp .ge 15, 3) := by decide +kernel
theorem d_expect_24 : decode method_3_code 24 = .ok (.aload_n 0, 1) := by decide +kernel
theorem d_expect_25 : decode method_3_code 25 = .ok (.bipush 6, 2) := by decide +kernel
theorem d_expect_27 : decode method_3_code 27 = .ok (.laload, 1) := by decide +kernel
theorem d_expect_28 : decode method_3_code 28 = .ok (.lload_n 2, 1) := by decide +kernel
theorem d_expect_29 : decode method_3_code 29 = .ok (.lcmp, 1) := by decide +kernel
theorem d_expect_30 : decode method_3_code 30 = .ok (.ifCond .le 6, 3) := by decide +kernel
theorem d_expect_33 : decode method_3_code 33 = .ok (.bipush 6, 2) := by decide +kernel
theorem d_expect_35 : decode method_3_code 35 = .ok (.ireturn, 1) := by decide +kernel
theorem d_expect_36 : decode method_3_code 36 = .ok (.iconst 5, 1) := by decide +kernel
theorem d_expect_37 : decode method_3_code 37 = .ok (.iload_n 1, 1) := by decide +kernel
theorem d_expect_38 : decode method_3_code 38 = .ok (.if_icmp .ge 13, 3) := by decide +kernel
theorem d_expect_41 : decode method_3_code 41 = .ok (.aload_n 0, 1) := by decide +kernel
theorem d_expect_42 : decode method_3_code 42 = .ok (.iconst 5, 1) := by decide +kernel
theorem d_expect_43 : decode method_3_code 43 = .ok (.laload, 1) := by decide +kernel
theorem d_expect_44 : decode method_3_code 44 = .ok (.lload_n 2, 1) := by decide +kernel
theorem d_expect_45 : decode method_3_code 45 = .ok (.lcmp, 1) := by decide +kernel
theorem d_expect_46 : decode method_3_code 46 = .ok (.ifCond .le 5, 3) := by decide +kernel
theorem d_expect_49 : decode method_3_code 49 = .ok (.iconst 5, 1) := by decide +kernel
theorem d_expect_50 : decode method_3_code 50 = .ok (.ireturn, 1) := by decide +kernel
theorem d_expect_51 : decode method_3_code 51 = .ok (.iconst 4, 1) := by decide +kernel
theorem d_expect_52 : decode method_3_code 52 = .ok (.iload_n 1, 1) := by decide +kernel
theorem d_expect_53 : decode method_3_code 53 = .ok (.if_icmp .ge 13, 3) := by decide +kernel
theorem d_expect_56 : decode method_3_code 56 = .ok (.aload_n 0, 1) := by decide +kernel
theorem d_expect_57 : decode method_3_code 57 = .ok (.iconst 4, 1) := by decide +kernel
theorem d_expect_58 : decode method_3_code 58 = .ok (.laload, 1) := by decide +kernel
theorem d_expect_59 : decode method_3_code 59 = .ok (.lload_n 2, 1) := by decide +kernel
theorem d_expect_60 : decode method_3_code 60 = .ok (.lcmp, 1) := by decide +kernel
theorem d_expect_61 : decode method_3_code 61 = .ok (.ifCond .le 5, 3) := by decide +kernel
theorem d_expect_64 : decode method_3_code 64 = .ok (.iconst 4, 1) := by decide +kernel
theorem d_expect_65 : decode method_3_code 65 = .ok (.ireturn, 1) := by decide +kernel
theorem d_expect_66 : decode method_3_code 66 = .ok (.iconst 3, 1) := by decide +kernel
theorem d_expect_67 : decode method_3_code 67 = .ok (.iload_n 1, 1) := by decide +kernel
theorem d_expect_68 : decode method_3_code 68 = .ok (.if_icmp .ge 13, 3) := by decide +kernel
theorem d_expect_71 : decode method_3_code 71 = .ok (.aload_n 0, 1) := by decide +kernel
theorem d_expect_72 : decode method_3_code 72 = .ok (.iconst 3, 1) := by decide +kernel
theorem d_expect_73 : decode method_3_code 73 = .ok (.laload, 1) := by decide +kernel
theorem d_expect_74 : decode method_3_code 74 = .ok (.lload_n 2, 1) := by decide +kernel
theorem d_expect_75 : decode method_3_code 75 = .ok (.lcmp, 1) := by decide +kernel
theorem d_expect_76 : decode method_3_code 76 = .ok (.ifCond .le 5, 3) := by decide +kernel
theorem d_expect_79 : decode method_3_code 79 = .ok (.iconst 3, 1) := by decide +kernel
theorem d_expect_80 : decode method_3_code 80 = .ok (.ireturn, 1) := by decide +kernel
theorem d_expect_81 : decode method_3_code 81 = .ok (.iconst 2, 1) := by decide +kernel
theorem d_expect_82 : decode method_3_code 82 = .ok (.iload_n 1, 1) := by decide +kernel
theorem d_expect_83 : decode method_3_code 83 = .ok (.if_icmp .ge 13, 3) := by decide +kernel
theorem d_expect_86 : decode method_3_code 86 = .ok (.aload_n 0, 1) := by decide +kernel
theorem d_expect_87 : decode method_3_code 87 = .ok (.iconst 2, 1) := by decide +kernel
theorem d_expect_88 : decode method_3_code 88 = .ok (.laload, 1) := by decide +kernel
theorem d_expect_89 : decode method_3_code 89 = .ok (.lload_n 2, 1) := by decide +kernel
theorem d_expect_90 : decode method_3_code 90 = .ok (.lcmp, 1) := by decide +kernel
theorem d_expect_91 : decode method_3_code 91 = .ok (.ifCond .le 5, 3) := by decide +kernel
theorem d_expect_94 : decode method_3_code 94 = .ok (.iconst 2, 1) := by decide +kernel
theorem d_expect_95 : decode method_3_code 95 = .ok (.ireturn, 1) := by decide +kernel
theorem d_expect_96 : decode method_3_code 96 = .ok (.iconst 1, 1) := by decide +kernel
theorem d_expect_97 : decode method_3_code 97 = .ok (.iload_n 1, 1) := by decide +kernel
theorem d_expect_98 : decode method_3_code 98 = .ok (.if_icmp .ge 13, 3) := by decide +kernel
theorem d_expect_101 : decode method_3_code 101 = .ok (.aload_n 0, 1) := by decide +kernel
theorem d_expect_102 : decode method_3_code 102 = .ok (.iconst 1, 1) := by decide +kernel
theorem d_expect_103 : decode method_3_code 103 = .ok (.laload, 1) := by decide +kernel
theorem d_expect_104 : decode method_3_code 104 = .ok (.lload_n 2, 1) := by decide +kernel
theorem d_expect_105 : decode method_3_code 105 = .ok (.lcmp, 1) := by decide +kernel
theorem d_expect_106 : decode method_3_code 106 = .ok (.ifCond .le 5, 3) := by decide +kernel
theorem d_expect_109 : decode method_3_code 109 = .ok (.iconst 1, 1) := by decide +kernel
theorem d_expect_110 : decode method_3_code 110 = .ok (.ireturn, 1) := by decide +kernel
theorem d_expect_111 : decode method_3_code 111 = .ok (.iconst 0, 1) := by decide +kernel
theorem d_expect_112 : decode method_3_code 112 = .ok (.iload_n 1, 1) := by decide +kernel
theorem d_expect_113 : decode method_3_code 113 = .ok (.if_icmp .ge 13, 3) := by decide +kernel
theorem d_expect_116 : decode method_3_code 116 = .ok (.aload_n 0, 1) := by decide +kernel
theorem d_expect_117 : decode method_3_code 117 = .ok (.iconst 0, 1) := by decide +kernel
theorem d_expect_118 : decode method_3_code 118 = .ok (.laload, 1) := by decide +kernel
theorem d_expect_119 : decode method_3_code 119 = .ok (.lload_n 2, 1) := by decide +kernel
theorem d_expect_120 : decode method_3_code 120 = .ok (.lcmp, 1) := by decide +kernel
theorem d_expect_121 : decode method_3_code 121 = .ok (.ifCond .le 5, 3) := by decide +kernel
theorem d_expect_124 : decode method_3_code 124 = .ok (.iconst 0, 1) := by decide +kernel
theorem d_expect_125 : decode method_3_code 125 = .ok (.ireturn, 1) := by decide +kernel
theorem d_expect_126 : decode method_3_code 126 = .ok (.iconst (-1), 1) := by decide +kernel
theorem d_expect_127 : decode method_3_code 127 = .ok (.ireturn, 1) := by decide +kernel
theorem pn_0 : plainName "com/example/mutableau/mutableau/formula/BindingReferencesInnermostSincePinLaw" = true := by first | (simp [plainName, overriddenIn]; done) | decide +kernel
theorem ef_st (m : MethodId) (x0 : Addr) (x1 : Addr) (x2 : Int64) (x3 : Int32) (x4 : Int32) (x5 : Int32) : entryFrame m #[(.ref x0), (.ref x1), (.long x2), (.int x3), (.int x4), (.int x5)] 8 = mkF m 0 #[.val (.ref x0), .val (.ref x1), .val (.long x2), .second, .val (.int x3), .val (.int x4), .val (.int x5), .unset] [] := by first | (simp [entryFrame, mkF, argsToLocals, Value.category]; done) | rfl
theorem ef_ex (m : MethodId) (x0 : Addr) (x1 : Int32) (x2 : Int64) : entryFrame m #[(.ref x0), (.int x1), (.long x2)] 4 = mkF m 0 #[.val (.ref x0), .val (.int x1), .val (.long x2), .second] [] := by first | (simp [entryFrame, mkF, argsToLocals, Value.category]; done) | rfl
theorem ef_0 (m : MethodId) (x0 : Int32) (x1 : Int64) (x2 : Int32) (x3 : Int64) : entryFrame m #[(.int x0), (.long x1), (.int x2), (.long x3)] maxLocals = mkF m 0 #[.val (.int x0), .val (.long x1), .second, .val (.int x2), .val (.long x3), .second, .unset, .unset, .unset, .unset, .unset, .unset] [] := by first | (simp [entryFrame, mkF, argsToLocals, Value.category, maxLocals]; done) | rfl
def own_I (q : Nat) (f g : Nat → Int64) (cc : Nat) : Prop := own_tree q f ∧ (∀ d, d < q → f (q + d) = g d) ∧ (f 1).toInt = cc ∧ cc ≤ 7
theorem own_I0 (q : Nat) : own_I q (fun _ => 0) (fun _ => 0) 0 := ⟨fun i _ _ s => ⟨Or.inl, fun h => h.elim id id⟩, fun _ _ => rfl, rfl, by omega⟩
theorem own_I1 {q d i : Nat} {f g : Nat → Int64} {x : Int64} (I : own_I q f g i) (hi : i ≤ 6) (hd : d < q) (hx : x.toInt = i + 1) : own_I q (own_path (f 1 + 1) (q + d) (q + d) f) (own_upd g d x) (i + 1) := by
  obtain ⟨t, a, b, c⟩ := I
  have hv : (f 1 + 1).toInt = i + 1 := by
    have q1 := c_ladd (f 1) 1
    have q2 := rng64 (f 1 + 1)
    rw [b, show (1 : Int64).toInt = 1 from by decide] at q1
    omega
  have hlt : f 1 < f 1 + 1 := by rw [Int64.lt_iff_toInt_lt, hv, b]; omega
  obtain ⟨r1, r2, r3⟩ := own_refer t hlt hd
  refine ⟨r1, fun e he => ?_, by rw [r2, hv]; omega, by omega⟩
  rw [r3 e he]
  by_cases h : e = d
  · rw [if_pos h, h, own_upd_hit]
    exact Int64.toInt_inj.mp (by rw [hv, hx])
  · rw [if_neg h, own_upd_miss _ _ h]
    exact a e he
def own_ex (g : Nat → Int64) (p1 : Int32) (sv : Int64) : Nat → Int32
  | 0 => (-1 : Int32)
  | k + 1 => if k.toInt32 < p1 then (if sv < g k then k.toInt32 else own_ex g p1 sv k) else own_ex g p1 sv k
theorem own_exA {g : Nat → Int64} {p1 : Int32} {sv : Int64} {k : Nat} (h : k.toInt32 < p1) (h1 : sv < g k) : own_ex g p1 sv (k + 1) = k.toInt32 := (if_pos h).trans (if_pos h1)
theorem own_exB {g : Nat → Int64} {p1 : Int32} {sv : Int64} {k : Nat} (h : k.toInt32 < p1) (h1 : ¬ sv < g k) : own_ex g p1 sv (k + 1) = own_ex g p1 sv k := (if_pos h).trans (if_neg h1)
theorem own_exC {g : Nat → Int64} {p1 : Int32} {sv : Int64} {k : Nat} (h : ¬ k.toInt32 < p1) : own_ex g p1 sv (k + 1) = own_ex g p1 sv k := if_neg h
theorem own_ex_spec {g : Nat → Int64} {p1 : Int32} {sv : Int64} : ∀ k, k ≤ 8 → (∀ d, k ≤ d → d < p1.toInt.toNat → ¬ sv < g d) → own_spec g p1.toInt.toNat sv (own_ex g p1 sv k).toInt := by
  intro k
  induction k with
  | zero => intro _ h; exact Or.inl ⟨rfl, fun d hd => h d (by omega) hd⟩
  | succ k ih =>
    intro hk h
    by_cases h1 : k.toInt32 < p1
    · have h1' := h1
      rw [Int32.lt_iff_toInt_lt, own_t (by omega)] at h1'
      by_cases h2 : sv < g k
      · rw [own_exA h1 h2, own_t (by omega)]
        exact Or.inr ⟨k, by omega, rfl, h2, fun e e1 e2 => h e (by omega) e2⟩
      · rw [own_exB h1 h2]
        refine ih (by omega) fun d d1 d2 => ?_
        by_cases hd : d = k
        · rw [hd]; exact h2
        · exact h d (by omega) d2
    · rw [own_exC h1]
      rw [Int32.lt_iff_toInt_lt, own_t (by omega)] at h1
      exact ih (by omega) fun d d1 d2 => h d (by omega) d2
def Q_rm_ex (Z : State) (tt : Addr) (p1 : Int32) (sv : Int64) (g : Nat → Int64) (h0 : Heap) (n0 : Nat) (v : Option Value) (h : Heap) (L : List Loc) : Prop := (v = some (.int (own_ex g p1 sv 8)) ∧ Fr n0 L ∧ h = h0)
set_option maxRecDepth 65536 in
set_option maxHeartbeats 40000000 in
theorem rm_ex (l : Launch) (Z : State) (a0 : Array Value) (hw : ∀ d ∈ tables_1, d.before a0 Z = true) (ws : List Jvm.Cond) (tt : Addr) (p1 : Int32) (sv : Int64) (h0 : Heap) (n0 : Nat) (g : Nat → Int64) (B0 : own_A Z h0 tt 8 g) :
    MetFree l (⟨"com/example/mutableau/mutableau/formula/BindingReferencesInnermostSincePinLaw", "expect", "([JIJ)I"⟩ : MethodName) (head1 (Jvm.Cond.code (⟨"com/example/mutableau/mutableau/formula/BindingReferencesInnermostSincePinLaw", "expect", "([JIJ)I"⟩ : MethodName) method_3_code 4 (some .int) :: ws) ({ frames := 0, cells := 0, slots := 0, locals := 0 } : Room)) (fun a U => a = #[(.ref tt), (.int p1), (.long sv)] ∧ Z.Warmed39 U.vm ∧ U.heap = h0) (fun _ _ _ _ _ => True) (fun _ U oc U' => ∃ v L, oc = .returned v ∧ Q_rm_ex Z tt p1 sv g h0 n0 v U'.heap L ∧ FrameEnd U oc U' L ({ frames := 0, cells := 0, slots := 0, locals := 0 } : Room).cells ({ frames := 0, cells := 0, slots := 0, locals := 0 } : Room).slots) := by
  refine MetFree.of_bodySF (plainFor_of_name pn_0) hisR ?_
  intro p e s m args below meth c s₁ Bd hml0 hP hK
  obtain ⟨rfl, hZ, hh⟩ := hP
  have hx := Bd.exec
  have hby := Bd.bytes
  have hml : c.maxLocals = 4 := hml0
  have hown : s.vm.findClass "com/example/mutableau/mutableau/formula/BindingReferencesInnermostSincePinLaw" = some m.cls := findClass_of_methodNamed Bd.named
  have hnm := (name_of_methodNamed Bd.named Bd.method).1
  have X0 : Stand p l e ({ frames := 0, cells := 0, slots := 0, locals := 0 } : Room) s m #[(.ref tt), (.int p1), (.long sv)] below meth c s₁ [] 0 0 := Stand.of_body Bd
  have e0 : s₁.heap = h0 := by rw [← hh, Bd.state]; rfl
  have N0 := Fr.nil n0
  have pre0 : ∀ t, Steps p.tables e below (s₁.setTop (mkF m 0 #[.val (.ref tt), .val (.int p1), .val (.long sv), .second] [])) t → Steps p.tables e below (s₁.setTop (entryFrame m #[(.ref tt), (.int p1), (.long sv)] 4)) t := fun t k => castTop (ef_ex m tt p1 sv) k
  obtain ⟨cl, Ar, Sz, H⟩ := id B0
  obtain ⟨fs, hr, hrun, hended, hW, hsame⟩ := X0.leave (v := some (.int (own_ex g p1 sv 8))) (fun h => by rw [Bd.returns] at h; cases h)
  refine ⟨_, _, pre0 _ ?_, hrun, hended, _, _, rfl, ⟨rfl, N0, e0⟩, ⟨_, rfl⟩, hW, hsame.mono (by decide) (by decide)⟩
  generalize hE : own_ex g p1 sv 8 = rr at hr
  have kk0 : rr = own_ex g p1 sv 0 → Steps p.tables e below (s₁.setTop (mkF m 126 #[.val (.ref tt), .val (.int p1), .val (.long sv), .second] [])) (s₁.setFrames fs) := by
    intro hk
    show Steps p.tables e below (s₁.setTop (mkF m 126 #[.val (.ref tt), .val (.int p1), .val (.long sv), .second] [])) _
    refine XS.iconst X0.here hx rfl (hb hby d_expect_126) ?_
    show Steps p.tables e below (s₁.setTop (mkF m 127 #[.val (.ref tt), .val (.int p1), .val (.long sv), .second] [(.int (-1 : Int32))])) _
    have hv : rr = (-1 : Int32) := hk
    rw [hv] at hr
    exact retI X0 hx Bd.returns (hb hby d_expect_127) hr
  have kk1 : rr = own_ex g p1 sv 1 → Steps p.tables e below (s₁.setTop (mkF m 111 #[.val (.ref tt), .val (.int p1), .val (.long sv), .second] [])) (s₁.setFrames fs) := by
    intro hk
    show Steps p.tables e below (s₁.setTop (mkF m 111 #[.val (.ref tt), .val (.int p1), .val (.long sv), .second] [])) _
    refine XS.iconst X0.here hx rfl (hb hby d_expect_111) ?_
    show Steps p.tables e below (s₁.setTop (mkF m 112 #[.val (.ref tt), .val (.int p1), .val (.long sv), .second] [(.int (0 : Int32))])) _
    refine XS.iloadN X0.here hx rfl (hb hby d_expect_112) rfl ?_
    by_cases hc113 : (0 : Int32) < p1
    · show Steps p.tables e below (s₁.setTop (mkF m 113 #[.val (.ref tt), .val (.int p1), .val (.long sv), .second] [(.int p1), (.int (0 : Int32))])) _
      refine XS.icmpNo X0.here hx rfl (hb hby d_expect_113) rfl (tlt hc113).2.1 ?_
      show Steps p.tables e below (s₁.setTop (mkF m 116 #[.val (.ref tt), .val (.int p1), .val (.long sv), .second] [])) _
      refine XS.aloadN X0.here hx rfl (hb hby d_expect_116) rfl rfl ?_
      show Steps p.tables e below (s₁.setTop (mkF m 117 #[.val (.ref tt), .val (.int p1), .val (.long sv), .second] [(.ref tt)])) _
      refine XS.iconst X0.here hx rfl (hb hby d_expect_117) ?_
      show Steps p.tables e below (s₁.setTop (mkF m 118 #[.val (.ref tt), .val (.int p1), .val (.long sv), .second] [(.int (0 : Int32)), (.ref tt)])) _
      refine X0.laload hx (j := (0 : Int32)) (v := (.long (g 0))) (by rw [e0]; exact Ar.1) (State.isArrayOf_alike hZ.alike Ar.2.1) Ar.2.2 (own_rd (i := 0) Sz H (j := (0 : Int32)) rfl (by omega) (by omega)).1 (own_rd (i := 0) Sz H (j := (0 : Int32)) rfl (by omega) (by omega)).2 (g := (mkF m 118 #[.val (.ref tt), .val (.int p1), .val (.long sv), .second] [(.int (0 : Int32)), (.ref tt)])) rfl rfl (hb hby d_expect_118) _ ?_
      show Steps p.tables e below (s₁.setTop (mkF m 119 #[.val (.ref tt), .val (.int p1), .val (.long sv), .second] [(.long (g 0))])) _
      refine XS.lloadN X0.here hx rfl (hb hby d_expect_119) rfl ?_
      show Steps p.tables e below (s₁.setTop (mkF m 120 #[.val (.ref tt), .val (.int p1), .val (.long sv), .second] [(.long sv), (.long (g 0))])) _
      refine XS.lcmp X0.here hx rfl (hb hby d_expect_120) rfl ?_
      by_cases hc121 : (0 : Int32) < (lcmpW (g 0) sv)
      · show Steps p.tables e below (s₁.setTop (mkF m 121 #[.val (.ref tt), .val (.int p1), .val (.long sv), .second] [(.int (lcmpW (g 0) sv))])) _
        refine XS.ifNo X0.here hx rfl (hb hby d_expect_121) rfl ((if0 _ _).trans (tlt hc121).2.2.2) ?_
        show Steps p.tables e below (s₁.setTop (mkF m 124 #[.val (.ref tt), .val (.int p1), .val (.long sv), .second] [])) _
        refine XS.iconst X0.here hx rfl (hb hby d_expect_124) ?_
        show Steps p.tables e below (s₁.setTop (mkF m 125 #[.val (.ref tt), .val (.int p1), .val (.long sv), .second] [(.int (0 : Int32))])) _
        have hv : rr = (0 : Int32) := hk.trans (own_exA (k := 0) hc113 ((lw_gt _ _).mp hc121))
        rw [hv] at hr
        exact retI X0 hx Bd.returns (hb hby d_expect_125) hr
      · show Steps p.tables e below (s₁.setTop (mkF m 121 #[.val (.ref tt), .val (.int p1), .val (.long sv), .second] [(.int (lcmpW (g 0) sv))])) _
        refine XS.ifYes X0.here hx rfl (pc0 := 121) (pc' := 126) rfl (hb hby d_expect_121) rfl ((if0 _ _).trans (flt hc121).2.2.2) (by decide) (by decide) ?_
        exact kk0 (hk.trans (own_exB (k := 0) hc113 (fun q => hc121 ((lw_gt _ _).mpr q))))
    · show Steps p.tables e below (s₁.setTop (mkF m 113 #[.val (.ref tt), .val (.int p1), .val (.long sv), .second] [(.int p1), (.int (0 : Int32))])) _
      refine XS.icmpYes X0.here hx rfl (pc0 := 113) (pc' := 126) rfl (hb hby d_expect_113) rfl (flt hc113).2.1 (by decide) (by decide) ?_
      exact kk0 (hk.trans (own_exC (k := 0) hc113))
  have kk2 : rr = own_ex g p1 sv 2 → Steps p.tables e below (s₁.setTop (mkF m 96 #[.val (.ref tt), .val (.int p1), .val (.long sv), .second] [])) (s₁.setFrames fs) := by
    intro hk
    show Steps p.tables e below (s₁.setTop (mkF m 96 #[.val (.ref tt), .val (.int p1), .val (.long sv), .second] [])) _
    refine XS.iconst X0.here hx rfl (hb hby d_expect_96) ?_
    show Steps p.tables e below (s₁.setTop (mkF m 97 #[.val (.ref tt), .val (.int p1), .val (.long sv), .second] [(.int (1 : Int32))])) _
    refine XS.iloadN X0.here hx rfl (hb hby d_expect_97) rfl ?_
    by_cases hc98 : (1 : Int32) < p1
    · show Steps p.tables e below (s₁.setTop (mkF m 98 #[.val (.ref tt), .val (.int p1), .val (.long sv), .second] [(.int p1), (.int (1 : Int32))])) _
      refine XS.icmpNo X0.here hx rfl (hb hby d_expect_98) rfl (tlt hc98).2.1 ?_
      show Steps p.tables e below (s₁.setTop (mkF m 101 #[.val (.ref tt), .val (.int p1), .val (.long sv), .second] [])) _
      refine XS.aloadN X0.here hx rfl (hb hby d_expect_101) rfl rfl ?_
      show Steps p.tables e below (s₁.setTop (mkF m 102 #[.val (.ref tt), .val (.int p1), .val (.long sv), .second] [(.ref tt)])) _
      refine XS.iconst X0.here hx rfl (hb hby d_expect_102) ?_
      show Steps p.tables e below (s₁.setTop (mkF m 103 #[.val (.ref tt), .val (.int p1), .val (.long sv), .second] [(.int (1 : Int32)), (.ref tt)])) _
      refine X0.laload hx (j := (1 : Int32)) (v := (.long (g 1))) (by rw [e0]; exact Ar.1) (State.isArrayOf_alike hZ.alike Ar.2.1) Ar.2.2 (own_rd (i := 1) Sz H (j := (1 : Int32)) rfl (by omega) (by omega)).1 (own_rd (i := 1) Sz H (j := (1 : Int32)) rfl (by omega) (by omega)).2 (g := (mkF m 103 #[.val (.ref tt), .val (.int p1), .val (.long sv), .second] [(.int (1 : Int32)), (.ref tt)])) rfl rfl (hb hby d_expect_103) _ ?_
      show Steps p.tables e below (s₁.setTop (mkF m 104 #[.val (.ref tt), .val (.int p1), .val (.long sv), .second] [(.long (g 1))])) _
      refine XS.lloadN X0.here hx rfl (hb hby d_expect_104) rfl ?_
      show Steps p.tables e below (s₁.setTop (mkF m 105 #[.val (.ref tt), .val (.int p1), .val (.long sv), .second] [(.long sv), (.long (g 1))])) _
      refine XS.lcmp X0.here hx rfl (hb hby d_expect_105) rfl ?_
      by_cases hc106 : (0 : Int32) < (lcmpW (g 1) sv)
      · show Steps p.tables e below (s₁.setTop (mkF m 106 #[.val (.ref tt), .val (.int p1), .val (.long sv), .second] [(.int (lcmpW (g 1) sv))])) _
        refine XS.ifNo X0.here hx rfl (hb hby d_expect_106) rfl ((if0 _ _).trans (tlt hc106).2.2.2) ?_
        show Steps p.tables e below (s₁.setTop (mkF m 109 #[.val (.ref tt), .val (.int p1), .val (.long sv), .second] [])) _
        refine XS.iconst X0.here hx rfl (hb hby d_expect_109) ?_
        show Steps p.tables e below (s₁.setTop (mkF m 110 #[.val (.ref tt), .val (.int p1), .val (.long sv), .second] [(.int (1 : Int32))])) _
        have hv : rr = (1 : Int32) := hk.trans (own_exA (k := 1) hc98 ((lw_gt _ _).mp hc106))
        rw [hv] at hr
        exact retI X0 hx Bd.returns (hb hby d_expect_110) hr
      · show Steps p.tables e below (s₁.setTop (mkF m 106 #[.val (.ref tt), .val (.int p1), .val (.long sv), .second] [(.int (lcmpW (g 1) sv))])) _
        refine XS.ifYes X0.here hx rfl (pc0 := 106) (pc' := 111) rfl (hb hby d_expect_106) rfl ((if0 _ _).trans (flt hc106).2.2.2) (by decide) (by decide) ?_
        exact kk1 (hk.trans (own_exB (k := 1) hc98 (fun q => hc106 ((lw_gt _ _).mpr q))))
    · show Steps p.tables e below (s₁.setTop (mkF m 98 #[.val (.ref tt), .val (.int p1), .val (.long sv), .second] [(.int p1), (.int (1 : Int32))])) _
      refine XS.icmpYes X0.here hx rfl (pc0 := 98) (pc' := 111) rfl (hb hby d_expect_98) rfl (flt hc98).2.1 (by decide) (by decide) ?_
      exact kk1 (hk.trans (own_exC (k := 1) hc98))
  have kk3 : rr = own_ex g p1 sv 3 → Steps p.tables e below (s₁.setTop (mkF m 81 #[.val (.ref tt), .val (.int p1), .val (.long sv), .second] [])) (s₁.setFrames fs) := by
    intro hk
    show Steps p.tables e below (s₁.setTop (mkF m 81 #[.val (.ref tt), .val (.int p1), .val (.long sv), .second] [])) _
    refine XS.iconst X0.here hx rfl (hb hby d_expect_81) ?_
    show Steps p.tables e below (s₁.setTop (mkF m 82 #[.val (.ref tt), .val (.int p1), .val (.long sv), .second] [(.int (2 : Int32))])) _
    refine XS.iloadN X0.here hx rfl (hb hby d_expect_82) rfl ?_
    by_cases hc83 : (2 : Int32) < p1
    · show Steps p.tables e below (s₁.setTop (mkF m 83 #[.val (.ref tt), .val (.int p1), .val (.long sv), .second] [(.int p1), (.int (2 : Int32))])) _
      refine XS.icmpNo X0.here hx rfl (hb hby d_expect_83) rfl (tlt hc83).2.1 ?_
      show Steps p.tables e below (s₁.setTop (mkF m 86 #[.val (.ref tt), .val (.int p1), .val (.long sv), .second] [])) _
      refine XS.aloadN X0.here hx rfl (hb hby d_expect_86) rfl rfl ?_
      show Steps p.tables e below (s₁.setTop (mkF m 87 #[.val (.ref tt), .val (.int p1), .val (.long sv), .second] [(.ref tt)])) _
      refine XS.iconst X0.here hx rfl (hb hby d_expect_87) ?_
      show Steps p.tables e below (s₁.setTop (mkF m 88 #[.val (.ref tt), .val (.int p1), .val (.long sv), .second] [(.int (2 : Int32)), (.ref tt)])) _
      refine X0.laload hx (j := (2 : Int32)) (v := (.long (g 2))) (by rw [e0]; exact Ar.1) (State.isArrayOf_alike hZ.alike Ar.2.1) Ar.2.2 (own_rd (i := 2) Sz H (j := (2 : Int32)) rfl (by omega) (by omega)).1 (own_rd (i := 2) Sz H (j := (2 : Int32)) rfl (by omega) (by omega)).2 (g := (mkF m 88 #[.val (.ref tt), .val (.int p1), .val (.long sv), .second] [(.int (2 : Int32)), (.ref tt)])) rfl rfl (hb hby d_expect_88) _ ?_
      show Steps p.tables e below (s₁.setTop (mkF m 89 #[.val (.ref tt), .val (.int p1), .val (.long sv), .second] [(.long (g 2))])) _
      refine XS.lloadN X0.here hx rfl (hb hby d_expect_89) rfl ?_
      show Steps p.tables e below (s₁.setTop (mkF m 90 #[.val (.ref tt), .val (.int p1), .val (.long sv), .second] [(.long sv), (.long (g 2))])) _
      refine XS.lcmp X0.here hx rfl (hb hby d_expect_90) rfl ?_
      by_cases hc91 : (0 : Int32) < (lcmpW (g 2) sv)
      · show Steps p.tables e below (s₁.setTop (mkF m 91 #[.val (.ref tt), .val (.int p1), .val (.long sv), .second] [(.int (lcmpW (g 2) sv))])) _
        refine XS.ifNo X0.here hx rfl (hb hby d_expect_91) rfl ((if0 _ _).trans (tlt hc91).2.2.2) ?_
        show Steps p.tables e below (s₁.setTop (mkF m 94 #[.val (.ref tt), .val (.int p1), .val (.long sv), .second] [])) _
        refine XS.iconst X0.here hx rfl (hb hby d_expect_94) ?_
        show Steps p.tables e below (s₁.setTop (mkF m 95 #[.val (.ref tt), .val (.int p1), .val (.long sv), .second] [(.int (2 : Int32))])) _
        have hv : rr = (2 : Int32) := hk.trans (own_exA (k := 2) hc83 ((lw_gt _ _).mp hc91))
        rw [hv] at hr
        exact retI X0 hx Bd.returns (hb hby d_expect_95) hr
      · show Steps p.tables e below (s₁.setTop (mkF m 91 #[.val (.ref tt), .val (.int p1), .val (.long sv), .second] [(.int (lcmpW (g 2) sv))])) _
        refine XS.ifYes X0.here hx rfl (pc0 := 91) (pc' := 96) rfl (hb hby d_expect_91) rfl ((if0 _ _).trans (flt hc91).2.2.2) (by decide) (by decide) ?_
        exact kk2 (hk.trans (own_exB (k := 2) hc83 (fun q => hc91 ((lw_gt _ _).mpr q))))
    · show Steps p.tables e below (s₁.setTop (mkF m 83 #[.val (.ref tt), .val (.int p1), .val (.long sv), .second] [(.int p1), (.int (2 : Int32))])) _
      refine XS.icmpYes X0.here hx rfl (pc0 := 83) (pc' := 96) rfl (hb hby d_expect_83) rfl (flt hc83).2.1 (by decide) (by decide) ?_
      exact kk2 (hk.trans (own_exC (k := 2) hc83))
  have kk4 : rr = own_ex g p1 sv 4 → Steps p.tables e below (s₁.setTop (mkF m 66 #[.val (.ref tt), .val (.int p1), .val (.long sv), .second] [])) (s₁.setFrames fs) := by
    intro hk
    show Steps p.tables e below (s₁.setTop (mkF m 66 #[.val (.ref tt), .val (.int p1), .val (.long sv), .second] [])) _
    refine XS.iconst X0.here hx rfl (hb hby d_expect_66) ?_
    show Steps p.tables e below (s₁.setTop (mkF m 67 #[.val (.ref tt), .val (.int p1), .val (.long sv), .second] [(.int (3 : Int32))])) _
    refine XS.iloadN X0.here hx rfl (hb hby d_expect_67) rfl ?_
    by_cases hc68 : (3 : Int32) < p1
    · show Steps p.tables e below (s₁.setTop (mkF m 68 #[.val (.ref tt), .val (.int p1), .val (.long sv), .second] [(.int p1), (.int (3 : Int32))])) _
      refine XS.icmpNo X0.here hx rfl (hb hby d_expect_68) rfl (tlt hc68).2.1 ?_
      show Steps p.tables e below (s₁.setTop (mkF m 71 #[.val (.ref tt), .val (.int p1), .val (.long sv), .second] [])) _
      refine XS.aloadN X0.here hx rfl (hb hby d_expect_71) rfl rfl ?_
      show Steps p.tables e below (s₁.setTop (mkF m 72 #[.val (.ref tt), .val (.int p1), .val (.long sv), .second] [(.ref tt)])) _
      refine XS.iconst X0.here hx rfl (hb hby d_expect_72) ?_
      show Steps p.tables e below (s₁.setTop (mkF m 73 #[.val (.ref tt), .val (.int p1), .val (.long sv), .second] [(.int (3 : Int32)), (.ref tt)])) _
      refine X0.laload hx (j := (3 : Int32)) (v := (.long (g 3))) (by rw [e0]; exact Ar.1) (State.isArrayOf_alike hZ.alike Ar.2.1) Ar.2.2 (own_rd (i := 3) Sz H (j := (3 : Int32)) rfl (by omega) (by omega)).1 (own_rd (i := 3) Sz H (j := (3 : Int32)) rfl (by omega) (by omega)).2 (g := (mkF m 73 #[.val (.ref tt), .val (.int p1), .val (.long sv), .second] [(.int (3 : Int32)), (.ref tt)])) rfl rfl (hb hby d_expect_73) _ ?_
      show Steps p.tables e below (s₁.setTop (mkF m 74 #[.val (.ref tt), .val (.int p1), .val (.long sv), .second] [(.long (g 3))])) _
      refine XS.lloadN X0.here hx rfl (hb hby d_expect_74) rfl ?_
      show Steps p.tables e below (s₁.setTop (mkF m 75 #[.val (.ref tt), .val (.int p1), .val (.long sv), .second] [(.long sv), (.long (g 3))])) _
      refine XS.lcmp X0.here hx rfl (hb hby d_expect_75) rfl ?_
      by_cases hc76 : (0 : Int32) < (lcmpW (g 3) sv)
      · show Steps p.tables e below (s₁.setTop (mkF m 76 #[.val (.ref tt), .val (.int p1), .val (.long sv), .second] [(.int (lcmpW (g 3) sv))])) _
        refine XS.ifNo X0.here hx rfl (hb hby d_expect_76) rfl ((if0 _ _).trans (tlt hc76).2.2.2) ?_
        show Steps p.tables e below (s₁.setTop (mkF m 79 #[.val (.ref tt), .val (.int p1), .val (.long sv), .second] [])) _
        refine XS.iconst X0.here hx rfl (hb hby d_expect_79) ?_
        show Steps p.tables e below (s₁.setTop (mkF m 80 #[.val (.ref tt), .val (.int p1), .val (.long sv), .second] [(.int (3 : Int32))])) _
        have hv : rr = (3 : Int32) := hk.trans (own_exA (k := 3) hc68 ((lw_gt _ _).mp hc76))
        rw [hv] at hr
        exact retI X0 hx Bd.returns (hb hby d_expect_80) hr
      · show Steps p.tables e below (s₁.setTop (mkF m 76 #[.val (.ref tt), .val (.int p1), .val (.long sv), .second] [(.int (lcmpW (g 3) sv))])) _
        refine XS.ifYes X0.here hx rfl (pc0 := 76) (pc' := 81) rfl (hb hby d_expect_76) rfl ((if0 _ _).trans (flt hc76).2.2.2) (by decide) (by decide) ?_
        exact kk3 (hk.trans (own_exB (k := 3) hc68 (fun q => hc76 ((lw_gt _ _).mpr q))))
    · show Steps p.tables e below (s₁.setTop (mkF m 68 #[.val (.ref tt), .val (.int p1), .val (.long sv), .second] [(.int p1), (.int (3 : Int32))])) _
      refine XS.icmpYes X0.here hx rfl (pc0 := 68) (pc' := 81) rfl (hb hby d_expect_68) rfl (flt hc68).2.1 (by decide) (by decide) ?_
      exact kk3 (hk.trans (own_exC (k := 3) hc68))
  have kk5 : rr = own_ex g p1 sv 5 → Steps p.tables e below (s₁.setTop (mkF m 51 #[.val (.ref tt), .val (.int p1), .val (.long sv), .second] [])) (s₁.setFrames fs) := by
    intro hk
    show Steps p.tables e below (s₁.setTop (mkF m 51 #[.val (.ref tt), .val (.int p1), .val (.long sv), .second] [])) _
    refine XS.iconst X0.here hx rfl (hb hby d_expect_51) ?_
    show Steps p.tables e below (s₁.setTop (mkF m 52 #[.val (.ref tt), .val (.int p1), .val (.long sv), .second] [(.int (4 : Int32))])) _
    refine XS.iloadN X0.here hx rfl (hb hby d_expect_52) rfl ?_
    by_cases hc53 : (4 : Int32) < p1
    · show Steps p.tables e below (s₁.setTop (mkF m 53 #[.val (.ref tt), .val (.int p1), .val (.long sv), .second] [(.int p1), (.int (4 : Int32))])) _
      refine XS.icmpNo X0.here hx rfl (hb hby d_expect_53) rfl (tlt hc53).2.1 ?_
      show Steps p.tables e below (s₁.setTop (mkF m 56 #[.val (.ref tt), .val (.int p1), .val (.long sv), .second] [])) _
      refine XS.aloadN X0.here hx rfl (hb hby d_expect_56) rfl rfl ?_
      show Steps p.tables e below (s₁.setTop (mkF m 57 #[.val (.ref tt), .val (.int p1), .val (.long sv), .second] [(.ref tt)])) _
      refine XS.iconst X0.here hx rfl (hb hby d_expect_57) ?_
      show Steps p.tables e below (s₁.setTop (mkF m 58 #[.val (.ref tt), .val (.int p1), .val (.long sv), .second] [(.int (4 : Int32)), (.ref tt)])) _
      refine X0.laload hx (j := (4 : Int32)) (v := (.long (g 4))) (by rw [e0]; exact Ar.1) (State.isArrayOf_alike hZ.alike Ar.2.1) Ar.2.2 (own_rd (i := 4) Sz H (j := (4 : Int32)) rfl (by omega) (by omega)).1 (own_rd (i := 4) Sz H (j := (4 : Int32)) rfl (by omega) (by omega)).2 (g := (mkF m 58 #[.val (.ref tt), .val (.int p1), .val (.long sv), .second] [(.int (4 : Int32)), (.ref tt)])) rfl rfl (hb hby d_expect_58) _ ?_
      show Steps p.tables e below (s₁.setTop (mkF m 59 #[.val (.ref tt), .val (.int p1), .val (.long sv), .second] [(.long (g 4))])) _
      refine XS.lloadN X0.here hx rfl (hb hby d_expect_59) rfl ?_
      show Steps p.tables e below (s₁.setTop (mkF m 60 #[.val (.ref tt), .val (.int p1), .val (.long sv), .second] [(.long sv), (.long (g 4))])) _
      refine XS.lcmp X0.here hx rfl (hb hby d_expect_60) rfl ?_
      by_cases hc61 : (0 : Int32) < (lcmpW (g 4) sv)
      · show Steps p.tables e below (s₁.setTop (mkF m 61 #[.val (.ref tt), .val (.int p1), .val (.long sv), .second] [(.int (lcmpW (g 4) sv))])) _
        refine XS.ifNo X0.here hx rfl (hb hby d_expect_61) rfl ((if0 _ _).trans (tlt hc61).2.2.2) ?_
        show Steps p.tables e below (s₁.setTop (mkF m 64 #[.val (.ref tt), .val (.int p1), .val (.long sv), .second] [])) _
        refine XS.iconst X0.here hx rfl (hb hby d_expect_64) ?_
        show Steps p.tables e below (s₁.setTop (mkF m 65 #[.val (.ref tt), .val (.int p1), .val (.long sv), .second] [(.int (4 : Int32))])) _
        have hv : rr = (4 : Int32) := hk.trans (own_exA (k := 4) hc53 ((lw_gt _ _).mp hc61))
        rw [hv] at hr
        exact retI X0 hx Bd.returns (hb hby d_expect_65) hr
      · show Steps p.tables e below (s₁.setTop (mkF m 61 #[.val (.ref tt), .val (.int p1), .val (.long sv), .second] [(.int (lcmpW (g 4) sv))])) _
        refine XS.ifYes X0.here hx rfl (pc0 := 61) (pc' := 66) rfl (hb hby d_expect_61) rfl ((if0 _ _).trans (flt hc61).2.2.2) (by decide) (by decide) ?_
        exact kk4 (hk.trans (own_exB (k := 4) hc53 (fun q => hc61 ((lw_gt _ _).mpr q))))
    · show Steps p.tables e below (s₁.setTop (mkF m 53 #[.val (.ref tt), .val (.int p1), .val (.long sv), .second] [(.int p1), (.int (4 : Int32))])) _
      refine XS.icmpYes X0.here hx rfl (pc0 := 53) (pc' := 66) rfl (hb hby d_expect_53) rfl (flt hc53).2.1 (by decide) (by decide) ?_
      exact kk4 (hk.trans (own_exC (k := 4) hc53))
  have kk6 : rr = own_ex g p1 sv 6 → Steps p.tables e below (s₁.setTop (mkF m 36 #[.val (.ref tt), .val (.int p1), .val (.long sv), .second] [])) (s₁.setFrames fs) := by
    intro hk
    show Steps p.tables e below (s₁.setTop (mkF m 36 #[.val (.ref tt), .val (.int p1), .val (.long sv), .second] [])) _
    refine XS.iconst X0.here hx rfl (hb hby d_expect_36) ?_
    show Steps p.tables e below (s₁.setTop (mkF m 37 #[.val (.ref tt), .val (.int p1), .val (.long sv), .second] [(.int (5 : Int32))])) _
    refine XS.iloadN X0.here hx rfl (hb hby d_expect_37) rfl ?_
    by_cases hc38 : (5 : Int32) < p1
    · show Steps p.tables e below (s₁.setTop (mkF m 38 #[.val (.ref tt), .val (.int p1), .val (.long sv), .second] [(.int p1), (.int (5 : Int32))])) _
      refine XS.icmpNo X0.here hx rfl (hb hby d_expect_38) rfl (tlt hc38).2.1 ?_
      show Steps p.tables e below (s₁.setTop (mkF m 41 #[.val (.ref tt), .val (.int p1), .val (.long sv), .second] [])) _
      refine XS.aloadN X0.here hx rfl (hb hby d_expect_41) rfl rfl ?_
      show Steps p.tables e below (s₁.setTop (mkF m 42 #[.val (.ref tt), .val (.int p1), .val (.long sv), .second] [(.ref tt)])) _
      refine XS.iconst X0.here hx rfl (hb hby d_expect_42) ?_
      show Steps p.tables e below (s₁.setTop (mkF m 43 #[.val (.ref tt), .val (.int p1), .val (.long sv), .second] [(.int (5 : Int32)), (.ref tt)])) _
      refine X0.laload hx (j := (5 : Int32)) (v := (.long (g 5))) (by rw [e0]; exact Ar.1) (State.isArrayOf_alike hZ.alike Ar.2.1) Ar.2.2 (own_rd (i := 5) Sz H (j := (5 : Int32)) rfl (by omega) (by omega)).1 (own_rd (i := 5) Sz H (j := (5 : Int32)) rfl (by omega) (by omega)).2 (g := (mkF m 43 #[.val (.ref tt), .val (.int p1), .val (.long sv), .second] [(.int (5 : Int32)), (.ref tt)])) rfl rfl (hb hby d_expect_43) _ ?_
      show Steps p.tables e below (s₁.setTop (mkF m 44 #[.val (.ref tt), .val (.int p1), .val (.long sv), .second] [(.long (g 5))])) _
      refine XS.lloadN X0.here hx rfl (hb hby d_expect_44) rfl ?_
      show Steps p.tables e below (s₁.setTop (mkF m 45 #[.val (.ref tt), .val (.int p1), .val (.long sv), .second] [(.long sv), (.long (g 5))])) _
      refine XS.lcmp X0.here hx rfl (hb hby d_expect_45) rfl ?_
      by_cases hc46 : (0 : Int32) < (lcmpW (g 5) sv)
      · show Steps p.tables e below (s₁.setTop (mkF m 46 #[.val (.ref tt), .val (.int p1), .val (.long sv), .second] [(.int (lcmpW (g 5) sv))])) _
        refine XS.ifNo X0.here hx rfl (hb hby d_expect_46) rfl ((if0 _ _).trans (tlt hc46).2.2.2) ?_
        show Steps p.tables e below (s₁.setTop (mkF m 49 #[.val (.ref tt), .val (.int p1), .val (.long sv), .second] [])) _
        refine XS.iconst X0.here hx rfl (hb hby d_expect_49) ?_
        show Steps p.tables e below (s₁.setTop (mkF m 50 #[.val (.ref tt), .val (.int p1), .val (.long sv), .second] [(.int (5 : Int32))])) _
        have hv : rr = (5 : Int32) := hk.trans (own_exA (k := 5) hc38 ((lw_gt _ _).mp hc46))
        rw [hv] at hr
        exact retI X0 hx Bd.returns (hb hby d_expect_50) hr
      · show Steps p.tables e below (s₁.setTop (mkF m 46 #[.val (.ref tt), .val (.int p1), .val (.long sv), .second] [(.int (lcmpW (g 5) sv))])) _
        refine XS.ifYes X0.here hx rfl (pc0 := 46) (pc' := 51) rfl (hb hby d_expect_46) rfl ((if0 _ _).trans (flt hc46).2.2.2) (by decide) (by decide) ?_
        exact kk5 (hk.trans (own_exB (k := 5) hc38 (fun q => hc46 ((lw_gt _ _).mpr q))))
    · show Steps p.tables e below (s₁.setTop (mkF m 38 #[.val (.ref tt), .val (.int p1), .val (.long sv), .second] [(.int p1), (.int (5 : Int32))])) _
      refine XS.icmpYes X0.here hx rfl (pc0 := 38) (pc' := 51) rfl (hb hby d_expect_38) rfl (flt hc38).2.1 (by decide) (by decide) ?_
      exact kk5 (hk.trans (own_exC (k := 5) hc38))
  have kk7 : rr = own_ex g p1 sv 7 → Steps p.tables e below (s₁.setTop (mkF m 18 #[.val (.ref tt), .val (.int p1), .val (.long sv), .second] [])) (s₁.setFrames fs) := by
    intro hk
    show Steps p.tables e below (s₁.setTop (mkF m 18 #[.val (.ref tt), .val (.int p1), .val (.long sv), .second] [])) _
    refine XS.bipush X0.here hx rfl (hb hby d_expect_18) ?_
    show Steps p.tables e below (s₁.setTop (mkF m 20 #[.val (.ref tt), .val (.int p1), .val (.long sv), .second] [(.int (6 : Int32))])) _
    refine XS.iloadN X0.here hx rfl (hb hby d_expect_20) rfl ?_
    by_cases hc21 : (6 : Int32) < p1
    · show Steps p.tables e below (s₁.setTop (mkF m 21 #[.val (.ref tt), .val (.int p1), .val (.long sv), .second] [(.int p1), (.int (6 : Int32))])) _
      refine XS.icmpNo X0.here hx rfl (hb hby d_expect_21) rfl (tlt hc21).2.1 ?_
      show Steps p.tables e below (s₁.setTop (mkF m 24 #[.val (.ref tt), .val (.int p1), .val (.long sv), .second] [])) _
      refine XS.aloadN X0.here hx rfl (hb hby d_expect_24) rfl rfl ?_
      show Steps p.tables e below (s₁.setTop (mkF m 25 #[.val (.ref tt), .val (.int p1), .val (.long sv), .second] [(.ref tt)])) _
      refine XS.bipush X0.here hx rfl (hb hby d_expect_25) ?_
      show Steps p.tables e below (s₁.setTop (mkF m 27 #[.val (.ref tt), .val (.int p1), .val (.long sv), .second] [(.int (6 : Int32)), (.ref tt)])) _
      refine X0.laload hx (j := (6 : Int32)) (v := (.long (g 6))) (by rw [e0]; exact Ar.1) (State.isArrayOf_alike hZ.alike Ar.2.1) Ar.2.2 (own_rd (i := 6) Sz H (j := (6 : Int32)) rfl (by omega) (by omega)).1 (own_rd (i := 6) Sz H (j := (6 : Int32)) rfl (by omega) (by omega)).2 (g := (mkF m 27 #[.val (.ref tt), .val (.int p1), .val (.long sv), .second] [(.int (6 : Int32)), (.ref tt)])) rfl rfl (hb hby d_expect_27) _ ?_
      show Steps p.tables e below (s₁.setTop (mkF m 28 #[.val (.ref tt), .val (.int p1), .val (.long sv), .second] [(.long (g 6))])) _
      refine XS.lloadN X0.here hx rfl (hb hby d_expect_28) rfl ?_
      show Steps p.tables e below (s₁.setTop (mkF m 29 #[.val (.ref tt), .val (.int p1), .val (.long sv), .second] [(.long sv), (.long (g 6))])) _
      refine XS.lcmp X0.here hx rfl (hb hby d_expect_29) rfl ?_
      by_cases hc30 : (0 : Int32) < (lcmpW (g 6) sv)
      · show Steps p.tables e below (s₁.setTop (mkF m 30 #[.val (.ref tt), .val (.int p1), .val (.long sv), .second] [(.int (lcmpW (g 6) sv))])) _
        refine XS.ifNo X0.here hx rfl (hb hby d_expect_30) rfl ((if0 _ _).trans (tlt hc30).2.2.2) ?_
        show Steps p.tables e below (s₁.setTop (mkF m 33 #[.val (.ref tt), .val (.int p1), .val (.long sv), .second] [])) _
        refine XS.bipush X0.here hx rfl (hb hby d_expect_33) ?_
        show Steps p.tables e below (s₁.setTop (mkF m 35 #[.val (.ref tt), .val (.int p1), .val (.long sv), .second] [(.int (6 : Int32))])) _
        have hv : rr = (6 : Int32) := hk.trans (own_exA (k := 6) hc21 ((lw_gt _ _).mp hc30))
        rw [hv] at hr
        exact retI X0 hx Bd.returns (hb hby d_expect_35) hr
      · show Steps p.tables e below (s₁.setTop (mkF m 30 #[.val (.ref tt), .val (.int p1), .val (.long sv), .second] [(.int (lcmpW (g 6) sv))])) _
        refine XS.ifYes X0.here hx rfl (pc0 := 30) (pc' := 36) rfl (hb hby d_expect_30) rfl ((if0 _ _).trans (flt hc30).2.2.2) (by decide) (by decide) ?_
        exact kk6 (hk.trans (own_exB (k := 6) hc21 (fun q => hc30 ((lw_gt _ _).mpr q))))
    · show Steps p.tables e below (s₁.setTop (mkF m 21 #[.val (.ref tt), .val (.int p1), .val (.long sv), .second] [(.int p1), (.int (6 : Int32))])) _
      refine XS.icmpYes X0.here hx rfl (pc0 := 21) (pc' := 36) rfl (hb hby d_expect_21) rfl (flt hc21).2.1 (by decide) (by decide) ?_
      exact kk6 (hk.trans (own_exC (k := 6) hc21))
  have kk8 : rr = own_ex g p1 sv 8 → Steps p.tables e below (s₁.setTop (mkF m 0 #[.val (.ref tt), .val (.int p1), .val (.long sv), .second] [])) (s₁.setFrames fs) := by
    intro hk
    show Steps p.tables e below (s₁.setTop (mkF m 0 #[.val (.ref tt), .val (.int p1), .val (.long sv), .second] [])) _
    refine XS.bipush X0.here hx rfl (hb hby d_expect_0) ?_
    show Steps p.tables e below (s₁.setTop (mkF m 2 #[.val (.ref tt), .val (.int p1), .val (.long sv), .second] [(.int (7 : Int32))])) _
    refine XS.iloadN X0.here hx rfl (hb hby d_expect_2) rfl ?_
    by_cases hc3 : (7 : Int32) < p1
    · show Steps p.tables e below (s₁.setTop (mkF m 3 #[.val (.ref tt), .val (.int p1), .val (.long sv), .second] [(.int p1), (.int (7 : Int32))])) _
      refine XS.icmpNo X0.here hx rfl (hb hby d_expect_3) rfl (tlt hc3).2.1 ?_
      show Steps p.tables e below (s₁.setTop (mkF m 6 #[.val (.ref tt), .val (.int p1), .val (.long sv), .second] [])) _
      refine XS.aloadN X0.here hx rfl (hb hby d_expect_6) rfl rfl ?_
      show Steps p.tables e below (s₁.setTop (mkF m 7 #[.val (.ref tt), .val (.int p1), .val (.long sv), .second] [(.ref tt)])) _
      refine XS.bipush X0.here hx rfl (hb hby d_expect_7) ?_
      show Steps p.tables e below (s₁.setTop (mkF m 9 #[.val (.ref tt), .val (.int p1), .val (.long sv), .second] [(.int (7 : Int32)), (.ref tt)])) _
      refine X0.laload hx (j := (7 : Int32)) (v := (.long (g 7))) (by rw [e0]; exact Ar.1) (State.isArrayOf_alike hZ.alike Ar.2.1) Ar.2.2 (own_rd (i := 7) Sz H (j := (7 : Int32)) rfl (by omega) (by omega)).1 (own_rd (i := 7) Sz H (j := (7 : Int32)) rfl (by omega) (by omega)).2 (g := (mkF m 9 #[.val (.ref tt), .val (.int p1), .val (.long sv), .second] [(.int (7 : Int32)), (.ref tt)])) rfl rfl (hb hby d_expect_9) _ ?_
      show Steps p.tables e below (s₁.setTop (mkF m 10 #[.val (.ref tt), .val (.int p1), .val (.long sv), .second] [(.long (g 7))])) _
      refine XS.lloadN X0.here hx rfl (hb hby d_expect_10) rfl ?_
      show Steps p.tables e below (s₁.setTop (mkF m 11 #[.val (.ref tt), .val (.int p1), .val (.long sv), .second] [(.long sv), (.long (g 7))])) _
      refine XS.lcmp X0.here hx rfl (hb hby d_expect_11) rfl ?_
      by_cases hc12 : (0 : Int32) < (lcmpW (g 7) sv)
      · show Steps p.tables e below (s₁.setTop (mkF m 12 #[.val (.ref tt), .val (.int p1), .val (.long sv), .second] [(.int (lcmpW (g 7) sv))])) _
        refine XS.ifNo X0.here hx rfl (hb hby d_expect_12) rfl ((if0 _ _).trans (tlt hc12).2.2.2) ?_
        show Steps p.tables e below (s₁.setTop (mkF m 15 #[.val (.ref tt), .val (.int p1), .val (.long sv), .second] [])) _
        refine XS.bipush X0.here hx rfl (hb hby d_expect_15) ?_
        show Steps p.tables e below (s₁.setTop (mkF m 17 #[.val (.ref tt), .val (.int p1), .val (.long sv), .second] [(.int (7 : Int32))])) _
        have hv : rr = (7 : Int32) := hk.trans (own_exA (k := 7) hc3 ((lw_gt _ _).mp hc12))
        rw [hv] at hr
        exact retI X0 hx Bd.returns (hb hby d_expect_17) hr
      · show Steps p.tables e below (s₁.setTop (mkF m 12 #[.val (.ref tt), .val (.int p1), .val (.long sv), .second] [(.int (lcmpW (g 7) sv))])) _
        refine XS.ifYes X0.here hx rfl (pc0 := 12) (pc' := 18) rfl (hb hby d_expect_12) rfl ((if0 _ _).trans (flt hc12).2.2.2) (by decide) (by decide) ?_
        exact kk7 (hk.trans (own_exB (k := 7) hc3 (fun q => hc12 ((lw_gt _ _).mpr q))))
    · show Steps p.tables e below (s₁.setTop (mkF m 3 #[.val (.ref tt), .val (.int p1), .val (.long sv), .second] [(.int p1), (.int (7 : Int32))])) _
      refine XS.icmpYes X0.here hx rfl (pc0 := 3) (pc' := 18) rfl (hb hby d_expect_3) rfl (flt hc3).2.1 (by decide) (by decide) ?_
      exact kk7 (hk.trans (own_exC (k := 7) hc3))
  exact kk8 hE.symm
def Q_rm_st (Z : State) (o : Addr) (tt : Addr) (r : Int64) (p4 : Int32) (p5 : Int32) (p6 : Int32) (i cnt : Nat) (b : Addr) (q : Nat) (h0 : Heap) (n0 : Nat) (v : Option Value) (h : Heap) (L : List Loc) : Prop := (v = none ∧ Fr n0 L ∧ Keep h0 h [b, tt] ∧ ∃ (f' g' : Nat → Int64) (cc' : Nat), own_A Z h b (2 * q) f' ∧ own_A Z h tt 8 g' ∧ own_I q f' g' cc' ∧ (i + 1 < cnt → cc' = i + 1))
set_option maxRecDepth 65536 in
set_option maxHeartbeats 40000000 in
theorem rm_st (l : Launch) (Z : State) (a0 : Array Value) (hw : ∀ d ∈ tables_1, d.before a0 Z = true) (ws : List Jvm.Cond) (o : Addr) (tt : Addr) (r : Int64) (p4 : Int32) (p5 : Int32) (p6 : Int32) (h0 : Heap) (n0 : Nat) (i cnt n : Nat) (hi : p4 = i.toInt32) (hi6 : i ≤ 6) (hcn : p5 = cnt.toInt32) (hc7 : cnt ≤ 7) (hn : p6 = n.toInt32) (hn1 : 1 ≤ n) (b : Addr) (q : Nat) (hnq : n ≤ q) (hq : q ≤ 8) (f g : Nat → Int64) (cc : Nat) (E0 : Exa Z h0 o "com/example/mutableau/mutableau/formula/BindingReferences") (F1 : Fld Z h0 o "com/example/mutableau/mutableau/formula/BindingReferences" "leaves" "I" (.int q.toInt32)) (F2 : Fld Z h0 o "com/example/mutableau/mutableau/formula/BindingReferences" "latest" "[J" (.ref b)) (A0 : own_A Z h0 b (2 * q) f) (B0 : own_A Z h0 tt 8 g) (hob : o ≠ b) (hbt : b ≠ tt) (gb : n0 ≤ b) (gt : n0 ≤ tt) (I0 : own_I q f g cc) (hic : i < cnt → cc = i) :
    MetFree l (⟨"com/example/mutableau/mutableau/formula/BindingReferencesInnermostSincePinLaw", "step", "(Lcom/example/mutableau/mutableau/formula/BindingReferences;[JJIII)V"⟩ : MethodName) (head1 (Jvm.Cond.code (⟨"com/example/mutableau/mutableau/formula/BindingReferencesInnermostSincePinLaw", "step", "(Lcom/example/mutableau/mutableau/formula/BindingReferences;[JJIII)V"⟩ : MethodName) method_2_code 8 none :: ws) ({ frames := 1, cells := 0, slots := 0, locals := 16 } : Room)) (fun a U => a = #[(.ref o), (.ref tt), (.long r), (.int p4), (.int p5), (.int p6)] ∧ Z.Warmed39 U.vm ∧ U.heap = h0) (fun _ _ _ _ _ => True) (fun _ U oc U' => ∃ v L, oc = .returned v ∧ Q_rm_st Z o tt r p4 p5 p6 i cnt b q h0 n0 v U'.heap L ∧ FrameEnd U oc U' L ({ frames := 1, cells := 0, slots := 0, locals := 16 } : Room).cells ({ frames := 1, cells := 0, slots := 0, locals := 16 } : Room).slots) := by
  refine MetFree.of_bodySF (plainFor_of_name pn_0) hisR ?_
  intro p e s m args below meth c s₁ Bd hml0 hP hK
  obtain ⟨rfl, hZ, hh⟩ := hP
  have hx := Bd.exec
  have hby := Bd.bytes
  have hml : c.maxLocals = 8 := hml0
  have hown : s.vm.findClass "com/example/mutableau/mutableau/formula/BindingReferencesInnermostSincePinLaw" = some m.cls := findClass_of_methodNamed Bd.named
  have hnm := (name_of_methodNamed Bd.named Bd.method).1
  have X0 : Stand p l e ({ frames := 1, cells := 0, slots := 0, locals := 16 } : Room) s m #[(.ref o), (.ref tt), (.long r), (.int p4), (.int p5), (.int p6)] below meth c s₁ [] 0 0 := Stand.of_body Bd
  have e0 : s₁.heap = h0 := by rw [← hh, Bd.state]; rfl
  have N0 := Fr.nil n0
  have pre0 : ∀ t, Steps p.tables e below (s₁.setTop (mkF m 0 #[.val (.ref o), .val (.ref tt), .val (.long r), .second, .val (.int p4), .val (.int p5), .val (.int p6), .unset] [])) t → Steps p.tables e below (s₁.setTop (entryFrame m #[(.ref o), (.ref tt), (.long r), (.int p4), (.int p5), (.int p6)] 8)) t := fun t k => castTop (ef_st m o tt r p4 p5 p6) k
  have hP : p4 < p5 ↔ i < cnt := by rw [hi, hcn]; exact own_lt (by omega) (by omega)
  by_cases hc4 : p4 < p5
  · have hlt := hP.mp hc4
    have hnz : p6 ≠ 0 := by rw [hn]; intro q; have := (own_is (b := 0) (by omega) (by omega)).mp q; omega
    obtain ⟨dd, hdd, hdn⟩ : ∃ dd : Nat, (((((r.toUInt64 >>> (((3 : Int32) * p4) &&& 0x3f).toInt64.toUInt64).toInt64) &&& (7 : Int64)).toInt32) % p6) = dd.toInt32 ∧ dd < n := by
      have m1 : (((r.toUInt64 >>> (((3 : Int32) * p4) &&& 0x3f).toInt64.toUInt64).toInt64) &&& (7 : Int64)).toInt = _ := c_maskL _ (7 : Int64) 3 (by decide) (by decide)
      have m2 := c_l2i (((r.toUInt64 >>> (((3 : Int32) * p4) &&& 0x3f).toInt64.toUInt64).toInt64) &&& (7 : Int64))
      have m3 := rng32 ((((r.toUInt64 >>> (((3 : Int32) * p4) &&& 0x3f).toInt64.toUInt64).toInt64) &&& (7 : Int64)).toInt32)
      have m4 := (c_irem ((((r.toUInt64 >>> (((3 : Int32) * p4) &&& 0x3f).toInt64.toUInt64).toInt64) &&& (7 : Int64)).toInt32) p6 (n : Int) (by rw [hn]; exact own_t (by omega))).1
      rw [m1] at m2
      have m5 : 0 ≤ (((((r.toUInt64 >>> (((3 : Int32) * p4) &&& 0x3f).toInt64.toUInt64).toInt64) &&& (7 : Int64)).toInt32)).toInt := by omega
      have m6 := m4 m5
      have m7 := Int.emod_lt_of_pos (((((r.toUInt64 >>> (((3 : Int32) * p4) &&& 0x3f).toInt64.toUInt64).toInt64) &&& (7 : Int64)).toInt32)).toInt (show (0 : Int) < n by omega)
      have m8 := Int.emod_nonneg (((((r.toUInt64 >>> (((3 : Int32) * p4) &&& 0x3f).toInt64.toUInt64).toInt64) &&& (7 : Int64)).toInt32)).toInt (show (n : Int) ≠ 0 by omega)
      refine ⟨((((((r.toUInt64 >>> (((3 : Int32) * p4) &&& 0x3f).toInt64.toUInt64).toInt64) &&& (7 : Int64)).toInt32) % p6)).toInt.toNat, own_i (by omega) (by omega), by omega⟩
    obtain ⟨cq1, kq1, q1a, q1b, q1c⟩ := isOf hZ e0 E0
    obtain ⟨_, _, ⟨T1, L1, k1, n1⟩, -, X1, ⟨Lc1, hQ1, l1, y1, z1⟩, st1⟩ := X0.virtualBack hx (y := (⟨"com/example/mutableau/mutableau/formula/BindingReferences", "refer", "(I)V"⟩ : MethodName)) (z := (⟨"com/example/mutableau/mutableau/formula/BindingReferences", "refer", "(I)V"⟩ : MethodName)) hown (mvT hZ (hw _ (List.mem_of_getElem? (i := 41) rfl))) (mvT hZ (hw _ (List.mem_of_getElem? (i := 42) rfl))) (notFace_of_selects (args := #[]) (mvT hZ (hw _ (List.mem_of_getElem? (i := 44) rfl)))) (mvT hZ (hw _ (List.mem_of_getElem? (i := 44) rfl))) (mvT hZ (hw _ (List.mem_of_getElem? (i := 43) rfl))) (by decide) (backOf (W := 0) (rm_rf l Z a0 hw [] o dd.toInt32 h0 n0 dd rfl b q (by omega) (by omega) f F1 F2 A0 hob gb) hZ (hw _ (List.mem_of_getElem? (i := 45) rfl)) (hw _ (List.mem_of_getElem? (i := 2) rfl)) (by decide) (by decide)) q1a q1c (g := (mkF m 26 #[.val (.ref o), .val (.ref tt), .val (.long r), .second, .val (.int p4), .val (.int p5), .val (.int p6), .val (.int dd.toInt32)] [(.int dd.toInt32), (.ref o)])) rfl (by rw [hml]; rfl) (Steps.refl _) (argsL := [(.int dd.toInt32)]) (rest := []) (lenOf pd_ct rfl) rfl (by show 2 * 0 + _ ≤ _; exact Nat.le_of_eq rfl) (hb hby d_step_26) (fun _ _ => ⟨rfl, e0, (by decide : 0 + 0 ≤ _), (by decide : 0 + 0 ≤ _)⟩)
    dsimp only [Pt.U, Pt.locs, Pt.cells, Pt.slots] at X1 l1 y1 z1 st1 hQ1
    subst l1 y1 z1
    obtain ⟨rfl, N1q, K1, A1⟩ := hQ1
    have N1 := Fr.app N0 N1q
    have B1 := own_A_keep B0 K1 (ninS (Ne.symm hbt) nin0)
    obtain ⟨cl, Ar, Sz, H⟩ := B1
    obtain ⟨hin, hat⟩ := own_rd (i := dd) Sz H rfl (by omega) (by omega)
    obtain ⟨T2, h2, X2, e2, W2, st2⟩ := stJ X1 hx hZ rfl Ar (j := dd.toInt32) hin (g := (mkF m 37 #[.val (.ref o), .val (.ref tt), .val (.long r), .second, .val (.int p4), .val (.int p5), .val (.int p6), .val (.int dd.toInt32)] [(.long ((p4 + (1 : Int32)).toInt64)), (.int dd.toInt32), (.ref tt)])) rfl rfl (hb hby d_step_37)
    rw [own_tn (by omega)] at W2 X2
    have B2 := own_A_set Ar Sz H W2 (by omega)
    have A2 := own_A_other A1 W2 hbt
    have N2 := Fr.snoc X2 N1 gt
    have K2 : Keep h0 h2 [b, tt] := ((Keep.refl h0 [b, tt]).trans K1 (allS (Or.inl (List.mem_of_getElem? (i := 0) rfl)) all0)).wr W2 (Or.inl (List.mem_of_getElem? (i := 1) rfl))
    have hxv : ((p4 + (1 : Int32)).toInt64).toInt = i + 1 := by rw [c_i2l, hi, own_inc (by omega), own_t (by omega)]; omega
    have ecc := hic hlt
    subst ecc
    have I2 := own_I1 I0 hi6 (show dd < q by omega) hxv
    obtain ⟨fs, hr, hrun, hended, hW, hsame⟩ := X2.leave (v := none) (fun _ => rfl)
    refine ⟨_, _, pre0 _ ?_, hrun, hended, _, _, rfl, ⟨rfl, N2, e2 ▸ K2, _, _, _, e2 ▸ A2, e2 ▸ B2, I2, fun _ => rfl⟩, ⟨_, rfl⟩, hW, hsame.mono (by decide) (by decide)⟩
    show Steps p.tables e below (s₁.setTop (mkF m 0 #[.val (.ref o), .val (.ref tt), .val (.long r), .second, .val (.int p4), .val (.int p5), .val (.int p6), .unset] [])) _
    refine XS.iload X0.here hx rfl (hb hby d_step_0) rfl ?_
    show Steps p.tables e below (s₁.setTop (mkF m 2 #[.val (.ref o), .val (.ref tt), .val (.long r), .second, .val (.int p4), .val (.int p5), .val (.int p6), .unset] [(.int p4)])) _
    refine XS.iload X0.here hx rfl (hb hby d_step_2) rfl ?_
    show Steps p.tables e below (s₁.setTop (mkF m 4 #[.val (.ref o), .val (.ref tt), .val (.long r), .second, .val (.int p4), .val (.int p5), .val (.int p6), .unset] [(.int p5), (.int p4)])) _
    refine XS.icmpNo X0.here hx rfl (hb hby d_step_4) rfl (tlt hc4).2.1 ?_
    show Steps p.tables e below (s₁.setTop (mkF m 7 #[.val (.ref o), .val (.ref tt), .val (.long r), .second, .val (.int p4), .val (.int p5), .val (.int p6), .unset] [])) _
    refine XS.lloadN X0.here hx rfl (hb hby d_step_7) rfl ?_
    show Steps p.tables e below (s₁.setTop (mkF m 8 #[.val (.ref o), .val (.ref tt), .val (.long r), .second, .val (.int p4), .val (.int p5), .val (.int p6), .unset] [(.long r)])) _
    refine XS.iconst X0.here hx rfl (hb hby d_step_8) ?_
    show Steps p.tables e below (s₁.setTop (mkF m 9 #[.val (.ref o), .val (.ref tt), .val (.long r), .second, .val (.int p4), .val (.int p5), .val (.int p6), .unset] [(.int (3 : Int32)), (.long r)])) _
    refine XS.iload X0.here hx rfl (hb hby d_step_9) rfl ?_
    show Steps p.tables e below (s₁.setTop (mkF m 11 #[.val (.ref o), .val (.ref tt), .val (.long r), .second, .val (.int p4), .val (.int p5), .val (.int p6), .unset] [(.int p4), (.int (3 : Int32)), (.long r)])) _
    refine XS.imul X0.here hx rfl (hb hby d_step_11) rfl ?_
    show Steps p.tables e below (s₁.setTop (mkF m 12 #[.val (.ref o), .val (.ref tt), .val (.long r), .second, .val (.int p4), .val (.int p5), .val (.int p6), .unset] [(.int ((3 : Int32) * p4)), (.long r)])) _
    refine XS.lushr X0.here hx rfl (hb hby d_step_12) rfl ?_
    show Steps p.tables e below (s₁.setTop (mkF m 13 #[.val (.ref o), .val (.ref tt), .val (.long r), .second, .val (.int p4), .val (.int p5), .val (.int p6), .unset] [(.long ((r.toUInt64 >>> (((3 : Int32) * p4) &&& 0x3f).toInt64.toUInt64).toInt64))])) _
    refine Jvm.Stand.ldc2J X0 hx hown (mvT hZ (hw _ (List.mem_of_getElem? (i := 27) rfl))) rfl (hb hby d_step_13) ?_
    show Steps p.tables e below (s₁.setTop (mkF m 16 #[.val (.ref o), .val (.ref tt), .val (.long r), .second, .val (.int p4), .val (.int p5), .val (.int p6), .unset] [(.long (7 : Int64)), (.long ((r.toUInt64 >>> (((3 : Int32) * p4) &&& 0x3f).toInt64.toUInt64).toInt64))])) _
    refine XS.land X0.here hx rfl (hb hby d_step_16) rfl ?_
    show Steps p.tables e below (s₁.setTop (mkF m 17 #[.val (.ref o), .val (.ref tt), .val (.long r), .second, .val (.int p4), .val (.int p5), .val (.int p6), .unset] [(.long (((r.toUInt64 >>> (((3 : Int32) * p4) &&& 0x3f).toInt64.toUInt64).toInt64) &&& (7 : Int64)))])) _
    refine XS.l2i X0.here hx rfl (hb hby d_step_17) rfl ?_
    show Steps p.tables e below (s₁.setTop (mkF m 18 #[.val (.ref o), .val (.ref tt), .val (.long r), .second, .val (.int p4), .val (.int p5), .val (.int p6), .unset] [(.int ((((r.toUInt64 >>> (((3 : Int32) * p4) &&& 0x3f).toInt64.toUInt64).toInt64) &&& (7 : Int64)).toInt32))])) _
    refine XS.iload X0.here hx rfl (hb hby d_step_18) rfl ?_
    show Steps p.tables e below (s₁.setTop (mkF m 20 #[.val (.ref o), .val (.ref tt), .val (.long r), .second, .val (.int p4), .val (.int p5), .val (.int p6), .unset] [(.int p6), (.int ((((r.toUInt64 >>> (((3 : Int32) * p4) &&& 0x3f).toInt64.toUInt64).toInt64) &&& (7 : Int64)).toInt32))])) _
    refine iremM X0 hx rfl (hb hby d_step_20) rfl hnz ?_
    show Steps p.tables e below (s₁.setTop (mkF m 21 #[.val (.ref o), .val (.ref tt), .val (.long r), .second, .val (.int p4), .val (.int p5), .val (.int p6), .unset] [(.int (((((r.toUInt64 >>> (((3 : Int32) * p4) &&& 0x3f).toInt64.toUInt64).toInt64) &&& (7 : Int64)).toInt32) % p6))])) _
    refine XS.istore X0.here hx rfl (hb hby d_step_21) rfl (l' := #[.val (.ref o), .val (.ref tt), .val (.long r), .second, .val (.int p4), .val (.int p5), .val (.int p6), .val (.int (((((r.toUInt64 >>> (((3 : Int32) * p4) &&& 0x3f).toInt64.toUInt64).toInt64) &&& (7 : Int64)).toInt32) % p6))]) rfl ?_
    show Steps p.tables e below (s₁.setTop (mkF m 23 #[.val (.ref o), .val (.ref tt), .val (.long r), .second, .val (.int p4), .val (.int p5), .val (.int p6), .val (.int (((((r.toUInt64 >>> (((3 : Int32) * p4) &&& 0x3f).toInt64.toUInt64).toInt64) &&& (7 : Int64)).toInt32) % p6))] [])) _
    rw [hdd]
    show Steps p.tables e below (s₁.setTop (mkF m 23 #[.val (.ref o), .val (.ref tt), .val (.long r), .second, .val (.int p4), .val (.int p5), .val (.int p6), .val (.int dd.toInt32)] [])) _
    refine XS.aloadN X0.here hx rfl (hb hby d_step_23) rfl rfl ?_
    show Steps p.tables e below (s₁.setTop (mkF m 24 #[.val (.ref o), .val (.ref tt), .val (.long r), .second, .val (.int p4), .val (.int p5), .val (.int p6), .val (.int dd.toInt32)] [(.ref o)])) _
    refine XS.iload X0.here hx rfl (hb hby d_step_24) rfl ?_
    show Steps p.tables e below (s₁.setTop (mkF m 26 #[.val (.ref o), .val (.ref tt), .val (.long r), .second, .val (.int p4), .val (.int p5), .val (.int p6), .val (.int dd.toInt32)] [(.int dd.toInt32), (.ref o)])) _
    refine st1.trans ?_
    show Steps p.tables e below (T1.setTop (mkF m 29 #[.val (.ref o), .val (.ref tt), .val (.long r), .second, .val (.int p4), .val (.int p5), .val (.int p6), .val (.int dd.toInt32)] [])) _
    refine XS.aloadN X1.here hx rfl (hb hby d_step_29) rfl rfl ?_
    show Steps p.tables e below (T1.setTop (mkF m 30 #[.val (.ref o), .val (.ref tt), .val (.long r), .second, .val (.int p4), .val (.int p5), .val (.int p6), .val (.int dd.toInt32)] [(.ref tt)])) _
    refine XS.iload X1.here hx rfl (hb hby d_step_30) rfl ?_
    show Steps p.tables e below (T1.setTop (mkF m 32 #[.val (.ref o), .val (.ref tt), .val (.long r), .second, .val (.int p4), .val (.int p5), .val (.int p6), .val (.int dd.toInt32)] [(.int dd.toInt32), (.ref tt)])) _
    refine XS.iload X1.here hx rfl (hb hby d_step_32) rfl ?_
    show Steps p.tables e below (T1.setTop (mkF m 34 #[.val (.ref o), .val (.ref tt), .val (.long r), .second, .val (.int p4), .val (.int p5), .val (.int p6), .val (.int dd.toInt32)] [(.int p4), (.int dd.toInt32), (.ref tt)])) _
    refine XS.iconst X1.here hx rfl (hb hby d_step_34) ?_
    show Steps p.tables e below (T1.setTop (mkF m 35 #[.val (.ref o), .val (.ref tt), .val (.long r), .second, .val (.int p4), .val (.int p5), .val (.int p6), .val (.int dd.toInt32)] [(.int (1 : Int32)), (.int p4), (.int dd.toInt32), (.ref tt)])) _
    refine XS.iadd X1.here hx rfl (hb hby d_step_35) rfl ?_
    show Steps p.tables e below (T1.setTop (mkF m 36 #[.val (.ref o), .val (.ref tt), .val (.long r), .second, .val (.int p4), .val (.int p5), .val (.int p6), .val (.int dd.toInt32)] [(.int (p4 + (1 : Int32))), (.int dd.toInt32), (.ref tt)])) _
    refine XS.i2l X1.here hx rfl (hb hby d_step_36) rfl ?_
    show Steps p.tables e below (T1.setTop (mkF m 37 #[.val (.ref o), .val (.ref tt), .val (.long r), .second, .val (.int p4), .val (.int p5), .val (.int p6), .val (.int dd.toInt32)] [(.long ((p4 + (1 : Int32)).toInt64)), (.int dd.toInt32), (.ref tt)])) _
    refine st2 _ ?_
    show Steps p.tables e below (T2.setTop (mkF m 38 #[.val (.ref o), .val (.ref tt), .val (.long r), .second, .val (.int p4), .val (.int p5), .val (.int p6), .val (.int dd.toInt32)] [])) _
    exact X2.returnOut hx Bd.returns (hb hby d_step_38) hr
  · obtain ⟨fs, hr, hrun, hended, hW, hsame⟩ := X0.leave (v := none) (fun _ => rfl)
    refine ⟨_, _, pre0 _ ?_, hrun, hended, _, _, rfl, ⟨rfl, N0, e0 ▸ Keep.refl _ _, f, g, cc, e0 ▸ A0, e0 ▸ B0, I0, fun q => absurd (hP.mpr (by omega)) hc4⟩, ⟨_, rfl⟩, hW, hsame.mono (by decide) (by decide)⟩
    show Steps p.tables e below (s₁.setTop (mkF m 0 #[.val (.ref o), .val (.ref tt), .val (.long r), .second, .val (.int p4), .val (.int p5), .val (.int p6), .unset] [])) _
    refine XS.iload X0.here hx rfl (hb hby d_step_0) rfl ?_
    show Steps p.tables e below (s₁.setTop (mkF m 2 #[.val (.ref o), .val (.ref tt), .val (.long r), .second, .val (.int p4), .val (.int p5), .val (.int p6), .unset] [(.int p4)])) _
    refine XS.iload X0.here hx rfl (hb hby d_step_2) rfl ?_
    show Steps p.tables e below (s₁.setTop (mkF m 4 #[.val (.ref o), .val (.ref tt), .val (.long r), .second, .val (.int p4), .val (.int p5), .val (.int p6), .unset] [(.int p5), (.int p4)])) _
    refine XS.icmpYes X0.here hx rfl (pc0 := 4) (pc' := 38) rfl (hb hby d_step_4) rfl (flt hc4).2.1 (by decide) (by decide) ?_
    show Steps p.tables e below (s₁.setTop (mkF m 38 #[.val (.ref o), .val (.ref tt), .val (.long r), .second, .val (.int p4), .val (.int p5), .val (.int p6), .unset] [])) _
    exact X0.returnOut hx Bd.returns (hb hby d_step_38) hr
set_option maxRecDepth 65536 in
set_option maxHeartbeats 40000000 in
theorem rm0 (l : Launch) (Z : State) (a0 : Array Value) (hw : ∀ d ∈ tables_1, d.before a0 Z = true) (ws : List Jvm.Cond) (p1 : Int32) (p2 : Int64) (p3 : Int32) (p4 : Int64) (h0 : Heap) (n0 : Nat) (Z0 : n0 ≤ h0.size) :
    MetFree l x (head1 (Jvm.Cond.code x code maxLocals ret :: ws) room_1) (fun a U => a = #[(.int p1), (.long p2), (.int p3), (.long p4)] ∧ Z.Warmed39 U.vm ∧ U.heap = h0) (fun _ _ _ _ _ => True) (fun _ U oc U' => ∃ v L, oc = .returned v ∧ (v = some (.int 1) ∧ Fr n0 L) ∧ FrameEnd U oc U' L room_1.cells room_1.slots) := by
  refine MetFree.of_bodySF (plainFor_of_name pn_0) hisR ?_
  intro p e s m args below meth c s₁ Bd hml0 hP hK
  obtain ⟨rfl, hZ, hh⟩ := hP
  have hx := Bd.exec
  have hby := Bd.bytes
  have hml : c.maxLocals = 12 := hml0
  have hown : s.vm.findClass "com/example/mutableau/mutableau/formula/BindingReferencesInnermostSincePinLaw" = some m.cls := findClass_of_methodNamed Bd.named
  have hnm := (name_of_methodNamed Bd.named Bd.method).1
  have X0 : Stand p l e room_1 s m #[(.int p1), (.long p2), (.int p3), (.long p4)] below meth c s₁ [] 0 0 := Stand.of_body Bd
  have e0 : s₁.heap = h0 := by rw [← hh, Bd.state]; rfl
  have N0 := Fr.nil n0
  have pre0 : ∀ t, Steps p.tables e below (s₁.setTop (mkF m 0 #[.val (.int p1), .val (.long p2), .second, .val (.int p3), .val (.long p4), .second, .unset, .unset, .unset, .unset, .unset, .unset] [])) t → Steps p.tables e below (s₁.setTop (entryFrame m #[(.int p1), (.long p2), (.int p3), (.long p4)] maxLocals)) t := fun t k => castTop (ef_0 m p1 p2 p3 p4) k
  have P0 : ∀ t, Steps p.tables e below (s₁.setTop (mkF m 0 #[.val (.int p1), .val (.long p2), .second, .val (.int p3), .val (.long p4), .second, .unset, .unset, .unset, .unset, .unset, .unset] [])) t → Steps p.tables e below (s₁.setTop (entryFrame m #[(.int p1), (.long p2), (.int p3), (.long p4)] maxLocals)) t := fun t k => pre0 t k
  have hm1 : (p1 &&& (7 : Int32)).toInt = p1.toInt % 8 := c_mask p1 7 3 (by decide) (by decide)
  obtain ⟨n, hn, hn1, hn8⟩ : ∃ n : Nat, ((1 : Int32) + (p1 &&& (7 : Int32))) = n.toInt32 ∧ 1 ≤ n ∧ n ≤ 8 := by
    have q1 := c_iadd (1 : Int32) (p1 &&& (7 : Int32))
    have q2 := rng32 ((1 : Int32) + (p1 &&& (7 : Int32)))
    rw [show (1 : Int32).toInt = 1 from by decide] at q1
    exact ⟨(((1 : Int32) + (p1 &&& (7 : Int32)))).toInt.toNat, own_i (by omega) (by omega), by omega, by omega⟩
  obtain ⟨pw, lv1, lv2, lv3, lv4, lv5, lv6⟩ := own_lvs n hn1 (by omega)
  obtain ⟨q, hqp⟩ : ∃ z : Nat, z = 2 ^ pw := ⟨_, rfl⟩
  rw [← hqp] at lv1 lv2 lv3 lv4
  have hq8 := lv4 hn8
  have Pn : ∀ t, Steps p.tables e below (s₁.setTop (mkF m 8 #[.val (.int p1), .val (.long p2), .second, .val (.int p3), .val (.long p4), .second, .val (.int n.toInt32), .unset, .unset, .unset, .unset, .unset] [])) t → Steps p.tables e below (s₁.setTop (entryFrame m #[(.int p1), (.long p2), (.int p3), (.long p4)] maxLocals)) t := by
    intro t k
    refine P0 t ?_
    show Steps p.tables e below (s₁.setTop (mkF m 0 #[.val (.int p1), .val (.long p2), .second, .val (.int p3), .val (.long p4), .second, .unset, .unset, .unset, .unset, .unset, .unset] [])) _
    refine XS.iconst X0.here hx rfl (hb hby at_0) ?_
    show Steps p.tables e below (s₁.setTop (mkF m 1 #[.val (.int p1), .val (.long p2), .second, .val (.int p3), .val (.long p4), .second, .unset, .unset, .unset, .unset, .unset, .unset] [(.int (1 : Int32))])) _
    refine XS.iloadN X0.here hx rfl (hb hby at_1) rfl ?_
    show Steps p.tables e below (s₁.setTop (mkF m 2 #[.val (.int p1), .val (.long p2), .second, .val (.int p3), .val (.long p4), .second, .unset, .unset, .unset, .unset, .unset, .unset] [(.int p1), (.int (1 : Int32))])) _
    refine XS.bipush X0.here hx rfl (hb hby at_2) ?_
    show Steps p.tables e below (s₁.setTop (mkF m 4 #[.val (.int p1), .val (.long p2), .second, .val (.int p3), .val (.long p4), .second, .unset, .unset, .unset, .unset, .unset, .unset] [(.int (7 : Int32)), (.int p1), (.int (1 : Int32))])) _
    refine XS.iand X0.here hx rfl (hb hby at_4) rfl ?_
    show Steps p.tables e below (s₁.setTop (mkF m 5 #[.val (.int p1), .val (.long p2), .second, .val (.int p3), .val (.long p4), .second, .unset, .unset, .unset, .unset, .unset, .unset] [(.int (p1 &&& (7 : Int32))), (.int (1 : Int32))])) _
    refine XS.iadd X0.here hx rfl (hb hby at_5) rfl ?_
    show Steps p.tables e below (s₁.setTop (mkF m 6 #[.val (.int p1), .val (.long p2), .second, .val (.int p3), .val (.long p4), .second, .unset, .unset, .unset, .unset, .unset, .unset] [(.int ((1 : Int32) + (p1 &&& (7 : Int32))))])) _
    refine XS.istore X0.here hx rfl (hb hby at_6) rfl (l' := #[.val (.int p1), .val (.long p2), .second, .val (.int p3), .val (.long p4), .second, .val (.int ((1 : Int32) + (p1 &&& (7 : Int32)))), .unset, .unset, .unset, .unset, .unset]) rfl ?_
    show Steps p.tables e below (s₁.setTop (mkF m 8 #[.val (.int p1), .val (.long p2), .second, .val (.int p3), .val (.long p4), .second, .val (.int ((1 : Int32) + (p1 &&& (7 : Int32)))), .unset, .unset, .unset, .unset, .unset] [])) _
    rw [hn]
    exact k
  obtain ⟨T1, h1, X1, e1, E1, A1, D1, -, st1⟩ := newO X0 hx hZ hown (hw _ (List.mem_of_getElem? (i := 0) rfl)) (hw _ (List.mem_of_getElem? (i := 1) rfl)) (hw _ (List.mem_of_getElem? (i := 2) rfl)) e0 (g := (mkF m 8 #[.val (.int p1), .val (.long p2), .second, .val (.int p3), .val (.long p4), .second, .val (.int n.toInt32), .unset, .unset, .unset, .unset, .unset] [])) rfl (hb hby at_8) (by decide) (by decide)
  obtain ⟨o, g1⟩ : ∃ z, z = h0.size := ⟨_, rfl⟩
  rw [← g1] at A1 D1 st1
  have F11 : Fld Z h1 o "com/example/mutableau/mutableau/formula/BindingReferences" "leaves" "I" (.int (0 : Int32)) := D1 (Or.inr (hw _ (List.mem_of_getElem? (i := 23) rfl))) (ty := .int) (by decide)
  have F21 : Fld Z h1 o "com/example/mutableau/mutableau/formula/BindingReferences" "latest" "[J" .null := D1 (Or.inr (hw _ (List.mem_of_getElem? (i := 26) rfl))) (ty := .array .long) (by decide)
  have P1 : ∀ t, Steps p.tables e below (T1.setTop (mkF m 11 #[.val (.int p1), .val (.long p2), .second, .val (.int p3), .val (.long p4), .second, .val (.int n.toInt32), .unset, .unset, .unset, .unset, .unset] [(.ref o)])) t → Steps p.tables e below (s₁.setTop (entryFrame m #[(.int p1), (.long p2), (.int p3), (.long p4)] maxLocals)) t := by
    intro t k
    refine Pn t ?_
    refine st1 _ ?_
    exact k
  have go : n0 ≤ o := Nat.le_trans Z0 (Nat.le_of_eq g1.symm)
  have Z1 : n0 ≤ h1.size := Nat.le_trans Z0 E1.1
  obtain ⟨_, _, ⟨T2, L2, k2, n2⟩, -, X2, ⟨Lc2, hQ2, l2, y2, z2⟩, st2⟩ := X1.specialBack hx (y := (⟨"com/example/mutableau/mutableau/formula/BindingReferences", "<init>", "(I)V"⟩ : MethodName)) rfl hown (mvT hZ (hw _ (List.mem_of_getElem? (i := 3) rfl))) (mvT hZ (hw _ (List.mem_of_getElem? (i := 4) rfl))) (mvT hZ (hw _ (List.mem_of_getElem? (i := 5) rfl))) (by decide) (backOf (W := 1) (rm_ct l Z a0 hw [] o n.toInt32 h1 n0 q lv1 (by omega) lv5 lv6 Z1 F11 F21 A1 go) hZ (hw _ (List.mem_of_getElem? (i := 5) rfl)) (hw _ (List.mem_of_getElem? (i := 2) rfl)) (by decide) (by decide)) (g := (mkF m 14 #[.val (.int p1), .val (.long p2), .second, .val (.int p3), .val (.long p4), .second, .val (.int n.toInt32), .unset, .unset, .unset, .unset, .unset] [(.int n.toInt32), (.ref o), (.ref o)])) rfl (by rw [hml]; rfl) (Steps.refl _) (a := o) (argsL := [(.int n.toInt32)]) (rest := [(.ref o)]) (lenOf pd_ct rfl) rfl (by show 2 * 0 + _ ≤ _; exact Nat.le_of_eq rfl) (hb hby at_14) (fun _ _ => ⟨rfl, e1, (by decide : 1 + 1 ≤ _), (by decide : 2 + 16 ≤ _)⟩)
  dsimp only [Pt.U, Pt.locs, Pt.cells, Pt.slots] at X2 l2 y2 z2 st2 hQ2
  subst l2 y2 z2
  obtain ⟨rfl, N2q, K2, E2, F12, b, hb2, F22, A2⟩ := hQ2
  have N2 := Fr.app N0 N2q
  have P2 : ∀ t, Steps p.tables e below (T2.setTop (mkF m 17 #[.val (.int p1), .val (.long p2), .second, .val (.int p3), .val (.long p4), .second, .val (.int n.toInt32), .unset, .unset, .unset, .unset, .unset] [(.ref o)])) t → Steps p.tables e below (s₁.setTop (entryFrame m #[(.int p1), (.long p2), (.int p3), (.long p4)] maxLocals)) t := by
    intro t k
    refine P1 t ?_
    show Steps p.tables e below (T1.setTop (mkF m 11 #[.val (.int p1), .val (.long p2), .second, .val (.int p3), .val (.long p4), .second, .val (.int n.toInt32), .unset, .unset, .unset, .unset, .unset] [(.ref o)])) _
    refine XS.dup X1.here hx rfl (hb hby at_11) rfl rfl ?_
    show Steps p.tables e below (T1.setTop (mkF m 12 #[.val (.int p1), .val (.long p2), .second, .val (.int p3), .val (.long p4), .second, .val (.int n.toInt32), .unset, .unset, .unset, .unset, .unset] [(.ref o), (.ref o)])) _
    refine XS.iload X1.here hx rfl (hb hby at_12) rfl ?_
    show Steps p.tables e below (T1.setTop (mkF m 14 #[.val (.int p1), .val (.long p2), .second, .val (.int p3), .val (.long p4), .second, .val (.int n.toInt32), .unset, .unset, .unset, .unset, .unset] [(.int n.toInt32), (.ref o), (.ref o)])) _
    refine st2.trans ?_
    exact k
  have gb : n0 ≤ b := Nat.le_trans Z1 hb2
  have hob : o ≠ b := Nat.ne_of_lt (Nat.lt_of_lt_of_le A1.lt hb2)
  obtain ⟨T3, h3, k3, X3, e3, E3, A3, st3⟩ := newP X2 hx hZ (hw _ (List.mem_of_getElem? (i := 24) rfl)) rfl (g := (mkF m 21 #[.val (.int p1), .val (.long p2), .second, .val (.int p3), .val (.long p4), .second, .val (.int n.toInt32), .val (.ref o), .unset, .unset, .unset, .unset] [(.int (8 : Int32))])) rfl (hb hby at_21) rfl (by decide) (cap := 8) (by decide) (by decide) (by decide) (by decide)
  obtain ⟨tt, g3⟩ : ∃ z, z = T2.heap.size := ⟨_, rfl⟩
  rw [← g3] at A3 st3
  have B3 : own_A Z h3 tt 8 (fun _ => 0) := own_A_new (n := 8) A3 (by omega)
  have gt : n0 ≤ tt := Nat.le_trans (Nat.le_trans Z1 K2.1) (Nat.le_of_eq g3.symm)
  have hot : o ≠ tt := Nat.ne_of_lt (Nat.lt_of_lt_of_eq E2.lt g3.symm)
  have hbt : b ≠ tt := Nat.ne_of_lt (Nat.lt_of_lt_of_eq (own_A_lt A2) g3.symm)
  have E30 := E2.ext E3
  have F130 := F12.ext E3
  have F230 := F22.ext E3
  have A30 := own_A_ext A2 E3
  have I30 := own_I0 q
  have P3 : ∀ t, Steps p.tables e below (T3.setTop (mkF m 23 #[.val (.int p1), .val (.long p2), .second, .val (.int p3), .val (.long p4), .second, .val (.int n.toInt32), .val (.ref o), .unset, .unset, .unset, .unset] [(.ref tt)])) t → Steps p.tables e below (s₁.setTop (entryFrame m #[(.int p1), (.long p2), (.int p3), (.long p4)] maxLocals)) t := by
    intro t k
    refine P2 t ?_
    show Steps p.tables e below (T2.setTop (mkF m 17 #[.val (.int p1), .val (.long p2), .second, .val (.int p3), .val (.long p4), .second, .val (.int n.toInt32), .unset, .unset, .unset, .unset, .unset] [(.ref o)])) _
    refine XS.astore X2.here hx rfl (hb hby at_17) rfl rfl (l' := #[.val (.int p1), .val (.long p2), .second, .val (.int p3), .val (.long p4), .second, .val (.int n.toInt32), .val (.ref o), .unset, .unset, .unset, .unset]) rfl ?_
    show Steps p.tables e below (T2.setTop (mkF m 19 #[.val (.int p1), .val (.long p2), .second, .val (.int p3), .val (.long p4), .second, .val (.int n.toInt32), .val (.ref o), .unset, .unset, .unset, .unset] [])) _
    refine XS.bipush X2.here hx rfl (hb hby at_19) ?_
    show Steps p.tables e below (T2.setTop (mkF m 21 #[.val (.int p1), .val (.long p2), .second, .val (.int p3), .val (.long p4), .second, .val (.int n.toInt32), .val (.ref o), .unset, .unset, .unset, .unset] [(.int (8 : Int32))])) _
    refine st3 _ ?_
    exact k
  obtain ⟨cnt, hcnt, hc7⟩ : ∃ cnt : Nat, ((((p2.toUInt64 >>> ((24 : Int32) &&& 0x3f).toInt64.toUInt64).toInt64) &&& (7 : Int64)).toInt32) = cnt.toInt32 ∧ cnt ≤ 7 := by
    have m1 : (((p2.toUInt64 >>> ((24 : Int32) &&& 0x3f).toInt64.toUInt64).toInt64) &&& (7 : Int64)).toInt = _ := c_maskL _ (7 : Int64) 3 (by decide) (by decide)
    have m2 := c_l2i (((p2.toUInt64 >>> ((24 : Int32) &&& 0x3f).toInt64.toUInt64).toInt64) &&& (7 : Int64))
    have m3 := rng32 ((((p2.toUInt64 >>> ((24 : Int32) &&& 0x3f).toInt64.toUInt64).toInt64) &&& (7 : Int64)).toInt32)
    rw [m1] at m2
    exact ⟨(((((p2.toUInt64 >>> ((24 : Int32) &&& 0x3f).toInt64.toUInt64).toInt64) &&& (7 : Int64)).toInt32)).toInt.toNat, own_i (by omega) (by omega), by omega⟩
  have Pc : ∀ t, Steps p.tables e below (T3.setTop (mkF m 36 #[.val (.int p1), .val (.long p2), .second, .val (.int p3), .val (.long p4), .second, .val (.int n.toInt32), .val (.ref o), .val (.ref tt), .val (.int cnt.toInt32), .unset, .unset] [])) t → Steps p.tables e below (s₁.setTop (entryFrame m #[(.int p1), (.long p2), (.int p3), (.long p4)] maxLocals)) t := by
    intro t k
    refine P3 t ?_
    show Steps p.tables e below (T3.setTop (mkF m 23 #[.val (.int p1), .val (.long p2), .second, .val (.int p3), .val (.long p4), .second, .val (.int n.toInt32), .val (.ref o), .unset, .unset, .unset, .unset] [(.ref tt)])) _
    refine XS.astore X3.here hx rfl (hb hby at_23) rfl rfl (l' := #[.val (.int p1), .val (.long p2), .second, .val (.int p3), .val (.long p4), .second, .val (.int n.toInt32), .val (.ref o), .val (.ref tt), .unset, .unset, .unset]) rfl ?_
    show Steps p.tables e below (T3.setTop (mkF m 25 #[.val (.int p1), .val (.long p2), .second, .val (.int p3), .val (.long p4), .second, .val (.int n.toInt32), .val (.ref o), .val (.ref tt), .unset, .unset, .unset] [])) _
    refine XS.lloadN X3.here hx rfl (hb hby at_25) rfl ?_
    show Steps p.tables e below (T3.setTop (mkF m 26 #[.val (.int p1), .val (.long p2), .second, .val (.int p3), .val (.long p4), .second, .val (.int n.toInt32), .val (.ref o), .val (.ref tt), .unset, .unset, .unset] [(.long p2)])) _
    refine XS.bipush X3.here hx rfl (hb hby at_26) ?_
    show Steps p.tables e below (T3.setTop (mkF m 28 #[.val (.int p1), .val (.long p2), .second, .val (.int p3), .val (.long p4), .second, .val (.int n.toInt32), .val (.ref o), .val (.ref tt), .unset, .unset, .unset] [(.int (24 : Int32)), (.long p2)])) _
    refine XS.lushr X3.here hx rfl (hb hby at_28) rfl ?_
    show Steps p.tables e below (T3.setTop (mkF m 29 #[.val (.int p1), .val (.long p2), .second, .val (.int p3), .val (.long p4), .second, .val (.int n.toInt32), .val (.ref o), .val (.ref tt), .unset, .unset, .unset] [(.long ((p2.toUInt64 >>> ((24 : Int32) &&& 0x3f).toInt64.toUInt64).toInt64))])) _
    refine Jvm.Stand.ldc2J X3 hx hown (mvT hZ (hw _ (List.mem_of_getElem? (i := 27) rfl))) rfl (hb hby at_29) ?_
    show Steps p.tables e below (T3.setTop (mkF m 32 #[.val (.int p1), .val (.long p2), .second, .val (.int p3), .val (.long p4), .second, .val (.int n.toInt32), .val (.ref o), .val (.ref tt), .unset, .unset, .unset] [(.long (7 : Int64)), (.long ((p2.toUInt64 >>> ((24 : Int32) &&& 0x3f).toInt64.toUInt64).toInt64))])) _
    refine XS.land X3.here hx rfl (hb hby at_32) rfl ?_
    show Steps p.tables e below (T3.setTop (mkF m 33 #[.val (.int p1), .val (.long p2), .second, .val (.int p3), .val (.long p4), .second, .val (.int n.toInt32), .val (.ref o), .val (.ref tt), .unset, .unset, .unset] [(.long (((p2.toUInt64 >>> ((24 : Int32) &&& 0x3f).toInt64.toUInt64).toInt64) &&& (7 : Int64)))])) _
    refine XS.l2i X3.here hx rfl (hb hby at_33) rfl ?_
    show Steps p.tables e below (T3.setTop (mkF m 34 #[.val (.int p1), .val (.long p2), .second, .val (.int p3), .val (.long p4), .second, .val (.int n.toInt32), .val (.ref o), .val (.ref tt), .unset, .unset, .unset] [(.int ((((p2.toUInt64 >>> ((24 : Int32) &&& 0x3f).toInt64.toUInt64).toInt64) &&& (7 : Int64)).toInt32))])) _
    refine XS.istore X3.here hx rfl (hb hby at_34) rfl (l' := #[.val (.int p1), .val (.long p2), .second, .val (.int p3), .val (.long p4), .second, .val (.int n.toInt32), .val (.ref o), .val (.ref tt), .val (.int ((((p2.toUInt64 >>> ((24 : Int32) &&& 0x3f).toInt64.toUInt64).toInt64) &&& (7 : Int64)).toInt32)), .unset, .unset]) rfl ?_
    show Steps p.tables e below (T3.setTop (mkF m 36 #[.val (.int p1), .val (.long p2), .second, .val (.int p3), .val (.long p4), .second, .val (.int n.toInt32), .val (.ref o), .val (.ref tt), .val (.int ((((p2.toUInt64 >>> ((24 : Int32) &&& 0x3f).toInt64.toUInt64).toInt64) &&& (7 : Int64)).toInt32)), .unset, .unset] [])) _
    rw [hcnt]
    exact k
  obtain ⟨_, _, ⟨Ts0, Ls0, ks0, ns0⟩, -, Xs0, ⟨Lcs0, hQs0, ls0, ys0, zs0⟩, sts0⟩ := Jvm.LawKit.callS X3 hx (y := (⟨"com/example/mutableau/mutableau/formula/BindingReferencesInnermostSincePinLaw", "step", "(Lcom/example/mutableau/mutableau/formula/BindingReferences;[JJIII)V"⟩ : MethodName)) hown (mvT hZ (hw _ (List.mem_of_getElem? (i := 28) rfl))) (mvT hZ (hw _ (List.mem_of_getElem? (i := 29) rfl))) (mvT hZ (hw _ (List.mem_of_getElem? (i := 30) rfl))) (mvT hZ (hw _ (List.mem_of_getElem? (i := 31) rfl))) (by decide) (backOf (W := 0) (rm_st l Z a0 hw [] o tt p2 (0 : Int32) cnt.toInt32 n.toInt32 h3 n0 0 cnt n rfl (by omega) rfl hc7 rfl hn1 b q lv2 hq8 (fun _ => 0) (fun _ => 0) 0 E30 F130 F230 A30 B3 hob hbt gb gt I30 (fun _ => rfl)) hZ (hw _ (List.mem_of_getElem? (i := 31) rfl)) (hw _ (List.mem_of_getElem? (i := 30) rfl)) (by decide) (by decide)) (g := (mkF m 46 #[.val (.int p1), .val (.long p2), .second, .val (.int p3), .val (.long p4), .second, .val (.int n.toInt32), .val (.ref o), .val (.ref tt), .val (.int cnt.toInt32), .unset, .unset] [(.int n.toInt32), (.int cnt.toInt32), (.int (0 : Int32)), (.long p2), (.ref tt), (.ref o)])) rfl (by rw [hml]; rfl) (argsL := [(.ref o), (.ref tt), (.long p2), (.int (0 : Int32)), (.int cnt.toInt32), (.int n.toInt32)]) (rest := []) (lenOf pd_st rfl) rfl (by show 2 * 0 + _ ≤ _; exact Nat.le_of_eq rfl) (hb hby at_46) (fun _ _ => ⟨rfl, e3, (by decide : 3 + 0 ≤ _), (by decide : 26 + 0 ≤ _)⟩)
  dsimp only [Pt.U, Pt.locs, Pt.cells, Pt.slots] at Xs0 ls0 ys0 zs0 sts0 hQs0
  subst ls0 ys0 zs0
  obtain ⟨rfl, Ns0q, Ks0, fs0, gs0, cs0, As0, Bs0, Is0, is0⟩ := hQs0
  have Ns0 := Fr.app N2 Ns0q
  have Ps0 : ∀ t, Steps p.tables e below (Ts0.setTop (mkF m 49 #[.val (.int p1), .val (.long p2), .second, .val (.int p3), .val (.long p4), .second, .val (.int n.toInt32), .val (.ref o), .val (.ref tt), .val (.int cnt.toInt32), .unset, .unset] [])) t → Steps p.tables e below (s₁.setTop (entryFrame m #[(.int p1), (.long p2), (.int p3), (.long p4)] maxLocals)) t := by
    intro t k
    refine Pc t ?_
    show Steps p.tables e below (T3.setTop (mkF m 36 #[.val (.int p1), .val (.long p2), .second, .val (.int p3), .val (.long p4), .second, .val (.int n.toInt32), .val (.ref o), .val (.ref tt), .val (.int cnt.toInt32), .unset, .unset] [])) _
    refine XS.aload X3.here hx rfl (hb hby at_36) rfl rfl ?_
    show Steps p.tables e below (T3.setTop (mkF m 38 #[.val (.int p1), .val (.long p2), .second, .val (.int p3), .val (.long p4), .second, .val (.int n.toInt32), .val (.ref o), .val (.ref tt), .val (.int cnt.toInt32), .unset, .unset] [(.ref o)])) _
    refine XS.aload X3.here hx rfl (hb hby at_38) rfl rfl ?_
    show Steps p.tables e below (T3.setTop (mkF m 40 #[.val (.int p1), .val (.long p2), .second, .val (.int p3), .val (.long p4), .second, .val (.int n.toInt32), .val (.ref o), .val (.ref tt), .val (.int cnt.toInt32), .unset, .unset] [(.ref tt), (.ref o)])) _
    refine XS.lloadN X3.here hx rfl (hb hby at_40) rfl ?_
    show Steps p.tables e below (T3.setTop (mkF m 41 #[.val (.int p1), .val (.long p2), .second, .val (.int p3), .val (.long p4), .second, .val (.int n.toInt32), .val (.ref o), .val (.ref tt), .val (.int cnt.toInt32), .unset, .unset] [(.long p2), (.ref tt), (.ref o)])) _
    refine XS.iconst X3.here hx rfl (hb hby at_41) ?_
    show Steps p.tables e below (T3.setTop (mkF m 42 #[.val (.int p1), .val (.long p2), .second, .val (.int p3), .val (.long p4), .second, .val (.int n.toInt32), .val (.ref o), .val (.ref tt), .val (.int cnt.toInt32), .unset, .unset] [(.int (0 : Int32)), (.long p2), (.ref tt), (.ref o)])) _
    refine XS.iload X3.here hx rfl (hb hby at_42) rfl ?_
    show Steps p.tables e below (T3.setTop (mkF m 44 #[.val (.int p1), .val (.long p2), .second, .val (.int p3), .val (.long p4), .second, .val (.int n.toInt32), .val (.ref o), .val (.ref tt), .val (.int cnt.toInt32), .unset, .unset] [(.int cnt.toInt32), (.int (0 : Int32)), (.long p2), (.ref tt), (.ref o)])) _
    refine XS.iload X3.here hx rfl (hb hby at_44) rfl ?_
    show Steps p.tables e below (T3.setTop (mkF m 46 #[.val (.int p1), .val (.long p2), .second, .val (.int p3), .val (.long p4), .second, .val (.int n.toInt32), .val (.ref o), .val (.ref tt), .val (.int cnt.toInt32), .unset, .unset] [(.int n.toInt32), (.int cnt.toInt32), (.int (0 : Int32)), (.long p2), (.ref tt), (.ref o)])) _
    refine sts0 _ ?_
    exact k
  have Es0' := E30.keep Ks0
  have F1s0 := F130.keep Ks0 (ninS hob (ninS hot nin0))
  have F2s0 := F230.keep Ks0 (ninS hob (ninS hot nin0))
  obtain ⟨_, _, ⟨Ts1, Ls1, ks1, ns1⟩, -, Xs1, ⟨Lcs1, hQs1, ls1, ys1, zs1⟩, sts1⟩ := Jvm.LawKit.callS Xs0 hx (y := (⟨"com/example/mutableau/mutableau/formula/BindingReferencesInnermostSincePinLaw", "step", "(Lcom/example/mutableau/mutableau/formula/BindingReferences;[JJIII)V"⟩ : MethodName)) hown (mvT hZ (hw _ (List.mem_of_getElem? (i := 28) rfl))) (mvT hZ (hw _ (List.mem_of_getElem? (i := 29) rfl))) (mvT hZ (hw _ (List.mem_of_getElem? (i := 30) rfl))) (mvT hZ (hw _ (List.mem_of_getElem? (i := 31) rfl))) (by decide) (backOf (W := 0) (rm_st l Z a0 hw [] o tt p2 (1 : Int32) cnt.toInt32 n.toInt32 Ts0.heap n0 1 cnt n rfl (by omega) rfl hc7 rfl hn1 b q lv2 hq8 fs0 gs0 cs0 Es0' F1s0 F2s0 As0 Bs0 hob hbt gb gt Is0 is0) hZ (hw _ (List.mem_of_getElem? (i := 31) rfl)) (hw _ (List.mem_of_getElem? (i := 30) rfl)) (by decide) (by decide)) (g := (mkF m 59 #[.val (.int p1), .val (.long p2), .second, .val (.int p3), .val (.long p4), .second, .val (.int n.toInt32), .val (.ref o), .val (.ref tt), .val (.int cnt.toInt32), .unset, .unset] [(.int n.toInt32), (.int cnt.toInt32), (.int (1 : Int32)), (.long p2), (.ref tt), (.ref o)])) rfl (by rw [hml]; rfl) (argsL := [(.ref o), (.ref tt), (.long p2), (.int (1 : Int32)), (.int cnt.toInt32), (.int n.toInt32)]) (rest := []) (lenOf pd_st rfl) rfl (by show 2 * 0 + _ ≤ _; exact Nat.le_of_eq rfl) (hb hby at_59) (fun _ _ => ⟨rfl, rfl, (by decide : 3 + 0 ≤ _), (by decide : 26 + 0 ≤ _)⟩)
  dsimp only [Pt.U, Pt.locs, Pt.cells, Pt.slots] at Xs1 ls1 ys1 zs1 sts1 hQs1
  subst ls1 ys1 zs1
  obtain ⟨rfl, Ns1q, Ks1, fs1, gs1, cs1, As1, Bs1, Is1, is1⟩ := hQs1
  have Ns1 := Fr.app Ns0 Ns1q
  have Ps1 : ∀ t, Steps p.tables e below (Ts1.setTop (mkF m 62 #[.val (.int p1), .val (.long p2), .second, .val (.int p3), .val (.long p4), .second, .val (.int n.toInt32), .val (.ref o), .val (.ref tt), .val (.int cnt.toInt32), .unset, .unset] [])) t → Steps p.tables e below (s₁.setTop (entryFrame m #[(.int p1), (.long p2), (.int p3), (.long p4)] maxLocals)) t := by
    intro t k
    refine Ps0 t ?_
    show Steps p.tables e below (Ts0.setTop (mkF m 49 #[.val (.int p1), .val (.long p2), .second, .val (.int p3), .val (.long p4), .second, .val (.int n.toInt32), .val (.ref o), .val (.ref tt), .val (.int cnt.toInt32), .unset, .unset] [])) _
    refine XS.aload Xs0.here hx rfl (hb hby at_49) rfl rfl ?_
    show Steps p.tables e below (Ts0.setTop (mkF m 51 #[.val (.int p1), .val (.long p2), .second, .val (.int p3), .val (.long p4), .second, .val (.int n.toInt32), .val (.ref o), .val (.ref tt), .val (.int cnt.toInt32), .unset, .unset] [(.ref o)])) _
    refine XS.aload Xs0.here hx rfl (hb hby at_51) rfl rfl ?_
    show Steps p.tables e below (Ts0.setTop (mkF m 53 #[.val (.int p1), .val (.long p2), .second, .val (.int p3), .val (.long p4), .second, .val (.int n.toInt32), .val (.ref o), .val (.ref tt), .val (.int cnt.toInt32), .unset, .unset] [(.ref tt), (.ref o)])) _
    refine XS.lloadN Xs0.here hx rfl (hb hby at_53) rfl ?_
    show Steps p.tables e below (Ts0.setTop (mkF m 54 #[.val (.int p1), .val (.long p2), .second, .val (.int p3), .val (.long p4), .second, .val (.int n.toInt32), .val (.ref o), .val (.ref tt), .val (.int cnt.toInt32), .unset, .unset] [(.long p2), (.ref tt), (.ref o)])) _
    refine XS.iconst Xs0.here hx rfl (hb hby at_54) ?_
    show Steps p.tables e below (Ts0.setTop (mkF m 55 #[.val (.int p1), .val (.long p2), .second, .val (.int p3), .val (.long p4), .second, .val (.int n.toInt32), .val (.ref o), .val (.ref tt), .val (.int cnt.toInt32), .unset, .unset] [(.int (1 : Int32)), (.long p2), (.ref tt), (.ref o)])) _
    refine XS.iload Xs0.here hx rfl (hb hby at_55) rfl ?_
    show Steps p.tables e below (Ts0.setTop (mkF m 57 #[.val (.int p1), .val (.long p2), .second, .val (.int p3), .val (.long p4), .second, .val (.int n.toInt32), .val (.ref o), .val (.ref tt), .val (.int cnt.toInt32), .unset, .unset] [(.int cnt.toInt32), (.int (1 : Int32)), (.long p2), (.ref tt), (.ref o)])) _
    refine XS.iload Xs0.here hx rfl (hb hby at_57) rfl ?_
    show Steps p.tables e below (Ts0.setTop (mkF m 59 #[.val (.int p1), .val (.long p2), .second, .val (.int p3), .val (.long p4), .second, .val (.int n.toInt32), .val (.ref o), .val (.ref tt), .val (.int cnt.toInt32), .unset, .unset] [(.int n.toInt32), (.int cnt.toInt32), (.int (1 : Int32)), (.long p2), (.ref tt), (.ref o)])) _
    refine sts1 _ ?_
    exact k
  have Es1' := Es0'.keep Ks1
  have F1s1 := F1s0.keep Ks1 (ninS hob (ninS hot nin0))
  have F2s1 := F2s0.keep Ks1 (ninS hob (ninS hot nin0))
  obtain ⟨_, _, ⟨Ts2, Ls2, ks2, ns2⟩, -, Xs2, ⟨Lcs2, hQs2, ls2, ys2, zs2⟩, sts2⟩ := Jvm.LawKit.callS Xs1 hx (y := (⟨"com/example/mutableau/mutableau/formula/BindingReferencesInnermostSincePinLaw", "step", "(Lcom/example/mutableau/mutableau/formula/BindingReferences;[JJIII)V"⟩ : MethodName)) hown (mvT hZ (hw _ (List.mem_of_getElem? (i := 28) rfl))) (mvT hZ (hw _ (List.mem_of_getElem? (i := 29) rfl))) (mvT hZ (hw _ (List.mem_of_getElem? (i := 30) rfl))) (mvT hZ (hw _ (List.mem_of_getElem? (i := 31) rfl))) (by decide) (backOf (W := 0) (rm_st l Z a0 hw [] o tt p2 (2 : Int32) cnt.toInt32 n.toInt32 Ts1.heap n0 2 cnt n rfl (by omega) rfl hc7 rfl hn1 b q lv2 hq8 fs1 gs1 cs1 Es1' F1s1 F2s1 As1 Bs1 hob hbt gb gt Is1 is1) hZ (hw _ (List.mem_of_getElem? (i := 31) rfl)) (hw _ (List.mem_of_getElem? (i := 30) rfl)) (by decide) (by decide)) (g := (mkF m 72 #[.val (.int p1), .val (.long p2), .second, .val (.int p3), .val (.long p4), .second, .val (.int n.toInt32), .val (.ref o), .val (.ref tt), .val (.int cnt.toInt32), .unset, .unset] [(.int n.toInt32), (.int cnt.toInt32), (.int (2 : Int32)), (.long p2), (.ref tt), (.ref o)])) rfl (by rw [hml]; rfl) (argsL := [(.ref o), (.ref tt), (.long p2), (.int (2 : Int32)), (.int cnt.toInt32), (.int n.toInt32)]) (rest := []) (lenOf pd_st rfl) rfl (by show 2 * 0 + _ ≤ _; exact Nat.le_of_eq rfl) (hb hby at_72) (fun _ _ => ⟨rfl, rfl, (by decide : 3 + 0 ≤ _), (by decide : 26 + 0 ≤ _)⟩)
  dsimp only [Pt.U, Pt.locs, Pt.cells, Pt.slots] at Xs2 ls2 ys2 zs2 sts2 hQs2
  subst ls2 ys2 zs2
  obtain ⟨rfl, Ns2q, Ks2, fs2, gs2, cs2, As2, Bs2, Is2, is2⟩ := hQs2
  have Ns2 := Fr.app Ns1 Ns2q
  have Ps2 : ∀ t, Steps p.tables e below (Ts2.setTop (mkF m 75 #[.val (.int p1), .val (.long p2), .second, .val (.int p3), .val (.long p4), .second, .val (.int n.toInt32), .val (.ref o), .val (.ref tt), .val (.int cnt.toInt32), .unset, .unset] [])) t → Steps p.tables e below (s₁.setTop (entryFrame m #[(.int p1), (.long p2), (.int p3), (.long p4)] maxLocals)) t := by
    intro t k
    refine Ps1 t ?_
    show Steps p.tables e below (Ts1.setTop (mkF m 62 #[.val (.int p1), .val (.long p2), .second, .val (.int p3), .val (.long p4), .second, .val (.int n.toInt32), .val (.ref o), .val (.ref tt), .val (.int cnt.toInt32), .unset, .unset] [])) _
    refine XS.aload Xs1.here hx rfl (hb hby at_62) rfl rfl ?_
    show Steps p.tables e below (Ts1.setTop (mkF m 64 #[.val (.int p1), .val (.long p2), .second, .val (.int p3), .val (.long p4), .second, .val (.int n.toInt32), .val (.ref o), .val (.ref tt), .val (.int cnt.toInt32), .unset, .unset] [(.ref o)])) _
    refine XS.aload Xs1.here hx rfl (hb hby at_64) rfl rfl ?_
    show Steps p.tables e below (Ts1.setTop (mkF m 66 #[.val (.int p1), .val (.long p2), .second, .val (.int p3), .val (.long p4), .second, .val (.int n.toInt32), .val (.ref o), .val (.ref tt), .val (.int cnt.toInt32), .unset, .unset] [(.ref tt), (.ref o)])) _
    refine XS.lloadN Xs1.here hx rfl (hb hby at_66) rfl ?_
    show Steps p.tables e below (Ts1.setTop (mkF m 67 #[.val (.int p1), .val (.long p2), .second, .val (.int p3), .val (.long p4), .second, .val (.int n.toInt32), .val (.ref o), .val (.ref tt), .val (.int cnt.toInt32), .unset, .unset] [(.long p2), (.ref tt), (.ref o)])) _
    refine XS.iconst Xs1.here hx rfl (hb hby at_67) ?_
    show Steps p.tables e below (Ts1.setTop (mkF m 68 #[.val (.int p1), .val (.long p2), .second, .val (.int p3), .val (.long p4), .second, .val (.int n.toInt32), .val (.ref o), .val (.ref tt), .val (.int cnt.toInt32), .unset, .unset] [(.int (2 : Int32)), (.long p2), (.ref tt), (.ref o)])) _
    refine XS.iload Xs1.here hx rfl (hb hby at_68) rfl ?_
    show Steps p.tables e below (Ts1.setTop (mkF m 70 #[.val (.int p1), .val (.long p2), .second, .val (.int p3), .val (.long p4), .second, .val (.int n.toInt32), .val (.ref o), .val (.ref tt), .val (.int cnt.toInt32), .unset, .unset] [(.int cnt.toInt32), (.int (2 : Int32)), (.long p2), (.ref tt), (.ref o)])) _
    refine XS.iload Xs1.here hx rfl (hb hby at_70) rfl ?_
    show Steps p.tables e below (Ts1.setTop (mkF m 72 #[.val (.int p1), .val (.long p2), .second, .val (.int p3), .val (.long p4), .second, .val (.int n.toInt32), .val (.ref o), .val (.ref tt), .val (.int cnt.toInt32), .unset, .unset] [(.int n.toInt32), (.int cnt.toInt32), (.int (2 : Int32)), (.long p2), (.ref tt), (.ref o)])) _
    refine sts2 _ ?_
    exact k
  have Es2' := Es1'.keep Ks2
  have F1s2 := F1s1.keep Ks2 (ninS hob (ninS hot nin0))
  have F2s2 := F2s1.keep Ks2 (ninS hob (ninS hot nin0))
  obtain ⟨_, _, ⟨Ts3, Ls3, ks3, ns3⟩, -, Xs3, ⟨Lcs3, hQs3, ls3, ys3, zs3⟩, sts3⟩ := Jvm.LawKit.callS Xs2 hx (y := (⟨"com/example/mutableau/mutableau/formula/BindingReferencesInnermostSincePinLaw", "step", "(Lcom/example/mutableau/mutableau/formula/BindingReferences;[JJIII)V"⟩ : MethodName)) hown (mvT hZ (hw _ (List.mem_of_getElem? (i := 28) rfl))) (mvT hZ (hw _ (List.mem_of_getElem? (i := 29) rfl))) (mvT hZ (hw _ (List.mem_of_getElem? (i := 30) rfl))) (mvT hZ (hw _ (List.mem_of_getElem? (i := 31) rfl))) (by decide) (backOf (W := 0) (rm_st l Z a0 hw [] o tt p2 (3 : Int32) cnt.toInt32 n.toInt32 Ts2.heap n0 3 cnt n rfl (by omega) rfl hc7 rfl hn1 b q lv2 hq8 fs2 gs2 cs2 Es2' F1s2 F2s2 As2 Bs2 hob hbt gb gt Is2 is2) hZ (hw _ (List.mem_of_getElem? (i := 31) rfl)) (hw _ (List.mem_of_getElem? (i := 30) rfl)) (by decide) (by decide)) (g := (mkF m 85 #[.val (.int p1), .val (.long p2), .second, .val (.int p3), .val (.long p4), .second, .val (.int n.toInt32), .val (.ref o), .val (.ref tt), .val (.int cnt.toInt32), .unset, .unset] [(.int n.toInt32), (.int cnt.toInt32), (.int (3 : Int32)), (.long p2), (.ref tt), (.ref o)])) rfl (by rw [hml]; rfl) (argsL := [(.ref o), (.ref tt), (.long p2), (.int (3 : Int32)), (.int cnt.toInt32), (.int n.toInt32)]) (rest := []) (lenOf pd_st rfl) rfl (by show 2 * 0 + _ ≤ _; exact Nat.le_of_eq rfl) (hb hby at_85) (fun _ _ => ⟨rfl, rfl, (by decide : 3 + 0 ≤ _), (by decide : 26 + 0 ≤ _)⟩)
  dsimp only [Pt.U, Pt.locs, Pt.cells, Pt.slots] at Xs3 ls3 ys3 zs3 sts3 hQs3
  subst ls3 ys3 zs3
  obtain ⟨rfl, Ns3q, Ks3, fs3, gs3, cs3, As3, Bs3, Is3, is3⟩ := hQs3
  have Ns3 := Fr.app Ns2 Ns3q
  have Ps3 : ∀ t, Steps p.tables e below (Ts3.setTop (mkF m 88 #[.val (.int p1), .val (.long p2), .second, .val (.int p3), .val (.long p4), .second, .val (.int n.toInt32), .val (.ref o), .val (.ref tt), .val (.int cnt.toInt32), .unset, .unset] [])) t → Steps p.tables e below (s₁.setTop (entryFrame m #[(.int p1), (.long p2), (.int p3), (.long p4)] maxLocals)) t := by
    intro t k
    refine Ps2 t ?_
    show Steps p.tables e below (Ts2.setTop (mkF m 75 #[.val (.int p1), .val (.long p2), .second, .val (.int p3), .val (.long p4), .second, .val (.int n.toInt32), .val (.ref o), .val (.ref tt), .val (.int cnt.toInt32), .unset, .unset] [])) _
    refine XS.aload Xs2.here hx rfl (hb hby at_75) rfl rfl ?_
    show Steps p.tables e below (Ts2.setTop (mkF m 77 #[.val (.int p1), .val (.long p2), .second, .val (.int p3), .val (.long p4), .second, .val (.int n.toInt32), .val (.ref o), .val (.ref tt), .val (.int cnt.toInt32), .unset, .unset] [(.ref o)])) _
    refine XS.aload Xs2.here hx rfl (hb hby at_77) rfl rfl ?_
    show Steps p.tables e below (Ts2.setTop (mkF m 79 #[.val (.int p1), .val (.long p2), .second, .val (.int p3), .val (.long p4), .second, .val (.int n.toInt32), .val (.ref o), .val (.ref tt), .val (.int cnt.toInt32), .unset, .unset] [(.ref tt), (.ref o)])) _
    refine XS.lloadN Xs2.here hx rfl (hb hby at_79) rfl ?_
    show Steps p.tables e below (Ts2.setTop (mkF m 80 #[.val (.int p1), .val (.long p2), .second, .val (.int p3), .val (.long p4), .second, .val (.int n.toInt32), .val (.ref o), .val (.ref tt), .val (.int cnt.toInt32), .unset, .unset] [(.long p2), (.ref tt), (.ref o)])) _
    refine XS.iconst Xs2.here hx rfl (hb hby at_80) ?_
    show Steps p.tables e below (Ts2.setTop (mkF m 81 #[.val (.int p1), .val (.long p2), .second, .val (.int p3), .val (.long p4), .second, .val (.int n.toInt32), .val (.ref o), .val (.ref tt), .val (.int cnt.toInt32), .unset, .unset] [(.int (3 : Int32)), (.long p2), (.ref tt), (.ref o)])) _
    refine XS.iload Xs2.here hx rfl (hb hby at_81) rfl ?_
    show Steps p.tables e below (Ts2.setTop (mkF m 83 #[.val (.int p1), .val (.long p2), .second, .val (.int p3), .val (.long p4), .second, .val (.int n.toInt32), .val (.ref o), .val (.ref tt), .val (.int cnt.toInt32), .unset, .unset] [(.int cnt.toInt32), (.int (3 : Int32)), (.long p2), (.ref tt), (.ref o)])) _
    refine XS.iload Xs2.here hx rfl (hb hby at_83) rfl ?_
    show Steps p.tables e below (Ts2.setTop (mkF m 85 #[.val (.int p1), .val (.long p2), .second, .val (.int p3), .val (.long p4), .second, .val (.int n.toInt32), .val (.ref o), .val (.ref tt), .val (.int cnt.toInt32), .unset, .unset] [(.int n.toInt32), (.int cnt.toInt32), (.int (3 : Int32)), (.long p2), (.ref tt), (.ref o)])) _
    refine sts3 _ ?_
    exact k
  have Es3' := Es2'.keep Ks3
  have F1s3 := F1s2.keep Ks3 (ninS hob (ninS hot nin0))
  have F2s3 := F2s2.keep Ks3 (ninS hob (ninS hot nin0))
  obtain ⟨_, _, ⟨Ts4, Ls4, ks4, ns4⟩, -, Xs4, ⟨Lcs4, hQs4, ls4, ys4, zs4⟩, sts4⟩ := Jvm.LawKit.callS Xs3 hx (y := (⟨"com/example/mutableau/mutableau/formula/BindingReferencesInnermostSincePinLaw", "step", "(Lcom/example/mutableau/mutableau/formula/BindingReferences;[JJIII)V"⟩ : MethodName)) hown (mvT hZ (hw _ (List.mem_of_getElem? (i := 28) rfl))) (mvT hZ (hw _ (List.mem_of_getElem? (i := 29) rfl))) (mvT hZ (hw _ (List.mem_of_getElem? (i := 30) rfl))) (mvT hZ (hw _ (List.mem_of_getElem? (i := 31) rfl))) (by decide) (backOf (W := 0) (rm_st l Z a0 hw [] o tt p2 (4 : Int32) cnt.toInt32 n.toInt32 Ts3.heap n0 4 cnt n rfl (by omega) rfl hc7 rfl hn1 b q lv2 hq8 fs3 gs3 cs3 Es3' F1s3 F2s3 As3 Bs3 hob hbt gb gt Is3 is3) hZ (hw _ (List.mem_of_getElem? (i := 31) rfl)) (hw _ (List.mem_of_getElem? (i := 30) rfl)) (by decide) (by decide)) (g := (mkF m 98 #[.val (.int p1), .val (.long p2), .second, .val (.int p3), .val (.long p4), .second, .val (.int n.toInt32), .val (.ref o), .val (.ref tt), .val (.int cnt.toInt32), .unset, .unset] [(.int n.toInt32), (.int cnt.toInt32), (.int (4 : Int32)), (.long p2), (.ref tt), (.ref o)])) rfl (by rw [hml]; rfl) (argsL := [(.ref o), (.ref tt), (.long p2), (.int (4 : Int32)), (.int cnt.toInt32), (.int n.toInt32)]) (rest := []) (lenOf pd_st rfl) rfl (by show 2 * 0 + _ ≤ _; exact Nat.le_of_eq rfl) (hb hby at_98) (fun _ _ => ⟨rfl, rfl, (by decide : 3 + 0 ≤ _), (by decide : 26 + 0 ≤ _)⟩)
  dsimp only [Pt.U, Pt.locs, Pt.cells, Pt.slots] at Xs4 ls4 ys4 zs4 sts4 hQs4
  subst ls4 ys4 zs4
  obtain ⟨rfl, Ns4q, Ks4, fs4, gs4, cs4, As4, Bs4, Is4, is4⟩ := hQs4
  have Ns4 := Fr.app Ns3 Ns4q
  have Ps4 : ∀ t, Steps p.tables e below (Ts4.setTop (mkF m 101 #[.val (.int p1), .val (.long p2), .second, .val (.int p3), .val (.long p4), .second, .val (.int n.toInt32), .val (.ref o), .val (.ref tt), .val (.int cnt.toInt32), .unset, .unset] [])) t → Steps p.tables e below (s₁.setTop (entryFrame m #[(.int p1), (.long p2), (.int p3), (.long p4)] maxLocals)) t := by
    intro t k
    refine Ps3 t ?_
    show Steps p.tables e below (Ts3.setTop (mkF m 88 #[.val (.int p1), .val (.long p2), .second, .val (.int p3), .val (.long p4), .second, .val (.int n.toInt32), .val (.ref o), .val (.ref tt), .val (.int cnt.toInt32), .unset, .unset] [])) _
    refine XS.aload Xs3.here hx rfl (hb hby at_88) rfl rfl ?_
    show Steps p.tables e below (Ts3.setTop (mkF m 90 #[.val (.int p1), .val (.long p2), .second, .val (.int p3), .val (.long p4), .second, .val (.int n.toInt32), .val (.ref o), .val (.ref tt), .val (.int cnt.toInt32), .unset, .unset] [(.ref o)])) _
    refine XS.aload Xs3.here hx rfl (hb hby at_90) rfl rfl ?_
    show Steps p.tables e below (Ts3.setTop (mkF m 92 #[.val (.int p1), .val (.long p2), .second, .val (.int p3), .val (.long p4), .second, .val (.int n.toInt32), .val (.ref o), .val (.ref tt), .val (.int cnt.toInt32), .unset, .unset] [(.ref tt), (.ref o)])) _
    refine XS.lloadN Xs3.here hx rfl (hb hby at_92) rfl ?_
    show Steps p.tables e below (Ts3.setTop (mkF m 93 #[.val (.int p1), .val (.long p2), .second, .val (.int p3), .val (.long p4), .second, .val (.int n.toInt32), .val (.ref o), .val (.ref tt), .val (.int cnt.toInt32), .unset, .unset] [(.long p2), (.ref tt), (.ref o)])) _
    refine XS.iconst Xs3.here hx rfl (hb hby at_93) ?_
    show Steps p.tables e below (Ts3.setTop (mkF m 94 #[.val (.int p1), .val (.long p2), .second, .val (.int p3), .val (.long p4), .second, .val (.int n.toInt32), .val (.ref o), .val (.ref tt), .val (.int cnt.toInt32), .unset, .unset] [(.int (4 : Int32)), (.long p2), (.ref tt), (.ref o)])) _
    refine XS.iload Xs3.here hx rfl (hb hby at_94) rfl ?_
    show Steps p.tables e below (Ts3.setTop (mkF m 96 #[.val (.int p1), .val (.long p2), .second, .val (.int p3), .val (.long p4), .second, .val (.int n.toInt32), .val (.ref o), .val (.ref tt), .val (.int cnt.toInt32), .unset, .unset] [(.int cnt.toInt32), (.int (4 : Int32)), (.long p2), (.ref tt), (.ref o)])) _
    refine XS.iload Xs3.here hx rfl (hb hby at_96) rfl ?_
    show Steps p.tables e below (Ts3.setTop (mkF m 98 #[.val (.int p1), .val (.long p2), .second, .val (.int p3), .val (.long p4), .second, .val (.int n.toInt32), .val (.ref o), .val (.ref tt), .val (.int cnt.toInt32), .unset, .unset] [(.int n.toInt32), (.int cnt.toInt32), (.int (4 : Int32)), (.long p2), (.ref tt), (.ref o)])) _
    refine sts4 _ ?_
    exact k
  have Es4' := Es3'.keep Ks4
  have F1s4 := F1s3.keep Ks4 (ninS hob (ninS hot nin0))
  have F2s4 := F2s3.keep Ks4 (ninS hob (ninS hot nin0))
  obtain ⟨_, _, ⟨Ts5, Ls5, ks5, ns5⟩, -, Xs5, ⟨Lcs5, hQs5, ls5, ys5, zs5⟩, sts5⟩ := Jvm.LawKit.callS Xs4 hx (y := (⟨"com/example/mutableau/mutableau/formula/BindingReferencesInnermostSincePinLaw", "step", "(Lcom/example/mutableau/mutableau/formula/BindingReferences;[JJIII)V"⟩ : MethodName)) hown (mvT hZ (hw _ (List.mem_of_getElem? (i := 28) rfl))) (mvT hZ (hw _ (List.mem_of_getElem? (i := 29) rfl))) (mvT hZ (hw _ (List.mem_of_getElem? (i := 30) rfl))) (mvT hZ (hw _ (List.mem_of_getElem? (i := 31) rfl))) (by decide) (backOf (W := 0) (rm_st l Z a0 hw [] o tt p2 (5 : Int32) cnt.toInt32 n.toInt32 Ts4.heap n0 5 cnt n rfl (by omega) rfl hc7 rfl hn1 b q lv2 hq8 fs4 gs4 cs4 Es4' F1s4 F2s4 As4 Bs4 hob hbt gb gt Is4 is4) hZ (hw _ (List.mem_of_getElem? (i := 31) rfl)) (hw _ (List.mem_of_getElem? (i := 30) rfl)) (by decide) (by decide)) (g := (mkF m 111 #[.val (.int p1), .val (.long p2), .second, .val (.int p3), .val (.long p4), .second, .val (.int n.toInt32), .val (.ref o), .val (.ref tt), .val (.int cnt.toInt32), .unset, .unset] [(.int n.toInt32), (.int cnt.toInt32), (.int (5 : Int32)), (.long p2), (.ref tt), (.ref o)])) rfl (by rw [hml]; rfl) (argsL := [(.ref o), (.ref tt), (.long p2), (.int (5 : Int32)), (.int cnt.toInt32), (.int n.toInt32)]) (rest := []) (lenOf pd_st rfl) rfl (by show 2 * 0 + _ ≤ _; exact Nat.le_of_eq rfl) (hb hby at_111) (fun _ _ => ⟨rfl, rfl, (by decide : 3 + 0 ≤ _), (by decide : 26 + 0 ≤ _)⟩)
  dsimp only [Pt.U, Pt.locs, Pt.cells, Pt.slots] at Xs5 ls5 ys5 zs5 sts5 hQs5
  subst ls5 ys5 zs5
  obtain ⟨rfl, Ns5q, Ks5, fs5, gs5, cs5, As5, Bs5, Is5, is5⟩ := hQs5
  have Ns5 := Fr.app Ns4 Ns5q
  have Ps5 : ∀ t, Steps p.tables e below (Ts5.setTop (mkF m 114 #[.val (.int p1), .val (.long p2), .second, .val (.int p3), .val (.long p4), .second, .val (.int n.toInt32), .val (.ref o), .val (.ref tt), .val (.int cnt.toInt32), .unset, .unset] [])) t → Steps p.tables e below (s₁.setTop (entryFrame m #[(.int p1), (.long p2), (.int p3), (.long p4)] maxLocals)) t := by
    intro t k
    refine Ps4 t ?_
    show Steps p.tables e below (Ts4.setTop (mkF m 101 #[.val (.int p1), .val (.long p2), .second, .val (.int p3), .val (.long p4), .second, .val (.int n.toInt32), .val (.ref o), .val (.ref tt), .val (.int cnt.toInt32), .unset, .unset] [])) _
    refine XS.aload Xs4.here hx rfl (hb hby at_101) rfl rfl ?_
    show Steps p.tables e below (Ts4.setTop (mkF m 103 #[.val (.int p1), .val (.long p2), .second, .val (.int p3), .val (.long p4), .second, .val (.int n.toInt32), .val (.ref o), .val (.ref tt), .val (.int cnt.toInt32), .unset, .unset] [(.ref o)])) _
    refine XS.aload Xs4.here hx rfl (hb hby at_103) rfl rfl ?_
    show Steps p.tables e below (Ts4.setTop (mkF m 105 #[.val (.int p1), .val (.long p2), .second, .val (.int p3), .val (.long p4), .second, .val (.int n.toInt32), .val (.ref o), .val (.ref tt), .val (.int cnt.toInt32), .unset, .unset] [(.ref tt), (.ref o)])) _
    refine XS.lloadN Xs4.here hx rfl (hb hby at_105) rfl ?_
    show Steps p.tables e below (Ts4.setTop (mkF m 106 #[.val (.int p1), .val (.long p2), .second, .val (.int p3), .val (.long p4), .second, .val (.int n.toInt32), .val (.ref o), .val (.ref tt), .val (.int cnt.toInt32), .unset, .unset] [(.long p2), (.ref tt), (.ref o)])) _
    refine XS.iconst Xs4.here hx rfl (hb hby at_106) ?_
    show Steps p.tables e below (Ts4.setTop (mkF m 107 #[.val (.int p1), .val (.long p2), .second, .val (.int p3), .val (.long p4), .second, .val (.int n.toInt32), .val (.ref o), .val (.ref tt), .val (.int cnt.toInt32), .unset, .unset] [(.int (5 : Int32)), (.long p2), (.ref tt), (.ref o)])) _
    refine XS.iload Xs4.here hx rfl (hb hby at_107) rfl ?_
    show Steps p.tables e below (Ts4.setTop (mkF m 109 #[.val (.int p1), .val (.long p2), .second, .val (.int p3), .val (.long p4), .second, .val (.int n.toInt32), .val (.ref o), .val (.ref tt), .val (.int cnt.toInt32), .unset, .unset] [(.int cnt.toInt32), (.int (5 : Int32)), (.long p2), (.ref tt), (.ref o)])) _
    refine XS.iload Xs4.here hx rfl (hb hby at_109) rfl ?_
    show Steps p.tables e below (Ts4.setTop (mkF m 111 #[.val (.int p1), .val (.long p2), .second, .val (.int p3), .val (.long p4), .second, .val (.int n.toInt32), .val (.ref o), .val (.ref tt), .val (.int cnt.toInt32), .unset, .unset] [(.int n.toInt32), (.int cnt.toInt32), (.int (5 : Int32)), (.long p2), (.ref tt), (.ref o)])) _
    refine sts5 _ ?_
    exact k
  have Es5' := Es4'.keep Ks5
  have F1s5 := F1s4.keep Ks5 (ninS hob (ninS hot nin0))
  have F2s5 := F2s4.keep Ks5 (ninS hob (ninS hot nin0))
  obtain ⟨_, _, ⟨Ts6, Ls6, ks6, ns6⟩, -, Xs6, ⟨Lcs6, hQs6, ls6, ys6, zs6⟩, sts6⟩ := Jvm.LawKit.callS Xs5 hx (y := (⟨"com/example/mutableau/mutableau/formula/BindingReferencesInnermostSincePinLaw", "step", "(Lcom/example/mutableau/mutableau/formula/BindingReferences;[JJIII)V"⟩ : MethodName)) hown (mvT hZ (hw _ (List.mem_of_getElem? (i := 28) rfl))) (mvT hZ (hw _ (List.mem_of_getElem? (i := 29) rfl))) (mvT hZ (hw _ (List.mem_of_getElem? (i := 30) rfl))) (mvT hZ (hw _ (List.mem_of_getElem? (i := 31) rfl))) (by decide) (backOf (W := 0) (rm_st l Z a0 hw [] o tt p2 (6 : Int32) cnt.toInt32 n.toInt32 Ts5.heap n0 6 cnt n rfl (by omega) rfl hc7 rfl hn1 b q lv2 hq8 fs5 gs5 cs5 Es5' F1s5 F2s5 As5 Bs5 hob hbt gb gt Is5 is5) hZ (hw _ (List.mem_of_getElem? (i := 31) rfl)) (hw _ (List.mem_of_getElem? (i := 30) rfl)) (by decide) (by decide)) (g := (mkF m 125 #[.val (.int p1), .val (.long p2), .second, .val (.int p3), .val (.long p4), .second, .val (.int n.toInt32), .val (.ref o), .val (.ref tt), .val (.int cnt.toInt32), .unset, .unset] [(.int n.toInt32), (.int cnt.toInt32), (.int (6 : Int32)), (.long p2), (.ref tt), (.ref o)])) rfl (by rw [hml]; rfl) (argsL := [(.ref o), (.ref tt), (.long p2), (.int (6 : Int32)), (.int cnt.toInt32), (.int n.toInt32)]) (rest := []) (lenOf pd_st rfl) rfl (by show 2 * 0 + _ ≤ _; exact Nat.le_of_eq rfl) (hb hby at_125) (fun _ _ => ⟨rfl, rfl, (by decide : 3 + 0 ≤ _), (by decide : 26 + 0 ≤ _)⟩)
  dsimp only [Pt.U, Pt.locs, Pt.cells, Pt.slots] at Xs6 ls6 ys6 zs6 sts6 hQs6
  subst ls6 ys6 zs6
  obtain ⟨rfl, Ns6q, Ks6, fs6, gs6, cs6, As6, Bs6, Is6, is6⟩ := hQs6
  have Ns6 := Fr.app Ns5 Ns6q
  have Ps6 : ∀ t, Steps p.tables e below (Ts6.setTop (mkF m 128 #[.val (.int p1), .val (.long p2), .second, .val (.int p3), .val (.long p4), .second, .val (.int n.toInt32), .val (.ref o), .val (.ref tt), .val (.int cnt.toInt32), .unset, .unset] [])) t → Steps p.tables e below (s₁.setTop (entryFrame m #[(.int p1), (.long p2), (.int p3), (.long p4)] maxLocals)) t := by
    intro t k
    refine Ps5 t ?_
    show Steps p.tables e below (Ts5.setTop (mkF m 114 #[.val (.int p1), .val (.long p2), .second, .val (.int p3), .val (.long p4), .second, .val (.int n.toInt32), .val (.ref o), .val (.ref tt), .val (.int cnt.toInt32), .unset, .unset] [])) _
    refine XS.aload Xs5.here hx rfl (hb hby at_114) rfl rfl ?_
    show Steps p.tables e below (Ts5.setTop (mkF m 116 #[.val (.int p1), .val (.long p2), .second, .val (.int p3), .val (.long p4), .second, .val (.int n.toInt32), .val (.ref o), .val (.ref tt), .val (.int cnt.toInt32), .unset, .unset] [(.ref o)])) _
    refine XS.aload Xs5.here hx rfl (hb hby at_116) rfl rfl ?_
    show Steps p.tables e below (Ts5.setTop (mkF m 118 #[.val (.int p1), .val (.long p2), .second, .val (.int p3), .val (.long p4), .second, .val (.int n.toInt32), .val (.ref o), .val (.ref tt), .val (.int cnt.toInt32), .unset, .unset] [(.ref tt), (.ref o)])) _
    refine XS.lloadN Xs5.here hx rfl (hb hby at_118) rfl ?_
    show Steps p.tables e below (Ts5.setTop (mkF m 119 #[.val (.int p1), .val (.long p2), .second, .val (.int p3), .val (.long p4), .second, .val (.int n.toInt32), .val (.ref o), .val (.ref tt), .val (.int cnt.toInt32), .unset, .unset] [(.long p2), (.ref tt), (.ref o)])) _
    refine XS.bipush Xs5.here hx rfl (hb hby at_119) ?_
    show Steps p.tables e below (Ts5.setTop (mkF m 121 #[.val (.int p1), .val (.long p2), .second, .val (.int p3), .val (.long p4), .second, .val (.int n.toInt32), .val (.ref o), .val (.ref tt), .val (.int cnt.toInt32), .unset, .unset] [(.int (6 : Int32)), (.long p2), (.ref tt), (.ref o)])) _
    refine XS.iload Xs5.here hx rfl (hb hby at_121) rfl ?_
    show Steps p.tables e below (Ts5.setTop (mkF m 123 #[.val (.int p1), .val (.long p2), .second, .val (.int p3), .val (.long p4), .second, .val (.int n.toInt32), .val (.ref o), .val (.ref tt), .val (.int cnt.toInt32), .unset, .unset] [(.int cnt.toInt32), (.int (6 : Int32)), (.long p2), (.ref tt), (.ref o)])) _
    refine XS.iload Xs5.here hx rfl (hb hby at_123) rfl ?_
    show Steps p.tables e below (Ts5.setTop (mkF m 125 #[.val (.int p1), .val (.long p2), .second, .val (.int p3), .val (.long p4), .second, .val (.int n.toInt32), .val (.ref o), .val (.ref tt), .val (.int cnt.toInt32), .unset, .unset] [(.int n.toInt32), (.int cnt.toInt32), (.int (6 : Int32)), (.long p2), (.ref tt), (.ref o)])) _
    refine sts6 _ ?_
    exact k
  have Es6' := Es5'.keep Ks6
  have F1s6 := F1s5.keep Ks6 (ninS hob (ninS hot nin0))
  have F2s6 := F2s5.keep Ks6 (ninS hob (ninS hot nin0))
  have hd2 : n.toInt32 + (2 : Int32) = (n + 2).toInt32 := own_plus (b := 2) (by omega)
  have hnz : n.toInt32 + (2 : Int32) ≠ 0 := by rw [hd2]; intro q; have := (own_is (b := 0) (by omega) (by omega)).mp q; omega
  have hm3 : (p3 &&& (2147483647 : Int32)).toInt = p3.toInt % 2147483648 := c_mask p3 2147483647 31 (by decide) (by decide)
  obtain ⟨y, hy, hyq⟩ : ∃ y : Int32, y = (((p3 &&& (2147483647 : Int32)) % (n.toInt32 + (2 : Int32))) - (1 : Int32)) ∧ y.toInt ≤ n := by
    refine ⟨_, rfl, ?_⟩
    have m1 := (c_irem (p3 &&& (2147483647 : Int32)) (n.toInt32 + (2 : Int32)) ((n : Int) + 2) (by rw [hd2, own_t (by omega)]; omega)).1 (by omega)
    have m2 := Int.emod_lt_of_pos (p3 &&& (2147483647 : Int32)).toInt (show (0 : Int) < (n : Int) + 2 by omega)
    have m3 := Int.emod_nonneg (p3 &&& (2147483647 : Int32)).toInt (show ((n : Int) + 2) ≠ 0 by omega)
    have m4 := c_isub ((p3 &&& (2147483647 : Int32)) % (n.toInt32 + (2 : Int32))) (1 : Int32)
    have m5 := rng32 (((p3 &&& (2147483647 : Int32)) % (n.toInt32 + (2 : Int32))) - (1 : Int32))
    rw [show (1 : Int32).toInt = 1 from by decide] at m4
    omega
  have Pb : ∀ t, Steps p.tables e below (Ts6.setTop (mkF m 141 #[.val (.int p1), .val (.long p2), .second, .val (.int p3), .val (.long p4), .second, .val (.int n.toInt32), .val (.ref o), .val (.ref tt), .val (.int cnt.toInt32), .val (.int y), .unset] [])) t → Steps p.tables e below (s₁.setTop (entryFrame m #[(.int p1), (.long p2), (.int p3), (.long p4)] maxLocals)) t := by
    intro t k
    refine Ps6 t ?_
    show Steps p.tables e below (Ts6.setTop (mkF m 128 #[.val (.int p1), .val (.long p2), .second, .val (.int p3), .val (.long p4), .second, .val (.int n.toInt32), .val (.ref o), .val (.ref tt), .val (.int cnt.toInt32), .unset, .unset] [])) _
    refine XS.iloadN Xs6.here hx rfl (hb hby at_128) rfl ?_
    show Steps p.tables e below (Ts6.setTop (mkF m 129 #[.val (.int p1), .val (.long p2), .second, .val (.int p3), .val (.long p4), .second, .val (.int n.toInt32), .val (.ref o), .val (.ref tt), .val (.int cnt.toInt32), .unset, .unset] [(.int p3)])) _
    refine Jvm.Stand.ldcI Xs6 hx hown (mvT hZ (hw _ (List.mem_of_getElem? (i := 32) rfl))) rfl (hb hby at_129) ?_
    show Steps p.tables e below (Ts6.setTop (mkF m 131 #[.val (.int p1), .val (.long p2), .second, .val (.int p3), .val (.long p4), .second, .val (.int n.toInt32), .val (.ref o), .val (.ref tt), .val (.int cnt.toInt32), .unset, .unset] [(.int (2147483647 : Int32)), (.int p3)])) _
    refine XS.iand Xs6.here hx rfl (hb hby at_131) rfl ?_
    show Steps p.tables e below (Ts6.setTop (mkF m 132 #[.val (.int p1), .val (.long p2), .second, .val (.int p3), .val (.long p4), .second, .val (.int n.toInt32), .val (.ref o), .val (.ref tt), .val (.int cnt.toInt32), .unset, .unset] [(.int (p3 &&& (2147483647 : Int32)))])) _
    refine XS.iload Xs6.here hx rfl (hb hby at_132) rfl ?_
    show Steps p.tables e below (Ts6.setTop (mkF m 134 #[.val (.int p1), .val (.long p2), .second, .val (.int p3), .val (.long p4), .second, .val (.int n.toInt32), .val (.ref o), .val (.ref tt), .val (.int cnt.toInt32), .unset, .unset] [(.int n.toInt32), (.int (p3 &&& (2147483647 : Int32)))])) _
    refine XS.iconst Xs6.here hx rfl (hb hby at_134) ?_
    show Steps p.tables e below (Ts6.setTop (mkF m 135 #[.val (.int p1), .val (.long p2), .second, .val (.int p3), .val (.long p4), .second, .val (.int n.toInt32), .val (.ref o), .val (.ref tt), .val (.int cnt.toInt32), .unset, .unset] [(.int (2 : Int32)), (.int n.toInt32), (.int (p3 &&& (2147483647 : Int32)))])) _
    refine XS.iadd Xs6.here hx rfl (hb hby at_135) rfl ?_
    show Steps p.tables e below (Ts6.setTop (mkF m 136 #[.val (.int p1), .val (.long p2), .second, .val (.int p3), .val (.long p4), .second, .val (.int n.toInt32), .val (.ref o), .val (.ref tt), .val (.int cnt.toInt32), .unset, .unset] [(.int (n.toInt32 + (2 : Int32))), (.int (p3 &&& (2147483647 : Int32)))])) _
    refine iremM Xs6 hx rfl (hb hby at_136) rfl hnz ?_
    show Steps p.tables e below (Ts6.setTop (mkF m 137 #[.val (.int p1), .val (.long p2), .second, .val (.int p3), .val (.long p4), .second, .val (.int n.toInt32), .val (.ref o), .val (.ref tt), .val (.int cnt.toInt32), .unset, .unset] [(.int ((p3 &&& (2147483647 : Int32)) % (n.toInt32 + (2 : Int32))))])) _
    refine XS.iconst Xs6.here hx rfl (hb hby at_137) ?_
    show Steps p.tables e below (Ts6.setTop (mkF m 138 #[.val (.int p1), .val (.long p2), .second, .val (.int p3), .val (.long p4), .second, .val (.int n.toInt32), .val (.ref o), .val (.ref tt), .val (.int cnt.toInt32), .unset, .unset] [(.int (1 : Int32)), (.int ((p3 &&& (2147483647 : Int32)) % (n.toInt32 + (2 : Int32))))])) _
    refine XS.isub Xs6.here hx rfl (hb hby at_138) rfl ?_
    show Steps p.tables e below (Ts6.setTop (mkF m 139 #[.val (.int p1), .val (.long p2), .second, .val (.int p3), .val (.long p4), .second, .val (.int n.toInt32), .val (.ref o), .val (.ref tt), .val (.int cnt.toInt32), .unset, .unset] [(.int (((p3 &&& (2147483647 : Int32)) % (n.toInt32 + (2 : Int32))) - (1 : Int32)))])) _
    refine XS.istore Xs6.here hx rfl (hb hby at_139) rfl (l' := #[.val (.int p1), .val (.long p2), .second, .val (.int p3), .val (.long p4), .second, .val (.int n.toInt32), .val (.ref o), .val (.ref tt), .val (.int cnt.toInt32), .val (.int (((p3 &&& (2147483647 : Int32)) % (n.toInt32 + (2 : Int32))) - (1 : Int32))), .unset]) rfl ?_
    show Steps p.tables e below (Ts6.setTop (mkF m 141 #[.val (.int p1), .val (.long p2), .second, .val (.int p3), .val (.long p4), .second, .val (.int n.toInt32), .val (.ref o), .val (.ref tt), .val (.int cnt.toInt32), .val (.int (((p3 &&& (2147483647 : Int32)) % (n.toInt32 + (2 : Int32))) - (1 : Int32))), .unset] [])) _
    rw [← hy]
    exact k
  obtain ⟨_, _, ⟨Tx, Lx, kx, nx⟩, -, Xx, ⟨Lcx, hQx, lx, yx, zx⟩, stx⟩ := Jvm.LawKit.callS Xs6 hx (y := (⟨"com/example/mutableau/mutableau/formula/BindingReferencesInnermostSincePinLaw", "expect", "([JIJ)I"⟩ : MethodName)) hown (mvT hZ (hw _ (List.mem_of_getElem? (i := 33) rfl))) (mvT hZ (hw _ (List.mem_of_getElem? (i := 34) rfl))) (mvT hZ (hw _ (List.mem_of_getElem? (i := 30) rfl))) (mvT hZ (hw _ (List.mem_of_getElem? (i := 35) rfl))) (by decide) (backOf (W := 0) (rm_ex l Z a0 hw [] tt y p4 Ts6.heap n0 gs6 Bs6) hZ (hw _ (List.mem_of_getElem? (i := 35) rfl)) (hw _ (List.mem_of_getElem? (i := 30) rfl)) (by decide) (by decide)) (g := (mkF m 147 #[.val (.int p1), .val (.long p2), .second, .val (.int p3), .val (.long p4), .second, .val (.int n.toInt32), .val (.ref o), .val (.ref tt), .val (.int cnt.toInt32), .val (.int y), .unset] [(.long p4), (.int y), (.ref tt)])) rfl (by rw [hml]; rfl) (argsL := [(.ref tt), (.int y), (.long p4)]) (rest := []) (lenOf pd_ex rfl) rfl (by show 2 * 0 + _ ≤ _; exact Nat.le_of_eq rfl) (hb hby at_147) (fun _ _ => ⟨rfl, rfl, (by decide : 3 + 0 ≤ _), (by decide : 26 + 0 ≤ _)⟩)
  dsimp only [Pt.U, Pt.locs, Pt.cells, Pt.slots] at Xx lx yx zx stx hQx
  subst lx yx zx
  obtain ⟨rfl, Nxq, ex⟩ := hQx
  have Nx := Fr.app Ns6 Nxq
  have Px : ∀ t, Steps p.tables e below (Tx.setTop (mkF m 150 #[.val (.int p1), .val (.long p2), .second, .val (.int p3), .val (.long p4), .second, .val (.int n.toInt32), .val (.ref o), .val (.ref tt), .val (.int cnt.toInt32), .val (.int y), .unset] [(.int (own_ex gs6 y p4 8))])) t → Steps p.tables e below (s₁.setTop (entryFrame m #[(.int p1), (.long p2), (.int p3), (.long p4)] maxLocals)) t := by
    intro t k
    refine Pb t ?_
    show Steps p.tables e below (Ts6.setTop (mkF m 141 #[.val (.int p1), .val (.long p2), .second, .val (.int p3), .val (.long p4), .second, .val (.int n.toInt32), .val (.ref o), .val (.ref tt), .val (.int cnt.toInt32), .val (.int y), .unset] [])) _
    refine XS.aload Xs6.here hx rfl (hb hby at_141) rfl rfl ?_
    show Steps p.tables e below (Ts6.setTop (mkF m 143 #[.val (.int p1), .val (.long p2), .second, .val (.int p3), .val (.long p4), .second, .val (.int n.toInt32), .val (.ref o), .val (.ref tt), .val (.int cnt.toInt32), .val (.int y), .unset] [(.ref tt)])) _
    refine XS.iload Xs6.here hx rfl (hb hby at_143) rfl ?_
    show Steps p.tables e below (Ts6.setTop (mkF m 145 #[.val (.int p1), .val (.long p2), .second, .val (.int p3), .val (.long p4), .second, .val (.int n.toInt32), .val (.ref o), .val (.ref tt), .val (.int cnt.toInt32), .val (.int y), .unset] [(.int y), (.ref tt)])) _
    refine XS.lload Xs6.here hx rfl (hb hby at_145) rfl ?_
    show Steps p.tables e below (Ts6.setTop (mkF m 147 #[.val (.int p1), .val (.long p2), .second, .val (.int p3), .val (.long p4), .second, .val (.int n.toInt32), .val (.ref o), .val (.ref tt), .val (.int cnt.toInt32), .val (.int y), .unset] [(.long p4), (.int y), (.ref tt)])) _
    refine stx _ ?_
    exact k
  obtain ⟨cqv, kqv, qva, qvb, qvc⟩ := isOf hZ ex Es6'
  obtain ⟨_, _, ⟨Tv, Lv, kv, nv⟩, -, Xv, ⟨Lcv, hQv, lv, yv, zv⟩, stv⟩ := Xx.virtualBack hx (y := (⟨"com/example/mutableau/mutableau/formula/BindingReferences", "innermostSince", "(IJ)I"⟩ : MethodName)) (z := (⟨"com/example/mutableau/mutableau/formula/BindingReferences", "innermostSince", "(IJ)I"⟩ : MethodName)) hown (mvT hZ (hw _ (List.mem_of_getElem? (i := 36) rfl))) (mvT hZ (hw _ (List.mem_of_getElem? (i := 37) rfl))) (notFace_of_selects (args := #[]) (mvT hZ (hw _ (List.mem_of_getElem? (i := 39) rfl)))) (mvT hZ (hw _ (List.mem_of_getElem? (i := 39) rfl))) (mvT hZ (hw _ (List.mem_of_getElem? (i := 38) rfl))) (by decide) (backOf (W := 0) (rm_in l Z a0 hw [] o y p4 Ts6.heap n0 b pw q hqp (by omega) (by omega) fs6 F1s6 F2s6 As6 Is6.1) hZ (hw _ (List.mem_of_getElem? (i := 40) rfl)) (hw _ (List.mem_of_getElem? (i := 2) rfl)) (by decide) (by decide)) qva qvc (g := (mkF m 158 #[.val (.int p1), .val (.long p2), .second, .val (.int p3), .val (.long p4), .second, .val (.int n.toInt32), .val (.ref o), .val (.ref tt), .val (.int cnt.toInt32), .val (.int y), .val (.int (own_ex gs6 y p4 8))] [(.long p4), (.int y), (.ref o)])) rfl (by rw [hml]; rfl) (Steps.refl _) (argsL := [(.int y), (.long p4)]) (rest := []) (lenOf pd_in rfl) rfl (by show 2 * 0 + _ ≤ _; exact Nat.le_of_eq rfl) (hb hby at_158) (fun _ _ => ⟨rfl, ex, (by decide : 3 + 0 ≤ _), (by decide : 26 + 0 ≤ _)⟩)
  dsimp only [Pt.U, Pt.locs, Pt.cells, Pt.slots] at Xv lv yv zv stv hQv
  subst lv yv zv
  obtain ⟨rfl, Nvq, ev⟩ := hQv
  have Nv := Fr.app Nx Nvq
  have Pv : ∀ t, Steps p.tables e below (Tv.setTop (mkF m 161 #[.val (.int p1), .val (.long p2), .second, .val (.int p3), .val (.long p4), .second, .val (.int n.toInt32), .val (.ref o), .val (.ref tt), .val (.int cnt.toInt32), .val (.int y), .val (.int (own_ex gs6 y p4 8))] [(.int (own_ri pw fs6 p4 y))])) t → Steps p.tables e below (s₁.setTop (entryFrame m #[(.int p1), (.long p2), (.int p3), (.long p4)] maxLocals)) t := by
    intro t k
    refine Px t ?_
    show Steps p.tables e below (Tx.setTop (mkF m 150 #[.val (.int p1), .val (.long p2), .second, .val (.int p3), .val (.long p4), .second, .val (.int n.toInt32), .val (.ref o), .val (.ref tt), .val (.int cnt.toInt32), .val (.int y), .unset] [(.int (own_ex gs6 y p4 8))])) _
    refine XS.istore Xx.here hx rfl (hb hby at_150) rfl (l' := #[.val (.int p1), .val (.long p2), .second, .val (.int p3), .val (.long p4), .second, .val (.int n.toInt32), .val (.ref o), .val (.ref tt), .val (.int cnt.toInt32), .val (.int y), .val (.int (own_ex gs6 y p4 8))]) rfl ?_
    show Steps p.tables e below (Tx.setTop (mkF m 152 #[.val (.int p1), .val (.long p2), .second, .val (.int p3), .val (.long p4), .second, .val (.int n.toInt32), .val (.ref o), .val (.ref tt), .val (.int cnt.toInt32), .val (.int y), .val (.int (own_ex gs6 y p4 8))] [])) _
    refine XS.aload Xx.here hx rfl (hb hby at_152) rfl rfl ?_
    show Steps p.tables e below (Tx.setTop (mkF m 154 #[.val (.int p1), .val (.long p2), .second, .val (.int p3), .val (.long p4), .second, .val (.int n.toInt32), .val (.ref o), .val (.ref tt), .val (.int cnt.toInt32), .val (.int y), .val (.int (own_ex gs6 y p4 8))] [(.ref o)])) _
    refine XS.iload Xx.here hx rfl (hb hby at_154) rfl ?_
    show Steps p.tables e below (Tx.setTop (mkF m 156 #[.val (.int p1), .val (.long p2), .second, .val (.int p3), .val (.long p4), .second, .val (.int n.toInt32), .val (.ref o), .val (.ref tt), .val (.int cnt.toInt32), .val (.int y), .val (.int (own_ex gs6 y p4 8))] [(.int y), (.ref o)])) _
    refine XS.lload Xx.here hx rfl (hb hby at_156) rfl ?_
    show Steps p.tables e below (Tx.setTop (mkF m 158 #[.val (.int p1), .val (.long p2), .second, .val (.int p3), .val (.long p4), .second, .val (.int n.toInt32), .val (.ref o), .val (.ref tt), .val (.int cnt.toInt32), .val (.int y), .val (.int (own_ex gs6 y p4 8))] [(.long p4), (.int y), (.ref o)])) _
    refine stv.trans ?_
    exact k
  have heq : (own_ri pw fs6 p4 y) = (own_ex gs6 y p4 8) := by
    apply Int32.toInt_inj.mp
    have ht : own_tree (2 ^ pw) fs6 := hqp ▸ Is6.1
    refine own_spec_uniq (own_ri_spec (sv := p4) (p1 := y) ht (by omega) (by omega)) (own_spec_congr (F := gs6) (fun d hd => ?_) (own_ex_spec (g := gs6) (p1 := y) (sv := p4) 8 (by omega) (fun d d1 d2 => by omega)))
    rw [← hqp]
    exact (Is6.2.1 d (by omega)).symm
  obtain ⟨fs, hr, hrun, hended, hW, hsame⟩ := Xv.leave (v := some (.int (1 : Int32))) (fun h => by rw [Bd.returns] at h; cases h)
  refine ⟨_, _, Pv _ ?_, hrun, hended, _, _, rfl, ⟨rfl, Nv⟩, ⟨_, rfl⟩, hW, hsame.mono (by decide) (by decide)⟩
  show Steps p.tables e below (Tv.setTop (mkF m 161 #[.val (.int p1), .val (.long p2), .second, .val (.int p3), .val (.long p4), .second, .val (.int n.toInt32), .val (.ref o), .val (.ref tt), .val (.int cnt.toInt32), .val (.int y), .val (.int (own_ex gs6 y p4 8))] [(.int (own_ri pw fs6 p4 y))])) _
  refine XS.iload Xv.here hx rfl (hb hby at_161) rfl ?_
  have hc163 := heq
  show Steps p.tables e below (Tv.setTop (mkF m 163 #[.val (.int p1), .val (.long p2), .second, .val (.int p3), .val (.long p4), .second, .val (.int n.toInt32), .val (.ref o), .val (.ref tt), .val (.int cnt.toInt32), .val (.int y), .val (.int (own_ex gs6 y p4 8))] [(.int (own_ex gs6 y p4 8)), (.int (own_ri pw fs6 p4 y))])) _
  refine XS.icmpNo Xv.here hx rfl (hb hby at_163) rfl (teq hc163).2 ?_
  show Steps p.tables e below (Tv.setTop (mkF m 166 #[.val (.int p1), .val (.long p2), .second, .val (.int p3), .val (.long p4), .second, .val (.int n.toInt32), .val (.ref o), .val (.ref tt), .val (.int cnt.toInt32), .val (.int y), .val (.int (own_ex gs6 y p4 8))] [])) _
  refine XS.iconst Xv.here hx rfl (hb hby at_166) ?_
  show Steps p.tables e below (Tv.setTop (mkF m 167 #[.val (.int p1), .val (.long p2), .second, .val (.int p3), .val (.long p4), .second, .val (.int n.toInt32), .val (.ref o), .val (.ref tt), .val (.int cnt.toInt32), .val (.int y), .val (.int (own_ex gs6 y p4 8))] [(.int (1 : Int32))])) _
  refine XS.goto Xv.here hx rfl (pc0 := 167) (pc' := 171) rfl (hb hby at_167) (by decide) (by decide) ?_
  show Steps p.tables e below (Tv.setTop (mkF m 171 #[.val (.int p1), .val (.long p2), .second, .val (.int p3), .val (.long p4), .second, .val (.int n.toInt32), .val (.ref o), .val (.ref tt), .val (.int cnt.toInt32), .val (.int y), .val (.int (own_ex gs6 y p4 8))] [(.int (1 : Int32))])) _
  exact retN Xv hx (t := .boolean) Bd.returns (by simp) (hb hby at_171) hr
set_option maxRecDepth 65536 in
set_option maxHeartbeats 40000000 in
theorem comes_1 {Post : Tables → Env → Array Value → State → Outcome → State → Prop} (hpost : ∀ tb e args s v u, (limb_1_1.after args s (.returned v) u = true ∧ limb_1_2.after args s (.returned v) u = true ∧ True) → FrameEnd s (.returned v) u (Jvm.fieldLocs frame_1_writes args s ++ Jvm.arrayLocs frame_1_arrays args s ++ Jvm.staticLocs frame_1_statics s) 16 128 → Post tb e args s (.returned v) u) :
    ArmFor flags0 classFile x code maxLocals ret World_1 tables_1 room_1 Calls_1 rest_1 Pre_1 Post := by
  intro l hfl _ _ p e ha hc hk s m args below hf hA hF happ hP
  obtain ⟨hcalls, hrest, hpre⟩ := hP
  obtain ⟨-, -, -, hnamed, -, -, -, hat⟩ := (Spec.applies_iff hf).mp happ
  obtain ⟨hg, hn⟩ := and_e (Cond.before_iff.mp (show (Jvm.Cond.and given_1 narrow_1).before args s = true from hpre))
  obtain ⟨gc, gr0⟩ := and_e hg
  obtain ⟨g0, gr1⟩ := and_e gr0
  obtain ⟨g1, gr2⟩ := and_e gr1
  obtain ⟨g2, gr3⟩ := and_e gr2
  obtain ⟨w0, w1, w2, w3, rfl⟩ : ∃ w0 w1 w2 w3 : Value, args = #[w0, w1, w2, w3] := by
    have hs : args.size = 4 := by simpa [Cond.value, given_1] using gc
    obtain ⟨L⟩ := args
    match L, hs with
    | [w0, w1, w2, w3], _ => exact ⟨w0, w1, w2, w3, rfl⟩
  have hw := fun d (hd : d ∈ tables_1) => atoms_spec (ws := Jvm.Cond.code x code maxLocals ret :: tables_1) hat d (List.mem_cons_of_mem _ hd)
  obtain ⟨i0, ei0⟩ := is_v g0
  obtain rfl : w0 = (.int i0) := Option.some.inj ei0
  obtain ⟨i1, ei1⟩ := isL_v g1
  obtain rfl : w1 = (.long i1) := Option.some.inj ei1
  obtain ⟨i2, ei2⟩ := is_v g2
  obtain rfl : w2 = (.int i2) := Option.some.inj ei2
  obtain ⟨i3, ei3⟩ := isL_v gr3
  obtain rfl : w3 = (.long i3) := Option.some.inj ei3
  obtain ⟨n, o, h1, h2, h3, _, L, rfl, ⟨rfl, N⟩, hq⟩ := rm0 l s _ hw tables_1 i0 i1 i2 i3 s.heap s.heap.size (Nat.le_refl _) p e ha hc hk s m _ below hf ((Spec.applies_iff_loose hf).mp happ).1 ⟨rfl, State.Warmed39.refl s, rfl⟩ trivial
  refine ⟨n, _, h1, h2, h3, hpost _ _ _ _ _ _ ⟨Cond.after_iff.mpr rfl, Cond.after_iff.mpr (eq_i res_at (Term.int_eval (1)) rfl), trivial⟩ ⟨hq.1, hq.2.1, (hq.2.2.sift fun y hy => Or.inr (N y hy)).mono (by decide) (by decide)⟩⟩
theorem main_1_1 : Claimed_1_1 := comes_1 fun _ _ _ _ _ _ h hF => ⟨h.1, hF⟩
theorem main_1_2 : Claimed_1_2 := comes_1 fun _ _ _ _ _ _ h hF => ⟨h.2.1, hF⟩
end Jvm.Pilot.@@N@@
namespace Jvm.Pilot.@@N@@
open Jvm Jvm.ClassFile Sem Op Lib Jvm.Free Jvm.Stand Jvm.Pilot.@@N@@.Jvm.D
/-! MADE BY PROGRAM (witnessworld.py) out of the Statement's table words and the real class files: 17 classes; the members and pool entries that the words name. The judged class is class 1, her method 3. -/
namespace start1
open Jvm.ClassFile
def u (s : String) : CpInfo := .utf8 (stringToUtf16 s)
/-- a pool by its gaps: so many unusable entries, then the entry; so many at the end -/
def gap : Nat → List CpInfo → List CpInfo
  | 0, r => r
  | n + 1, r => .unusable :: gap n r
def poolList (es : List (Nat × CpInfo)) (last : Nat) : List CpInfo := es.foldr (fun e r => gap e.1 (e.2 :: r)) (gap last [])
def pool (es : List (Nat × CpInfo)) (last : Nat) : Array CpInfo := ⟨poolList es last⟩
def fileOf (pool : Array CpInfo) (this : Nat) (attrs : Array Attribute := #[]) (ms : Array MethodInfo := #[]) (fl : Nat := 33) (sup : Nat := 0) (ifs : Array Nat := #[]) (fds : Array FieldInfo := #[]) : ClassFile where
  minorVersion := 0
  majorVersion := 65
  constantPool := pool
  accessFlags := fl
  thisClass := this
  superClass := sup
  interfaces := ifs
  fields := fds
  methods := ms
  attributes := attrs
def plain (name : String) (sup : Option ClassId) : Class where
  name := name
  kind := .ordinary
  loader := none
  accessFlags := 33
  super := sup
  interfaces := #[]
  cf := none
  fields := #[]
  methods := #[]
  instanceTypes := #[]
  staticTypes := #[]
  resolved := #[]
  callSites := []
  init := .initialized
  statics := none
  mirror := none

def pool0 : Array CpInfo := pool [(5, u "<init>"), (0, u "()V"), (1, .class_ 10), (1, u "java/lang/Object")] 113

def k0c0 : Code := { maxStack := 0, maxLocals := 1, code := object_method_1_code, exceptionTable := #[], attributes := #[] }
def k0m0 : Method := { name := "<init>", desc := "()V", sig := { parameters := [], returnType := none }, accessFlags := 1, code := some k0c0 }
/-- java/lang/Object -/
def k0 : Class := { plain "java/lang/Object" none with
  accessFlags := 33
  interfaces := #[]
  cf := some (fileOf pool0 8 #[] #[{ accessFlags := 1, nameIndex := 5, descriptorIndex := 6, attributes := #[] }] 33 0 #[] #[])
  fields := #[]
  methods := #[k0m0]
  instanceTypes := #[]
  staticTypes := #[]
  resolved := Array.replicate 124 none
  statics := none }

def pool1 : Array CpInfo := pool [(2, .class_ 4), (1, u "java/lang/Object"), (0, u "<init>"), (0, u "()V"), (0, .long 7), (1, .methodref 10 11), (0, .class_ 12), (0, .nameAndType 13 14), (0, u "com/example/mutableau/mutableau/formula/BindingReferences"), (0, u "refer"), (0, u "(I)V"), (0, .methodref 10 16), (0, .nameAndType 5 14), (0, .methodref 18 19), (0, .class_ 20), (0, .nameAndType 21 22), (0, u "com/example/mutableau/mutableau/formula/BindingReferencesInnermostSincePinLaw"), (0, u "step"), (0, u "(Lcom/example/mutableau/mutableau/formula/BindingReferences;[JJIII)V"), (0, .integer 2147483647), (0, .methodref 18 25), (0, .nameAndType 26 27), (0, u "expect"), (0, u "([JIJ)I"), (0, .methodref 10 29), (0, .nameAndType 30 31), (0, u "innermostSince"), (0, u "(IJ)I"), (3, u "law"), (0, u "(IJIJ)Z")] 4

def k1m0 : Method := { name := "<init>", desc := "()V", sig := { parameters := [], returnType := none }, accessFlags := 2, code := none }
def k1c1 : Code := { maxStack := 4, maxLocals := 8, code := method_2_code, exceptionTable := #[], attributes := #[] }
def k1m1 : Method := { name := "step", desc := "(Lcom/example/mutableau/mutableau/formula/BindingReferences;[JJIII)V", sig := { parameters := [(.object "com/example/mutableau/mutableau/formula/BindingReferences"), (.array .long), .long, .int, .int, .int], returnType := none }, accessFlags := 10, code := some k1c1 }
def k1c2 : Code := { maxStack := 4, maxLocals := 4, code := method_3_code, exceptionTable := #[], attributes := #[] }
def k1m2 : Method := { name := "expect", desc := "([JIJ)I", sig := { parameters := [(.array .long), .int, .long], returnType := some .int }, accessFlags := 10, code := some k1c2 }
def k1c3 : Code := { maxStack := 7, maxLocals := 12, code := code, exceptionTable := #[], attributes := #[] }
def k1m3 : Method := { name := "law", desc := "(IJIJ)Z", sig := { parameters := [.int, .long, .int, .long], returnType := some .boolean }, accessFlags := 9, code := some k1c3 }
/-- com/example/mutableau/mutableau/formula/BindingReferencesInnermostSincePinLaw -/
def k1 : Class := { plain "com/example/mutableau/mutableau/formula/BindingReferencesInnermostSincePinLaw" (some 0) with
  accessFlags := 49
  interfaces := #[]
  cf := some (fileOf pool1 18 #[] #[{ accessFlags := 2, nameIndex := 5, descriptorIndex := 6, attributes := #[] }, { accessFlags := 10, nameIndex := 21, descriptorIndex := 22, attributes := #[] }, { accessFlags := 10, nameIndex := 26, descriptorIndex := 27, attributes := #[] }, { accessFlags := 9, nameIndex := 35, descriptorIndex := 36, attributes := #[] }] 49 2 #[] #[])
  fields := #[]
  methods := #[k1m0, k1m1, k1m2, k1m3]
  instanceTypes := #[]
  staticTypes := #[]
  resolved := Array.replicate 41 none
  statics := none }

def pool2 : Array CpInfo := pool [(1, .methodref 2 3), (0, .class_ 4), (0, .nameAndType 5 6), (0, u "java/lang/Object"), (0, u "<init>"), (0, u "()V"), (0, .methodref 8 9), (0, .class_ 10), (0, .nameAndType 11 12), (0, u "java/lang/Math"), (0, u "max"), (0, u "(II)I"), (0, .methodref 14 15), (0, .class_ 16), (0, .nameAndType 17 18), (0, u "java/lang/Integer"), (0, u "highestOneBit"), (0, u "(I)I"), (0, .fieldref 20 21), (0, .class_ 22), (0, .nameAndType 23 24), (0, u "com/example/mutableau/mutableau/formula/BindingReferences"), (0, u "leaves"), (0, u "I"), (0, .fieldref 20 26), (0, .nameAndType 27 28), (0, u "latest"), (0, u "[J"), (0, u "(I)V"), (3, u "refer"), (1, u "innermostSince"), (0, u "(IJ)I")] 2

def k2c0 : Code := { maxStack := 3, maxLocals := 2, code := prog_152_method_1_code, exceptionTable := #[], attributes := #[] }
def k2m0 : Method := { name := "<init>", desc := "(I)V", sig := { parameters := [.int], returnType := none }, accessFlags := 0, code := some k2c0 }
def k2c1 : Code := { maxStack := 4, maxLocals := 5, code := prog_152_method_3_code, exceptionTable := #[], attributes := #[] }
def k2m1 : Method := { name := "refer", desc := "(I)V", sig := { parameters := [.int], returnType := none }, accessFlags := 0, code := some k2c1 }
def k2c2 : Code := { maxStack := 4, maxLocals := 6, code := prog_152_method_4_code, exceptionTable := #[], attributes := #[] }
def k2m2 : Method := { name := "innermostSince", desc := "(IJ)I", sig := { parameters := [.int, .long], returnType := some .int }, accessFlags := 0, code := some k2c2 }
/-- com/example/mutableau/mutableau/formula/BindingReferences -/
def k2 : Class := { plain "com/example/mutableau/mutableau/formula/BindingReferences" (some 0) with
  accessFlags := 48
  interfaces := #[]
  cf := some (fileOf pool2 20 #[] #[{ accessFlags := 0, nameIndex := 5, descriptorIndex := 29, attributes := #[] }, { accessFlags := 0, nameIndex := 33, descriptorIndex := 29, attributes := #[] }, { accessFlags := 0, nameIndex := 35, descriptorIndex := 36, attributes := #[] }] 48 2 #[] #[{ accessFlags := 18, nameIndex := 23, descriptorIndex := 24, attributes := #[] }, { accessFlags := 18, nameIndex := 27, descriptorIndex := 28, attributes := #[] }])
  fields := #[{ name := "leaves", type := .int, accessFlags := 18, slot := 0, constantValue := 0 }, { name := "latest", type := (.array .long), accessFlags := 18, slot := 1, constantValue := 0 }]
  methods := #[k2m0, k2m1, k2m2]
  instanceTypes := #[.int, (.array .long)]
  staticTypes := #[]
  resolved := Array.replicate 39 none
  statics := none }

def pool3 : Array CpInfo := pool [(1, .class_ 2), (0, u "java/lang/Math"), (1, .class_ 6), (1, u "java/lang/Object"), (0, u "<init>"), (0, u "()V"), (89, .class_ 100), (1, u "java/lang/Math$RandomNumberGeneratorHolder"), (71, u "negativeZeroFloatBits"), (0, u "J"), (2, u "negativeZeroDoubleBits"), (21, u "max"), (46, u "$assertionsDisabled"), (0, u "Z"), (88, u "(II)I"), (2, u "twoToTheDoubleScaleDown"), (0, u "D"), (4, u "twoToTheDoubleScaleUp"), (9, u "E"), (3, u "PI"), (2, u "TAU"), (2, u "DEGREES_TO_RADIANS"), (0, u "RADIANS_TO_DEGREES")] 94

def k3m0 : Method := { name := "<init>", desc := "()V", sig := { parameters := [], returnType := none }, accessFlags := 2, code := none }
def k3c1 : Code := { maxStack := 2, maxLocals := 2, code := jdk_29_method_65_code, exceptionTable := #[], attributes := #[] }
def k3m1 : Method := { name := "max", desc := "(II)I", sig := { parameters := [.int, .int], returnType := some .int }, accessFlags := 9, code := some k3c1 }
/-- java/lang/Math -/
def k3 : Class := { plain "java/lang/Math" (some 0) with
  accessFlags := 49
  interfaces := #[]
  cf := some (fileOf pool3 1 #[.nestMembers #[98]] #[{ accessFlags := 2, nameIndex := 7, descriptorIndex := 8, attributes := #[] }, { accessFlags := 9, nameIndex := 198, descriptorIndex := 335, attributes := #[] }] 49 4 #[] #[{ accessFlags := 25, nameIndex := 354, descriptorIndex := 339, attributes := #[] }, { accessFlags := 25, nameIndex := 358, descriptorIndex := 339, attributes := #[] }, { accessFlags := 25, nameIndex := 361, descriptorIndex := 339, attributes := #[] }, { accessFlags := 26, nameIndex := 364, descriptorIndex := 339, attributes := #[] }, { accessFlags := 26, nameIndex := 365, descriptorIndex := 339, attributes := #[] }, { accessFlags := 26, nameIndex := 172, descriptorIndex := 173, attributes := #[] }, { accessFlags := 26, nameIndex := 176, descriptorIndex := 173, attributes := #[] }, { accessFlags := 8, nameIndex := 344, descriptorIndex := 339, attributes := #[] }, { accessFlags := 8, nameIndex := 338, descriptorIndex := 339, attributes := #[] }, { accessFlags := 4120, nameIndex := 245, descriptorIndex := 246, attributes := #[] }])
  fields := #[{ name := "E", type := .double, accessFlags := 25, slot := 0, constantValue := 0 }, { name := "PI", type := .double, accessFlags := 25, slot := 1, constantValue := 0 }, { name := "TAU", type := .double, accessFlags := 25, slot := 2, constantValue := 0 }, { name := "DEGREES_TO_RADIANS", type := .double, accessFlags := 26, slot := 3, constantValue := 0 }, { name := "RADIANS_TO_DEGREES", type := .double, accessFlags := 26, slot := 4, constantValue := 0 }, { name := "negativeZeroFloatBits", type := .long, accessFlags := 26, slot := 5, constantValue := 0 }, { name := "negativeZeroDoubleBits", type := .long, accessFlags := 26, slot := 6, constantValue := 0 }, { name := "twoToTheDoubleScaleUp", type := .double, accessFlags := 8, slot := 7, constantValue := 0 }, { name := "twoToTheDoubleScaleDown", type := .double, accessFlags := 8, slot := 8, constantValue := 0 }, { name := "$assertionsDisabled", type := .boolean, accessFlags := 4120, slot := 9, constantValue := 0 }]
  methods := #[k3m0, k3m1]
  instanceTypes := #[]
  staticTypes := #[.double, .double, .double, .double, .double, .long, .long, .double, .double, .boolean]
  resolved := Array.replicate 460 none
  statics := none }

def pool4 : Array CpInfo := pool [(1, .class_ 2), (0, u "java/io/Serializable"), (0, .class_ 4), (0, u "java/lang/Object")] 2

/-- java/io/Serializable -/
def k4 : Class := { plain "java/io/Serializable" (some 0) with
  accessFlags := 1537
  interfaces := #[]
  cf := some (fileOf pool4 1 #[] #[] 1537 3 #[] #[])
  fields := #[]
  methods := #[]
  instanceTypes := #[]
  staticTypes := #[]
  resolved := Array.replicate 7 none
  statics := none }

def pool5 : Array CpInfo := pool [(2, .class_ 4), (1, u "java/lang/Object"), (0, u "<init>"), (0, u "()V"), (1, .class_ 10), (1, u "java/lang/Number"), (2, .class_ 14), (0, u "java/io/Serializable"), (0, u "serialVersionUID"), (0, u "J")] 20

def k5m0 : Method := { name := "<init>", desc := "()V", sig := { parameters := [], returnType := none }, accessFlags := 1, code := none }
/-- java/lang/Number -/
def k5 : Class := { plain "java/lang/Number" (some 0) with
  accessFlags := 1057
  interfaces := #[4]
  cf := some (fileOf pool5 8 #[] #[{ accessFlags := 1, nameIndex := 5, descriptorIndex := 6, attributes := #[] }] 1057 2 #[13] #[{ accessFlags := 26, nameIndex := 15, descriptorIndex := 16, attributes := #[] }])
  fields := #[{ name := "serialVersionUID", type := .long, accessFlags := 26, slot := 0, constantValue := 0 }]
  methods := #[k5m0]
  instanceTypes := #[]
  staticTypes := #[.long]
  resolved := Array.replicate 37 none
  statics := none }

def pool6 : Array CpInfo := pool [(1, .class_ 2), (0, u "java/lang/Comparable"), (0, .class_ 4), (0, u "java/lang/Object")] 7

/-- java/lang/Comparable -/
def k6 : Class := { plain "java/lang/Comparable" (some 0) with
  accessFlags := 1537
  interfaces := #[]
  cf := some (fileOf pool6 1 #[] #[] 1537 3 #[] #[])
  fields := #[]
  methods := #[]
  instanceTypes := #[]
  staticTypes := #[]
  resolved := Array.replicate 12 none
  statics := none }

def pool7 : Array CpInfo := pool [(1, .class_ 2), (0, u "java/lang/constant/Constable"), (0, .class_ 4), (0, u "java/lang/Object")] 6

/-- java/lang/constant/Constable -/
def k7 : Class := { plain "java/lang/constant/Constable" (some 0) with
  accessFlags := 1537
  interfaces := #[]
  cf := some (fileOf pool7 1 #[] #[] 1537 3 #[] #[])
  fields := #[]
  methods := #[]
  instanceTypes := #[]
  staticTypes := #[]
  resolved := Array.replicate 11 none
  statics := none }

def pool8 : Array CpInfo := pool [(1, .class_ 2), (0, u "java/lang/constant/ConstantDesc"), (0, .class_ 4), (0, u "java/lang/Object")] 32

/-- java/lang/constant/ConstantDesc -/
def k8 : Class := { plain "java/lang/constant/ConstantDesc" (some 0) with
  accessFlags := 1537
  interfaces := #[]
  cf := some (fileOf pool8 1 #[] #[] 1537 3 #[] #[])
  fields := #[]
  methods := #[]
  instanceTypes := #[]
  staticTypes := #[]
  resolved := Array.replicate 37 none
  statics := none }

def pool9 : Array CpInfo := pool [(1, .class_ 2), (0, u "java/lang/Integer"), (16, u "digits"), (0, u "[C"), (30, .methodref 1 52), (0, .nameAndType 53 54), (0, u "numberOfLeadingZeros"), (0, u "(I)I"), (30, u "DigitOnes"), (0, u "[B"), (2, u "DigitTens"), (37, .integer 2147483648), (61, .class_ 190), (0, u "java/lang/Integer$IntegerCache"), (3, u "I"), (8, .class_ 204), (0, u "java/lang/Number"), (2, u "value"), (56, .integer 65536), (37, u "TYPE"), (0, u "Ljava/lang/Class;"), (0, .class_ 305), (0, u "java/lang/Comparable"), (0, .class_ 307), (0, u "java/lang/constant/Constable"), (0, .class_ 309), (0, u "java/lang/constant/ConstantDesc"), (0, u "MIN_VALUE"), (1, u "MAX_VALUE"), (3, u "SIZE"), (1, u "BYTES"), (1, u "serialVersionUID"), (0, u "J"), (81, u "highestOneBit")] 49

def k9c0 : Code := { maxStack := 3, maxLocals := 1, code := jdk_33_method_45_code, exceptionTable := #[], attributes := #[] }
def k9m0 : Method := { name := "highestOneBit", desc := "(I)I", sig := { parameters := [.int], returnType := some .int }, accessFlags := 9, code := some k9c0 }
def k9c1 : Code := { maxStack := 3, maxLocals := 2, code := jdk_33_method_47_code, exceptionTable := #[], attributes := #[] }
def k9m1 : Method := { name := "numberOfLeadingZeros", desc := "(I)I", sig := { parameters := [.int], returnType := some .int }, accessFlags := 9, code := some k9c1 }
/-- java/lang/Integer -/
def k9 : Class := { plain "java/lang/Integer" (some 5) with
  accessFlags := 49
  interfaces := #[6, 7, 8]
  cf := some (fileOf pool9 1 #[.nestMembers #[189]] #[{ accessFlags := 9, nameIndex := 403, descriptorIndex := 54, attributes := #[] }, { accessFlags := 9, nameIndex := 53, descriptorIndex := 54, attributes := #[] }] 49 203 #[304, 306, 308] #[{ accessFlags := 25, nameIndex := 310, descriptorIndex := 194, attributes := #[] }, { accessFlags := 25, nameIndex := 312, descriptorIndex := 194, attributes := #[] }, { accessFlags := 25, nameIndex := 302, descriptorIndex := 303, attributes := #[] }, { accessFlags := 24, nameIndex := 19, descriptorIndex := 20, attributes := #[] }, { accessFlags := 24, nameIndex := 89, descriptorIndex := 86, attributes := #[] }, { accessFlags := 24, nameIndex := 85, descriptorIndex := 86, attributes := #[] }, { accessFlags := 18, nameIndex := 207, descriptorIndex := 194, attributes := #[] }, { accessFlags := 25, nameIndex := 316, descriptorIndex := 194, attributes := #[] }, { accessFlags := 25, nameIndex := 318, descriptorIndex := 194, attributes := #[] }, { accessFlags := 26, nameIndex := 320, descriptorIndex := 321, attributes := #[] }])
  fields := #[{ name := "MIN_VALUE", type := .int, accessFlags := 25, slot := 0, constantValue := 0 }, { name := "MAX_VALUE", type := .int, accessFlags := 25, slot := 1, constantValue := 0 }, { name := "TYPE", type := (.object "java/lang/Class"), accessFlags := 25, slot := 2, constantValue := 0 }, { name := "digits", type := (.array .char), accessFlags := 24, slot := 3, constantValue := 0 }, { name := "DigitTens", type := (.array .byte), accessFlags := 24, slot := 4, constantValue := 0 }, { name := "DigitOnes", type := (.array .byte), accessFlags := 24, slot := 5, constantValue := 0 }, { name := "value", type := .int, accessFlags := 18, slot := 0, constantValue := 0 }, { name := "SIZE", type := .int, accessFlags := 25, slot := 6, constantValue := 0 }, { name := "BYTES", type := .int, accessFlags := 25, slot := 7, constantValue := 0 }, { name := "serialVersionUID", type := .long, accessFlags := 26, slot := 8, constantValue := 0 }]
  methods := #[k9m0, k9m1]
  instanceTypes := #[.int]
  staticTypes := #[.int, .int, (.object "java/lang/Class"), (.array .char), (.array .byte), (.array .byte), .int, .int, .long]
  resolved := Array.replicate 453 none
  statics := none }

def pool10 : Array CpInfo := pool [(1, u "java/lang/Cloneable"), (0, .class_ 1), (0, u "java/lang/Object"), (0, .class_ 3)] 3

/-- java/lang/Cloneable -/
def k10 : Class := { plain "java/lang/Cloneable" (some 0) with
  accessFlags := 1537
  interfaces := #[]
  cf := some (fileOf pool10 2 #[] #[] 1537 4 #[] #[])
  fields := #[]
  methods := #[]
  instanceTypes := #[]
  staticTypes := #[]
  resolved := Array.replicate 8 none
  statics := none }

/-- the primitive byte -/
def k11 : Class := { plain "byte" none with kind := .primitive 'B', accessFlags := 0x411 }
/-- [B -/
def k12 : Class := { plain "[B" (some 0) with kind := .array 11 .byte, interfaces := #[10, 4], accessFlags := 1041 }

/-- the primitive int -/
def k13 : Class := { plain "int" none with kind := .primitive 'I', accessFlags := 0x411 }
/-- [I -/
def k14 : Class := { plain "[I" (some 0) with kind := .array 13 .int, interfaces := #[10, 4], accessFlags := 1041 }

/-- the primitive long -/
def k15 : Class := { plain "long" none with kind := .primitive 'J', accessFlags := 0x411 }
/-- [J -/
def k16 : Class := { plain "[J" (some 0) with kind := .array 15 .long, interfaces := #[10, 4], accessFlags := 1041 }

def heap : Heap := #[]
def classes : Array Class := #[k0, k1, k2, k3, k4, k5, k6, k7, k8, k9, k10, k11, k12, k13, k14, k15, k16]
def interned : List (Array UInt16 × Addr) := []
def slotsUsed : Nat := 0
def theMethod : MethodId := ⟨1, 3⟩
def args0 : Array Value := #[.int 5, .long 3, .int 7, .long 2]
def aboutOver (below : List Frame) : State where
  vm := { classes := classes, interned := interned.toArray }
  heap := heap
  slotsUsed := slotsUsed
  threads := #[{ frames := .invoking theMethod args0 :: below }]
def below0 : List Frame := [.native { method := ⟨0, 0⟩, args := #[] }]
def about1 : State := aboutOver below0
def p0 : Program := .bare "" "" ""
def e0 : Env := launch0.env 0 0 0
theorem w_frames : about1.frames = Frame.invoking theMethod args0 :: below0 := rfl
set_option maxRecDepth 65536 in
theorem w_args : argsFit about1.vm theMethod args0 = true := by decide +kernel
set_option maxRecDepth 65536 in
theorem w_heap : heapFits about1 = true := by decide +kernel
set_option maxRecDepth 65536 in
theorem w_runnable : about1.curStatus? = some .runnable := by decide +kernel
set_option maxRecDepth 65536 in
theorem w_alone : about1.alone = true := by decide +kernel
set_option maxRecDepth 65536 in
theorem w_named : about1.methodNamed? x = some theMethod := by decide +kernel
set_option maxRecDepth 65536 in
theorem w_hears : about1.hears theMethod below0 = true := by decide +kernel
set_option maxRecDepth 65536 in
theorem w_ripe : about1.ripe theMethod args0 below0 = true := by decide +kernel
theorem w_running : about1.status = .running := rfl
set_option maxRecDepth 65536 in
theorem w_room : about1.hasRoom e0.platform room_1 = true :=
  launch0.hasRoom_least _ room_1 (by decide +kernel) (by decide +kernel) (by decide +kernel) (by decide +kernel) (by decide +kernel) (by decide +kernel)
theorem allAtoms_all (ts : List Jvm.Cond) (a : Array Jvm.Value) (st : Jvm.State) : (allAtoms ts).before a st = ts.all (fun c => c.before a st) := by
  induction ts with
  | nil => rfl
  | cons c t ih =>
    show (Jvm.Cond.and c (allAtoms t)).before a st = _
    rw [Jvm.Cond.before_and, ih, List.all_cons]
def words1 : List Jvm.Cond := Jvm.Cond.code x code maxLocals ret :: tables_1
/-- a 'code' word, met by the world's own term for the bytes: nothing is compared byte by byte -/
theorem code_word {y : MethodName} {bytes : ByteArray} {mx : Nat} {rt : Option FieldType} {a : Array Value} {s : State} {m : MethodId} {meth : Method} {c : Code} (h1 : s.methodNamed? y = some m) (h2 : s.vm.method? m = some meth) (h3 : meth.code = some c) (h4 : c.code = bytes)
    (h5 : (c.maxLocals == mx && c.exceptionTable.isEmpty && decide (c.maxStack ≤ mostOperands) && decide (meth.sig.returnType = rt) && !meth.locks && decide (parseMethodDescriptor y.desc = some meth.sig)) = true) : (Jvm.Cond.code y bytes mx rt).before a s = true := by
  simp only [Bool.and_eq_true, beq_iff_eq, Bool.not_eq_true', decide_eq_true_eq] at h5
  obtain ⟨⟨⟨⟨⟨g1, g2⟩, g3⟩, g4⟩, g5⟩, g6⟩ := h5
  simp [Cond.before, Cond.holds, Cond.value, h1, h2, h3, h4, g1, g2, g3, g4, g5, g6]
def isCode : Jvm.Cond → Bool
  | .code _ _ _ _ => true
  | _ => false
theorem all_split {L : List Jvm.Cond} {P : Jvm.Cond → Bool} (h1 : L.all (fun c => isCode c || P c) = true) (h2 : ∀ c ∈ L.filter isCode, P c = true) : L.all P = true := by
  refine List.all_eq_true.mpr fun c hc => ?_
  have h := List.all_eq_true.mp h1 c hc
  rcases Bool.eq_false_or_eq_true (isCode c) with hi | hi
  · exact h2 c (List.mem_filter.mpr ⟨hc, hi⟩)
  · simpa [hi] using h
set_option maxRecDepth 65536 in
theorem w_c0 : (Jvm.Cond.code x code maxLocals ret).before args0 about1 = true := code_word (m := ⟨1, 3⟩) (meth := k1m3) (c := k1c3) (by decide +kernel) rfl rfl rfl (by decide +kernel)
set_option maxRecDepth 65536 in
theorem w_c1 : (Jvm.Cond.code ({ cls := "com/example/mutableau/mutableau/formula/BindingReferences", name := "<init>", desc := "(I)V" } : Jvm.MethodName) prog_152_method_1_code (2 : Nat) (Option.none : Option Jvm.ClassFile.FieldType)).before args0 about1 = true := code_word (m := ⟨2, 0⟩) (meth := k2m0) (c := k2c0) (by decide +kernel) rfl rfl rfl (by decide +kernel)
set_option maxRecDepth 65536 in
theorem w_c2 : (Jvm.Cond.code ({ cls := "java/lang/Object", name := "<init>", desc := "()V" } : Jvm.MethodName) object_method_1_code (1 : Nat) (Option.none : Option Jvm.ClassFile.FieldType)).before args0 about1 = true := code_word (m := ⟨0, 0⟩) (meth := k0m0) (c := k0c0) (by decide +kernel) rfl rfl rfl (by decide +kernel)
set_option maxRecDepth 65536 in
theorem w_c3 : (Jvm.Cond.code ({ cls := "java/lang/Math", name := "max", desc := "(II)I" } : Jvm.MethodName) jdk_29_method_65_code (2 : Nat) (Option.some Jvm.ClassFile.FieldType.int)).before args0 about1 = true := code_word (m := ⟨3, 1⟩) (meth := k3m1) (c := k3c1) (by decide +kernel) rfl rfl rfl (by decide +kernel)
set_option maxRecDepth 65536 in
theorem w_c4 : (Jvm.Cond.code ({ cls := "java/lang/Integer", name := "highestOneBit", desc := "(I)I" } : Jvm.MethodName) jdk_33_method_45_code (1 : Nat) (Option.some Jvm.ClassFile.FieldType.int)).before args0 about1 = true := code_word (m := ⟨9, 0⟩) (meth := k9m0) (c := k9c0) (by decide +kernel) rfl rfl rfl (by decide +kernel)
set_option maxRecDepth 65536 in
theorem w_c5 : (Jvm.Cond.code ({ cls := "java/lang/Integer", name := "numberOfLeadingZeros", desc := "(I)I" } : Jvm.MethodName) jdk_33_method_47_code (2 : Nat) (Option.some Jvm.ClassFile.FieldType.int)).before args0 about1 = true := code_word (m := ⟨9, 1⟩) (meth := k9m1) (c := k9c1) (by decide +kernel) rfl rfl rfl (by decide +kernel)
set_option maxRecDepth 65536 in
theorem w_c6 : (Jvm.Cond.code ({ cls := "com/example/mutableau/mutableau/formula/BindingReferencesInnermostSincePinLaw", name := "step", desc := "(Lcom/example/mutableau/mutableau/formula/BindingReferences;[JJIII)V" } : Jvm.MethodName) method_2_code (8 : Nat) (Option.none : Option Jvm.ClassFile.FieldType)).before args0 about1 = true := code_word (m := ⟨1, 1⟩) (meth := k1m1) (c := k1c1) (by decide +kernel) rfl rfl rfl (by decide +kernel)
set_option maxRecDepth 65536 in
theorem w_c7 : (Jvm.Cond.code ({ cls := "com/example/mutableau/mutableau/formula/BindingReferencesInnermostSincePinLaw", name := "expect", desc := "([JIJ)I" } : Jvm.MethodName) method_3_code (4 : Nat) (Option.some Jvm.ClassFile.FieldType.int)).before args0 about1 = true := code_word (m := ⟨1, 2⟩) (meth := k1m2) (c := k1c2) (by decide +kernel) rfl rfl rfl (by decide +kernel)
set_option maxRecDepth 65536 in
theorem w_c8 : (Jvm.Cond.code ({ cls := "com/example/mutableau/mutableau/formula/BindingReferences", name := "innermostSince", desc := "(IJ)I" } : Jvm.MethodName) prog_152_method_4_code (6 : Nat) (Option.some Jvm.ClassFile.FieldType.int)).before args0 about1 = true := code_word (m := ⟨2, 2⟩) (meth := k2m2) (c := k2c2) (by decide +kernel) rfl rfl rfl (by decide +kernel)
set_option maxRecDepth 65536 in
theorem w_c9 : (Jvm.Cond.code ({ cls := "com/example/mutableau/mutableau/formula/BindingReferences", name := "refer", desc := "(I)V" } : Jvm.MethodName) prog_152_method_3_code (5 : Nat) (Option.none : Option Jvm.ClassFile.FieldType)).before args0 about1 = true := code_word (m := ⟨2, 1⟩) (meth := k2m1) (c := k2c1) (by decide +kernel) rfl rfl rfl (by decide +kernel)
def codes1 : List Jvm.Cond := [Jvm.Cond.code x code maxLocals ret, Jvm.Cond.code ({ cls := "com/example/mutableau/mutableau/formula/BindingReferences", name := "<init>", desc := "(I)V" } : Jvm.MethodName) prog_152_method_1_code (2 : Nat) (Option.none : Option Jvm.ClassFile.FieldType), Jvm.Cond.code ({ cls := "java/lang/Object", name := "<init>", desc := "()V" } : Jvm.MethodName) object_method_1_code (1 : Nat) (Option.none : Option Jvm.ClassFile.FieldType), Jvm.Cond.code ({ cls := "java/lang/Math", name := "max", desc := "(II)I" } : Jvm.MethodName) jdk_29_method_65_code (2 : Nat) (Option.some Jvm.ClassFile.FieldType.int), Jvm.Cond.code ({ cls := "java/lang/Integer", name := "highestOneBit", desc := "(I)I" } : Jvm.MethodName) jdk_33_method_45_code (1 : Nat) (Option.some Jvm.ClassFile.FieldType.int), Jvm.Cond.code ({ cls := "java/lang/Integer", name := "numberOfLeadingZeros", desc := "(I)I" } : Jvm.MethodName) jdk_33_method_47_code (2 : Nat) (Option.some Jvm.ClassFile.FieldType.int), Jvm.Cond.code ({ cls := "com/example/mutableau/mutableau/formula/BindingReferencesInnermostSincePinLaw", name := "step", desc := "(Lcom/example/mutableau/mutableau/formula/BindingReferences;[JJIII)V" } : Jvm.MethodName) method_2_code (8 : Nat) (Option.none : Option Jvm.ClassFile.FieldType), Jvm.Cond.code ({ cls := "com/example/mutableau/mutableau/formula/BindingReferencesInnermostSincePinLaw", name := "expect", desc := "([JIJ)I" } : Jvm.MethodName) method_3_code (4 : Nat) (Option.some Jvm.ClassFile.FieldType.int), Jvm.Cond.code ({ cls := "com/example/mutableau/mutableau/formula/BindingReferences", name := "innermostSince", desc := "(IJ)I" } : Jvm.MethodName) prog_152_method_4_code (6 : Nat) (Option.some Jvm.ClassFile.FieldType.int), Jvm.Cond.code ({ cls := "com/example/mutableau/mutableau/formula/BindingReferences", name := "refer", desc := "(I)V" } : Jvm.MethodName) prog_152_method_3_code (5 : Nat) (Option.none : Option Jvm.ClassFile.FieldType)]
set_option maxRecDepth 65536 in
theorem codes_eq : words1.filter isCode = codes1 := rfl
theorem w_codes : ∀ c ∈ words1.filter isCode, c.before args0 about1 = true := by
  rw [codes_eq]
  intro c hc
  simp only [codes1, List.mem_cons, List.not_mem_nil, or_false] at hc
  rcases hc with rfl | rfl | rfl | rfl | rfl | rfl | rfl | rfl | rfl | rfl
  · exact w_c0
  · exact w_c1
  · exact w_c2
  · exact w_c3
  · exact w_c4
  · exact w_c5
  · exact w_c6
  · exact w_c7
  · exact w_c8
  · exact w_c9
set_option maxRecDepth 65536 in
theorem w_t1 : (words1.take 24).all (fun c => isCode c || c.before args0 about1) = true := by decide +kernel
set_option maxRecDepth 65536 in
theorem w_t2 : (words1.drop 24).all (fun c => isCode c || c.before args0 about1) = true := by decide +kernel
theorem w_tables : (allAtoms (Jvm.Cond.code x code maxLocals ret :: tables_1)).before args0 about1 = true := by
  rw [allAtoms_all]
  show words1.all (fun c => c.before args0 about1) = true
  refine all_split ?_ w_codes
  rw [← List.take_append_drop 24 words1, List.all_append, w_t1, w_t2]
  rfl
set_option maxRecDepth 65536 in
theorem w_case : (Jvm.Cond.and given_1 narrow_1).before args0 about1 = true := by decide +kernel
theorem w_applies : (headSpec (Jvm.Cond.code x code maxLocals ret :: tables_1) room_1).applies x e0.platform about1 = true :=
  (Spec.applies_iff w_frames).mpr ⟨w_running, w_runnable, w_alone, w_named, w_hears, w_ripe, w_room, w_tables⟩
theorem atStart : AtStart classFile x code maxLocals ret World_1 tables_1 room_1 Calls_1 rest_1 Pre_1 launch0 p0 e0 about1 theMethod args0 below0 :=
  ⟨lists_1, trivial, launch0.admits_env _ _ _, launch0.least_env, fairChoices_fair.cas, fairChoices_fair.clock, w_frames, w_args, w_heap, w_applies, trivial, trivial, w_case⟩
end start1
theorem witness_1 : WitnessClaimed_1 := ⟨start1.p0, start1.e0, start1.about1, start1.theMethod, start1.args0, start1.below0, start1.atStart⟩
end Jvm.Pilot.@@N@@
