import JvmDerived
import JvmDerived.Pilot.@@N@@Statement
import JvmDerived.Pilot.@@N@@Code
set_option linter.unusedVariables false
set_option linter.unusedSimpArgs false
namespace Jvm.RoadKit
open Sem ClassFile Op Lib Jvm.Stand Jvm.Free Jvm.LawKit
section New
variable {p : Program} {l : Launch} {e : Env} {R : Room} {s : State} {m : MethodId} {args : Array Value} {below : List Frame} {meth : Method} {c : Code} {T : State} {locs : List Loc} {cells slots : Nat}
theorem retI (X : Stand p l e R s m args below meth c T locs cells slots) (hx : p.tables.exec = Jvm.exec) {pc : Nat} {Ls : Array Slot} {z : Int32} {rest : List Value} (hret : meth.sig.returnType = some .int) (hd : decode c.code pc = .ok (.ireturn, 1)) {fs : List Frame}
    (hl : ∀ (f : JFrame) (acts : List Action), f.method = m → f.locked = none → f.entered = [] → (doReturn e (T.setTop f) acts (some (.int z))).1 = T.setFrames fs) : Steps p.tables e below (T.setTop (mkF m pc Ls (.int z :: rest))) (T.setFrames fs) := by
  have hm' : T.vm.method? m = some meth := X.method'
  have hn : narrow .int (.int z) = .int z := rfl
  show Steps p.tables e below (T.setTop { method := m, pc := pc, locals := Ls, stack := _ :: rest, locked := none }) _
  jvm_step X.here [X.here.top, hx, hd, hm', hret, hn]
  first | (intro acts; rw [hl _ acts rfl rfl rfl]) | rw [hl _ _ rfl rfl rfl]
  exact Steps.refl _
end New
end Jvm.RoadKit
namespace Jvm.Pilot.@@N@@
open Jvm Jvm.ClassFile Sem Op Lib Jvm.Free Jvm.Stand Jvm.LawKit Jvm.RoadKit Bundle Jvm.Pilot.@@N@@.Jvm.D
/-! the plain law: the tree of times, no program in sight -/
def own_upd (f : Nat → Int64) (i : Nat) (v : Int64) : Nat → Int64 := fun j => if j = i then v else f j
def own_path (v : Int64) : Nat → Nat → (Nat → Int64) → (Nat → Int64)
  | 0, _, f => f
  | k + 1, i, f => if i = 0 then f else own_path v k (i / 2) (own_upd f i v)
def own_tree (q : Nat) (f : Nat → Int64) : Prop := ∀ i, 1 ≤ i → i < q → ∀ s : Int64, s < f i ↔ (s < f (2 * i) ∨ s < f (2 * i + 1))
def own_on (i j : Nat) : Prop := ∃ n, i / 2 ^ n = j
theorem own_path0 (v : Int64) (k : Nat) (f : Nat → Int64) : own_path v k 0 f = f := by cases k <;> simp [own_path]
theorem own_pathS (v : Int64) (k i : Nat) (f : Nat → Int64) (h : i ≠ 0) : own_path v (k + 1) i f = own_path v k (i / 2) (own_upd f i v) := by simp [own_path, h]
theorem own_upd_hit (f : Nat → Int64) (i : Nat) (v : Int64) : own_upd f i v i = v := if_pos rfl
theorem own_upd_miss (f : Nat → Int64) {i j : Nat} (v : Int64) (h : j ≠ i) : own_upd f i v j = f j := if_neg h
theorem own_div1 (i n : Nat) : i / 2 ^ (n + 1) = i / 2 / 2 ^ n := by rw [Nat.pow_succ, Nat.mul_comm, Nat.div_div_eq_div_mul]
theorem own_div2 (i n : Nat) : i / 2 ^ (n + 1) = i / 2 ^ n / 2 := by rw [Nat.pow_succ, Nat.div_div_eq_div_mul]
theorem own_path_at (v : Int64) : ∀ (k i : Nat) (f : Nat → Int64) (j : Nat), i ≤ k → 1 ≤ j → (own_on i j → own_path v k i f j = v) ∧ (¬ own_on i j → own_path v k i f j = f j) := by
  intro k
  induction k with
  | zero =>
    intro i f j hi hj
    have h0 : i = 0 := by omega
    subst h0
    refine ⟨?_, fun _ => rfl⟩
    rintro ⟨n, hn⟩
    rw [Nat.zero_div] at hn
    omega
  | succ k ih =>
    intro i f j hi hj
    by_cases h0 : i = 0
    · subst h0
      rw [own_path0]
      refine ⟨?_, fun _ => rfl⟩
      rintro ⟨n, hn⟩
      rw [Nat.zero_div] at hn
      omega
    · rw [own_pathS v k i f h0]
      obtain ⟨a, b⟩ := ih (i / 2) (own_upd f i v) j (by omega) hj
      by_cases hon : own_on (i / 2) j
      · refine ⟨fun _ => a hon, fun hn => absurd ?_ hn⟩
        obtain ⟨n, hn⟩ := hon
        exact ⟨n + 1, by rw [own_div1]; exact hn⟩
      · rw [b hon]
        by_cases hj' : j = i
        · subst hj'
          exact ⟨fun _ => own_upd_hit _ _ _, fun hn => absurd ⟨0, by rw [Nat.pow_zero, Nat.div_one]⟩ hn⟩
        · refine ⟨?_, fun _ => own_upd_miss _ _ hj'⟩
          rintro ⟨n, hn⟩
          cases n with
          | zero => rw [Nat.pow_zero, Nat.div_one] at hn; omega
          | succ n => rw [own_div1] at hn; exact absurd ⟨n, hn⟩ hon
theorem own_top {q : Nat} {f : Nat → Int64} (h : own_tree q f) : ∀ c, 1 ≤ c → c < 2 * q → ¬ f 1 < f c := by
  intro c
  induction c using Nat.strongRecOn with
  | ind c ih =>
    intro h1 h2
    by_cases hc : c = 1
    · subst hc; rw [Int64.lt_iff_toInt_lt]; omega
    · have i1 := ih (c / 2) (by omega) (by omega) (by omega)
      have t := h (c / 2) (by omega) (by omega) (f (c / 2))
      have n0 : ¬ f (c / 2) < f (c / 2) := by rw [Int64.lt_iff_toInt_lt]; omega
      have n1 : ¬ f (c / 2) < f c := by
        intro q1
        apply n0
        rw [t]
        rcases Nat.mod_two_eq_zero_or_one c with hm | hm
        · left; rw [show 2 * (c / 2) = c by omega]; exact q1
        · right; rw [show 2 * (c / 2) + 1 = c by omega]; exact q1
      rw [Int64.lt_iff_toInt_lt] at *
      omega
theorem own_on_one : ∀ i, 1 ≤ i → own_on i 1 := by
  intro i
  induction i using Nat.strongRecOn with
  | ind i ih =>
    intro h1
    by_cases hc : i = 1
    · exact ⟨0, by rw [Nat.pow_zero, Nat.div_one]; exact hc⟩
    · obtain ⟨n, hn⟩ := ih (i / 2) (by omega) (by omega)
      exact ⟨n + 1, by rw [own_div1]; exact hn⟩
theorem own_refer {q d : Nat} {f : Nat → Int64} {v : Int64} (ht : own_tree q f) (hv : f 1 < v) (hd : d < q) :
    own_tree q (own_path v (q + d) (q + d) f) ∧ own_path v (q + d) (q + d) f 1 = v ∧ ∀ e, e < q → own_path v (q + d) (q + d) f (q + e) = if e = d then v else f (q + e) := by
  have A := fun j hj => own_path_at v (q + d) (q + d) f j (Nat.le_refl _) hj
  have hle : ∀ c, 1 ≤ c → c < 2 * q → ¬ v < own_path v (q + d) (q + d) f c := by
    intro c h1 h2
    by_cases hon : own_on (q + d) c
    · rw [(A c h1).1 hon, Int64.lt_iff_toInt_lt]; omega
    · rw [(A c h1).2 hon]
      have := own_top ht c h1 h2
      rw [Int64.lt_iff_toInt_lt] at *
      omega
  refine ⟨?_, (A 1 (Nat.le_refl _)).1 (own_on_one _ (by omega)), ?_⟩
  · intro j h1 h2 s
    by_cases hj : own_on (q + d) j
    · rw [(A j h1).1 hj]
      obtain ⟨n, hn⟩ := hj
      cases n with
      | zero => rw [Nat.pow_zero, Nat.div_one] at hn; omega
      | succ n =>
        rw [own_div2] at hn
        have l0 := hle (2 * j) (by omega) (by omega)
        have l1 := hle (2 * j + 1) (by omega) (by omega)
        constructor
        · intro hs
          have hcase : (q + d) / 2 ^ n = 2 * j ∨ (q + d) / 2 ^ n = 2 * j + 1 := by omega
          rcases hcase with hcase | hcase
          · left; rw [(A (2 * j) (by omega)).1 ⟨n, hcase⟩]; exact hs
          · right; rw [(A (2 * j + 1) (by omega)).1 ⟨n, hcase⟩]; exact hs
        · intro hs
          rw [Int64.lt_iff_toInt_lt] at *
          rw [Int64.lt_iff_toInt_lt] at hs
          omega
    · have m0 : ¬ own_on (q + d) (2 * j) := by
        rintro ⟨n, hn⟩
        exact hj ⟨n + 1, by rw [own_div2, hn]; omega⟩
      have m1 : ¬ own_on (q + d) (2 * j + 1) := by
        rintro ⟨n, hn⟩
        exact hj ⟨n + 1, by rw [own_div2, hn]; omega⟩
      rw [(A j h1).2 hj, (A (2 * j) (by omega)).2 m0, (A (2 * j + 1) (by omega)).2 m1]
      exact ht j h1 h2 s
  · intro e he
    by_cases hed : e = d
    · rw [if_pos hed, hed]
      exact (A (q + d) (by omega)).1 ⟨0, by rw [Nat.pow_zero, Nat.div_one]⟩
    · rw [if_neg hed]
      refine (A (q + e) (by omega)).2 ?_
      rintro ⟨n, hn⟩
      cases n with
      | zero => rw [Nat.pow_zero, Nat.div_one] at hn; omega
      | succ n =>
        rw [own_div1] at hn
        have := Nat.div_le_self ((q + d) / 2) (2 ^ n)
        omega
def own_odd : Nat → Nat → Nat
  | 0, n => n
  | k + 1, n => if n % 2 = 0 then own_odd k (n / 2) else n
def own_out (f : Nat → Int64) (s : Int64) : Nat → Nat → Nat
  | 0, n => n
  | k + 1, n => if n = 0 then 0 else if s < f n then n else own_out f s k (own_odd n n - 1)
def own_dn (f : Nat → Int64) (s : Int64) (q : Nat) : Nat → Nat → Nat
  | 0, n => n
  | k + 1, n => if n < q then own_dn f s q k (if s < f (2 * n + 1) then 2 * n + 1 else 2 * n) else n
theorem own_oddE {k n : Nat} (h : n % 2 = 0) : own_odd (k + 1) n = own_odd k (n / 2) := by simp [own_odd, h]
theorem own_oddO {k n : Nat} (h : ¬ n % 2 = 0) : own_odd (k + 1) n = n := by simp [own_odd, h]
theorem own_out0 {f : Nat → Int64} {s : Int64} {k : Nat} : own_out f s k 0 = 0 := by cases k <;> simp [own_out]
theorem own_outY {f : Nat → Int64} {s : Int64} {k n : Nat} (h0 : n ≠ 0) (h : s < f n) : own_out f s (k + 1) n = n := by simp [own_out, h0, h]
theorem own_outN {f : Nat → Int64} {s : Int64} {k n : Nat} (h0 : n ≠ 0) (h : ¬ s < f n) : own_out f s (k + 1) n = own_out f s k (own_odd n n - 1) := by simp [own_out, h0, h]
theorem own_dnR {f : Nat → Int64} {s : Int64} {q k n : Nat} (h0 : n < q) (h : s < f (2 * n + 1)) : own_dn f s q (k + 1) n = own_dn f s q k (2 * n + 1) := by simp [own_dn, h0, h]
theorem own_dnL {f : Nat → Int64} {s : Int64} {q k n : Nat} (h0 : n < q) (h : ¬ s < f (2 * n + 1)) : own_dn f s q (k + 1) n = own_dn f s q k (2 * n) := by simp [own_dn, h0, h]
theorem own_dnE {f : Nat → Int64} {s : Int64} {q k n : Nat} (h0 : ¬ n < q) : own_dn f s q k n = n := by cases k <;> simp [own_dn, h0]
theorem own_e1 (n k : Nat) : n * 2 ^ (k + 1) = (2 * n) * 2 ^ k := by rw [Nat.pow_succ, Nat.mul_comm 2 n, Nat.mul_assoc, Nat.mul_comm 2]
theorem own_sub {q : Nat} {f : Nat → Int64} (ht : own_tree q f) (s : Int64) : ∀ k n, 1 ≤ n → (n + 1) * 2 ^ k ≤ 2 * q → (¬ s < f n) → ∀ l, n * 2 ^ k ≤ l → l < (n + 1) * 2 ^ k → ¬ s < f l := by
  intro k
  induction k with
  | zero =>
    intro n h1 h2 h3 l h4 h5
    rw [Nat.pow_zero, Nat.mul_one] at h4 h5
    rw [show l = n by omega]
    exact h3
  | succ k ih =>
    intro n h1 h2 h3 l h4 h5
    rw [own_e1] at h2 h4 h5
    have hp : 1 ≤ 2 ^ k := Nat.one_le_two_pow
    have hq : n + 1 ≤ q := by
      have := Nat.le_mul_of_pos_right (2 * (n + 1)) hp
      omega
    rw [ht n h1 (by omega) s, not_or] at h3
    by_cases hl : l < (2 * n + 1) * 2 ^ k
    · refine ih (2 * n) (by omega) ?_ h3.1 l h4 hl
      have : (2 * n + 1) * 2 ^ k ≤ (2 * (n + 1)) * 2 ^ k := Nat.mul_le_mul_right _ (by omega)
      omega
    · exact ih (2 * n + 1) (by omega) h2 h3.2 l (by omega) h5
theorem own_odd_spec : ∀ k n h j, n ≤ k → 1 ≤ n → 2 ^ h ≤ n → n < 2 ^ (h + 1) → ∃ h' j', h' + j' = h + j ∧ 2 ^ h' ≤ own_odd k n ∧ own_odd k n < 2 ^ (h' + 1) ∧ own_odd k n % 2 = 1 ∧ own_odd k n * 2 ^ j' = n * 2 ^ j ∧ own_odd k n ≤ n := by
  intro k
  induction k with
  | zero => intro n h j h1 h2; omega
  | succ k ih =>
    intro n h j h1 h2 h3 h4
    by_cases hm : n % 2 = 0
    · rw [own_oddE hm]
      cases h with
      | zero => rw [Nat.zero_add, Nat.pow_one] at h4; omega
      | succ h =>
        rw [Nat.pow_succ] at h3 h4
        rw [Nat.pow_succ] at h4
        obtain ⟨h', j', e1, e2, e3, e4, e5, e6⟩ := ih (n / 2) h (j + 1) (by omega) (by omega) (by omega) (by rw [Nat.pow_succ]; omega)
        refine ⟨h', j', by omega, e2, e3, e4, ?_, by omega⟩
        rw [e5, own_e1, show 2 * (n / 2) = n by omega]
    · rw [own_oddO hm]
      exact ⟨h, j, rfl, h3, h4, by omega, rfl, Nat.le_refl _⟩
def own_inv (p b : Nat) (f : Nat → Int64) (s : Int64) (n : Nat) : Prop := ∃ h j, h + j = p ∧ 2 ^ h ≤ n ∧ n < 2 ^ (h + 1) ∧ (n + 1) * 2 ^ j ≤ 2 ^ p + b ∧ ∀ l, (n + 1) * 2 ^ j ≤ l → l < 2 ^ p + b → ¬ s < f l
theorem own_out_spec {p b : Nat} {f : Nat → Int64} {s : Int64} (ht : own_tree (2 ^ p) f) (hb : b ≤ 2 ^ p) : ∀ k n, n ≤ k → (n = 0 → ∀ l, 2 ^ p ≤ l → l < 2 ^ p + b → ¬ s < f l) → (n ≠ 0 → own_inv p b f s n) →
    (own_out f s k n = 0 ∧ ∀ l, 2 ^ p ≤ l → l < 2 ^ p + b → ¬ s < f l) ∨ (own_out f s k n ≠ 0 ∧ s < f (own_out f s k n) ∧ own_inv p b f s (own_out f s k n)) := by
  intro k
  induction k with
  | zero =>
    intro n h0 h1 h2
    rw [show n = 0 by omega, own_out0]
    exact Or.inl ⟨rfl, h1 (by omega)⟩
  | succ k ih =>
    intro n h0 h1 h2
    by_cases hn : n = 0
    · subst hn
      rw [own_out0]
      exact Or.inl ⟨rfl, h1 rfl⟩
    · by_cases hs : s < f n
      · rw [own_outY hn hs]
        exact Or.inr ⟨hn, hs, h2 hn⟩
      · rw [own_outN hn hs]
        obtain ⟨h, j, e1, e2, e3, e4, e5⟩ := h2 hn
        obtain ⟨h', j', o1, o2, o3, o4, o5, o6⟩ := own_odd_spec n n h j (Nat.le_refl _) (by omega) e2 e3
        have all : ∀ l, n * 2 ^ j ≤ l → l < 2 ^ p + b → ¬ s < f l := by
          intro l l1 l2
          by_cases hl : l < (n + 1) * 2 ^ j
          · exact own_sub ht s j n (by omega) (by omega) hs l l1 hl
          · exact e5 l (by omega) l2
        rw [← o5] at all
        have hend : own_odd n n * 2 ^ j' ≤ 2 ^ p + b := by
          rw [o5]
          have : n * 2 ^ j ≤ (n + 1) * 2 ^ j := Nat.mul_le_mul_right _ (by omega)
          omega
        generalize own_odd n n = o at *
        refine ih (o - 1) (by omega) ?_ ?_
        · intro ho l l1 l2
          have ho1 : o = 1 := by omega
          subst ho1
          cases h' with
          | zero => rw [Nat.zero_add] at o1; rw [o1, e1, Nat.one_mul] at all; exact all l l1 l2
          | succ h' =>
            rw [Nat.pow_succ] at o2
            have := Nat.one_le_two_pow (n := h')
            omega
        · intro ho
          cases h' with
          | zero => rw [Nat.zero_add, Nat.pow_one] at o3; omega
          | succ h' =>
            refine ⟨h' + 1, j', by omega, ?_, by omega, ?_, ?_⟩
            · rw [Nat.pow_succ] at o2 ⊢; omega
            · rw [show o - 1 + 1 = o by omega]; exact hend
            · rw [show o - 1 + 1 = o by omega]; exact all
theorem own_dn_spec {p b : Nat} {f : Nat → Int64} {s : Int64} (ht : own_tree (2 ^ p) f) (hb : b ≤ 2 ^ p) : ∀ k n, 2 ^ p ≤ n + k → own_inv p b f s n → s < f n →
    2 ^ p ≤ own_dn f s (2 ^ p) k n ∧ own_dn f s (2 ^ p) k n < 2 ^ p + b ∧ s < f (own_dn f s (2 ^ p) k n) ∧ ∀ l, own_dn f s (2 ^ p) k n < l → l < 2 ^ p + b → ¬ s < f l := by
  intro k
  induction k with
  | zero =>
    intro n h0 h1 h2
    rw [own_dnE (by omega)]
    obtain ⟨h, j, e1, e2, e3, e4, e5⟩ := h1
    cases j with
    | zero =>
      rw [Nat.pow_zero, Nat.mul_one] at e4 e5
      exact ⟨by omega, by omega, h2, fun l l1 l2 => e5 l (by omega) l2⟩
    | succ j =>
      have : 2 ^ (h + 1) ≤ 2 ^ p := Nat.pow_le_pow_right (by omega) (by omega)
      omega
  | succ k ih =>
    intro n h0 h1 h2
    by_cases hn : n < 2 ^ p
    · obtain ⟨h, j, e1, e2, e3, e4, e5⟩ := h1
      have hn1 : 1 ≤ n := Nat.le_trans Nat.one_le_two_pow e2
      cases j with
      | zero => rw [Nat.add_zero] at e1; rw [e1] at e2; omega
      | succ j =>
        rw [own_e1] at e4 e5
        have a1 : 2 ^ (h + 1) ≤ 2 * n := by rw [Nat.pow_succ]; omega
        have a2 : 2 * n + 1 < 2 ^ (h + 1 + 1) := by rw [Nat.pow_succ]; omega
        by_cases hr : s < f (2 * n + 1)
        · rw [own_dnR hn hr]
          exact ih (2 * n + 1) (by omega) ⟨h + 1, j, by omega, by omega, a2, e4, e5⟩ hr
        · rw [own_dnL hn hr]
          have hl : s < f (2 * n) := ((ht n hn1 hn s).mp h2).resolve_right hr
          have le : (2 * n + 1) * 2 ^ j ≤ (2 * (n + 1)) * 2 ^ j := Nat.mul_le_mul_right _ (by omega)
          refine ih (2 * n) (by omega) ⟨h + 1, j, by omega, a1, by omega, by omega, ?_⟩ hl
          intro l l1 l2
          by_cases hll : l < (2 * (n + 1)) * 2 ^ j
          · exact own_sub ht s j (2 * n + 1) (by omega) (show (2 * (n + 1)) * 2 ^ j ≤ 2 * 2 ^ p by omega) hr l l1 hll
          · exact e5 l (by omega) l2
    · rw [own_dnE hn]
      obtain ⟨h, j, e1, e2, e3, e4, e5⟩ := h1
      cases j with
      | zero =>
        rw [Nat.pow_zero, Nat.mul_one] at e4 e5
        exact ⟨by omega, by omega, h2, fun l l1 l2 => e5 l (by omega) l2⟩
      | succ j =>
        have : 2 ^ (h + 1) ≤ 2 ^ p := Nat.pow_le_pow_right (by omega) (by omega)
        omega
def own_spec (F : Nat → Int64) (b : Nat) (s : Int64) (r : Int) : Prop := (r = -1 ∧ ∀ d, d < b → ¬ s < F d) ∨ ∃ d, d < b ∧ r = (d : Int) ∧ s < F d ∧ ∀ e, d < e → e < b → ¬ s < F e
theorem own_spec_uniq {F : Nat → Int64} {b : Nat} {s : Int64} {r r' : Int} (h : own_spec F b s r) (h' : own_spec F b s r') : r = r' := by
  rcases h with ⟨e, a⟩ | ⟨d, d1, d2, d3, d4⟩ <;> rcases h' with ⟨e', a'⟩ | ⟨d', d1', d2', d3', d4'⟩
  · omega
  · exact absurd d3' (a d' d1')
  · exact absurd d3 (a' d d1)
  · by_cases h1 : d < d'
    · exact absurd d3' (d4 d' h1 d1')
    · by_cases h2 : d' < d
      · exact absurd d3 (d4' d h2 d1)
      · omega
theorem own_spec_congr {F G : Nat → Int64} {b : Nat} {s : Int64} {r : Int} (e : ∀ d, d < b → F d = G d) (h : own_spec F b s r) : own_spec G b s r := by
  rcases h with ⟨h1, a⟩ | ⟨d, d1, d2, d3, d4⟩
  · exact Or.inl ⟨h1, fun d hd => by rw [← e d hd]; exact a d hd⟩
  · exact Or.inr ⟨d, d1, d2, by rw [← e d d1]; exact d3, fun x hx hb => by rw [← e x hb]; exact d4 x hx hb⟩
/-- the node at which the first loop stops, and the leaf at which the second does -/
def own_n1 (p : Nat) (f : Nat → Int64) (s : Int64) (b : Nat) : Nat := own_out f s (2 ^ p + b - 1) (2 ^ p + b - 1)
def own_n2 (p : Nat) (f : Nat → Int64) (s : Int64) (b : Nat) : Nat := own_dn f s (2 ^ p) (2 ^ p) (own_n1 p f s b)
theorem own_inner {p b : Nat} {f : Nat → Int64} {s : Int64} (ht : own_tree (2 ^ p) f) (hb : b ≤ 2 ^ p) (h1 : 1 ≤ b) :
    (own_n1 p f s b = 0 → own_spec (fun d => f (2 ^ p + d)) b s (-1)) ∧ (own_n1 p f s b ≠ 0 → 2 ^ p ≤ own_n2 p f s b ∧ own_n2 p f s b < 2 ^ p + b ∧ own_spec (fun d => f (2 ^ p + d)) b s ((own_n2 p f s b : Int) - (2 ^ p : Nat))) := by
  have hp : 1 ≤ 2 ^ p := Nat.one_le_two_pow
  have o := own_out_spec (s := s) ht hb (2 ^ p + b - 1) (2 ^ p + b - 1) (Nat.le_refl _) (fun h => by omega) (fun _ => ⟨p, 0, rfl, by omega, by rw [Nat.pow_succ]; omega, by rw [Nat.pow_zero]; omega, fun l l1 l2 => by rw [Nat.pow_zero] at l1; omega⟩)
  have own : own_out f s (2 ^ p + b - 1) (2 ^ p + b - 1) = own_n1 p f s b := rfl
  rw [own] at o
  refine ⟨fun h => ?_, fun h => ?_⟩
  · rcases o with ⟨-, a⟩ | ⟨a, -⟩
    · exact Or.inl ⟨rfl, fun d hd => a _ (by omega) (by omega)⟩
    · exact absurd h a
  · rcases o with ⟨a, -⟩ | ⟨-, a, i⟩
    · exact absurd a h
    · obtain ⟨d1, d2, d3, d4⟩ := own_dn_spec ht hb (2 ^ p) (own_n1 p f s b) (by omega) i a
      have own' : own_dn f s (2 ^ p) (2 ^ p) (own_n1 p f s b) = own_n2 p f s b := rfl
      rw [own'] at d1 d2 d3 d4
      generalize own_n2 p f s b = r at *
      refine ⟨d1, d2, Or.inr ⟨r - 2 ^ p, by omega, by omega, ?_, fun e e1 e2 => d4 _ (by omega) (by omega)⟩⟩
      show s < f (2 ^ p + (r - 2 ^ p))
      rw [show 2 ^ p + (r - 2 ^ p) = r by omega]
      exact d3
theorem own_odd_le : ∀ k n, n ≤ k → 1 ≤ n → own_odd k n ≤ n ∧ 1 ≤ own_odd k n := by
  intro k
  induction k with
  | zero => intro n h1 h2; omega
  | succ k ih =>
    intro n h1 h2
    by_cases hm : n % 2 = 0
    · rw [own_oddE hm]
      have := ih (n / 2) (by omega) (by omega)
      omega
    · rw [own_oddO hm]; omega
theorem own_out_le {f : Nat → Int64} {s : Int64} : ∀ k n, own_out f s k n ≤ n := by
  intro k
  induction k with
  | zero => intro n; exact Nat.le_refl _
  | succ k ih =>
    intro n
    by_cases hn : n = 0
    · subst hn; rw [own_out0]; omega
    · by_cases hs : s < f n
      · rw [own_outY hn hs]; omega
      · rw [own_outN hn hs]
        have := ih (own_odd n n - 1)
        have := own_odd_le n n (Nat.le_refl _) (by omega)
        omega
/-! small naturals as ints -/
theorem own_t {n : Nat} (h : n < 2147483648) : n.toInt32.toInt = n := len_toInt h
theorem own_i {x : Int32} {n : Nat} (h : n < 2147483648) (e : x.toInt = n) : x = n.toInt32 := Int32.toInt_inj.mp (by rw [own_t h]; exact e)
theorem own_tn {n : Nat} (h : n < 2147483648) : n.toInt32.toNatClampNeg = n := by
  show n.toInt32.toInt.toNat = n
  rw [own_t h]; rfl
theorem own_half {n : Nat} (h : n < 2147483648) : n.toInt32 / (2 : Int32) = (n / 2).toInt32 := by
  have q := (c_idiv n.toInt32 2 2 (by decide) (by decide)).1 (by rw [own_t h]; omega)
  rw [own_t h] at q
  exact own_i (by omega) (by rw [q]; omega)
theorem own_par {n : Nat} (h : n < 2147483648) : n.toInt32 % (2 : Int32) = (n % 2).toInt32 := by
  have q := (c_irem n.toInt32 2 2 (by decide)).1 (by rw [own_t h]; omega)
  rw [own_t h] at q
  exact own_i (by omega) (by rw [q]; omega)
theorem own_plus {a b : Nat} (h : a + b < 2147483648) : a.toInt32 + b.toInt32 = (a + b).toInt32 := by
  have q := c_iadd a.toInt32 b.toInt32
  have r := rng32 (a.toInt32 + b.toInt32)
  rw [own_t (by omega), own_t (by omega)] at q
  exact own_i h (by omega)
theorem own_minus {a b : Nat} (h : a < 2147483648) (h1 : b ≤ a) : a.toInt32 - b.toInt32 = (a - b).toInt32 := by
  have q := c_isub a.toInt32 b.toInt32
  have r := rng32 (a.toInt32 - b.toInt32)
  rw [own_t (by omega), own_t (by omega)] at q
  exact own_i (by omega) (by omega)
theorem own_dbl {n : Nat} (h : 2 * n < 2147483648) : (2 : Int32) * n.toInt32 = (2 * n).toInt32 := by
  have q := c_imul (2 : Int32) n.toInt32
  have r := rng32 ((2 : Int32) * n.toInt32)
  rw [own_t (by omega), show (2 : Int32).toInt = 2 from by decide] at q
  exact own_i h (by omega)
theorem own_inc {n : Nat} (h : n + 1 < 2147483648) : n.toInt32 + (1 : Int32) = (n + 1).toInt32 := own_plus (b := 1) h
theorem own_dec {n : Nat} (h : n < 2147483648) (h1 : 1 ≤ n) : n.toInt32 - (1 : Int32) = (n - 1).toInt32 := own_minus (b := 1) h h1
theorem own_lt {a b : Nat} (ha : a < 2147483648) (hb : b < 2147483648) : a.toInt32 < b.toInt32 ↔ a < b := by
  rw [Int32.lt_iff_toInt_lt, own_t ha, own_t hb]; omega
theorem own_pos {n : Nat} (h : n < 2147483648) : (0 : Int32) < n.toInt32 ↔ n ≠ 0 := by
  rw [Int32.lt_iff_toInt_lt, own_t h, show (0 : Int32).toInt = 0 from rfl]; omega
theorem own_is {a b : Nat} (ha : a < 2147483648) (hb : b < 2147483648) : a.toInt32 = b.toInt32 ↔ a = b := by
  rw [← Int32.toInt_inj, own_t ha, own_t hb]; omega
/-! an array of longs, by its values -/
def own_A (Z : State) (h : Heap) (b : Addr) (N : Nat) (f : Nat → Int64) : Prop := ∃ cl : Cell, Arr Z h b cl .long ∧ cl.slots.size = N ∧ ∀ j, j < N → cl.slots[j]? = some (.long (f j))
theorem own_A_lt {Z : State} {h : Heap} {b : Addr} {N : Nat} {f : Nat → Int64} (F : own_A Z h b N f) : b < h.size := by obtain ⟨cl, A, -⟩ := F; exact A.lt
theorem own_A_ext {Z : State} {h h' : Heap} {b : Addr} {N : Nat} {f : Nat → Int64} (F : own_A Z h b N f) (E : Ext h h') : own_A Z h' b N f := by obtain ⟨cl, A, r⟩ := F; exact ⟨cl, A.ext E, r⟩
theorem own_A_keep {Z : State} {h h' : Heap} {b : Addr} {N : Nat} {f : Nat → Int64} {ws : List Addr} (F : own_A Z h b N f) (K : Keep h h' ws) (q : b ∉ ws) : own_A Z h' b N f := by obtain ⟨cl, A, r⟩ := F; exact ⟨cl, ⟨K.2.1 b cl A.1 q, A.2⟩, r⟩
theorem own_A_other {Z : State} {h h' : Heap} {a b : Addr} {N sl : Nat} {v : Value} {f : Nat → Int64} (F : own_A Z h b N f) (W : Wr h h' a sl v) (q : b ≠ a) : own_A Z h' b N f := by obtain ⟨cl, A, r⟩ := F; exact ⟨cl, A.other W q, r⟩
theorem own_slot (cl : Cell) (i j : Nat) (v : Value) : (cl.setSlot i v).slots[j]? = if i = j then (if i < cl.slots.size then some v else none) else cl.slots[j]? := by
  show (cl.slots.setIfInBounds i v)[j]? = _
  rw [Array.getElem?_setIfInBounds]
theorem own_A_set {Z : State} {h h' : Heap} {b : Addr} {N i : Nat} {x : Int64} {f : Nat → Int64} {cl : Cell} (A : Arr Z h b cl .long) (S : cl.slots.size = N) (H : ∀ j, j < N → cl.slots[j]? = some (.long (f j))) (W : Wr h h' b i (.long x)) (hi : i < N) : own_A Z h' b N (own_upd f i x) := by
  refine ⟨_, A.same W, by rw [sz_set]; exact S, fun j hj => ?_⟩
  rw [own_slot]
  by_cases e : i = j
  · rw [if_pos e, if_pos (by omega), e, own_upd_hit]
  · rw [if_neg e, own_upd_miss _ _ (fun q => e q.symm)]; exact H j hj
theorem own_A_new {Z : State} {h : Heap} {b : Addr} {k : ClassId} {n : Nat} (A : Arr Z h b (newA k .long n.toInt32) .long) (hn : n < 2147483648) : own_A Z h b n (fun _ => 0) := by
  have h0 : ¬ n.toInt32 < 0 := by rw [Int32.lt_iff_toInt_lt, own_t hn, show (0 : Int32).toInt = 0 from rfl]; omega
  obtain ⟨cl, B, -, S, -, H, -⟩ := Arv.new A h0
  rw [own_tn hn] at S
  exact ⟨cl, B, S, fun j hj => (H j (by omega)).trans rfl⟩
theorem own_rd {cl : Cell} {N i : Nat} {f : Nat → Int64} {j : Int32} (S : cl.slots.size = N) (H : ∀ j, j < N → cl.slots[j]? = some (.long (f j))) (e : j = i.toInt32) (hi : i < N) (hN : N < 2147483648) : ¬ (j < 0 ∨ cl.slots.size ≤ j.toNatClampNeg) ∧ cl.slots[j.toNatClampNeg]? = some (.long (f i)) := by
  subst e
  rw [S, own_tn (by omega)]
  refine ⟨?_, H i hi⟩
  rw [Int32.lt_iff_toInt_lt, own_t (by omega), show (0 : Int32).toInt = 0 from rfl]
  omega
theorem d_max_0 : decode jdk_29_method_65_code 0 = .ok (.iload_n 0, 1) := by decide +kernel
theorem d_max_1 : decode jdk_29_method_65_code 1 = .ok (.iload_n 1, 1) := by decide +kernel
theorem d_max_2 : decode jdk_29_method_65_code 2 = .ok (.if_icmp .lt 7, 3) := by decide +kernel
theorem d_max_5 : decode jdk_29_method_65_code 5 = .ok (.iload_n 0, 1) := by decide +kernel
theorem d_max_6 : decode jdk_29_method_65_code 6 = .ok (.goto 4, 3) := by decide +kernel
theorem d_max_9 : decode jdk_29_method_65_code 9 = .ok (.iload_n 1, 1) := by decide +kernel
theorem d_max_10 : decode jdk_29_method_65_code 10 = .ok (.ireturn, 1) := by decide +kernel
theorem d_highestOneBit_0 : decode jdk_33_method_45_code 0 = .ok (.iload_n 0, 1) := by decide +kernel
theorem d_highestOneBit_1 : decode jdk_33_method_45_code 1 = .ok (.ldc 127, 2) := by decide +kernel
theorem d_highestOneBit_3 : decode jdk_33_method_45_code 3 = .ok (.iload_n 0, 1) := by decide +kernel
theorem d_highestOneBit_4 : decode jdk_33_method_45_code 4 = .ok (.invokestatic 51, 3) := by decide +kernel
theorem d_highestOneBit_7 : decode jdk_33_method_45_code 7 = .ok (.iushr, 1) := by decide +kernel
theorem d_highestOneBit_8 : decode jdk_33_method_45_code 8 = .ok (.iand, 1) := by decide +kernel
theorem d_highestOneBit_9 : decode jdk_33_method_45_code 9 = .ok (.ireturn, 1) := by decide +kernel
theorem d_numberOfLeadingZeros_0 : decode jdk_33_method_47_code 0 = .ok (.iload_n 0, 1) := by decide +kernel
theorem d_numberOfLeadingZeros_1 : decode jdk_33_method_47_code 1 = .ok (.ifCond .gt 14, 3) := by decide +kernel
theorem d_numberOfLeadingZeros_4 : decode jdk_33_method_47_code 4 = .ok (.iload_n 0, 1) := by decide +kernel
theorem d_numberOfLeadingZeros_5 : decode jdk_33_method_47_code 5 = .ok (.ifCond .ne 8, 3) := by decide +kernel
theorem d_numberOfLeadingZeros_8 : decode jdk_33_method_47_code 8 = .ok (.bipush 32, 2) := by decide +kernel
theorem d_numberOfLeadingZeros_10 : decode jdk_33_method_47_code 10 = .ok (.goto 4, 3) := by decide +kernel
theorem d_numberOfLeadingZeros_13 : decode jdk_33_method_47_code 13 = .ok (.iconst 0, 1) := by decide +kernel
theorem d_numberOfLeadingZeros_14 : decode jdk_33_method_47_code 14 = .ok (.ireturn, 1) := by decide +kernel
theorem d_numberOfLeadingZeros_15 : decode jdk_33_method_47_code 15 = .ok (.bipush 31, 2) := by decide +kernel
theorem d_numberOfLeadingZeros_17 : decode jdk_33_method_47_code 17 = .ok (.istore_n 1, 1) := by decide +kernel
theorem d_numberOfLeadingZeros_18 : decode jdk_33_method_47_code 18 = .ok (.iload_n 0, 1) := by decide +kernel
theorem d_numberOfLeadingZeros_19 : decode jdk_33_method_47_code 19 = .ok (.ldc_w 264, 3) := by decide +kernel
theorem d_numberOfLeadingZeros_22 : decode jdk_33_method_47_code 22 = .ok (.if_icmp .lt 11, 3) := by decide +kernel
theorem d_numberOfLeadingZeros_25 : decode jdk_33_method_47_code 25 = .ok (.iinc 1 (-16), 3) := by decide +kernel
theorem d_numberOfLeadingZeros_28 : decode jdk_33_method_47_code 28 = .ok (.iload_n 0, 1) := by decide +kernel
theorem d_numberOfLeadingZeros_29 : decode jdk_33_method_47_code 29 = .ok (.bipush 16, 2) := by decide +kernel
theorem d_numberOfLeadingZeros_31 : decode jdk_33_method_47_code 31 = .ok (.iushr, 1) := by decide +kernel
theorem d_numberOfLeadingZeros_32 : decode jdk_33_method_47_code 32 = .ok (.istore_n 0, 1) := by decide +kernel
theorem d_numberOfLeadingZeros_33 : decode jdk_33_method_47_code 33 = .ok (.iload_n 0, 1) := by decide +kernel
theorem d_numberOfLeadingZeros_34 : decode jdk_33_method_47_code 34 = .ok (.sipush 256, 3) := by decide +kernel
theorem d_numberOfLeadingZeros_37 : decode jdk_33_method_47_code 37 = .ok (.if_icmp .lt 11, 3) := by decide +kernel
theorem d_numberOfLeadingZeros_40 : decode jdk_33_method_47_code 40 = .ok (.iinc 1 (-8), 3) := by decide +kernel
theorem d_numberOfLeadingZeros_43 : decode jdk_33_method_47_code 43 = .ok (.iload_n 0, 1) := by decide +kernel
theorem d_numberOfLeadingZeros_44 : decode jdk_33_method_47_code 44 = .ok (.bipush 8, 2) := by decide +kernel
theorem d_numberOfLeadingZeros_46 : decode jdk_33_method_47_code 46 = .ok (.iushr, 1) := by decide +kernel
theorem d_numberOfLeadingZeros_47 : decode jdk_33_method_47_code 47 = .ok (.istore_n 0, 1) := by decide +kernel
theorem d_numberOfLeadingZeros_48 : decode jdk_33_method_47_code 48 = .ok (.iload_n 0, 1) := by decide +kernel
theorem d_numberOfLeadingZeros_49 : decode jdk_33_method_47_code 49 = .ok (.bipush 16, 2) := by decide +kernel
theorem d_numberOfLeadingZeros_51 : decode jdk_33_method_47_code 51 = .ok (.if_icmp .lt 10, 3) := by decide +kernel
theorem d_numberOfLeadingZeros_54 : decode jdk_33_method_47_code 54 = .ok (.iinc 1 (-4), 3) := by decide +kernel
theorem d_numberOfLeadingZeros_57 : decode jdk_33_method_47_code 57 = .ok (.iload_n 0, 1) := by decide +kernel
theorem d_numberOfLeadingZeros_58 : decode jdk_33_method_47_code 58 = .ok (.iconst 4, 1) := by decide +kernel
theorem d_numberOfLeadingZeros_59 : decode jdk_33_method_47_code 59 = .ok (.iushr, 1) := by decide +kernel
theorem d_numberOfLeadingZeros_60 : decode jdk_33_method_47_code 60 = .ok (.istore_n 0, 1) := by decide +kernel
theorem d_numberOfLeadingZeros_61 : decode jdk_33_method_47_code 61 = .ok (.iload_n 0, 1) := by decide +kernel
theorem d_numberOfLeadingZeros_62 : decode jdk_33_method_47_code 62 = .ok (.iconst 4, 1) := by decide +kernel
theorem d_numberOfLeadingZeros_63 : decode jdk_33_method_47_code 63 = .ok (.if_icmp .lt 10, 3) := by decide +kernel
theorem d_numberOfLeadingZeros_66 : decode jdk_33_method_47_code 66 = .ok (.iinc 1 (-2), 3) := by decide +kernel
theorem d_numberOfLeadingZeros_69 : decode jdk_33_method_47_code 69 = .ok (.iload_n 0, 1) := by decide +kernel
theorem d_numberOfLeadingZeros_70 : decode jdk_33_method_47_code 70 = .ok (.iconst 2, 1) := by decide +kernel
theorem d_numberOfLeadingZeros_71 : decode jdk_33_method_47_code 71 = .ok (.iushr, 1) := by decide +kernel
theorem d_numberOfLeadingZeros_72 : decode jdk_33_method_47_code 72 = .ok (.istore_n 0, 1) := by decide +kernel
theorem d_numberOfLeadingZeros_73 : decode jdk_33_method_47_code 73 = .ok (.iload_n 1, 1) := by decide +kernel
theorem d_numberOfLeadingZeros_74 : decode jdk_33_method_47_code 74 = .ok (.iload_n 0, 1) := by decide +kernel
theorem d_numberOfLeadingZeros_75 : decode jdk_33_method_47_code 75 = .ok (.iconst 1, 1) := by decide +kernel
theorem d_numberOfLeadingZeros_76 : decode jdk_33_method_47_code 76 = .ok (.iushr, 1) := by decide +kernel
theorem d_numberOfLeadingZeros_77 : decode jdk_33_method_47_code 77 = .ok (.isub, 1) := by decide +kernel
theorem d_numberOfLeadingZeros_78 : decode jdk_33_method_47_code 78 = .ok (.ireturn, 1) := by decide +kernel
theorem pn_int : plainName "java/lang/Integer" = true := by first | (simp [plainName, overriddenIn]; done) | decide +kernel
theorem ef_mx (m : MethodId) (x0 : Int32) (x1 : Int32) : entryFrame m #[(.int x0), (.int x1)] 2 = mkF m 0 #[.val (.int x0), .val (.int x1)] [] := by first | (simp [entryFrame, mkF, argsToLocals, Value.category]; done) | rfl
theorem ef_nlz (m : MethodId) (x0 : Int32) : entryFrame m #[(.int x0)] 2 = mkF m 0 #[.val (.int x0), .unset] [] := by first | (simp [entryFrame, mkF, argsToLocals, Value.category]; done) | rfl
theorem ef_hob (m : MethodId) (x0 : Int32) : entryFrame m #[(.int x0)] 1 = mkF m 0 #[.val (.int x0)] [] := by first | (simp [entryFrame, mkF, argsToLocals, Value.category]; done) | rfl
theorem pd_ii_i : parseMethodDescriptor "(II)I" = some ⟨[.int, .int], some .int⟩ := by decide +kernel
theorem pd_i_i : parseMethodDescriptor "(I)I" = some ⟨[.int], some .int⟩ := by decide +kernel
def own_mx (a b : Int32) : Int32 := if a < b then b else a
def Q_rm_mx (Z : State) (p1 : Int32) (p2 : Int32)  (h0 : Heap) (n0 : Nat) (v : Option Value) (h : Heap) (L : List Loc) : Prop := (v = some (.int (own_mx p1 p2)) ∧ Fr n0 L ∧ h = h0)
set_option maxRecDepth 65536 in
set_option maxHeartbeats 40000000 in
theorem rm_mx (l : Launch) (Z : State) (a0 : Array Value) (hw : ∀ d ∈ tables_1, d.before a0 Z = true) (ws : List Jvm.Cond) (p1 : Int32) (p2 : Int32) (h0 : Heap) (n0 : Nat)  :
    MetFree l (⟨"java/lang/Math", "max", "(II)I"⟩ : MethodName) (head1 (Jvm.Cond.code (⟨"java/lang/Math", "max", "(II)I"⟩ : MethodName) jdk_29_method_65_code 2 (some .int) :: ws) ({ frames := 0, cells := 0, slots := 0, locals := 0 } : Room)) (fun a U => a = #[(.int p1), (.int p2)] ∧ Z.Warmed39 U.vm ∧ U.heap = h0) (fun _ _ _ _ _ => True) (fun _ U oc U' => ∃ v L, oc = .returned v ∧ Q_rm_mx Z p1 p2 h0 n0 v U'.heap L ∧ FrameEnd U oc U' L ({ frames := 0, cells := 0, slots := 0, locals := 0 } : Room).cells ({ frames := 0, cells := 0, slots := 0, locals := 0 } : Room).slots) := by
  refine MetFree.of_bodySF (Jvm.Free.JP.mathPlain rfl (by decide +kernel)) hisR ?_
  intro p e s m args below meth c s₁ Bd hml0 hP hK
  obtain ⟨rfl, hZ, hh⟩ := hP
  have hx := Bd.exec
  have hby := Bd.bytes
  have hml : c.maxLocals = 2 := hml0
  have hown : s.vm.findClass "java/lang/Math" = some m.cls := findClass_of_methodNamed Bd.named
  have hnm := (name_of_methodNamed Bd.named Bd.method).1
  have X0 : Stand p l e ({ frames := 0, cells := 0, slots := 0, locals := 0 } : Room) s m #[(.int p1), (.int p2)] below meth c s₁ [] 0 0 := Stand.of_body Bd
  have e0 : s₁.heap = h0 := by rw [← hh, Bd.state]; rfl
  have N0 := Fr.nil n0
  have pre0 : ∀ t, Steps p.tables e below (s₁.setTop (mkF m 0 #[.val (.int p1), .val (.int p2)] [])) t → Steps p.tables e below (s₁.setTop (entryFrame m #[(.int p1), (.int p2)] 2)) t := fun t k => castTop (ef_mx m p1 p2) k
  obtain ⟨fs, hr, hrun, hended, hW, hsame⟩ := X0.leave (v := some (.int (own_mx p1 p2))) (fun h => by rw [Bd.returns] at h; cases h)
  refine ⟨_, _, pre0 _ ?_, hrun, hended, _, _, rfl, ⟨rfl, N0, e0⟩, ⟨_, rfl⟩, hW, hsame.mono (by decide) (by decide)⟩
  show Steps p.tables e below (s₁.setTop (mkF m 0 #[.val (.int p1), .val (.int p2)] [])) _
  refine XS.iloadN X0.here hx rfl (hb hby d_max_0) rfl ?_
  show Steps p.tables e below (s₁.setTop (mkF m 1 #[.val (.int p1), .val (.int p2)] [(.int p1)])) _
  refine XS.iloadN X0.here hx rfl (hb hby d_max_1) rfl ?_
  by_cases hc2 : p1 < p2
  · show Steps p.tables e below (s₁.setTop (mkF m 2 #[.val (.int p1), .val (.int p2)] [(.int p2), (.int p1)])) _
    refine XS.icmpYes X0.here hx rfl (pc0 := 2) (pc' := 9) rfl (hb hby d_max_2) rfl (tlt hc2).1 (by decide) (by decide) ?_
    show Steps p.tables e below (s₁.setTop (mkF m 9 #[.val (.int p1), .val (.int p2)] [])) _
    refine XS.iloadN X0.here hx rfl (hb hby d_max_9) rfl ?_
    show Steps p.tables e below (s₁.setTop (mkF m 10 #[.val (.int p1), .val (.int p2)] [(.int p2)])) _
    have hv : own_mx p1 p2 = p2 := if_pos hc2
    rw [hv] at hr
    exact retI X0 hx Bd.returns (hb hby d_max_10) hr
  · show Steps p.tables e below (s₁.setTop (mkF m 2 #[.val (.int p1), .val (.int p2)] [(.int p2), (.int p1)])) _
    refine XS.icmpNo X0.here hx rfl (hb hby d_max_2) rfl (flt hc2).1 ?_
    show Steps p.tables e below (s₁.setTop (mkF m 5 #[.val (.int p1), .val (.int p2)] [])) _
    refine XS.iloadN X0.here hx rfl (hb hby d_max_5) rfl ?_
    show Steps p.tables e below (s₁.setTop (mkF m 6 #[.val (.int p1), .val (.int p2)] [(.int p1)])) _
    refine XS.goto X0.here hx rfl (pc0 := 6) (pc' := 10) rfl (hb hby d_max_6) (by decide) (by decide) ?_
    show Steps p.tables e below (s₁.setTop (mkF m 10 #[.val (.int p1), .val (.int p2)] [(.int p1)])) _
    have hv : own_mx p1 p2 = p1 := if_neg hc2
    rw [hv] at hr
    exact retI X0 hx Bd.returns (hb hby d_max_10) hr
def own_y1 (x : Int32) : Int32 := if x < (16 : Int32) then x else ((x.toUInt32 >>> ((4 : Int32) &&& 31).toUInt32).toInt32)
def own_k1 (x : Int32) : Int32 := if x < (16 : Int32) then (31 : Int32) else ((31 : Int32) + (-4 : Int32))
def own_y2 (x : Int32) : Int32 := if own_y1 x < (4 : Int32) then own_y1 x else (((own_y1 x).toUInt32 >>> ((2 : Int32) &&& 31).toUInt32).toInt32)
def own_k2 (x : Int32) : Int32 := if own_y1 x < (4 : Int32) then own_k1 x else (own_k1 x + (-2 : Int32))
def own_nlz (x : Int32) : Int32 := own_k2 x - (((own_y2 x).toUInt32 >>> ((1 : Int32) &&& 31).toUInt32).toInt32)
def Q_rm_nlz (Z : State) (p1 : Int32)  (h0 : Heap) (n0 : Nat) (v : Option Value) (h : Heap) (L : List Loc) : Prop := (v = some (.int (own_nlz p1)) ∧ Fr n0 L ∧ h = h0)
set_option maxRecDepth 65536 in
set_option maxHeartbeats 40000000 in
theorem rm_nlz (l : Launch) (Z : State) (a0 : Array Value) (hw : ∀ d ∈ tables_1, d.before a0 Z = true) (ws : List Jvm.Cond) (p1 : Int32) (h0 : Heap) (n0 : Nat) (q0 : (0 : Int32) < p1) (q1 : p1 < (256 : Int32)) :
    MetFree l (⟨"java/lang/Integer", "numberOfLeadingZeros", "(I)I"⟩ : MethodName) (head1 (Jvm.Cond.code (⟨"java/lang/Integer", "numberOfLeadingZeros", "(I)I"⟩ : MethodName) jdk_33_method_47_code 2 (some .int) :: ws) ({ frames := 0, cells := 0, slots := 0, locals := 0 } : Room)) (fun a U => a = #[(.int p1)] ∧ Z.Warmed39 U.vm ∧ U.heap = h0) (fun _ _ _ _ _ => True) (fun _ U oc U' => ∃ v L, oc = .returned v ∧ Q_rm_nlz Z p1 h0 n0 v U'.heap L ∧ FrameEnd U oc U' L ({ frames := 0, cells := 0, slots := 0, locals := 0 } : Room).cells ({ frames := 0, cells := 0, slots := 0, locals := 0 } : Room).slots) := by
  refine MetFree.of_bodySF (plainFor_of_name pn_int) hisR ?_
  intro p e s m args below meth c s₁ Bd hml0 hP hK
  obtain ⟨rfl, hZ, hh⟩ := hP
  have hx := Bd.exec
  have hby := Bd.bytes
  have hml : c.maxLocals = 2 := hml0
  have hown : s.vm.findClass "java/lang/Integer" = some m.cls := findClass_of_methodNamed Bd.named
  have hnm := (name_of_methodNamed Bd.named Bd.method).1
  have X0 : Stand p l e ({ frames := 0, cells := 0, slots := 0, locals := 0 } : Room) s m #[(.int p1)] below meth c s₁ [] 0 0 := Stand.of_body Bd
  have e0 : s₁.heap = h0 := by rw [← hh, Bd.state]; rfl
  have N0 := Fr.nil n0
  have pre0 : ∀ t, Steps p.tables e below (s₁.setTop (mkF m 0 #[.val (.int p1), .unset] [])) t → Steps p.tables e below (s₁.setTop (entryFrame m #[(.int p1)] 2)) t := fun t k => castTop (ef_nlz m p1) k
  obtain ⟨fs, hr, hrun, hended, hW, hsame⟩ := X0.leave (v := some (.int (own_nlz p1))) (fun h => by rw [Bd.returns] at h; cases h)
  refine ⟨_, _, pre0 _ ?_, hrun, hended, _, _, rfl, ⟨rfl, N0, e0⟩, ⟨_, rfl⟩, hW, hsame.mono (by decide) (by decide)⟩
  have hc1 : (0 : Int32) < p1 := q0
  have hc37 : p1 < (256 : Int32) := q1
  have hc22 : p1 < (65536 : Int32) := by
    rw [Int32.lt_iff_toInt_lt] at *
    rw [show (65536 : Int32).toInt = 65536 from by decide]
    rw [show (256 : Int32).toInt = 256 from by decide] at q1
    omega
  show Steps p.tables e below (s₁.setTop (mkF m 0 #[.val (.int p1), .unset] [])) _
  refine XS.iloadN X0.here hx rfl (hb hby d_numberOfLeadingZeros_0) rfl ?_
  show Steps p.tables e below (s₁.setTop (mkF m 1 #[.val (.int p1), .unset] [(.int p1)])) _
  refine XS.ifYes X0.here hx rfl (pc0 := 1) (pc' := 15) rfl (hb hby d_numberOfLeadingZeros_1) rfl ((if0 _ _).trans (tlt hc1).2.2.1) (by decide) (by decide) ?_
  show Steps p.tables e below (s₁.setTop (mkF m 15 #[.val (.int p1), .unset] [])) _
  refine XS.bipush X0.here hx rfl (hb hby d_numberOfLeadingZeros_15) ?_
  show Steps p.tables e below (s₁.setTop (mkF m 17 #[.val (.int p1), .unset] [(.int (31 : Int32))])) _
  refine XS.istoreN X0.here hx rfl (hb hby d_numberOfLeadingZeros_17) rfl (l' := #[.val (.int p1), .val (.int (31 : Int32))]) rfl ?_
  show Steps p.tables e below (s₁.setTop (mkF m 18 #[.val (.int p1), .val (.int (31 : Int32))] [])) _
  refine XS.iloadN X0.here hx rfl (hb hby d_numberOfLeadingZeros_18) rfl ?_
  show Steps p.tables e below (s₁.setTop (mkF m 19 #[.val (.int p1), .val (.int (31 : Int32))] [(.int p1)])) _
  refine Jvm.Stand.ldcWI X0 hx hown (mvT hZ (hw _ (List.mem_of_getElem? (i := 22) rfl))) rfl (hb hby d_numberOfLeadingZeros_19) ?_
  show Steps p.tables e below (s₁.setTop (mkF m 22 #[.val (.int p1), .val (.int (31 : Int32))] [(.int (65536 : Int32)), (.int p1)])) _
  refine XS.icmpYes X0.here hx rfl (pc0 := 22) (pc' := 33) rfl (hb hby d_numberOfLeadingZeros_22) rfl (tlt hc22).1 (by decide) (by decide) ?_
  show Steps p.tables e below (s₁.setTop (mkF m 33 #[.val (.int p1), .val (.int (31 : Int32))] [])) _
  refine XS.iloadN X0.here hx rfl (hb hby d_numberOfLeadingZeros_33) rfl ?_
  show Steps p.tables e below (s₁.setTop (mkF m 34 #[.val (.int p1), .val (.int (31 : Int32))] [(.int p1)])) _
  refine XS.sipush X0.here hx rfl (hb hby d_numberOfLeadingZeros_34) ?_
  show Steps p.tables e below (s₁.setTop (mkF m 37 #[.val (.int p1), .val (.int (31 : Int32))] [(.int (256 : Int32)), (.int p1)])) _
  refine XS.icmpYes X0.here hx rfl (pc0 := 37) (pc' := 48) rfl (hb hby d_numberOfLeadingZeros_37) rfl (tlt hc37).1 (by decide) (by decide) ?_
  show Steps p.tables e below (s₁.setTop (mkF m 48 #[.val (.int p1), .val (.int (31 : Int32))] [])) _
  refine XS.iloadN X0.here hx rfl (hb hby d_numberOfLeadingZeros_48) rfl ?_
  show Steps p.tables e below (s₁.setTop (mkF m 49 #[.val (.int p1), .val (.int (31 : Int32))] [(.int p1)])) _
  refine XS.bipush X0.here hx rfl (hb hby d_numberOfLeadingZeros_49) ?_
  by_cases hc51 : p1 < (16 : Int32)
  · show Steps p.tables e below (s₁.setTop (mkF m 51 #[.val (.int p1), .val (.int (31 : Int32))] [(.int (16 : Int32)), (.int p1)])) _
    refine XS.icmpYes X0.here hx rfl (pc0 := 51) (pc' := 61) rfl (hb hby d_numberOfLeadingZeros_51) rfl (tlt hc51).1 (by decide) (by decide) ?_
    show Steps p.tables e below (s₁.setTop (mkF m 61 #[.val (.int p1), .val (.int (31 : Int32))] [])) _
    refine XS.iloadN X0.here hx rfl (hb hby d_numberOfLeadingZeros_61) rfl ?_
    show Steps p.tables e below (s₁.setTop (mkF m 62 #[.val (.int p1), .val (.int (31 : Int32))] [(.int p1)])) _
    refine XS.iconst X0.here hx rfl (hb hby d_numberOfLeadingZeros_62) ?_
    have y1 : own_y1 p1 = p1 := if_pos hc51
    have k1 : own_k1 p1 = (31 : Int32) := if_pos hc51
    by_cases hc63 : p1 < (4 : Int32)
    · show Steps p.tables e below (s₁.setTop (mkF m 63 #[.val (.int p1), .val (.int (31 : Int32))] [(.int (4 : Int32)), (.int p1)])) _
      refine XS.icmpYes X0.here hx rfl (pc0 := 63) (pc' := 73) rfl (hb hby d_numberOfLeadingZeros_63) rfl (tlt hc63).1 (by decide) (by decide) ?_
      show Steps p.tables e below (s₁.setTop (mkF m 73 #[.val (.int p1), .val (.int (31 : Int32))] [])) _
      refine XS.iloadN X0.here hx rfl (hb hby d_numberOfLeadingZeros_73) rfl ?_
      show Steps p.tables e below (s₁.setTop (mkF m 74 #[.val (.int p1), .val (.int (31 : Int32))] [(.int (31 : Int32))])) _
      refine XS.iloadN X0.here hx rfl (hb hby d_numberOfLeadingZeros_74) rfl ?_
      show Steps p.tables e below (s₁.setTop (mkF m 75 #[.val (.int p1), .val (.int (31 : Int32))] [(.int p1), (.int (31 : Int32))])) _
      refine XS.iconst X0.here hx rfl (hb hby d_numberOfLeadingZeros_75) ?_
      show Steps p.tables e below (s₁.setTop (mkF m 76 #[.val (.int p1), .val (.int (31 : Int32))] [(.int (1 : Int32)), (.int p1), (.int (31 : Int32))])) _
      refine XS.iushr X0.here hx rfl (hb hby d_numberOfLeadingZeros_76) rfl ?_
      show Steps p.tables e below (s₁.setTop (mkF m 77 #[.val (.int p1), .val (.int (31 : Int32))] [(.int ((p1.toUInt32 >>> ((1 : Int32) &&& 31).toUInt32).toInt32)), (.int (31 : Int32))])) _
      refine XS.isub X0.here hx rfl (hb hby d_numberOfLeadingZeros_77) rfl ?_
      show Steps p.tables e below (s₁.setTop (mkF m 78 #[.val (.int p1), .val (.int (31 : Int32))] [(.int ((31 : Int32) - ((p1.toUInt32 >>> ((1 : Int32) &&& 31).toUInt32).toInt32)))])) _
      have y2 : own_y2 p1 = p1 := by rw [own_y2, y1]; exact if_pos hc63
      have k2 : own_k2 p1 = (31 : Int32) := by rw [own_k2, y1, k1]; exact if_pos hc63
      have hv : own_nlz p1 = ((31 : Int32) - ((p1.toUInt32 >>> ((1 : Int32) &&& 31).toUInt32).toInt32)) := by rw [own_nlz, k2, y2]
      rw [hv] at hr
      exact retI X0 hx Bd.returns (hb hby d_numberOfLeadingZeros_78) hr
    · show Steps p.tables e below (s₁.setTop (mkF m 63 #[.val (.int p1), .val (.int (31 : Int32))] [(.int (4 : Int32)), (.int p1)])) _
      refine XS.icmpNo X0.here hx rfl (hb hby d_numberOfLeadingZeros_63) rfl (flt hc63).1 ?_
      show Steps p.tables e below (s₁.setTop (mkF m 66 #[.val (.int p1), .val (.int (31 : Int32))] [])) _
      refine XS.iinc X0.here hx rfl (hb hby d_numberOfLeadingZeros_66) rfl (l' := #[.val (.int p1), .val (.int ((31 : Int32) + (-2 : Int32)))]) rfl ?_
      show Steps p.tables e below (s₁.setTop (mkF m 69 #[.val (.int p1), .val (.int ((31 : Int32) + (-2 : Int32)))] [])) _
      refine XS.iloadN X0.here hx rfl (hb hby d_numberOfLeadingZeros_69) rfl ?_
      show Steps p.tables e below (s₁.setTop (mkF m 70 #[.val (.int p1), .val (.int ((31 : Int32) + (-2 : Int32)))] [(.int p1)])) _
      refine XS.iconst X0.here hx rfl (hb hby d_numberOfLeadingZeros_70) ?_
      show Steps p.tables e below (s₁.setTop (mkF m 71 #[.val (.int p1), .val (.int ((31 : Int32) + (-2 : Int32)))] [(.int (2 : Int32)), (.int p1)])) _
      refine XS.iushr X0.here hx rfl (hb hby d_numberOfLeadingZeros_71) rfl ?_
      show Steps p.tables e below (s₁.setTop (mkF m 72 #[.val (.int p1), .val (.int ((31 : Int32) + (-2 : Int32)))] [(.int ((p1.toUInt32 >>> ((2 : Int32) &&& 31).toUInt32).toInt32))])) _
      refine XS.istoreN X0.here hx rfl (hb hby d_numberOfLeadingZeros_72) rfl (l' := #[.val (.int ((p1.toUInt32 >>> ((2 : Int32) &&& 31).toUInt32).toInt32)), .val (.int ((31 : Int32) + (-2 : Int32)))]) rfl ?_
      show Steps p.tables e below (s₁.setTop (mkF m 73 #[.val (.int ((p1.toUInt32 >>> ((2 : Int32) &&& 31).toUInt32).toInt32)), .val (.int ((31 : Int32) + (-2 : Int32)))] [])) _
      refine XS.iloadN X0.here hx rfl (hb hby d_numberOfLeadingZeros_73) rfl ?_
      show Steps p.tables e below (s₁.setTop (mkF m 74 #[.val (.int ((p1.toUInt32 >>> ((2 : Int32) &&& 31).toUInt32).toInt32)), .val (.int ((31 : Int32) + (-2 : Int32)))] [(.int ((31 : Int32) + (-2 : Int32)))])) _
      refine XS.iloadN X0.here hx rfl (hb hby d_numberOfLeadingZeros_74) rfl ?_
      show Steps p.tables e below (s₁.setTop (mkF m 75 #[.val (.int ((p1.toUInt32 >>> ((2 : Int32) &&& 31).toUInt32).toInt32)), .val (.int ((31 : Int32) + (-2 : Int32)))] [(.int ((p1.toUInt32 >>> ((2 : Int32) &&& 31).toUInt32).toInt32)), (.int ((31 : Int32) + (-2 : Int32)))])) _
      refine XS.iconst X0.here hx rfl (hb hby d_numberOfLeadingZeros_75) ?_
      show Steps p.tables e below (s₁.setTop (mkF m 76 #[.val (.int ((p1.toUInt32 >>> ((2 : Int32) &&& 31).toUInt32).toInt32)), .val (.int ((31 : Int32) + (-2 : Int32)))] [(.int (1 : Int32)), (.int ((p1.toUInt32 >>> ((2 : Int32) &&& 31).toUInt32).toInt32)), (.int ((31 : Int32) + (-2 : Int32)))])) _
      refine XS.iushr X0.here hx rfl (hb hby d_numberOfLeadingZeros_76) rfl ?_
      show Steps p.tables e below (s₁.setTop (mkF m 77 #[.val (.int ((p1.toUInt32 >>> ((2 : Int32) &&& 31).toUInt32).toInt32)), .val (.int ((31 : Int32) + (-2 : Int32)))] [(.int ((((p1.toUInt32 >>> ((2 : Int32) &&& 31).toUInt32).toInt32).toUInt32 >>> ((1 : Int32) &&& 31).toUInt32).toInt32)), (.int ((31 : Int32) + (-2 : Int32)))])) _
      refine XS.isub X0.here hx rfl (hb hby d_numberOfLeadingZeros_77) rfl ?_
      show Steps p.tables e below (s₁.setTop (mkF m 78 #[.val (.int ((p1.toUInt32 >>> ((2 : Int32) &&& 31).toUInt32).toInt32)), .val (.int ((31 : Int32) + (-2 : Int32)))] [(.int (((31 : Int32) + (-2 : Int32)) - ((((p1.toUInt32 >>> ((2 : Int32) &&& 31).toUInt32).toInt32).toUInt32 >>> ((1 : Int32) &&& 31).toUInt32).toInt32)))])) _
      have y2 : own_y2 p1 = ((p1.toUInt32 >>> ((2 : Int32) &&& 31).toUInt32).toInt32) := by rw [own_y2, y1]; exact if_neg hc63
      have k2 : own_k2 p1 = ((31 : Int32) + (-2 : Int32)) := by rw [own_k2, y1, k1]; exact if_neg hc63
      have hv : own_nlz p1 = (((31 : Int32) + (-2 : Int32)) - ((((p1.toUInt32 >>> ((2 : Int32) &&& 31).toUInt32).toInt32).toUInt32 >>> ((1 : Int32) &&& 31).toUInt32).toInt32)) := by rw [own_nlz, k2, y2]
      rw [hv] at hr
      exact retI X0 hx Bd.returns (hb hby d_numberOfLeadingZeros_78) hr
  · show Steps p.tables e below (s₁.setTop (mkF m 51 #[.val (.int p1), .val (.int (31 : Int32))] [(.int (16 : Int32)), (.int p1)])) _
    refine XS.icmpNo X0.here hx rfl (hb hby d_numberOfLeadingZeros_51) rfl (flt hc51).1 ?_
    show Steps p.tables e below (s₁.setTop (mkF m 54 #[.val (.int p1), .val (.int (31 : Int32))] [])) _
    refine XS.iinc X0.here hx rfl (hb hby d_numberOfLeadingZeros_54) rfl (l' := #[.val (.int p1), .val (.int ((31 : Int32) + (-4 : Int32)))]) rfl ?_
    show Steps p.tables e below (s₁.setTop (mkF m 57 #[.val (.int p1), .val (.int ((31 : Int32) + (-4 : Int32)))] [])) _
    refine XS.iloadN X0.here hx rfl (hb hby d_numberOfLeadingZeros_57) rfl ?_
    show Steps p.tables e below (s₁.setTop (mkF m 58 #[.val (.int p1), .val (.int ((31 : Int32) + (-4 : Int32)))] [(.int p1)])) _
    refine XS.iconst X0.here hx rfl (hb hby d_numberOfLeadingZeros_58) ?_
    show Steps p.tables e below (s₁.setTop (mkF m 59 #[.val (.int p1), .val (.int ((31 : Int32) + (-4 : Int32)))] [(.int (4 : Int32)), (.int p1)])) _
    refine XS.iushr X0.here hx rfl (hb hby d_numberOfLeadingZeros_59) rfl ?_
    show Steps p.tables e below (s₁.setTop (mkF m 60 #[.val (.int p1), .val (.int ((31 : Int32) + (-4 : Int32)))] [(.int ((p1.toUInt32 >>> ((4 : Int32) &&& 31).toUInt32).toInt32))])) _
    refine XS.istoreN X0.here hx rfl (hb hby d_numberOfLeadingZeros_60) rfl (l' := #[.val (.int ((p1.toUInt32 >>> ((4 : Int32) &&& 31).toUInt32).toInt32)), .val (.int ((31 : Int32) + (-4 : Int32)))]) rfl ?_
    show Steps p.tables e below (s₁.setTop (mkF m 61 #[.val (.int ((p1.toUInt32 >>> ((4 : Int32) &&& 31).toUInt32).toInt32)), .val (.int ((31 : Int32) + (-4 : Int32)))] [])) _
    refine XS.iloadN X0.here hx rfl (hb hby d_numberOfLeadingZeros_61) rfl ?_
    show Steps p.tables e below (s₁.setTop (mkF m 62 #[.val (.int ((p1.toUInt32 >>> ((4 : Int32) &&& 31).toUInt32).toInt32)), .val (.int ((31 : Int32) + (-4 : Int32)))] [(.int ((p1.toUInt32 >>> ((4 : Int32) &&& 31).toUInt32).toInt32))])) _
    refine XS.iconst X0.here hx rfl (hb hby d_numberOfLeadingZeros_62) ?_
    have y1 : own_y1 p1 = ((p1.toUInt32 >>> ((4 : Int32) &&& 31).toUInt32).toInt32) := if_neg hc51
    have k1 : own_k1 p1 = ((31 : Int32) + (-4 : Int32)) := if_neg hc51
    by_cases hc63 : ((p1.toUInt32 >>> ((4 : Int32) &&& 31).toUInt32).toInt32) < (4 : Int32)
    · show Steps p.tables e below (s₁.setTop (mkF m 63 #[.val (.int ((p1.toUInt32 >>> ((4 : Int32) &&& 31).toUInt32).toInt32)), .val (.int ((31 : Int32) + (-4 : Int32)))] [(.int (4 : Int32)), (.int ((p1.toUInt32 >>> ((4 : Int32) &&& 31).toUInt32).toInt32))])) _
      refine XS.icmpYes X0.here hx rfl (pc0 := 63) (pc' := 73) rfl (hb hby d_numberOfLeadingZeros_63) rfl (tlt hc63).1 (by decide) (by decide) ?_
      show Steps p.tables e below (s₁.setTop (mkF m 73 #[.val (.int ((p1.toUInt32 >>> ((4 : Int32) &&& 31).toUInt32).toInt32)), .val (.int ((31 : Int32) + (-4 : Int32)))] [])) _
      refine XS.iloadN X0.here hx rfl (hb hby d_numberOfLeadingZeros_73) rfl ?_
      show Steps p.tables e below (s₁.setTop (mkF m 74 #[.val (.int ((p1.toUInt32 >>> ((4 : Int32) &&& 31).toUInt32).toInt32)), .val (.int ((31 : Int32) + (-4 : Int32)))] [(.int ((31 : Int32) + (-4 : Int32)))])) _
      refine XS.iloadN X0.here hx rfl (hb hby d_numberOfLeadingZeros_74) rfl ?_
      show Steps p.tables e below (s₁.setTop (mkF m 75 #[.val (.int ((p1.toUInt32 >>> ((4 : Int32) &&& 31).toUInt32).toInt32)), .val (.int ((31 : Int32) + (-4 : Int32)))] [(.int ((p1.toUInt32 >>> ((4 : Int32) &&& 31).toUInt32).toInt32)), (.int ((31 : Int32) + (-4 : Int32)))])) _
      refine XS.iconst X0.here hx rfl (hb hby d_numberOfLeadingZeros_75) ?_
      show Steps p.tables e below (s₁.setTop (mkF m 76 #[.val (.int ((p1.toUInt32 >>> ((4 : Int32) &&& 31).toUInt32).toInt32)), .val (.int ((31 : Int32) + (-4 : Int32)))] [(.int (1 : Int32)), (.int ((p1.toUInt32 >>> ((4 : Int32) &&& 31).toUInt32).toInt32)), (.int ((31 : Int32) + (-4 : Int32)))])) _
      refine XS.iushr X0.here hx rfl (hb hby d_numberOfLeadingZeros_76) rfl ?_
      show Steps p.tables e below (s₁.setTop (mkF m 77 #[.val (.int ((p1.toUInt32 >>> ((4 : Int32) &&& 31).toUInt32).toInt32)), .val (.int ((31 : Int32) + (-4 : Int32)))] [(.int ((((p1.toUInt32 >>> ((4 : Int32) &&& 31).toUInt32).toInt32).toUInt32 >>> ((1 : Int32) &&& 31).toUInt32).toInt32)), (.int ((31 : Int32) + (-4 : Int32)))])) _
      refine XS.isub X0.here hx rfl (hb hby d_numberOfLeadingZeros_77) rfl ?_
      show Steps p.tables e below (s₁.setTop (mkF m 78 #[.val (.int ((p1.toUInt32 >>> ((4 : Int32) &&& 31).toUInt32).toInt32)), .val (.int ((31 : Int32) + (-4 : Int32)))] [(.int (((31 : Int32) + (-4 : Int32)) - ((((p1.toUInt32 >>> ((4 : Int32) &&& 31).toUInt32).toInt32).toUInt32 >>> ((1 : Int32) &&& 31).toUInt32).toInt32)))])) _
      have y2 : own_y2 p1 = ((p1.toUInt32 >>> ((4 : Int32) &&& 31).toUInt32).toInt32) := by rw [own_y2, y1]; exact if_pos hc63
      have k2 : own_k2 p1 = ((31 : Int32) + (-4 : Int32)) := by rw [own_k2, y1, k1]; exact if_pos hc63
      have hv : own_nlz p1 = (((31 : Int32) + (-4 : Int32)) - ((((p1.toUInt32 >>> ((4 : Int32) &&& 31).toUInt32).toInt32).toUInt32 >>> ((1 : Int32) &&& 31).toUInt32).toInt32)) := by rw [own_nlz, k2, y2]
      rw [hv] at hr
      exact retI X0 hx Bd.returns (hb hby d_numberOfLeadingZeros_78) hr
    · show Steps p.tables e below (s₁.setTop (mkF m 63 #[.val (.int ((p1.toUInt32 >>> ((4 : Int32) &&& 31).toUInt32).toInt32)), .val (.int ((31 : Int32) + (-4 : Int32)))] [(.int (4 : Int32)), (.int ((p1.toUInt32 >>> ((4 : Int32) &&& 31).toUInt32).toInt32))])) _
      refine XS.icmpNo X0.here hx rfl (hb hby d_numberOfLeadingZeros_63) rfl (flt hc63).1 ?_
      show Steps p.tables e below (s₁.setTop (mkF m 66 #[.val (.int ((p1.toUInt32 >>> ((4 : Int32) &&& 31).toUInt32).toInt32)), .val (.int ((31 : Int32) + (-4 : Int32)))] [])) _
      refine XS.iinc X0.here hx rfl (hb hby d_numberOfLeadingZeros_66) rfl (l' := #[.val (.int ((p1.toUInt32 >>> ((4 : Int32) &&& 31).toUInt32).toInt32)), .val (.int (((31 : Int32) + (-4 : Int32)) + (-2 : Int32)))]) rfl ?_
      show Steps p.tables e below (s₁.setTop (mkF m 69 #[.val (.int ((p1.toUInt32 >>> ((4 : Int32) &&& 31).toUInt32).toInt32)), .val (.int (((31 : Int32) + (-4 : Int32)) + (-2 : Int32)))] [])) _
      refine XS.iloadN X0.here hx rfl (hb hby d_numberOfLeadingZeros_69) rfl ?_
      show Steps p.tables e below (s₁.setTop (mkF m 70 #[.val (.int ((p1.toUInt32 >>> ((4 : Int32) &&& 31).toUInt32).toInt32)), .val (.int (((31 : Int32) + (-4 : Int32)) + (-2 : Int32)))] [(.int ((p1.toUInt32 >>> ((4 : Int32) &&& 31).toUInt32).toInt32))])) _
      refine XS.iconst X0.here hx rfl (hb hby d_numberOfLeadingZeros_70) ?_
      show Steps p.tables e below (s₁.setTop (mkF m 71 #[.val (.int ((p1.toUInt32 >>> ((4 : Int32) &&& 31).toUInt32).toInt32)), .val (.int (((31 : Int32) + (-4 : Int32)) + (-2 : Int32)))] [(.int (2 : Int32)), (.int ((p1.toUInt32 >>> ((4 : Int32) &&& 31).toUInt32).toInt32))])) _
      refine XS.iushr X0.here hx rfl (hb hby d_numberOfLeadingZeros_71) rfl ?_
      show Steps p.tables e below (s₁.setTop (mkF m 72 #[.val (.int ((p1.toUInt32 >>> ((4 : Int32) &&& 31).toUInt32).toInt32)), .val (.int (((31 : Int32) + (-4 : Int32)) + (-2 : Int32)))] [(.int ((((p1.toUInt32 >>> ((4 : Int32) &&& 31).toUInt32).toInt32).toUInt32 >>> ((2 : Int32) &&& 31).toUInt32).toInt32))])) _
      refine XS.istoreN X0.here hx rfl (hb hby d_numberOfLeadingZeros_72) rfl (l' := #[.val (.int ((((p1.toUInt32 >>> ((4 : Int32) &&& 31).toUInt32).toInt32).toUInt32 >>> ((2 : Int32) &&& 31).toUInt32).toInt32)), .val (.int (((31 : Int32) + (-4 : Int32)) + (-2 : Int32)))]) rfl ?_
      show Steps p.tables e below (s₁.setTop (mkF m 73 #[.val (.int ((((p1.toUInt32 >>> ((4 : Int32) &&& 31).toUInt32).toInt32).toUInt32 >>> ((2 : Int32) &&& 31).toUInt32).toInt32)), .val (.int (((31 : Int32) + (-4 : Int32)) + (-2 : Int32)))] [])) _
      refine XS.iloadN X0.here hx rfl (hb hby d_numberOfLeadingZeros_73) rfl ?_
      show Steps p.tables e below (s₁.setTop (mkF m 74 #[.val (.int ((((p1.toUInt32 >>> ((4 : Int32) &&& 31).toUInt32).toInt32).toUInt32 >>> ((2 : Int32) &&& 31).toUInt32).toInt32)), .val (.int (((31 : Int32) + (-4 : Int32)) + (-2 : Int32)))] [(.int (((31 : Int32) + (-4 : Int32)) + (-2 : Int32)))])) _
      refine XS.iloadN X0.here hx rfl (hb hby d_numberOfLeadingZeros_74) rfl ?_
      show Steps p.tables e below (s₁.setTop (mkF m 75 #[.val (.int ((((p1.toUInt32 >>> ((4 : Int32) &&& 31).toUInt32).toInt32).toUInt32 >>> ((2 : Int32) &&& 31).toUInt32).toInt32)), .val (.int (((31 : Int32) + (-4 : Int32)) + (-2 : Int32)))] [(.int ((((p1.toUInt32 >>> ((4 : Int32) &&& 31).toUInt32).toInt32).toUInt32 >>> ((2 : Int32) &&& 31).toUInt32).toInt32)), (.int (((31 : Int32) + (-4 : Int32)) + (-2 : Int32)))])) _
      refine XS.iconst X0.here hx rfl (hb hby d_numberOfLeadingZeros_75) ?_
      show Steps p.tables e below (s₁.setTop (mkF m 76 #[.val (.int ((((p1.toUInt32 >>> ((4 : Int32) &&& 31).toUInt32).toInt32).toUInt32 >>> ((2 : Int32) &&& 31).toUInt32).toInt32)), .val (.int (((31 : Int32) + (-4 : Int32)) + (-2 : Int32)))] [(.int (1 : Int32)), (.int ((((p1.toUInt32 >>> ((4 : Int32) &&& 31).toUInt32).toInt32).toUInt32 >>> ((2 : Int32) &&& 31).toUInt32).toInt32)), (.int (((31 : Int32) + (-4 : Int32)) + (-2 : Int32)))])) _
      refine XS.iushr X0.here hx rfl (hb hby d_numberOfLeadingZeros_76) rfl ?_
      show Steps p.tables e below (s₁.setTop (mkF m 77 #[.val (.int ((((p1.toUInt32 >>> ((4 : Int32) &&& 31).toUInt32).toInt32).toUInt32 >>> ((2 : Int32) &&& 31).toUInt32).toInt32)), .val (.int (((31 : Int32) + (-4 : Int32)) + (-2 : Int32)))] [(.int ((((((p1.toUInt32 >>> ((4 : Int32) &&& 31).toUInt32).toInt32).toUInt32 >>> ((2 : Int32) &&& 31).toUInt32).toInt32).toUInt32 >>> ((1 : Int32) &&& 31).toUInt32).toInt32)), (.int (((31 : Int32) + (-4 : Int32)) + (-2 : Int32)))])) _
      refine XS.isub X0.here hx rfl (hb hby d_numberOfLeadingZeros_77) rfl ?_
      show Steps p.tables e below (s₁.setTop (mkF m 78 #[.val (.int ((((p1.toUInt32 >>> ((4 : Int32) &&& 31).toUInt32).toInt32).toUInt32 >>> ((2 : Int32) &&& 31).toUInt32).toInt32)), .val (.int (((31 : Int32) + (-4 : Int32)) + (-2 : Int32)))] [(.int ((((31 : Int32) + (-4 : Int32)) + (-2 : Int32)) - ((((((p1.toUInt32 >>> ((4 : Int32) &&& 31).toUInt32).toInt32).toUInt32 >>> ((2 : Int32) &&& 31).toUInt32).toInt32).toUInt32 >>> ((1 : Int32) &&& 31).toUInt32).toInt32)))])) _
      have y2 : own_y2 p1 = ((((p1.toUInt32 >>> ((4 : Int32) &&& 31).toUInt32).toInt32).toUInt32 >>> ((2 : Int32) &&& 31).toUInt32).toInt32) := by rw [own_y2, y1]; exact if_neg hc63
      have k2 : own_k2 p1 = (((31 : Int32) + (-4 : Int32)) + (-2 : Int32)) := by rw [own_k2, y1, k1]; exact if_neg hc63
      have hv : own_nlz p1 = ((((31 : Int32) + (-4 : Int32)) + (-2 : Int32)) - ((((((p1.toUInt32 >>> ((4 : Int32) &&& 31).toUInt32).toInt32).toUInt32 >>> ((2 : Int32) &&& 31).toUInt32).toInt32).toUInt32 >>> ((1 : Int32) &&& 31).toUInt32).toInt32)) := by rw [own_nlz, k2, y2]
      rw [hv] at hr
      exact retI X0 hx Bd.returns (hb hby d_numberOfLeadingZeros_78) hr
def own_hob (p1 : Int32) : Int32 := (p1 &&& (((-2147483648 : Int32).toUInt32 >>> ((own_nlz p1) &&& 31).toUInt32).toInt32))
def Q_rm_hob (Z : State) (p1 : Int32)  (h0 : Heap) (n0 : Nat) (v : Option Value) (h : Heap) (L : List Loc) : Prop := (v = some (.int (own_hob p1)) ∧ Fr n0 L ∧ h = h0)
set_option maxRecDepth 65536 in
set_option maxHeartbeats 40000000 in
theorem rm_hob (l : Launch) (Z : State) (a0 : Array Value) (hw : ∀ d ∈ tables_1, d.before a0 Z = true) (ws : List Jvm.Cond) (p1 : Int32) (h0 : Heap) (n0 : Nat) (q0 : (0 : Int32) < p1) (q1 : p1 < (256 : Int32)) :
    MetFree l (⟨"java/lang/Integer", "highestOneBit", "(I)I"⟩ : MethodName) (head1 (Jvm.Cond.code (⟨"java/lang/Integer", "highestOneBit", "(I)I"⟩ : MethodName) jdk_33_method_45_code 1 (some .int) :: ws) ({ frames := 1, cells := 0, slots := 0, locals := 15 } : Room)) (fun a U => a = #[(.int p1)] ∧ Z.Warmed39 U.vm ∧ U.heap = h0) (fun _ _ _ _ _ => True) (fun _ U oc U' => ∃ v L, oc = .returned v ∧ Q_rm_hob Z p1 h0 n0 v U'.heap L ∧ FrameEnd U oc U' L ({ frames := 1, cells := 0, slots := 0, locals := 15 } : Room).cells ({ frames := 1, cells := 0, slots := 0, locals := 15 } : Room).slots) := by
  refine MetFree.of_bodySF (plainFor_of_name pn_int) hisR ?_
  intro p e s m args below meth c s₁ Bd hml0 hP hK
  obtain ⟨rfl, hZ, hh⟩ := hP
  have hx := Bd.exec
  have hby := Bd.bytes
  have hml : c.maxLocals = 1 := hml0
  have hown : s.vm.findClass "java/lang/Integer" = some m.cls := findClass_of_methodNamed Bd.named
  have hnm := (name_of_methodNamed Bd.named Bd.method).1
  have X0 : Stand p l e ({ frames := 1, cells := 0, slots := 0, locals := 15 } : Room) s m #[(.int p1)] below meth c s₁ [] 0 0 := Stand.of_body Bd
  have e0 : s₁.heap = h0 := by rw [← hh, Bd.state]; rfl
  have N0 := Fr.nil n0
  have pre0 : ∀ t, Steps p.tables e below (s₁.setTop (mkF m 0 #[.val (.int p1)] [])) t → Steps p.tables e below (s₁.setTop (entryFrame m #[(.int p1)] 1)) t := fun t k => castTop (ef_hob m p1) k
  obtain ⟨_, _, ⟨T1, L1, k1, n1⟩, -, X1, ⟨Lc1, hQ1, l1, y1, z1⟩, st1⟩ := Jvm.LawKit.callS X0 hx (y := (⟨"java/lang/Integer", "numberOfLeadingZeros", "(I)I"⟩ : MethodName)) hown (mvT hZ (hw _ (List.mem_of_getElem? (i := 19) rfl))) (mvT hZ (hw _ (List.mem_of_getElem? (i := 20) rfl))) (mvT hZ (hw _ (List.mem_of_getElem? (i := 16) rfl))) (mvT hZ (hw _ (List.mem_of_getElem? (i := 21) rfl))) (by decide) (backOf (W := 2) (rm_nlz l Z a0 hw [] p1 h0 n0 q0 q1) hZ (hw _ (List.mem_of_getElem? (i := 21) rfl)) (hw _ (List.mem_of_getElem? (i := 16) rfl)) (by decide) (by decide)) (g := (mkF m 4 #[.val (.int p1)] [(.int p1), (.int (-2147483648 : Int32)), (.int p1)])) rfl (by rw [hml]; rfl) (argsL := [(.int p1)]) (rest := [(.int (-2147483648 : Int32)), (.int p1)]) (lenOf pd_i_i rfl) rfl (by show 2 * 0 + _ ≤ _; exact Nat.le_of_eq rfl) (hb hby d_highestOneBit_4) (fun _ _ => ⟨rfl, e0, (by decide : 0 + 0 ≤ _), (by decide : 0 + 0 ≤ _)⟩)
  dsimp only [Pt.U, Pt.locs, Pt.cells, Pt.slots] at X1 l1 y1 z1 st1 hQ1
  subst l1 y1 z1
  obtain ⟨rfl, N1q, e1⟩ := hQ1
  have N1 := Fr.app N0 N1q
  obtain ⟨fs, hr, hrun, hended, hW, hsame⟩ := X1.leave (v := some (.int (own_hob p1))) (fun h => by rw [Bd.returns] at h; cases h)
  refine ⟨_, _, pre0 _ ?_, hrun, hended, _, _, rfl, ⟨rfl, N1, e1⟩, ⟨_, rfl⟩, hW, hsame.mono (by decide) (by decide)⟩
  show Steps p.tables e below (s₁.setTop (mkF m 0 #[.val (.int p1)] [])) _
  refine XS.iloadN X0.here hx rfl (hb hby d_highestOneBit_0) rfl ?_
  show Steps p.tables e below (s₁.setTop (mkF m 1 #[.val (.int p1)] [(.int p1)])) _
  refine Jvm.Stand.ldcI X0 hx hown (mvT hZ (hw _ (List.mem_of_getElem? (i := 18) rfl))) rfl (hb hby d_highestOneBit_1) ?_
  show Steps p.tables e below (s₁.setTop (mkF m 3 #[.val (.int p1)] [(.int (-2147483648 : Int32)), (.int p1)])) _
  refine XS.iloadN X0.here hx rfl (hb hby d_highestOneBit_3) rfl ?_
  refine st1 _ ?_
  show Steps p.tables e below (T1.setTop (mkF m 7 #[.val (.int p1)] [(.int (own_nlz p1)), (.int (-2147483648 : Int32)), (.int p1)])) _
  refine XS.iushr X1.here hx rfl (hb hby d_highestOneBit_7) rfl ?_
  show Steps p.tables e below (T1.setTop (mkF m 8 #[.val (.int p1)] [(.int (((-2147483648 : Int32).toUInt32 >>> ((own_nlz p1) &&& 31).toUInt32).toInt32)), (.int p1)])) _
  refine XS.iand X1.here hx rfl (hb hby d_highestOneBit_8) rfl ?_
  show Steps p.tables e below (T1.setTop (mkF m 9 #[.val (.int p1)] [(.int (p1 &&& (((-2147483648 : Int32).toUInt32 >>> ((own_nlz p1) &&& 31).toUInt32).toInt32)))])) _
  exact retI X1 hx Bd.returns (hb hby d_highestOneBit_9) hr
theorem d_init_0 : decode prog_152_method_1_code 0 = .ok (.aload_n 0, 1) := by decide +kernel
theorem d_init_1 : decode prog_152_method_1_code 1 = .ok (.invokespecial 1, 3) := by decide +kernel
theorem d_init_4 : decode prog_152_method_1_code 4 = .ok (.aload_n 0, 1) := by decide +kernel
theorem d_init_5 : decode prog_152_method_1_code 5 = .ok (.iconst 2, 1) := by decide +kernel
theorem d_init_6 : decode prog_152_method_1_code 6 = .ok (.iload_n 1, 1) := by decide +kernel
theorem d_init_7 : decode prog_152_method_1_code 7 = .ok (.imul, 1) := by decide +kernel
theorem d_init_8 : decode prog_152_method_1_code 8 = .ok (.iconst 1, 1) := by decide +kernel
theorem d_init_9 : decode prog_152_method_1_code 9 = .ok (.isub, 1) := by decide +kernel
theorem d_init_10 : decode prog_152_method_1_code 10 = .ok (.iconst 1, 1) := by decide +kernel
theorem d_init_11 : decode prog_152_method_1_code 11 = .ok (.invokestatic 7, 3) := by decide +kernel
theorem d_init_14 : decode prog_152_method_1_code 14 = .ok (.invokestatic 13, 3) := by decide +kernel
theorem d_init_17 : decode prog_152_method_1_code 17 = .ok (.putfield 19, 3) := by decide +kernel
theorem d_init_20 : decode prog_152_method_1_code 20 = .ok (.aload_n 0, 1) := by decide +kernel
theorem d_init_21 : decode prog_152_method_1_code 21 = .ok (.iconst 2, 1) := by decide +kernel
theorem d_init_22 : decode prog_152_method_1_code 22 = .ok (.aload_n 0, 1) := by decide +kernel
theorem d_init_23 : decode prog_152_method_1_code 23 = .ok (.getfield 19, 3) := by decide +kernel
theorem d_init_26 : decode prog_152_method_1_code 26 = .ok (.imul, 1) := by decide +kernel
theorem d_init_27 : decode prog_152_method_1_code 27 = .ok (.newarray .long, 2) := by decide +kernel
theorem d_init_29 : decode prog_152_method_1_code 29 = .ok (.putfield 25, 3) := by decide +kernel
theorem d_init_32 : decode prog_152_method_1_code 32 = .ok (.return_, 1) := by decide +kernel
theorem pn_b : plainName "com/example/mutableau/mutableau/formula/BindingReferences" = true := by first | (simp [plainName, overriddenIn]; done) | decide +kernel
theorem ef_ct (m : MethodId) (x0 : Addr) (x1 : Int32) : entryFrame m #[(.ref x0), (.int x1)] 2 = mkF m 0 #[.val (.ref x0), .val (.int x1)] [] := by first | (simp [entryFrame, mkF, argsToLocals, Value.category]; done) | rfl
theorem pd_ct : parseMethodDescriptor "(I)V" = some ⟨[.int], none⟩ := by decide +kernel
def own_lv (d : Int32) : Int32 := own_hob (own_mx (((2 : Int32) * d) - (1 : Int32)) (1 : Int32))
def Q_rm_ct (Z : State) (o : Addr) (p1 : Int32) (q : Nat) (h0 : Heap) (n0 : Nat) (v : Option Value) (h : Heap) (L : List Loc) : Prop := (v = none ∧ Fr n0 L ∧ Keep h0 h [o] ∧ Exa Z h o "com/example/mutableau/mutableau/formula/BindingReferences" ∧ Fld Z h o "com/example/mutableau/mutableau/formula/BindingReferences" "leaves" "I" (.int q.toInt32) ∧ ∃ b, h0.size ≤ b ∧ Fld Z h o "com/example/mutableau/mutableau/formula/BindingReferences" "latest" "[J" (.ref b) ∧ own_A Z h b (2 * q) (fun _ => 0))
set_option maxRecDepth 65536 in
set_option maxHeartbeats 40000000 in
theorem rm_ct (l : Launch) (Z : State) (a0 : Array Value) (hw : ∀ d ∈ tables_1, d.before a0 Z = true) (ws : List Jvm.Cond) (o : Addr) (p1 : Int32) (h0 : Heap) (n0 : Nat) (q : Nat) (hq : own_lv p1 = q.toInt32) (hq1 : 2 * q ≤ 32) (q0 : (0 : Int32) < own_mx (((2 : Int32) * p1) - (1 : Int32)) (1 : Int32)) (q1 : own_mx (((2 : Int32) * p1) - (1 : Int32)) (1 : Int32) < (256 : Int32)) (Z0 : n0 ≤ h0.size) (F1 : Fld Z h0 o "com/example/mutableau/mutableau/formula/BindingReferences" "leaves" "I" (.int (0 : Int32))) (F2 : Fld Z h0 o "com/example/mutableau/mutableau/formula/BindingReferences" "latest" "[J" .null) (E0 : Exa Z h0 o "com/example/mutableau/mutableau/formula/BindingReferences") (go : n0 ≤ o) :
    MetFree l (⟨"com/example/mutableau/mutableau/formula/BindingReferences", "<init>", "(I)V"⟩ : MethodName) (head1 (Jvm.Cond.code (⟨"com/example/mutableau/mutableau/formula/BindingReferences", "<init>", "(I)V"⟩ : MethodName) prog_152_method_1_code 2 none :: ws) ({ frames := 2, cells := 1, slots := 32, locals := 28 } : Room)) (fun a U => a = #[(.ref o), (.int p1)] ∧ Z.Warmed39 U.vm ∧ U.heap = h0) (fun _ _ _ _ _ => True) (fun _ U oc U' => ∃ v L, oc = .returned v ∧ Q_rm_ct Z o p1 q h0 n0 v U'.heap L ∧ FrameEnd U oc U' L ({ frames := 2, cells := 1, slots := 32, locals := 28 } : Room).cells ({ frames := 2, cells := 1, slots := 32, locals := 28 } : Room).slots) := by
  refine MetFree.of_bodySF (plainFor_of_name pn_b) hisR ?_
  intro p e s m args below meth c s₁ Bd hml0 hP hK
  obtain ⟨rfl, hZ, hh⟩ := hP
  have hx := Bd.exec
  have hby := Bd.bytes
  have hml : c.maxLocals = 2 := hml0
  have hown : s.vm.findClass "com/example/mutableau/mutableau/formula/BindingReferences" = some m.cls := findClass_of_methodNamed Bd.named
  have hnm := (name_of_methodNamed Bd.named Bd.method).1
  have X0 : Stand p l e ({ frames := 2, cells := 1, slots := 32, locals := 28 } : Room) s m #[(.ref o), (.int p1)] below meth c s₁ [] 0 0 := Stand.of_body Bd
  have e0 : s₁.heap = h0 := by rw [← hh, Bd.state]; rfl
  have N0 := Fr.nil n0
  have pre0 : ∀ t, Steps p.tables e below (s₁.setTop (mkF m 0 #[.val (.ref o), .val (.int p1)] [])) t → Steps p.tables e below (s₁.setTop (entryFrame m #[(.ref o), (.int p1)] 2)) t := fun t k => castTop (ef_ct m o p1) k
  obtain ⟨T1, X1, e1, st1⟩ := initO X0 hx hZ hown (hw _ (List.mem_of_getElem? (i := 7) rfl)) (hw _ (List.mem_of_getElem? (i := 8) rfl)) (hw _ (List.mem_of_getElem? (i := 9) rfl)) e0 (g := (mkF m 1 #[.val (.ref o), .val (.int p1)] [(.ref o)])) rfl (by rw [hml]; rfl) rfl (hb hby d_init_1) (by decide) (W := 0) (by show 2 * 0 + _ ≤ _; exact Nat.le_of_eq rfl) (by decide)
  obtain ⟨_, _, ⟨T2, L2, k2, n2⟩, -, X2, ⟨Lc2, hQ2, l2, y2, z2⟩, st2⟩ := Jvm.LawKit.callS X1 hx (y := (⟨"java/lang/Math", "max", "(II)I"⟩ : MethodName)) hown (mvT hZ (hw _ (List.mem_of_getElem? (i := 10) rfl))) (mvT hZ (hw _ (List.mem_of_getElem? (i := 11) rfl))) (mvT hZ (hw _ (List.mem_of_getElem? (i := 12) rfl))) (mvT hZ (hw _ (List.mem_of_getElem? (i := 13) rfl))) (by decide) (backOf (W := 1) (rm_mx l Z a0 hw [] (((2 : Int32) * p1) - (1 : Int32)) (1 : Int32) h0 n0) hZ (hw _ (List.mem_of_getElem? (i := 13) rfl)) (hw _ (List.mem_of_getElem? (i := 12) rfl)) (by decide) (by decide)) (g := (mkF m 11 #[.val (.ref o), .val (.int p1)] [(.int (1 : Int32)), (.int (((2 : Int32) * p1) - (1 : Int32))), (.ref o)])) rfl (by rw [hml]; rfl) (argsL := [(.int (((2 : Int32) * p1) - (1 : Int32))), (.int (1 : Int32))]) (rest := [(.ref o)]) (lenOf pd_ii_i rfl) rfl (by show 2 * 0 + _ ≤ _; exact Nat.le_of_eq rfl) (hb hby d_init_11) (fun _ _ => ⟨rfl, e1, (by decide : 0 + 0 ≤ _), (by decide : 0 + 0 ≤ _)⟩)
  dsimp only [Pt.U, Pt.locs, Pt.cells, Pt.slots] at X2 l2 y2 z2 st2 hQ2
  subst l2 y2 z2
  obtain ⟨rfl, N2q, e2⟩ := hQ2
  have N2 := Fr.app N0 N2q
  obtain ⟨_, _, ⟨T3, L3, k3, n3⟩, -, X3, ⟨Lc3, hQ3, l3, y3, z3⟩, st3⟩ := Jvm.LawKit.callS X2 hx (y := (⟨"java/lang/Integer", "highestOneBit", "(I)I"⟩ : MethodName)) hown (mvT hZ (hw _ (List.mem_of_getElem? (i := 14) rfl))) (mvT hZ (hw _ (List.mem_of_getElem? (i := 15) rfl))) (mvT hZ (hw _ (List.mem_of_getElem? (i := 16) rfl))) (mvT hZ (hw _ (List.mem_of_getElem? (i := 17) rfl))) (by decide) (backOf (W := 1) (rm_hob l Z a0 hw [] (own_mx (((2 : Int32) * p1) - (1 : Int32)) (1 : Int32)) h0 n0 q0 q1) hZ (hw _ (List.mem_of_getElem? (i := 17) rfl)) (hw _ (List.mem_of_getElem? (i := 16) rfl)) (by decide) (by decide)) (g := (mkF m 14 #[.val (.ref o), .val (.int p1)] [(.int (own_mx (((2 : Int32) * p1) - (1 : Int32)) (1 : Int32))), (.ref o)])) rfl (by rw [hml]; rfl) (argsL := [(.int (own_mx (((2 : Int32) * p1) - (1 : Int32)) (1 : Int32)))]) (rest := [(.ref o)]) (lenOf pd_i_i rfl) rfl (by show 2 * 0 + _ ≤ _; exact Nat.le_of_eq rfl) (hb hby d_init_14) (fun _ _ => ⟨rfl, e2, (by decide : 0 + 0 ≤ _), (by decide : 0 + 0 ≤ _)⟩)
  dsimp only [Pt.U, Pt.locs, Pt.cells, Pt.slots] at X3 l3 y3 z3 st3 hQ3
  subst l3 y3 z3
  obtain ⟨rfl, N3q, e3⟩ := hQ3
  have N3 := Fr.app N2 N3q
  obtain ⟨T4, h4, X4, e4, W4, st4⟩ := putF X3 hx hZ hown (host := "") (Or.inl (hw _ (List.mem_of_getElem? (i := 23) rfl))) Via.refl e3 F1 E0 (Or.inr ⟨(hw _ (List.mem_of_getElem? (i := 24) rfl)), rfl, hnm⟩) (hw _ (List.mem_of_getElem? (i := 2) rfl)) (ty := .int) (by decide) rfl rfl (g := (mkF m 17 #[.val (.ref o), .val (.int p1)] [(.int q.toInt32), (.ref o)])) rfl rfl (hb hby d_init_17)
  have N4 := Fr.snoc X4 N3 go
  have K4 : Keep h0 h4 [o] := ((Keep.refl _ _).wr W4 (Or.inl (List.mem_of_getElem? (i := 0) rfl)))
  have E4 := E0.wr W4
  have F14 := F1.same W4
  have sne : Jvm.RoadKit.slotOf Z "com/example/mutableau/mutableau/formula/BindingReferences" "latest" "[J" ≠ Jvm.RoadKit.slotOf Z "com/example/mutableau/mutableau/formula/BindingReferences" "leaves" "I" := slot_ne (C := "com/example/mutableau/mutableau/formula/BindingReferences") (a0 := a0) (Or.inr (hw _ (List.mem_of_getElem? (i := 27) rfl))) (Or.inr (hw _ (List.mem_of_getElem? (i := 24) rfl))) (by decide) (t := .array .long) (t' := .int) (by decide) (by decide)
  have F24 := F2.other W4 (Or.inr sne)
  obtain ⟨T5, X5, e5, st5⟩ := getF X4 hx hZ hown (host := "") (Or.inl (hw _ (List.mem_of_getElem? (i := 23) rfl))) Via.refl e4 F14 (g := (mkF m 23 #[.val (.ref o), .val (.int p1)] [(.ref o), (.int (2 : Int32)), (.ref o)])) rfl rfl (hb hby d_init_23)
  have hN : ((2 : Int32) * q.toInt32) = (2 * q).toInt32 := own_dbl (by omega)
  obtain ⟨T6, h6, k6, X6, e6, E6, A6, st6⟩ := newP X5 hx hZ (hw _ (List.mem_of_getElem? (i := 25) rfl)) e5 (g := (mkF m 27 #[.val (.ref o), .val (.int p1)] [(.int (2 * q).toInt32), (.ref o)])) rfl (hb hby d_init_27) rfl (n := (2 * q).toInt32) (by rw [Int32.lt_iff_toInt_lt, own_t (by omega), show (0 : Int32).toInt = 0 from rfl]; omega) (cap := 32) (by rw [own_tn (by omega)]; exact hq1) (by decide) (by decide) (by decide)
  obtain ⟨b, g6⟩ : ∃ z, z = h4.size := ⟨_, rfl⟩
  rw [← g6] at A6 st6
  have B6 := own_A_new A6 (by omega)
  have F16 := F14.ext E6
  have F26 := F24.ext E6
  have E6' := E4.ext E6
  have K6 := K4.ext E6
  obtain ⟨T7, h7, X7, e7, W7, st7⟩ := putF X6 hx hZ hown (host := "") (Or.inl (hw _ (List.mem_of_getElem? (i := 26) rfl))) Via.refl e6 F26 E6' (Or.inr ⟨(hw _ (List.mem_of_getElem? (i := 27) rfl)), rfl, hnm⟩) (hw _ (List.mem_of_getElem? (i := 2) rfl)) (ty := (.array .long)) (by decide) rfl rfl (g := (mkF m 29 #[.val (.ref o), .val (.int p1)] [(.ref b), (.ref o)])) rfl rfl (hb hby d_init_29)
  have N7 := Fr.snoc X7 N4 go
  have K7 : Keep h0 h7 [o] := K6.wr W7 (Or.inl (List.mem_of_getElem? (i := 0) rfl))
  have hbo : b ≠ o := (Nat.ne_of_lt (Nat.lt_of_lt_of_eq E4.lt g6.symm)).symm
  have B7 := own_A_other B6 W7 hbo
  have E7 := E6'.wr W7
  have F27 := F26.same W7
  have F17 := F16.other W7 (Or.inr (fun q => sne q.symm))
  obtain ⟨fs, hr, hrun, hended, hW, hsame⟩ := X7.leave (v := none) (fun _ => rfl)
  refine ⟨_, _, pre0 _ ?_, hrun, hended, _, _, rfl, ⟨rfl, N7, e7 ▸ K7, e7 ▸ E7, e7 ▸ F17, b, Nat.le_trans K4.1 (Nat.le_of_eq g6.symm), e7 ▸ F27, e7 ▸ B7⟩, ⟨_, rfl⟩, hW, hsame.mono (by decide) (by decide)⟩
  show Steps p.tables e below (s₁.setTop (mkF m 0 #[.val (.ref o), .val (.int p1)] [])) _
  refine XS.aloadN X0.here hx rfl (hb hby d_init_0) rfl rfl ?_
  show Steps p.tables e below (s₁.setTop (mkF m 1 #[.val (.ref o), .val (.int p1)] [(.ref o)])) _
  refine st1 _ ?_
  show Steps p.tables e below (T1.setTop (mkF m 4 #[.val (.ref o), .val (.int p1)] [])) _
  refine XS.aloadN X1.here hx rfl (hb hby d_init_4) rfl rfl ?_
  show Steps p.tables e below (T1.setTop (mkF m 5 #[.val (.ref o), .val (.int p1)] [(.ref o)])) _
  refine XS.iconst X1.here hx rfl (hb hby d_init_5) ?_
  show Steps p.tables e below (T1.setTop (mkF m 6 #[.val (.ref o), .val (.int p1)] [(.int (2 : Int32)), (.ref o)])) _
  refine XS.iloadN X1.here hx rfl (hb hby d_init_6) rfl ?_
  show Steps p.tables e below (T1.setTop (mkF m 7 #[.val (.ref o), .val (.int p1)] [(.int p1), (.int (2 : Int32)), (.ref o)])) _
  refine XS.imul X1.here hx rfl (hb hby d_init_7) rfl ?_
  show Steps p.tables e below (T1.setTop (mkF m 8 #[.val (.ref o), .val (.int p1)] [(.int ((2 : Int32) * p1)), (.ref o)])) _
  refine XS.iconst X1.here hx rfl (hb hby d_init_8) ?_
  show Steps p.tables e below (T1.setTop (mkF m 9 #[.val (.ref o), .val (.int p1)] [(.int (1 : Int32)), (.int ((2 : Int32) * p1)), (.ref o)])) _
  refine XS.isub X1.here hx rfl (hb hby d_init_9) rfl ?_
  show Steps p.tables e below (T1.setTop (mkF m 10 #[.val (.ref o), .val (.int p1)] [(.int (((2 : Int32) * p1) - (1 : Int32))), (.ref o)])) _
  refine XS.iconst X1.here hx rfl (hb hby d_init_10) ?_
  show Steps p.tables e below (T1.setTop (mkF m 11 #[.val (.ref o), .val (.int p1)] [(.int (1 : Int32)), (.int (((2 : Int32) * p1) - (1 : Int32))), (.ref o)])) _
  refine st2 _ ?_
  show Steps p.tables e below (T2.setTop (mkF m 14 #[.val (.ref o), .val (.int p1)] [(.int (own_mx (((2 : Int32) * p1) - (1 : Int32)) (1 : Int32))), (.ref o)])) _
  refine st3 _ ?_
  show Steps p.tables e below (T3.setTop (mkF m 17 #[.val (.ref o), .val (.int p1)] [(.int (own_lv p1)), (.ref o)])) _
  rw [hq]
  show Steps p.tables e below (T3.setTop (mkF m 17 #[.val (.ref o), .val (.int p1)] [(.int q.toInt32), (.ref o)])) _
  refine st4 _ ?_
  show Steps p.tables e below (T4.setTop (mkF m 20 #[.val (.ref o), .val (.int p1)] [])) _
  refine XS.aloadN X4.here hx rfl (hb hby d_init_20) rfl rfl ?_
  show Steps p.tables e below (T4.setTop (mkF m 21 #[.val (.ref o), .val (.int p1)] [(.ref o)])) _
  refine XS.iconst X4.here hx rfl (hb hby d_init_21) ?_
  show Steps p.tables e below (T4.setTop (mkF m 22 #[.val (.ref o), .val (.int p1)] [(.int (2 : Int32)), (.ref o)])) _
  refine XS.aloadN X4.here hx rfl (hb hby d_init_22) rfl rfl ?_
  show Steps p.tables e below (T4.setTop (mkF m 23 #[.val (.ref o), .val (.int p1)] [(.ref o), (.int (2 : Int32)), (.ref o)])) _
  refine st5 _ ?_
  show Steps p.tables e below (T5.setTop (mkF m 26 #[.val (.ref o), .val (.int p1)] [(.int q.toInt32), (.int (2 : Int32)), (.ref o)])) _
  refine XS.imul X5.here hx rfl (hb hby d_init_26) rfl ?_
  show Steps p.tables e below (T5.setTop (mkF m 27 #[.val (.ref o), .val (.int p1)] [(.int ((2 : Int32) * q.toInt32)), (.ref o)])) _
  rw [hN]
  show Steps p.tables e below (T5.setTop (mkF m 27 #[.val (.ref o), .val (.int p1)] [(.int (2 * q).toInt32), (.ref o)])) _
  refine st6 _ ?_
  show Steps p.tables e below (T6.setTop (mkF m 29 #[.val (.ref o), .val (.int p1)] [(.ref b), (.ref o)])) _
  refine st7 _ ?_
  show Steps p.tables e below (T7.setTop (mkF m 32 #[.val (.ref o), .val (.int p1)] [])) _
  exact X7.returnOut hx Bd.returns (hb hby d_init_32) hr
theorem d_refer_0 : decode prog_152_method_3_code 0 = .ok (.aload_n 0, 1) := by decide +kernel
theorem d_refer_1 : decode prog_152_method_3_code 1 = .ok (.getfield 25, 3) := by decide +kernel
theorem d_refer_4 : decode prog_152_method_3_code 4 = .ok (.iconst 1, 1) := by decide +kernel
theorem d_refer_5 : decode prog_152_method_3_code 5 = .ok (.laload, 1) := by decide +kernel
theorem d_refer_6 : decode prog_152_method_3_code 6 = .ok (.lconst 1, 1) := by decide +kernel
theorem d_refer_7 : decode prog_152_method_3_code 7 = .ok (.ladd, 1) := by decide +kernel
theorem d_refer_8 : decode prog_152_method_3_code 8 = .ok (.lstore_n 2, 1) := by decide +kernel
theorem d_refer_9 : decode prog_152_method_3_code 9 = .ok (.aload_n 0, 1) := by decide +kernel
theorem d_refer_10 : decode prog_152_method_3_code 10 = .ok (.getfield 19, 3) := by decide +kernel
theorem d_refer_13 : decode prog_152_method_3_code 13 = .ok (.iload_n 1, 1) := by decide +kernel
theorem d_refer_14 : decode prog_152_method_3_code 14 = .ok (.iadd, 1) := by decide +kernel
theorem d_refer_15 : decode prog_152_method_3_code 15 = .ok (.istore 4, 2) := by decide +kernel
theorem d_refer_17 : decode prog_152_method_3_code 17 = .ok (.iload 4, 2) := by decide +kernel
theorem d_refer_19 : decode prog_152_method_3_code 19 = .ok (.ifCond .le 20, 3) := by decide +kernel
theorem d_refer_22 : decode prog_152_method_3_code 22 = .ok (.aload_n 0, 1) := by decide +kernel
theorem d_refer_23 : decode prog_152_method_3_code 23 = .ok (.getfield 25, 3) := by decide +kernel
theorem d_refer_26 : decode prog_152_method_3_code 26 = .ok (.iload 4, 2) := by decide +kernel
theorem d_refer_28 : decode prog_152_method_3_code 28 = .ok (.lload_n 2, 1) := by decide +kernel
theorem d_refer_29 : decode prog_152_method_3_code 29 = .ok (.lastore, 1) := by decide +kernel
theorem d_refer_30 : decode prog_152_method_3_code 30 = .ok (.iload 4, 2) := by decide +kernel
theorem d_refer_32 : decode prog_152_method_3_code 32 = .ok (.iconst 2, 1) := by decide +kernel
theorem d_refer_33 : decode prog_152_method_3_code 33 = .ok (.idiv, 1) := by decide +kernel
theorem d_refer_34 : decode prog_152_method_3_code 34 = .ok (.istore 4, 2) := by decide +kernel
theorem d_refer_36 : decode prog_152_method_3_code 36 = .ok (.goto (-19), 3) := by decide +kernel
theorem d_refer_39 : decode prog_152_method_3_code 39 = .ok (.return_, 1) := by decide +kernel
theorem ef_rf (m : MethodId) (x0 : Addr) (x1 : Int32) : entryFrame m #[(.ref x0), (.int x1)] 5 = mkF m 0 #[.val (.ref x0), .val (.int x1), .unset, .unset, .unset] [] := by first | (simp [entryFrame, mkF, argsToLocals, Value.category]; done) | rfl
set_option maxRecDepth 65536 in
set_option maxHeartbeats 40000000 in
theorem lp_rf {p : Program} {l : Launch} {e : Env} {R : Room} {s : State} {m : MethodId} {args : Array Value} {below : List Frame} {meth : Method} {c : Code} {cells slots : Nat} {Z : State} {a0 : Array Value} (hx : p.tables.exec = Jvm.exec) (hZ : Z.Warmed39 s.vm) (hw : ∀ d ∈ tables_1, d.before a0 Z = true) (hby : c.code = prog_152_method_3_code) (hown : s.vm.findClass "com/example/mutableau/mutableau/formula/BindingReferences" = some m.cls)  (n0 : Nat) (hs : Heap) (o b : Addr) (p1 : Int32) (v : Int64) (q : Nat) (hq : 2 * q < 2147483648) (hob : o ≠ b) (gb : n0 ≤ b) :
    ∀ (k i : Nat) (f : Nat → Int64) (T0 : State) (locs : List Loc) (h : Heap), i ≤ k → i < 2 * q → Stand p l e R s m args below meth c T0 locs cells slots → T0.heap = h → Fld Z h o "com/example/mutableau/mutableau/formula/BindingReferences" "latest" "[J" (.ref b) → own_A Z h b (2 * q) f → Fr n0 locs → Keep hs h [b] →
      ∃ (T' : State) (locs' : List Loc) (h' : Heap), Stand p l e R s m args below meth c T' locs' cells slots ∧ T'.heap = h' ∧ own_A Z h' b (2 * q) (own_path v k i f) ∧ Fr n0 locs' ∧ Keep hs h' [b] ∧ ∀ t, Steps p.tables e below (T'.setTop (mkF m 39 #[.val (.ref o), .val (.int p1), .val (.long v), .second, .val (.int (0 : Nat).toInt32)] [])) t → Steps p.tables e below (T0.setTop (mkF m 17 #[.val (.ref o), .val (.int p1), .val (.long v), .second, .val (.int i.toInt32)] [])) t := by
  intro k
  induction k with
  | zero =>
    intro i f T0 locs h hi hi2 X0 e0 F A N K
    have h0 : i = 0 := by omega
    subst h0
    refine ⟨T0, locs, h, X0, e0, A, N, K, fun t kt => ?_⟩
    have hc19 : ¬ ((0 : Int32) < (0 : Nat).toInt32) := by decide
    show Steps p.tables e below (T0.setTop (mkF m 17 #[.val (.ref o), .val (.int p1), .val (.long v), .second, .val (.int (0 : Nat).toInt32)] [])) _
    refine XS.iload X0.here hx rfl (hb hby d_refer_17) rfl ?_
    show Steps p.tables e below (T0.setTop (mkF m 19 #[.val (.ref o), .val (.int p1), .val (.long v), .second, .val (.int (0 : Nat).toInt32)] [(.int (0 : Nat).toInt32)])) _
    refine XS.ifYes X0.here hx rfl (pc0 := 19) (pc' := 39) rfl (hb hby d_refer_19) rfl ((if0 _ _).trans (flt hc19).2.2.2) (by decide) (by decide) ?_
    exact kt
  | succ k ih =>
    intro i f T0 locs h hi hi2 X0 e0 F A N K
    by_cases h0 : i = 0
    · subst h0
      rw [own_path0]
      refine ⟨T0, locs, h, X0, e0, A, N, K, fun t kt => ?_⟩
      have hc19 : ¬ ((0 : Int32) < (0 : Nat).toInt32) := by decide
      show Steps p.tables e below (T0.setTop (mkF m 17 #[.val (.ref o), .val (.int p1), .val (.long v), .second, .val (.int (0 : Nat).toInt32)] [])) _
      refine XS.iload X0.here hx rfl (hb hby d_refer_17) rfl ?_
      show Steps p.tables e below (T0.setTop (mkF m 19 #[.val (.ref o), .val (.int p1), .val (.long v), .second, .val (.int (0 : Nat).toInt32)] [(.int (0 : Nat).toInt32)])) _
      refine XS.ifYes X0.here hx rfl (pc0 := 19) (pc' := 39) rfl (hb hby d_refer_19) rfl ((if0 _ _).trans (flt hc19).2.2.2) (by decide) (by decide) ?_
      exact kt
    · rw [own_pathS v k i f h0]
      have hc19 : (0 : Int32) < i.toInt32 := (own_pos (by omega)).mpr h0
      obtain ⟨T1, X1, e1, st1⟩ := getF X0 hx hZ hown (host := "") (Or.inl (hw _ (List.mem_of_getElem? (i := 26) rfl))) Via.refl e0 F (g := (mkF m 23 #[.val (.ref o), .val (.int p1), .val (.long v), .second, .val (.int i.toInt32)] [(.ref o)])) rfl rfl (hb hby d_refer_23)
      obtain ⟨cl, Ar, Sz, H⟩ := A
      obtain ⟨hin, hat⟩ := own_rd (i := i) Sz H rfl hi2 (by omega)
      obtain ⟨T2, h2, X2, e2, W2, st2⟩ := stJ X1 hx hZ e1 Ar (j := i.toInt32) hin (g := (mkF m 29 #[.val (.ref o), .val (.int p1), .val (.long v), .second, .val (.int i.toInt32)] [(.long v), (.int i.toInt32), (.ref b)])) rfl rfl (hb hby d_refer_29)
      rw [own_tn (by omega)] at W2 X2
      have A2 := own_A_set Ar Sz H W2 hi2
      have N2 := Fr.snoc X2 N gb
      have K2 : Keep hs h2 [b] := K.wr W2 (Or.inl (List.mem_of_getElem? (i := 0) rfl))
      have F2 := F.other W2 (Or.inl hob)
      have hhalf : i.toInt32 / (2 : Int32) = (i / 2).toInt32 := own_half (by omega)
      obtain ⟨T', locs', h', X', e', A', N', K', st'⟩ := ih (i / 2) (own_upd f i v) T2 _ h2 (by omega) (by omega) X2 e2 F2 A2 N2 K2
      refine ⟨T', locs', h', X', e', A', N', K', fun t kt => ?_⟩
      show Steps p.tables e below (T0.setTop (mkF m 17 #[.val (.ref o), .val (.int p1), .val (.long v), .second, .val (.int i.toInt32)] [])) _
      refine XS.iload X0.here hx rfl (hb hby d_refer_17) rfl ?_
      show Steps p.tables e below (T0.setTop (mkF m 19 #[.val (.ref o), .val (.int p1), .val (.long v), .second, .val (.int i.toInt32)] [(.int i.toInt32)])) _
      refine XS.ifNo X0.here hx rfl (hb hby d_refer_19) rfl ((if0 _ _).trans (tlt hc19).2.2.2) ?_
      show Steps p.tables e below (T0.setTop (mkF m 22 #[.val (.ref o), .val (.int p1), .val (.long v), .second, .val (.int i.toInt32)] [])) _
      refine XS.aloadN X0.here hx rfl (hb hby d_refer_22) rfl rfl ?_
      show Steps p.tables e below (T0.setTop (mkF m 23 #[.val (.ref o), .val (.int p1), .val (.long v), .second, .val (.int i.toInt32)] [(.ref o)])) _
      refine st1 _ ?_
      show Steps p.tables e below (T1.setTop (mkF m 26 #[.val (.ref o), .val (.int p1), .val (.long v), .second, .val (.int i.toInt32)] [(.ref b)])) _
      refine XS.iload X1.here hx rfl (hb hby d_refer_26) rfl ?_
      show Steps p.tables e below (T1.setTop (mkF m 28 #[.val (.ref o), .val (.int p1), .val (.long v), .second, .val (.int i.toInt32)] [(.int i.toInt32), (.ref b)])) _
      refine XS.lloadN X1.here hx rfl (hb hby d_refer_28) rfl ?_
      show Steps p.tables e below (T1.setTop (mkF m 29 #[.val (.ref o), .val (.int p1), .val (.long v), .second, .val (.int i.toInt32)] [(.long v), (.int i.toInt32), (.ref b)])) _
      refine st2 _ ?_
      show Steps p.tables e below (T2.setTop (mkF m 30 #[.val (.ref o), .val (.int p1), .val (.long v), .second, .val (.int i.toInt32)] [])) _
      refine XS.iload X2.here hx rfl (hb hby d_refer_30) rfl ?_
      show Steps p.tables e below (T2.setTop (mkF m 32 #[.val (.ref o), .val (.int p1), .val (.long v), .second, .val (.int i.toInt32)] [(.int i.toInt32)])) _
      refine XS.iconst X2.here hx rfl (hb hby d_refer_32) ?_
      show Steps p.tables e below (T2.setTop (mkF m 33 #[.val (.ref o), .val (.int p1), .val (.long v), .second, .val (.int i.toInt32)] [(.int (2 : Int32)), (.int i.toInt32)])) _
      refine XS.idiv X2.here hx rfl (hb hby d_refer_33) rfl (by decide) ?_
      show Steps p.tables e below (T2.setTop (mkF m 34 #[.val (.ref o), .val (.int p1), .val (.long v), .second, .val (.int i.toInt32)] [(.int (i.toInt32 / (2 : Int32)))])) _
      refine XS.istore X2.here hx rfl (hb hby d_refer_34) rfl (l' := #[.val (.ref o), .val (.int p1), .val (.long v), .second, .val (.int (i.toInt32 / (2 : Int32)))]) rfl ?_
      show Steps p.tables e below (T2.setTop (mkF m 36 #[.val (.ref o), .val (.int p1), .val (.long v), .second, .val (.int (i.toInt32 / (2 : Int32)))] [])) _
      refine XS.goto X2.here hx rfl (pc0 := 36) (pc' := 17) rfl (hb hby d_refer_36) (by decide) (by decide) ?_
      show Steps p.tables e below (T2.setTop (mkF m 17 #[.val (.ref o), .val (.int p1), .val (.long v), .second, .val (.int (i.toInt32 / (2 : Int32)))] [])) _
      rw [hhalf]
      exact st' t kt
def Q_rm_rf (Z : State) (o : Addr) (p1 : Int32) (d : Nat) (b : Addr) (q : Nat) (f : Nat → Int64) (h0 : Heap) (n0 : Nat) (v : Option Value) (h : Heap) (L : List Loc) : Prop := (v = none ∧ Fr n0 L ∧ Keep h0 h [b] ∧ own_A Z h b (2 * q) (own_path (f 1 + 1) (q + d) (q + d) f))
set_option maxRecDepth 65536 in
set_option maxHeartbeats 40000000 in
theorem rm_rf (l : Launch) (Z : State) (a0 : Array Value) (hw : ∀ d ∈ tables_1, d.before a0 Z = true) (ws : List Jvm.Cond) (o : Addr) (p1 : Int32) (h0 : Heap) (n0 : Nat) (d : Nat) (hd : p1 = d.toInt32) (b : Addr) (q : Nat) (hq : 2 * q < 2147483648) (hdq : d < q) (f : Nat → Int64) (F1 : Fld Z h0 o "com/example/mutableau/mutableau/formula/BindingReferences" "leaves" "I" (.int q.toInt32)) (F2 : Fld Z h0 o "com/example/mutableau/mutableau/formula/BindingReferences" "latest" "[J" (.ref b)) (A0 : own_A Z h0 b (2 * q) f) (hob : o ≠ b) (gb : n0 ≤ b) :
    MetFree l (⟨"com/example/mutableau/mutableau/formula/BindingReferences", "refer", "(I)V"⟩ : MethodName) (head1 (Jvm.Cond.code (⟨"com/example/mutableau/mutableau/formula/BindingReferences", "refer", "(I)V"⟩ : MethodName) prog_152_method_3_code 5 none :: ws) ({ frames := 0, cells := 0, slots := 0, locals := 0 } : Room)) (fun a U => a = #[(.ref o), (.int p1)] ∧ Z.Warmed39 U.vm ∧ U.heap = h0) (fun _ _ _ _ _ => True) (fun _ U oc U' => ∃ v L, oc = .returned v ∧ Q_rm_rf Z o p1 d b q f h0 n0 v U'.heap L ∧ FrameEnd U oc U' L ({ frames := 0, cells := 0, slots := 0, locals := 0 } : Room).cells ({ frames := 0, cells := 0, slots := 0, locals := 0 } : Room).slots) := by
  refine MetFree.of_bodySF (plainFor_of_name pn_b) hisR ?_
  intro p e s m args below meth c s₁ Bd hml0 hP hK
  obtain ⟨rfl, hZ, hh⟩ := hP
  have hx := Bd.exec
  have hby := Bd.bytes
  have hml : c.maxLocals = 5 := hml0
  have hown : s.vm.findClass "com/example/mutableau/mutableau/formula/BindingReferences" = some m.cls := findClass_of_methodNamed Bd.named
  have hnm := (name_of_methodNamed Bd.named Bd.method).1
  have X0 : Stand p l e ({ frames := 0, cells := 0, slots := 0, locals := 0 } : Room) s m #[(.ref o), (.int p1)] below meth c s₁ [] 0 0 := Stand.of_body Bd
  have e0 : s₁.heap = h0 := by rw [← hh, Bd.state]; rfl
  have N0 := Fr.nil n0
  have pre0 : ∀ t, Steps p.tables e below (s₁.setTop (mkF m 0 #[.val (.ref o), .val (.int p1), .unset, .unset, .unset] [])) t → Steps p.tables e below (s₁.setTop (entryFrame m #[(.ref o), (.int p1)] 5)) t := fun t k => castTop (ef_rf m o p1) k
  obtain ⟨T1, X1, e1, st1⟩ := getF X0 hx hZ hown (host := "") (Or.inl (hw _ (List.mem_of_getElem? (i := 26) rfl))) Via.refl e0 F2 (g := (mkF m 1 #[.val (.ref o), .val (.int p1), .unset, .unset, .unset] [(.ref o)])) rfl rfl (hb hby d_refer_1)
  obtain ⟨cl, Ar, Sz, H⟩ := id A0
  obtain ⟨hin, hat⟩ := own_rd (i := 1) Sz H (j := (1 : Int32)) rfl (by omega) (by omega)
  obtain ⟨T2, X2, e2, st2⟩ := getF X1 hx hZ hown (host := "") (Or.inl (hw _ (List.mem_of_getElem? (i := 23) rfl))) Via.refl e1 F1 (g := (mkF m 10 #[.val (.ref o), .val (.int p1), .val (.long ((f 1) + (1 : Int64))), .second, .unset] [(.ref o)])) rfl rfl (hb hby d_refer_10)
  have hsum : q.toInt32 + p1 = (q + d).toInt32 := by rw [hd]; exact own_plus (by omega)
  obtain ⟨T3, L3, h3, X3, e3, A3, N3, K3, st3⟩ := lp_rf hx hZ hw hby hown n0 h0 o b p1 (f 1 + 1) q hq hob gb (q + d) (q + d) f T2 _ h0 (Nat.le_refl _) (by omega) X2 e2 F2 A0 N0 (Keep.refl _ _)
  obtain ⟨fs, hr, hrun, hended, hW, hsame⟩ := X3.leave (v := none) (fun _ => rfl)
  refine ⟨_, _, pre0 _ ?_, hrun, hended, _, _, rfl, ⟨rfl, N3, e3 ▸ K3, e3 ▸ A3⟩, ⟨_, rfl⟩, hW, hsame.mono (by decide) (by decide)⟩
  show Steps p.tables e below (s₁.setTop (mkF m 0 #[.val (.ref o), .val (.int p1), .unset, .unset, .unset] [])) _
  refine XS.aloadN X0.here hx rfl (hb hby d_refer_0) rfl rfl ?_
  show Steps p.tables e below (s₁.setTop (mkF m 1 #[.val (.ref o), .val (.int p1), .unset, .unset, .unset] [(.ref o)])) _
  refine st1 _ ?_
  show Steps p.tables e below (T1.setTop (mkF m 4 #[.val (.ref o), .val (.int p1), .unset, .unset, .unset] [(.ref b)])) _
  refine XS.iconst X1.here hx rfl (hb hby d_refer_4) ?_
  show Steps p.tables e below (T1.setTop (mkF m 5 #[.val (.ref o), .val (.int p1), .unset, .unset, .unset] [(.int (1 : Int32)), (.ref b)])) _
  refine X1.laload hx (j := (1 : Int32)) (v := (.long (f 1))) (by rw [e1]; exact Ar.1) (State.isArrayOf_alike hZ.alike Ar.2.1) Ar.2.2 hin hat (g := (mkF m 5 #[.val (.ref o), .val (.int p1), .unset, .unset, .unset] [(.int (1 : Int32)), (.ref b)])) rfl rfl (hb hby d_refer_5) _ ?_
  show Steps p.tables e below (T1.setTop (mkF m 6 #[.val (.ref o), .val (.int p1), .unset, .unset, .unset] [(.long (f 1))])) _
  refine XS.lconst X1.here hx rfl (hb hby d_refer_6) ?_
  show Steps p.tables e below (T1.setTop (mkF m 7 #[.val (.ref o), .val (.int p1), .unset, .unset, .unset] [(.long (1 : Int64)), (.long (f 1))])) _
  refine XS.ladd X1.here hx rfl (hb hby d_refer_7) rfl ?_
  show Steps p.tables e below (T1.setTop (mkF m 8 #[.val (.ref o), .val (.int p1), .unset, .unset, .unset] [(.long ((f 1) + (1 : Int64)))])) _
  refine XS.lstoreN X1.here hx rfl (hb hby d_refer_8) rfl (l' := #[.val (.ref o), .val (.int p1), .val (.long ((f 1) + (1 : Int64))), .second, .unset]) rfl ?_
  show Steps p.tables e below (T1.setTop (mkF m 9 #[.val (.ref o), .val (.int p1), .val (.long ((f 1) + (1 : Int64))), .second, .unset] [])) _
  refine XS.aloadN X1.here hx rfl (hb hby d_refer_9) rfl rfl ?_
  show Steps p.tables e below (T1.setTop (mkF m 10 #[.val (.ref o), .val (.int p1), .val (.long ((f 1) + (1 : Int64))), .second, .unset] [(.ref o)])) _
  refine st2 _ ?_
  show Steps p.tables e below (T2.setTop (mkF m 13 #[.val (.ref o), .val (.int p1), .val (.long ((f 1) + (1 : Int64))), .second, .unset] [(.int q.toInt32)])) _
  refine XS.iloadN X2.here hx rfl (hb hby d_refer_13) rfl ?_
  show Steps p.tables e below (T2.setTop (mkF m 14 #[.val (.ref o), .val (.int p1), .val (.long ((f 1) + (1 : Int64))), .second, .unset] [(.int p1), (.int q.toInt32)])) _
  refine XS.iadd X2.here hx rfl (hb hby d_refer_14) rfl ?_
  show Steps p.tables e below (T2.setTop (mkF m 15 #[.val (.ref o), .val (.int p1), .val (.long ((f 1) + (1 : Int64))), .second, .unset] [(.int (q.toInt32 + p1))])) _
  refine XS.istore X2.here hx rfl (hb hby d_refer_15) rfl (l' := #[.val (.ref o), .val (.int p1), .val (.long ((f 1) + (1 : Int64))), .second, .val (.int (q.toInt32 + p1))]) rfl ?_
  show Steps p.tables e below (T2.setTop (mkF m 17 #[.val (.ref o), .val (.int p1), .val (.long ((f 1) + (1 : Int64))), .second, .val (.int (q.toInt32 + p1))] [])) _
  rw [hsum]
  refine st3 _ ?_
  show Steps p.tables e below (T3.setTop (mkF m 39 #[.val (.ref o), .val (.int p1), .val (.long ((f 1) + (1 : Int64))), .second, .val (.int (0 : Nat).toInt32)] [])) _
  exact X3.returnOut hx Bd.returns (hb hby d_refer_39) hr
theorem d_innermostSince_0 : decode prog_152_method_4_code 0 = .ok (.iconst (-1), 1) := by decide +kernel
theorem d_innermostSince_1 : decode prog_152_method_4_code 1 = .ok (.istore 4, 2) := by decide +kernel
theorem d_innermostSince_3 : decode prog_152_method_4_code 3 = .ok (.iload_n 1, 1) := by decide +kernel
theorem d_innermostSince_4 : decode prog_152_method_4_code 4 = .ok (.ifCond .le 122, 3) := by decide +kernel
theorem d_innermostSince_7 : decode prog_152_method_4_code 7 = .ok (.aload_n 0, 1) := by decide +kernel
theorem d_innermostSince_8 : decode prog_152_method_4_code 8 = .ok (.getfield 19, 3) := by decide +kernel
theorem d_innermostSince_11 : decode prog_152_method_4_code 11 = .ok (.iload_n 1, 1) := by decide +kernel
theorem d_innermostSince_12 : decode prog_152_method_4_code 12 = .ok (.iadd, 1) := by decide +kernel
theorem d_innermostSince_13 : decode prog_152_method_4_code 13 = .ok (.iconst 1, 1) := by decide +kernel
theorem d_innermostSince_14 : decode prog_152_method_4_code 14 = .ok (.isub, 1) := by decide +kernel
theorem d_innermostSince_15 : decode prog_152_method_4_code 15 = .ok (.istore 5, 2) := by decide +kernel
theorem d_innermostSince_17 : decode prog_152_method_4_code 17 = .ok (.iload 5, 2) := by decide +kernel
theorem d_innermostSince_19 : decode prog_152_method_4_code 19 = .ok (.ifCond .le 50, 3) := by decide +kernel
theorem d_innermostSince_22 : decode prog_152_method_4_code 22 = .ok (.aload_n 0, 1) := by decide +kernel
theorem d_innermostSince_23 : decode prog_152_method_4_code 23 = .ok (.getfield 25, 3) := by decide +kernel
theorem d_innermostSince_26 : decode prog_152_method_4_code 26 = .ok (.iload 5, 2) := by decide +kernel
theorem d_innermostSince_28 : decode prog_152_method_4_code 28 = .ok (.laload, 1) := by decide +kernel
theorem d_innermostSince_29 : decode prog_152_method_4_code 29 = .ok (.lload_n 2, 1) := by decide +kernel
theorem d_innermostSince_30 : decode prog_152_method_4_code 30 = .ok (.lcmp, 1) := by decide +kernel
theorem d_innermostSince_31 : decode prog_152_method_4_code 31 = .ok (.ifCond .gt 38, 3) := by decide +kernel
theorem d_innermostSince_34 : decode prog_152_method_4_code 34 = .ok (.iload 5, 2) := by decide +kernel
theorem d_innermostSince_36 : decode prog_152_method_4_code 36 = .ok (.iconst 2, 1) := by decide +kernel
theorem d_innermostSince_37 : decode prog_152_method_4_code 37 = .ok (.irem, 1) := by decide +kernel
theorem d_innermostSince_38 : decode prog_152_method_4_code 38 = .ok (.ifCond .ne 12, 3) := by decide +kernel
theorem d_innermostSince_41 : decode prog_152_method_4_code 41 = .ok (.iload 5, 2) := by decide +kernel
theorem d_innermostSince_43 : decode prog_152_method_4_code 43 = .ok (.iconst 2, 1) := by decide +kernel
theorem d_innermostSince_44 : decode prog_152_method_4_code 44 = .ok (.idiv, 1) := by decide +kernel
theorem d_innermostSince_45 : decode prog_152_method_4_code 45 = .ok (.istore 5, 2) := by decide +kernel
theorem d_innermostSince_47 : decode prog_152_method_4_code 47 = .ok (.goto (-13), 3) := by decide +kernel
theorem d_innermostSince_50 : decode prog_152_method_4_code 50 = .ok (.iload 5, 2) := by decide +kernel
theorem d_innermostSince_52 : decode prog_152_method_4_code 52 = .ok (.iconst 1, 1) := by decide +kernel
theorem d_innermostSince_53 : decode prog_152_method_4_code 53 = .ok (.if_icmp .ne 7, 3) := by decide +kernel
theorem d_innermostSince_56 : decode prog_152_method_4_code 56 = .ok (.iconst 0, 1) := by decide +kernel
theorem d_innermostSince_57 : decode prog_152_method_4_code 57 = .ok (.goto 7, 3) := by decide +kernel
theorem d_innermostSince_60 : decode prog_152_method_4_code 60 = .ok (.iload 5, 2) := by decide +kernel
theorem d_innermostSince_62 : decode prog_152_method_4_code 62 = .ok (.iconst 1, 1) := by decide +kernel
theorem d_innermostSince_63 : decode prog_152_method_4_code 63 = .ok (.isub, 1) := by decide +kernel
theorem d_innermostSince_64 : decode prog_152_method_4_code 64 = .ok (.istore 5, 2) := by decide +kernel
theorem d_innermostSince_66 : decode prog_152_method_4_code 66 = .ok (.goto (-49), 3) := by decide +kernel
theorem d_innermostSince_69 : decode prog_152_method_4_code 69 = .ok (.iload 5, 2) := by decide +kernel
theorem d_innermostSince_71 : decode prog_152_method_4_code 71 = .ok (.ifCond .le 55, 3) := by decide +kernel
theorem d_innermostSince_74 : decode prog_152_method_4_code 74 = .ok (.iload 5, 2) := by decide +kernel
theorem d_innermostSince_76 : decode prog_152_method_4_code 76 = .ok (.aload_n 0, 1) := by decide +kernel
theorem d_innermostSince_77 : decode prog_152_method_4_code 77 = .ok (.getfield 19, 3) := by decide +kernel
theorem d_innermostSince_80 : decode prog_152_method_4_code 80 = .ok (.if_icmp .ge 37, 3) := by decide +kernel
theorem d_innermostSince_83 : decode prog_152_method_4_code 83 = .ok (.aload_n 0, 1) := by decide +kernel
theorem d_innermostSince_84 : decode prog_152_method_4_code 84 = .ok (.getfield 25, 3) := by decide +kernel
theorem d_innermostSince_87 : decode prog_152_method_4_code 87 = .ok (.iconst 2, 1) := by decide +kernel
theorem d_innermostSince_88 : decode prog_152_method_4_code 88 = .ok (.iload 5, 2) := by decide +kernel
theorem d_innermostSince_90 : decode prog_152_method_4_code 90 = .ok (.imul, 1) := by decide +kernel
theorem d_innermostSince_91 : decode prog_152_method_4_code 91 = .ok (.iconst 1, 1) := by decide +kernel
theorem d_innermostSince_92 : decode prog_152_method_4_code 92 = .ok (.iadd, 1) := by decide +kernel
theorem d_innermostSince_93 : decode prog_152_method_4_code 93 = .ok (.laload, 1) := by decide +kernel
theorem d_innermostSince_94 : decode prog_152_method_4_code 94 = .ok (.lload_n 2, 1) := by decide +kernel
theorem d_innermostSince_95 : decode prog_152_method_4_code 95 = .ok (.lcmp, 1) := by decide +kernel
theorem d_innermostSince_96 : decode prog_152_method_4_code 96 = .ok (.ifCond .le 12, 3) := by decide +kernel
theorem d_innermostSince_99 : decode prog_152_method_4_code 99 = .ok (.iconst 2, 1) := by decide +kernel
theorem d_innermostSince_100 : decode prog_152_method_4_code 100 = .ok (.iload 5, 2) := by decide +kernel
theorem d_innermostSince_102 : decode prog_152_method_4_code 102 = .ok (.imul, 1) := by decide +kernel
theorem d_innermostSince_103 : decode prog_152_method_4_code 103 = .ok (.iconst 1, 1) := by decide +kernel
theorem d_innermostSince_104 : decode prog_152_method_4_code 104 = .ok (.iadd, 1) := by decide +kernel
theorem d_innermostSince_105 : decode prog_152_method_4_code 105 = .ok (.goto 7, 3) := by decide +kernel
theorem d_innermostSince_108 : decode prog_152_method_4_code 108 = .ok (.iconst 2, 1) := by decide +kernel
theorem d_innermostSince_109 : decode prog_152_method_4_code 109 = .ok (.iload 5, 2) := by decide +kernel
theorem d_innermostSince_111 : decode prog_152_method_4_code 111 = .ok (.imul, 1) := by decide +kernel
theorem d_innermostSince_112 : decode prog_152_method_4_code 112 = .ok (.istore 5, 2) := by decide +kernel
theorem d_innermostSince_114 : decode prog_152_method_4_code 114 = .ok (.goto (-40), 3) := by decide +kernel
theorem d_innermostSince_117 : decode prog_152_method_4_code 117 = .ok (.iload 5, 2) := by decide +kernel
theorem d_innermostSince_119 : decode prog_152_method_4_code 119 = .ok (.aload_n 0, 1) := by decide +kernel
theorem d_innermostSince_120 : decode prog_152_method_4_code 120 = .ok (.getfield 19, 3) := by decide +kernel
theorem d_innermostSince_123 : decode prog_152_method_4_code 123 = .ok (.isub, 1) := by decide +kernel
theorem d_innermostSince_124 : decode prog_152_method_4_code 124 = .ok (.istore 4, 2) := by decide +kernel
theorem d_innermostSince_126 : decode prog_152_method_4_code 126 = .ok (.iload 4, 2) := by decide +kernel
theorem d_innermostSince_128 : decode prog_152_method_4_code 128 = .ok (.ireturn, 1) := by decide +kernel
theorem ef_in (m : MethodId) (x0 : Addr) (x1 : Int32) (x2 : Int64) : entryFrame m #[(.ref x0), (.int x1), (.long x2)] 6 = mkF m 0 #[.val (.ref x0), .val (.int x1), .val (.long x2), .second, .unset, .unset] [] := by first | (simp [entryFrame, mkF, argsToLocals, Value.category]; done) | rfl
set_option maxRecDepth 65536 in
set_option maxHeartbeats 40000000 in
theorem lp_od {p : Program} {l : Launch} {e : Env} {R : Room} {s : State} {m : MethodId} {args : Array Value} {below : List Frame} {meth : Method} {c : Code} {cells slots : Nat} {Z : State} {a0 : Array Value} (hx : p.tables.exec = Jvm.exec) (hZ : Z.Warmed39 s.vm) (hw : ∀ d ∈ tables_1, d.before a0 Z = true) (hby : c.code = prog_152_method_4_code) (hown : s.vm.findClass "com/example/mutableau/mutableau/formula/BindingReferences" = some m.cls)  (o : Addr) (p1 : Int32) (sv : Int64) {T0 : State} {locs : List Loc} (X0 : Stand p l e R s m args below meth c T0 locs cells slots) :
    ∀ (k n : Nat), n ≤ k → 1 ≤ n → n < 2147483648 → ∀ t, Steps p.tables e below (T0.setTop (mkF m 50 #[.val (.ref o), .val (.int p1), .val (.long sv), .second, .val (.int (-1 : Int32)), .val (.int (own_odd k n).toInt32)] [])) t → Steps p.tables e below (T0.setTop (mkF m 34 #[.val (.ref o), .val (.int p1), .val (.long sv), .second, .val (.int (-1 : Int32)), .val (.int n.toInt32)] [])) t := by
  intro k
  induction k with
  | zero => intro n h1 h2; omega
  | succ k ih =>
    intro n h1 h2 h3 t kt
    have hpar : n.toInt32 % (2 : Int32) = (n % 2).toInt32 := own_par h3
    have hhalf : n.toInt32 / (2 : Int32) = (n / 2).toInt32 := own_half h3
    show Steps p.tables e below (T0.setTop (mkF m 34 #[.val (.ref o), .val (.int p1), .val (.long sv), .second, .val (.int (-1 : Int32)), .val (.int n.toInt32)] [])) _
    refine XS.iload X0.here hx rfl (hb hby d_innermostSince_34) rfl ?_
    show Steps p.tables e below (T0.setTop (mkF m 36 #[.val (.ref o), .val (.int p1), .val (.long sv), .second, .val (.int (-1 : Int32)), .val (.int n.toInt32)] [(.int n.toInt32)])) _
    refine XS.iconst X0.here hx rfl (hb hby d_innermostSince_36) ?_
    show Steps p.tables e below (T0.setTop (mkF m 37 #[.val (.ref o), .val (.int p1), .val (.long sv), .second, .val (.int (-1 : Int32)), .val (.int n.toInt32)] [(.int (2 : Int32)), (.int n.toInt32)])) _
    refine iremM X0 hx rfl (hb hby d_innermostSince_37) rfl (by decide) ?_
    by_cases hm : n % 2 = 0
    · have hc38 : (n.toInt32 % (2 : Int32)) = (0 : Int32) := by rw [hpar, hm]; rfl
      rw [own_oddE hm] at kt
      show Steps p.tables e below (T0.setTop (mkF m 38 #[.val (.ref o), .val (.int p1), .val (.long sv), .second, .val (.int (-1 : Int32)), .val (.int n.toInt32)] [(.int (n.toInt32 % (2 : Int32)))])) _
      refine XS.ifNo X0.here hx rfl (hb hby d_innermostSince_38) rfl ((if0 _ _).trans (teq hc38).2) ?_
      show Steps p.tables e below (T0.setTop (mkF m 41 #[.val (.ref o), .val (.int p1), .val (.long sv), .second, .val (.int (-1 : Int32)), .val (.int n.toInt32)] [])) _
      refine XS.iload X0.here hx rfl (hb hby d_innermostSince_41) rfl ?_
      show Steps p.tables e below (T0.setTop (mkF m 43 #[.val (.ref o), .val (.int p1), .val (.long sv), .second, .val (.int (-1 : Int32)), .val (.int n.toInt32)] [(.int n.toInt32)])) _
      refine XS.iconst X0.here hx rfl (hb hby d_innermostSince_43) ?_
      show Steps p.tables e below (T0.setTop (mkF m 44 #[.val (.ref o), .val (.int p1), .val (.long sv), .second, .val (.int (-1 : Int32)), .val (.int n.toInt32)] [(.int (2 : Int32)), (.int n.toInt32)])) _
      refine XS.idiv X0.here hx rfl (hb hby d_innermostSince_44) rfl (by decide) ?_
      show Steps p.tables e below (T0.setTop (mkF m 45 #[.val (.ref o), .val (.int p1), .val (.long sv), .second, .val (.int (-1 : Int32)), .val (.int n.toInt32)] [(.int (n.toInt32 / (2 : Int32)))])) _
      refine XS.istore X0.here hx rfl (hb hby d_innermostSince_45) rfl (l' := #[.val (.ref o), .val (.int p1), .val (.long sv), .second, .val (.int (-1 : Int32)), .val (.int (n.toInt32 / (2 : Int32)))]) rfl ?_
      show Steps p.tables e below (T0.setTop (mkF m 47 #[.val (.ref o), .val (.int p1), .val (.long sv), .second, .val (.int (-1 : Int32)), .val (.int (n.toInt32 / (2 : Int32)))] [])) _
      refine XS.goto X0.here hx rfl (pc0 := 47) (pc' := 34) rfl (hb hby d_innermostSince_47) (by decide) (by decide) ?_
      show Steps p.tables e below (T0.setTop (mkF m 34 #[.val (.ref o), .val (.int p1), .val (.long sv), .second, .val (.int (-1 : Int32)), .val (.int (n.toInt32 / (2 : Int32)))] [])) _
      rw [hhalf]
      exact ih (n / 2) (by omega) (by omega) (by omega) t kt
    · have hc38 : ¬ ((n.toInt32 % (2 : Int32)) = (0 : Int32)) := by rw [hpar, show n % 2 = 1 by omega]; decide
      rw [own_oddO hm] at kt
      show Steps p.tables e below (T0.setTop (mkF m 38 #[.val (.ref o), .val (.int p1), .val (.long sv), .second, .val (.int (-1 : Int32)), .val (.int n.toInt32)] [(.int (n.toInt32 % (2 : Int32)))])) _
      refine XS.ifYes X0.here hx rfl (pc0 := 38) (pc' := 50) rfl (hb hby d_innermostSince_38) rfl ((if0 _ _).trans (feq hc38).2) (by decide) (by decide) ?_
      exact kt
set_option maxRecDepth 65536 in
set_option maxHeartbeats 40000000 in
theorem lp_ou {p : Program} {l : Launch} {e : Env} {R : Room} {s : State} {m : MethodId} {args : Array Value} {below : List Frame} {meth : Method} {c : Code} {cells slots : Nat} {Z : State} {a0 : Array Value} (hx : p.tables.exec = Jvm.exec) (hZ : Z.Warmed39 s.vm) (hw : ∀ d ∈ tables_1, d.before a0 Z = true) (hby : c.code = prog_152_method_4_code) (hown : s.vm.findClass "com/example/mutableau/mutableau/formula/BindingReferences" = some m.cls)  (o b : Addr) (p1 : Int32) (sv : Int64) (q : Nat) (hq : 2 * q < 2147483648) (f : Nat → Int64) {h : Heap} {locs : List Loc} (F1 : Fld Z h o "com/example/mutableau/mutableau/formula/BindingReferences" "leaves" "I" (.int q.toInt32)) (F2 : Fld Z h o "com/example/mutableau/mutableau/formula/BindingReferences" "latest" "[J" (.ref b)) (A : own_A Z h b (2 * q) f) :
    ∀ (k n : Nat) (T0 : State), n ≤ k → n < 2 * q → Stand p l e R s m args below meth c T0 locs cells slots → T0.heap = h → ∃ T' : State, Stand p l e R s m args below meth c T' locs cells slots ∧ T'.heap = h ∧ ∀ t, Steps p.tables e below (T'.setTop (mkF m 69 #[.val (.ref o), .val (.int p1), .val (.long sv), .second, .val (.int (-1 : Int32)), .val (.int (own_out f sv k n).toInt32)] [])) t → Steps p.tables e below (T0.setTop (mkF m 17 #[.val (.ref o), .val (.int p1), .val (.long sv), .second, .val (.int (-1 : Int32)), .val (.int n.toInt32)] [])) t := by
  intro k
  induction k with
  | zero =>
    intro n T0 h1 h2 X0 e0
    have h0 : n = 0 := by omega
    subst h0
    rw [own_out0]
    refine ⟨T0, X0, e0, fun t kt => ?_⟩
    have hc19 : ¬ ((0 : Int32) < (0 : Nat).toInt32) := by decide
    show Steps p.tables e below (T0.setTop (mkF m 17 #[.val (.ref o), .val (.int p1), .val (.long sv), .second, .val (.int (-1 : Int32)), .val (.int (0 : Nat).toInt32)] [])) _
    refine XS.iload X0.here hx rfl (hb hby d_innermostSince_17) rfl ?_
    show Steps p.tables e below (T0.setTop (mkF m 19 #[.val (.ref o), .val (.int p1), .val (.long sv), .second, .val (.int (-1 : Int32)), .val (.int (0 : Nat).toInt32)] [(.int (0 : Nat).toInt32)])) _
    refine XS.ifYes X0.here hx rfl (pc0 := 19) (pc' := 69) rfl (hb hby d_innermostSince_19) rfl ((if0 _ _).trans (flt hc19).2.2.2) (by decide) (by decide) ?_
    exact kt
  | succ k ih =>
    intro n T0 h1 h2 X0 e0
    by_cases h0 : n = 0
    · subst h0
      rw [own_out0]
      refine ⟨T0, X0, e0, fun t kt => ?_⟩
      have hc19 : ¬ ((0 : Int32) < (0 : Nat).toInt32) := by decide
      show Steps p.tables e below (T0.setTop (mkF m 17 #[.val (.ref o), .val (.int p1), .val (.long sv), .second, .val (.int (-1 : Int32)), .val (.int (0 : Nat).toInt32)] [])) _
      refine XS.iload X0.here hx rfl (hb hby d_innermostSince_17) rfl ?_
      show Steps p.tables e below (T0.setTop (mkF m 19 #[.val (.ref o), .val (.int p1), .val (.long sv), .second, .val (.int (-1 : Int32)), .val (.int (0 : Nat).toInt32)] [(.int (0 : Nat).toInt32)])) _
      refine XS.ifYes X0.here hx rfl (pc0 := 19) (pc' := 69) rfl (hb hby d_innermostSince_19) rfl ((if0 _ _).trans (flt hc19).2.2.2) (by decide) (by decide) ?_
      exact kt
    · have hc19 : (0 : Int32) < n.toInt32 := (own_pos (by omega)).mpr h0
      obtain ⟨T1, X1, e1, st1⟩ := getF X0 hx hZ hown (host := "") (Or.inl (hw _ (List.mem_of_getElem? (i := 26) rfl))) Via.refl e0 F2 (g := (mkF m 23 #[.val (.ref o), .val (.int p1), .val (.long sv), .second, .val (.int (-1 : Int32)), .val (.int n.toInt32)] [(.ref o)])) rfl rfl (hb hby d_innermostSince_23)
      obtain ⟨cl, Ar, Sz, H⟩ := id A
      obtain ⟨hin, hat⟩ := own_rd (i := n) Sz H rfl h2 (by omega)
      by_cases hs : sv < f n
      · have hc31 : (0 : Int32) < (lcmpW (f n) sv) := (lw_gt _ _).mpr hs
        rw [own_outY h0 hs]
        refine ⟨T1, X1, e1, fun t kt => ?_⟩
        show Steps p.tables e below (T0.setTop (mkF m 17 #[.val (.ref o), .val (.int p1), .val (.long sv), .second, .val (.int (-1 : Int32)), .val (.int n.toInt32)] [])) _
        refine XS.iload X0.here hx rfl (hb hby d_innermostSince_17) rfl ?_
        show Steps p.tables e below (T0.setTop (mkF m 19 #[.val (.ref o), .val (.int p1), .val (.long sv), .second, .val (.int (-1 : Int32)), .val (.int n.toInt32)] [(.int n.toInt32)])) _
        refine XS.ifNo X0.here hx rfl (hb hby d_innermostSince_19) rfl ((if0 _ _).trans (tlt hc19).2.2.2) ?_
        show Steps p.tables e below (T0.setTop (mkF m 22 #[.val (.ref o), .val (.int p1), .val (.long sv), .second, .val (.int (-1 : Int32)), .val (.int n.toInt32)] [])) _
        refine XS.aloadN X0.here hx rfl (hb hby d_innermostSince_22) rfl rfl ?_
        show Steps p.tables e below (T0.setTop (mkF m 23 #[.val (.ref o), .val (.int p1), .val (.long sv), .second, .val (.int (-1 : Int32)), .val (.int n.toInt32)] [(.ref o)])) _
        refine st1 _ ?_
        show Steps p.tables e below (T1.setTop (mkF m 26 #[.val (.ref o), .val (.int p1), .val (.long sv), .second, .val (.int (-1 : Int32)), .val (.int n.toInt32)] [(.ref b)])) _
        refine XS.iload X1.here hx rfl (hb hby d_innermostSince_26) rfl ?_
        show Steps p.tables e below (T1.setTop (mkF m 28 #[.val (.ref o), .val (.int p1), .val (.long sv), .second, .val (.int (-1 : Int32)), .val (.int n.toInt32)] [(.int n.toInt32), (.ref b)])) _
        refine X1.laload hx (j := n.toInt32) (v := (.long (f n))) (by rw [e1]; exact Ar.1) (State.isArrayOf_alike hZ.alike Ar.2.1) Ar.2.2 hin hat (g := (mkF m 28 #[.val (.ref o), .val (.int p1), .val (.long sv), .second, .val (.int (-1 : Int32)), .val (.int n.toInt32)] [(.int n.toInt32), (.ref b)])) rfl rfl (hb hby d_innermostSince_28) _ ?_
        show Steps p.tables e below (T1.setTop (mkF m 29 #[.val (.ref o), .val (.int p1), .val (.long sv), .second, .val (.int (-1 : Int32)), .val (.int n.toInt32)] [(.long (f n))])) _
        refine XS.lloadN X1.here hx rfl (hb hby d_innermostSince_29) rfl ?_
        show Steps p.tables e below (T1.setTop (mkF m 30 #[.val (.ref o), .val (.int p1), .val (.long sv), .second, .val (.int (-1 : Int32)), .val (.int n.toInt32)] [(.long sv), (.long (f n))])) _
        refine XS.lcmp X1.here hx rfl (hb hby d_innermostSince_30) rfl ?_
        show Steps p.tables e below (T1.setTop (mkF m 31 #[.val (.ref o), .val (.int p1), .val (.long sv), .second, .val (.int (-1 : Int32)), .val (.int n.toInt32)] [(.int (lcmpW (f n) sv))])) _
        refine XS.ifYes X1.here hx rfl (pc0 := 31) (pc' := 69) rfl (hb hby d_innermostSince_31) rfl ((if0 _ _).trans (tlt hc31).2.2.1) (by decide) (by decide) ?_
        exact kt
      · have hc31 : ¬ ((0 : Int32) < (lcmpW (f n) sv)) := fun q => hs ((lw_gt _ _).mp q)
        rw [own_outN h0 hs]
        have hod : own_odd n n ≤ n ∧ 1 ≤ own_odd n n := own_odd_le n n (Nat.le_refl _) (by omega)
        obtain ⟨T2, X2, e2, st2⟩ := ih (own_odd n n - 1) T1 (by omega) (by omega) X1 e1
        refine ⟨T2, X2, e2, fun t kt => ?_⟩
        show Steps p.tables e below (T0.setTop (mkF m 17 #[.val (.ref o), .val (.int p1), .val (.long sv), .second, .val (.int (-1 : Int32)), .val (.int n.toInt32)] [])) _
        refine XS.iload X0.here hx rfl (hb hby d_innermostSince_17) rfl ?_
        show Steps p.tables e below (T0.setTop (mkF m 19 #[.val (.ref o), .val (.int p1), .val (.long sv), .second, .val (.int (-1 : Int32)), .val (.int n.toInt32)] [(.int n.toInt32)])) _
        refine XS.ifNo X0.here hx rfl (hb hby d_innermostSince_19) rfl ((if0 _ _).trans (tlt hc19).2.2.2) ?_
        show Steps p.tables e below (T0.setTop (mkF m 22 #[.val (.ref o), .val (.int p1), .val (.long sv), .second, .val (.int (-1 : Int32)), .val (.int n.toInt32)] [])) _
        refine XS.aloadN X0.here hx rfl (hb hby d_innermostSince_22) rfl rfl ?_
        show Steps p.tables e below (T0.setTop (mkF m 23 #[.val (.ref o), .val (.int p1), .val (.long sv), .second, .val (.int (-1 : Int32)), .val (.int n.toInt32)] [(.ref o)])) _
        refine st1 _ ?_
        show Steps p.tables e below (T1.setTop (mkF m 26 #[.val (.ref o), .val (.int p1), .val (.long sv), .second, .val (.int (-1 : Int32)), .val (.int n.toInt32)] [(.ref b)])) _
        refine XS.iload X1.here hx rfl (hb hby d_innermostSince_26) rfl ?_
        show Steps p.tables e below (T1.setTop (mkF m 28 #[.val (.ref o), .val (.int p1), .val (.long sv), .second, .val (.int (-1 : Int32)), .val (.int n.toInt32)] [(.int n.toInt32), (.ref b)])) _
        refine X1.laload hx (j := n.toInt32) (v := (.long (f n))) (by rw [e1]; exact Ar.1) (State.isArrayOf_alike hZ.alike Ar.2.1) Ar.2.2 hin hat (g := (mkF m 28 #[.val (.ref o), .val (.int p1), .val (.long sv), .second, .val (.int (-1 : Int32)), .val (.int n.toInt32)] [(.int n.toInt32), (.ref b)])) rfl rfl (hb hby d_innermostSince_28) _ ?_
        show Steps p.tables e below (T1.setTop (mkF m 29 #[.val (.ref o), .val (.int p1), .val (.long sv), .second, .val (.int (-1 : Int32)), .val (.int n.toInt32)] [(.long (f n))])) _
        refine XS.lloadN X1.here hx rfl (hb hby d_innermostSince_29) rfl ?_
        show Steps p.tables e below (T1.setTop (mkF m 30 #[.val (.ref o), .val (.int p1), .val (.long sv), .second, .val (.int (-1 : Int32)), .val (.int n.toInt32)] [(.long sv), (.long (f n))])) _
        refine XS.lcmp X1.here hx rfl (hb hby d_innermostSince_30) rfl ?_
        show Steps p.tables e below (T1.setTop (mkF m 31 #[.val (.ref o), .val (.int p1), .val (.long sv), .second, .val (.int (-1 : Int32)), .val (.int n.toInt32)] [(.int (lcmpW (f n) sv))])) _
        refine XS.ifNo X1.here hx rfl (hb hby d_innermostSince_31) rfl ((if0 _ _).trans (flt hc31).2.2.1) ?_
        refine lp_od hx hZ hw hby hown o p1 sv X1 n n (Nat.le_refl _) (by omega) (by omega) t ?_
        revert kt st2 hod
        generalize own_odd n n = od
        intro hod st2 kt
        show Steps p.tables e below (T1.setTop (mkF m 50 #[.val (.ref o), .val (.int p1), .val (.long sv), .second, .val (.int (-1 : Int32)), .val (.int od.toInt32)] [])) _
        refine XS.iload X1.here hx rfl (hb hby d_innermostSince_50) rfl ?_
        show Steps p.tables e below (T1.setTop (mkF m 52 #[.val (.ref o), .val (.int p1), .val (.long sv), .second, .val (.int (-1 : Int32)), .val (.int od.toInt32)] [(.int od.toInt32)])) _
        refine XS.iconst X1.here hx rfl (hb hby d_innermostSince_52) ?_
        by_cases ho : od = 1
        · subst ho
          have hc53 : (1 : Nat).toInt32 = (1 : Int32) := rfl
          show Steps p.tables e below (T1.setTop (mkF m 53 #[.val (.ref o), .val (.int p1), .val (.long sv), .second, .val (.int (-1 : Int32)), .val (.int (1 : Nat).toInt32)] [(.int (1 : Int32)), (.int (1 : Nat).toInt32)])) _
          refine XS.icmpNo X1.here hx rfl (hb hby d_innermostSince_53) rfl (teq hc53).2 ?_
          show Steps p.tables e below (T1.setTop (mkF m 56 #[.val (.ref o), .val (.int p1), .val (.long sv), .second, .val (.int (-1 : Int32)), .val (.int (1 : Nat).toInt32)] [])) _
          refine XS.iconst X1.here hx rfl (hb hby d_innermostSince_56) ?_
          show Steps p.tables e below (T1.setTop (mkF m 57 #[.val (.ref o), .val (.int p1), .val (.long sv), .second, .val (.int (-1 : Int32)), .val (.int (1 : Nat).toInt32)] [(.int (0 : Int32))])) _
          refine XS.goto X1.here hx rfl (pc0 := 57) (pc' := 64) rfl (hb hby d_innermostSince_57) (by decide) (by decide) ?_
          show Steps p.tables e below (T1.setTop (mkF m 64 #[.val (.ref o), .val (.int p1), .val (.long sv), .second, .val (.int (-1 : Int32)), .val (.int (1 : Nat).toInt32)] [(.int (0 : Int32))])) _
          refine XS.istore X1.here hx rfl (hb hby d_innermostSince_64) rfl (l' := #[.val (.ref o), .val (.int p1), .val (.long sv), .second, .val (.int (-1 : Int32)), .val (.int (0 : Int32))]) rfl ?_
          show Steps p.tables e below (T1.setTop (mkF m 66 #[.val (.ref o), .val (.int p1), .val (.long sv), .second, .val (.int (-1 : Int32)), .val (.int (0 : Int32))] [])) _
          refine XS.goto X1.here hx rfl (pc0 := 66) (pc' := 17) rfl (hb hby d_innermostSince_66) (by decide) (by decide) ?_
          exact st2 t kt
        · have hc53 : ¬ (od.toInt32 = (1 : Int32)) := fun q => ho ((own_is (b := 1) (by omega) (by omega)).mp q)
          show Steps p.tables e below (T1.setTop (mkF m 53 #[.val (.ref o), .val (.int p1), .val (.long sv), .second, .val (.int (-1 : Int32)), .val (.int od.toInt32)] [(.int (1 : Int32)), (.int od.toInt32)])) _
          refine XS.icmpYes X1.here hx rfl (pc0 := 53) (pc' := 60) rfl (hb hby d_innermostSince_53) rfl (feq hc53).2 (by decide) (by decide) ?_
          show Steps p.tables e below (T1.setTop (mkF m 60 #[.val (.ref o), .val (.int p1), .val (.long sv), .second, .val (.int (-1 : Int32)), .val (.int od.toInt32)] [])) _
          refine XS.iload X1.here hx rfl (hb hby d_innermostSince_60) rfl ?_
          show Steps p.tables e below (T1.setTop (mkF m 62 #[.val (.ref o), .val (.int p1), .val (.long sv), .second, .val (.int (-1 : Int32)), .val (.int od.toInt32)] [(.int od.toInt32)])) _
          refine XS.iconst X1.here hx rfl (hb hby d_innermostSince_62) ?_
          show Steps p.tables e below (T1.setTop (mkF m 63 #[.val (.ref o), .val (.int p1), .val (.long sv), .second, .val (.int (-1 : Int32)), .val (.int od.toInt32)] [(.int (1 : Int32)), (.int od.toInt32)])) _
          refine XS.isub X1.here hx rfl (hb hby d_innermostSince_63) rfl ?_
          show Steps p.tables e below (T1.setTop (mkF m 64 #[.val (.ref o), .val (.int p1), .val (.long sv), .second, .val (.int (-1 : Int32)), .val (.int od.toInt32)] [(.int (od.toInt32 - (1 : Int32)))])) _
          refine XS.istore X1.here hx rfl (hb hby d_innermostSince_64) rfl (l' := #[.val (.ref o), .val (.int p1), .val (.long sv), .second, .val (.int (-1 : Int32)), .val (.int (od.toInt32 - (1 : Int32)))]) rfl ?_
          show Steps p.tables e below (T1.setTop (mkF m 66 #[.val (.ref o), .val (.int p1), .val (.long sv), .second, .val (.int (-1 : Int32)), .val (.int (od.toInt32 - (1 : Int32)))] [])) _
          refine XS.goto X1.here hx rfl (pc0 := 66) (pc' := 17) rfl (hb hby d_innermostSince_66) (by decide) (by decide) ?_
          show Steps p.tables e below (T1.setTop (mkF m 17 #[.val (.ref o), .val (.int p1), .val (.long sv), .second, .val (.int (-1 : Int32)), .val (.int (od.toInt32 - (1 : Int32)))] [])) _
          rw [own_dec (by omega) (by omega)]
          exact st2 t kt
set_option maxRecDepth 65536 in
set_option maxHeartbeats 40000000 in
theorem lp_dn {p : Program} {l : Launch} {e : Env} {R : Room} {s : State} {m : MethodId} {args : Array Value} {below : List Frame} {meth : Method} {c : Code} {cells slots : Nat} {Z : State} {a0 : Array Value} (hx : p.tables.exec = Jvm.exec) (hZ : Z.Warmed39 s.vm) (hw : ∀ d ∈ tables_1, d.before a0 Z = true) (hby : c.code = prog_152_method_4_code) (hown : s.vm.findClass "com/example/mutableau/mutableau/formula/BindingReferences" = some m.cls)  (o b : Addr) (p1 : Int32) (sv : Int64) (q : Nat) (hq : 2 * q < 2147483648) (f : Nat → Int64) {h : Heap} {locs : List Loc} (F1 : Fld Z h o "com/example/mutableau/mutableau/formula/BindingReferences" "leaves" "I" (.int q.toInt32)) (F2 : Fld Z h o "com/example/mutableau/mutableau/formula/BindingReferences" "latest" "[J" (.ref b)) (A : own_A Z h b (2 * q) f) :
    ∀ (k n : Nat) (T0 : State), q ≤ n + k → 1 ≤ n → n < 2 * q → Stand p l e R s m args below meth c T0 locs cells slots → T0.heap = h → ∃ T' : State, Stand p l e R s m args below meth c T' locs cells slots ∧ T'.heap = h ∧ ∀ t, Steps p.tables e below (T'.setTop (mkF m 117 #[.val (.ref o), .val (.int p1), .val (.long sv), .second, .val (.int (-1 : Int32)), .val (.int (own_dn f sv q k n).toInt32)] [])) t → Steps p.tables e below (T0.setTop (mkF m 74 #[.val (.ref o), .val (.int p1), .val (.long sv), .second, .val (.int (-1 : Int32)), .val (.int n.toInt32)] [])) t := by
  intro k
  induction k with
  | zero =>
    intro n T0 h1 h2 h3 X0 e0
    obtain ⟨T1, X1, e1, st1⟩ := getF X0 hx hZ hown (host := "") (Or.inl (hw _ (List.mem_of_getElem? (i := 23) rfl))) Via.refl e0 F1 (g := (mkF m 77 #[.val (.ref o), .val (.int p1), .val (.long sv), .second, .val (.int (-1 : Int32)), .val (.int n.toInt32)] [(.ref o), (.int n.toInt32)])) rfl rfl (hb hby d_innermostSince_77)
    have hc80 : ¬ (n.toInt32 < q.toInt32) := fun q => absurd ((own_lt (by omega) (by omega)).mp q) (by omega)
    rw [own_dnE (by omega)]
    refine ⟨T1, X1, e1, fun t kt => ?_⟩
    show Steps p.tables e below (T0.setTop (mkF m 74 #[.val (.ref o), .val (.int p1), .val (.long sv), .second, .val (.int (-1 : Int32)), .val (.int n.toInt32)] [])) _
    refine XS.iload X0.here hx rfl (hb hby d_innermostSince_74) rfl ?_
    show Steps p.tables e below (T0.setTop (mkF m 76 #[.val (.ref o), .val (.int p1), .val (.long sv), .second, .val (.int (-1 : Int32)), .val (.int n.toInt32)] [(.int n.toInt32)])) _
    refine XS.aloadN X0.here hx rfl (hb hby d_innermostSince_76) rfl rfl ?_
    show Steps p.tables e below (T0.setTop (mkF m 77 #[.val (.ref o), .val (.int p1), .val (.long sv), .second, .val (.int (-1 : Int32)), .val (.int n.toInt32)] [(.ref o), (.int n.toInt32)])) _
    refine st1 _ ?_
    show Steps p.tables e below (T1.setTop (mkF m 80 #[.val (.ref o), .val (.int p1), .val (.long sv), .second, .val (.int (-1 : Int32)), .val (.int n.toInt32)] [(.int q.toInt32), (.int n.toInt32)])) _
    refine XS.icmpYes X1.here hx rfl (pc0 := 80) (pc' := 117) rfl (hb hby d_innermostSince_80) rfl (flt hc80).2.1 (by decide) (by decide) ?_
    exact kt
  | succ k ih =>
    intro n T0 h1 h2 h3 X0 e0
    by_cases hn : n < q
    · obtain ⟨T1, X1, e1, st1⟩ := getF X0 hx hZ hown (host := "") (Or.inl (hw _ (List.mem_of_getElem? (i := 23) rfl))) Via.refl e0 F1 (g := (mkF m 77 #[.val (.ref o), .val (.int p1), .val (.long sv), .second, .val (.int (-1 : Int32)), .val (.int n.toInt32)] [(.ref o), (.int n.toInt32)])) rfl rfl (hb hby d_innermostSince_77)
      have hc80 : n.toInt32 < q.toInt32 := (own_lt (by omega) (by omega)).mpr hn
      obtain ⟨T2, X2, e2, st2⟩ := getF X1 hx hZ hown (host := "") (Or.inl (hw _ (List.mem_of_getElem? (i := 26) rfl))) Via.refl e1 F2 (g := (mkF m 84 #[.val (.ref o), .val (.int p1), .val (.long sv), .second, .val (.int (-1 : Int32)), .val (.int n.toInt32)] [(.ref o)])) rfl rfl (hb hby d_innermostSince_84)
      have hj : ((2 : Int32) * n.toInt32) + (1 : Int32) = (2 * n + 1).toInt32 := by rw [own_dbl (by omega)]; exact own_inc (by omega)
      have hj0 : ((2 : Int32) * n.toInt32) = (2 * n).toInt32 := own_dbl (by omega)
      obtain ⟨cl, Ar, Sz, H⟩ := id A
      obtain ⟨hin, hat⟩ := own_rd (i := 2 * n + 1) Sz H hj (by omega) (by omega)
      by_cases hs : sv < f (2 * n + 1)
      · have hc96 : (0 : Int32) < (lcmpW (f (2 * n + 1)) sv) := (lw_gt _ _).mpr hs
        rw [own_dnR hn hs]
        obtain ⟨T3, X3, e3, st3⟩ := ih (2 * n + 1) T2 (by omega) (by omega) (by omega) X2 e2
        refine ⟨T3, X3, e3, fun t kt => ?_⟩
        show Steps p.tables e below (T0.setTop (mkF m 74 #[.val (.ref o), .val (.int p1), .val (.long sv), .second, .val (.int (-1 : Int32)), .val (.int n.toInt32)] [])) _
        refine XS.iload X0.here hx rfl (hb hby d_innermostSince_74) rfl ?_
        show Steps p.tables e below (T0.setTop (mkF m 76 #[.val (.ref o), .val (.int p1), .val (.long sv), .second, .val (.int (-1 : Int32)), .val (.int n.toInt32)] [(.int n.toInt32)])) _
        refine XS.aloadN X0.here hx rfl (hb hby d_innermostSince_76) rfl rfl ?_
        show Steps p.tables e below (T0.setTop (mkF m 77 #[.val (.ref o), .val (.int p1), .val (.long sv), .second, .val (.int (-1 : Int32)), .val (.int n.toInt32)] [(.ref o), (.int n.toInt32)])) _
        refine st1 _ ?_
        show Steps p.tables e below (T1.setTop (mkF m 80 #[.val (.ref o), .val (.int p1), .val (.long sv), .second, .val (.int (-1 : Int32)), .val (.int n.toInt32)] [(.int q.toInt32), (.int n.toInt32)])) _
        refine XS.icmpNo X1.here hx rfl (hb hby d_innermostSince_80) rfl (tlt hc80).2.1 ?_
        show Steps p.tables e below (T1.setTop (mkF m 83 #[.val (.ref o), .val (.int p1), .val (.long sv), .second, .val (.int (-1 : Int32)), .val (.int n.toInt32)] [])) _
        refine XS.aloadN X1.here hx rfl (hb hby d_innermostSince_83) rfl rfl ?_
        show Steps p.tables e below (T1.setTop (mkF m 84 #[.val (.ref o), .val (.int p1), .val (.long sv), .second, .val (.int (-1 : Int32)), .val (.int n.toInt32)] [(.ref o)])) _
        refine st2 _ ?_
        show Steps p.tables e below (T2.setTop (mkF m 87 #[.val (.ref o), .val (.int p1), .val (.long sv), .second, .val (.int (-1 : Int32)), .val (.int n.toInt32)] [(.ref b)])) _
        refine XS.iconst X2.here hx rfl (hb hby d_innermostSince_87) ?_
        show Steps p.tables e below (T2.setTop (mkF m 88 #[.val (.ref o), .val (.int p1), .val (.long sv), .second, .val (.int (-1 : Int32)), .val (.int n.toInt32)] [(.int (2 : Int32)), (.ref b)])) _
        refine XS.iload X2.here hx rfl (hb hby d_innermostSince_88) rfl ?_
        show Steps p.tables e below (T2.setTop (mkF m 90 #[.val (.ref o), .val (.int p1), .val (.long sv), .second, .val (.int (-1 : Int32)), .val (.int n.toInt32)] [(.int n.toInt32), (.int (2 : Int32)), (.ref b)])) _
        refine XS.imul X2.here hx rfl (hb hby d_innermostSince_90) rfl ?_
        show Steps p.tables e below (T2.setTop (mkF m 91 #[.val (.ref o), .val (.int p1), .val (.long sv), .second, .val (.int (-1 : Int32)), .val (.int n.toInt32)] [(.int ((2 : Int32) * n.toInt32)), (.ref b)])) _
        refine XS.iconst X2.here hx rfl (hb hby d_innermostSince_91) ?_
        show Steps p.tables e below (T2.setTop (mkF m 92 #[.val (.ref o), .val (.int p1), .val (.long sv), .second, .val (.int (-1 : Int32)), .val (.int n.toInt32)] [(.int (1 : Int32)), (.int ((2 : Int32) * n.toInt32)), (.ref b)])) _
        refine XS.iadd X2.here hx rfl (hb hby d_innermostSince_92) rfl ?_
        show Steps p.tables e below (T2.setTop (mkF m 93 #[.val (.ref o), .val (.int p1), .val (.long sv), .second, .val (.int (-1 : Int32)), .val (.int n.toInt32)] [(.int (((2 : Int32) * n.toInt32) + (1 : Int32))), (.ref b)])) _
        refine X2.laload hx (j := (((2 : Int32) * n.toInt32) + (1 : Int32))) (v := (.long (f (2 * n + 1)))) (by rw [e2]; exact Ar.1) (State.isArrayOf_alike hZ.alike Ar.2.1) Ar.2.2 hin hat (g := (mkF m 93 #[.val (.ref o), .val (.int p1), .val (.long sv), .second, .val (.int (-1 : Int32)), .val (.int n.toInt32)] [(.int (((2 : Int32) * n.toInt32) + (1 : Int32))), (.ref b)])) rfl rfl (hb hby d_innermostSince_93) _ ?_
        show Steps p.tables e below (T2.setTop (mkF m 94 #[.val (.ref o), .val (.int p1), .val (.long sv), .second, .val (.int (-1 : Int32)), .val (.int n.toInt32)] [(.long (f (2 * n + 1)))])) _
        refine XS.lloadN X2.here hx rfl (hb hby d_innermostSince_94) rfl ?_
        show Steps p.tables e below (T2.setTop (mkF m 95 #[.val (.ref o), .val (.int p1), .val (.long sv), .second, .val (.int (-1 : Int32)), .val (.int n.toInt32)] [(.long sv), (.long (f (2 * n + 1)))])) _
        refine XS.lcmp X2.here hx rfl (hb hby d_innermostSince_95) rfl ?_
        show Steps p.tables e below (T2.setTop (mkF m 96 #[.val (.ref o), .val (.int p1), .val (.long sv), .second, .val (.int (-1 : Int32)), .val (.int n.toInt32)] [(.int (lcmpW (f (2 * n + 1)) sv))])) _
        refine XS.ifNo X2.here hx rfl (hb hby d_innermostSince_96) rfl ((if0 _ _).trans (tlt hc96).2.2.2) ?_
        show Steps p.tables e below (T2.setTop (mkF m 99 #[.val (.ref o), .val (.int p1), .val (.long sv), .second, .val (.int (-1 : Int32)), .val (.int n.toInt32)] [])) _
        refine XS.iconst X2.here hx rfl (hb hby d_innermostSince_99) ?_
        show Steps p.tables e below (T2.setTop (mkF m 100 #[.val (.ref o), .val (.int p1), .val (.long sv), .second, .val (.int (-1 : Int32)), .val (.int n.toInt32)] [(.int (2 : Int32))])) _
        refine XS.iload X2.here hx rfl (hb hby d_innermostSince_100) rfl ?_
        show Steps p.tables e below (T2.setTop (mkF m 102 #[.val (.ref o), .val (.int p1), .val (.long sv), .second, .val (.int (-1 : Int32)), .val (.int n.toInt32)] [(.int n.toInt32), (.int (2 : Int32))])) _
        refine XS.imul X2.here hx rfl (hb hby d_innermostSince_102) rfl ?_
        show Steps p.tables e below (T2.setTop (mkF m 103 #[.val (.ref o), .val (.int p1), .val (.long sv), .second, .val (.int (-1 : Int32)), .val (.int n.toInt32)] [(.int ((2 : Int32) * n.toInt32))])) _
        refine XS.iconst X2.here hx rfl (hb hby d_innermostSince_103) ?_
        show Steps p.tables e below (T2.setTop (mkF m 104 #[.val (.ref o), .val (.int p1), .val (.long sv), .second, .val (.int (-1 : Int32)), .val (.int n.toInt32)] [(.int (1 : Int32)), (.int ((2 : Int32) * n.toInt32))])) _
        refine XS.iadd X2.here hx rfl (hb hby d_innermostSince_104) rfl ?_
        show Steps p.tables e below (T2.setTop (mkF m 105 #[.val (.ref o), .val (.int p1), .val (.long sv), .second, .val (.int (-1 : Int32)), .val (.int n.toInt32)] [(.int (((2 : Int32) * n.toInt32) + (1 : Int32)))])) _
        refine XS.goto X2.here hx rfl (pc0 := 105) (pc' := 112) rfl (hb hby d_innermostSince_105) (by decide) (by decide) ?_
        show Steps p.tables e below (T2.setTop (mkF m 112 #[.val (.ref o), .val (.int p1), .val (.long sv), .second, .val (.int (-1 : Int32)), .val (.int n.toInt32)] [(.int (((2 : Int32) * n.toInt32) + (1 : Int32)))])) _
        refine XS.istore X2.here hx rfl (hb hby d_innermostSince_112) rfl (l' := #[.val (.ref o), .val (.int p1), .val (.long sv), .second, .val (.int (-1 : Int32)), .val (.int (((2 : Int32) * n.toInt32) + (1 : Int32)))]) rfl ?_
        show Steps p.tables e below (T2.setTop (mkF m 114 #[.val (.ref o), .val (.int p1), .val (.long sv), .second, .val (.int (-1 : Int32)), .val (.int (((2 : Int32) * n.toInt32) + (1 : Int32)))] [])) _
        refine XS.goto X2.here hx rfl (pc0 := 114) (pc' := 74) rfl (hb hby d_innermostSince_114) (by decide) (by decide) ?_
        show Steps p.tables e below (T2.setTop (mkF m 74 #[.val (.ref o), .val (.int p1), .val (.long sv), .second, .val (.int (-1 : Int32)), .val (.int (((2 : Int32) * n.toInt32) + (1 : Int32)))] [])) _
        rw [hj]
        exact st3 t kt
      · have hc96 : ¬ ((0 : Int32) < (lcmpW (f (2 * n + 1)) sv)) := fun q => hs ((lw_gt _ _).mp q)
        rw [own_dnL hn hs]
        obtain ⟨T3, X3, e3, st3⟩ := ih (2 * n) T2 (by omega) (by omega) (by omega) X2 e2
        refine ⟨T3, X3, e3, fun t kt => ?_⟩
        show Steps p.tables e below (T0.setTop (mkF m 74 #[.val (.ref o), .val (.int p1), .val (.long sv), .second, .val (.int (-1 : Int32)), .val (.int n.toInt32)] [])) _
        refine XS.iload X0.here hx rfl (hb hby d_innermostSince_74) rfl ?_
        show Steps p.tables e below (T0.setTop (mkF m 76 #[.val (.ref o), .val (.int p1), .val (.long sv), .second, .val (.int (-1 : Int32)), .val (.int n.toInt32)] [(.int n.toInt32)])) _
        refine XS.aloadN X0.here hx rfl (hb hby d_innermostSince_76) rfl rfl ?_
        show Steps p.tables e below (T0.setTop (mkF m 77 #[.val (.ref o), .val (.int p1), .val (.long sv), .second, .val (.int (-1 : Int32)), .val (.int n.toInt32)] [(.ref o), (.int n.toInt32)])) _
        refine st1 _ ?_
        show Steps p.tables e below (T1.setTop (mkF m 80 #[.val (.ref o), .val (.int p1), .val (.long sv), .second, .val (.int (-1 : Int32)), .val (.int n.toInt32)] [(.int q.toInt32), (.int n.toInt32)])) _
        refine XS.icmpNo X1.here hx rfl (hb hby d_innermostSince_80) rfl (tlt hc80).2.1 ?_
        show Steps p.tables e below (T1.setTop (mkF m 83 #[.val (.ref o), .val (.int p1), .val (.long sv), .second, .val (.int (-1 : Int32)), .val (.int n.toInt32)] [])) _
        refine XS.aloadN X1.here hx rfl (hb hby d_innermostSince_83) rfl rfl ?_
        show Steps p.tables e below (T1.setTop (mkF m 84 #[.val (.ref o), .val (.int p1), .val (.long sv), .second, .val (.int (-1 : Int32)), .val (.int n.toInt32)] [(.ref o)])) _
        refine st2 _ ?_
        show Steps p.tables e below (T2.setTop (mkF m 87 #[.val (.ref o), .val (.int p1), .val (.long sv), .second, .val (.int (-1 : Int32)), .val (.int n.toInt32)] [(.ref b)])) _
        refine XS.iconst X2.here hx rfl (hb hby d_innermostSince_87) ?_
        show Steps p.tables e below (T2.setTop (mkF m 88 #[.val (.ref o), .val (.int p1), .val (.long sv), .second, .val (.int (-1 : Int32)), .val (.int n.toInt32)] [(.int (2 : Int32)), (.ref b)])) _
        refine XS.iload X2.here hx rfl (hb hby d_innermostSince_88) rfl ?_
        show Steps p.tables e below (T2.setTop (mkF m 90 #[.val (.ref o), .val (.int p1), .val (.long sv), .second, .val (.int (-1 : Int32)), .val (.int n.toInt32)] [(.int n.toInt32), (.int (2 : Int32)), (.ref b)])) _
        refine XS.imul X2.here hx rfl (hb hby d_innermostSince_90) rfl ?_
        show Steps p.tables e below (T2.setTop (mkF m 91 #[.val (.ref o), .val (.int p1), .val (.long sv), .second, .val (.int (-1 : Int32)), .val (.int n.toInt32)] [(.int ((2 : Int32) * n.toInt32)), (.ref b)])) _
        refine XS.iconst X2.here hx rfl (hb hby d_innermostSince_91) ?_
        show Steps p.tables e below (T2.setTop (mkF m 92 #[.val (.ref o), .val (.int p1), .val (.long sv), .second, .val (.int (-1 : Int32)), .val (.int n.toInt32)] [(.int (1 : Int32)), (.int ((2 : Int32) * n.toInt32)), (.ref b)])) _
        refine XS.iadd X2.here hx rfl (hb hby d_innermostSince_92) rfl ?_
        show Steps p.tables e below (T2.setTop (mkF m 93 #[.val (.ref o), .val (.int p1), .val (.long sv), .second, .val (.int (-1 : Int32)), .val (.int n.toInt32)] [(.int (((2 : Int32) * n.toInt32) + (1 : Int32))), (.ref b)])) _
        refine X2.laload hx (j := (((2 : Int32) * n.toInt32) + (1 : Int32))) (v := (.long (f (2 * n + 1)))) (by rw [e2]; exact Ar.1) (State.isArrayOf_alike hZ.alike Ar.2.1) Ar.2.2 hin hat (g := (mkF m 93 #[.val (.ref o), .val (.int p1), .val (.long sv), .second, .val (.int (-1 : Int32)), .val (.int n.toInt32)] [(.int (((2 : Int32) * n.toInt32) + (1 : Int32))), (.ref b)])) rfl rfl (hb hby d_innermostSince_93) _ ?_
        show Steps p.tables e below (T2.setTop (mkF m 94 #[.val (.ref o), .val (.int p1), .val (.long sv), .second, .val (.int (-1 : Int32)), .val (.int n.toInt32)] [(.long (f (2 * n + 1)))])) _
        refine XS.lloadN X2.here hx rfl (hb hby d_innermostSince_94) rfl ?_
        show Steps p.tables e below (T2.setTop (mkF m 95 #[.val (.ref o), .val (.int p1), .val (.long sv), .second, .val (.int (-1 : Int32)), .val (.int n.toInt32)] [(.long sv), (.long (f (2 * n + 1)))])) _
        refine XS.lcmp X2.here hx rfl (hb hby d_innermostSince_95) rfl ?_
        show Steps p.tables e below (T2.setTop (mkF m 96 #[.val (.ref o), .val (.int p1), .val (.long sv), .second, .val (.int (-1 : Int32)), .val (.int n.toInt32)] [(.int (lcmpW (f (2 * n + 1)) sv))])) _
        refine XS.ifYes X2.here hx rfl (pc0 := 96) (pc' := 108) rfl (hb hby d_innermostSince_96) rfl ((if0 _ _).trans (flt hc96).2.2.2) (by decide) (by decide) ?_
        show Steps p.tables e below (T2.setTop (mkF m 108 #[.val (.ref o), .val (.int p1), .val (.long sv), .second, .val (.int (-1 : Int32)), .val (.int n.toInt32)] [])) _
        refine XS.iconst X2.here hx rfl (hb hby d_innermostSince_108) ?_
        show Steps p.tables e below (T2.setTop (mkF m 109 #[.val (.ref o), .val (.int p1), .val (.long sv), .second, .val (.int (-1 : Int32)), .val (.int n.toInt32)] [(.int (2 : Int32))])) _
        refine XS.iload X2.here hx rfl (hb hby d_innermostSince_109) rfl ?_
        show Steps p.tables e below (T2.setTop (mkF m 111 #[.val (.ref o), .val (.int p1), .val (.long sv), .second, .val (.int (-1 : Int32)), .val (.int n.toInt32)] [(.int n.toInt32), (.int (2 : Int32))])) _
        refine XS.imul X2.here hx rfl (hb hby d_innermostSince_111) rfl ?_
        show Steps p.tables e below (T2.setTop (mkF m 112 #[.val (.ref o), .val (.int p1), .val (.long sv), .second, .val (.int (-1 : Int32)), .val (.int n.toInt32)] [(.int ((2 : Int32) * n.toInt32))])) _
        refine XS.istore X2.here hx rfl (hb hby d_innermostSince_112) rfl (l' := #[.val (.ref o), .val (.int p1), .val (.long sv), .second, .val (.int (-1 : Int32)), .val (.int ((2 : Int32) * n.toInt32))]) rfl ?_
        show Steps p.tables e below (T2.setTop (mkF m 114 #[.val (.ref o), .val (.int p1), .val (.long sv), .second, .val (.int (-1 : Int32)), .val (.int ((2 : Int32) * n.toInt32))] [])) _
        refine XS.goto X2.here hx rfl (pc0 := 114) (pc' := 74) rfl (hb hby d_innermostSince_114) (by decide) (by decide) ?_
        show Steps p.tables e below (T2.setTop (mkF m 74 #[.val (.ref o), .val (.int p1), .val (.long sv), .second, .val (.int (-1 : Int32)), .val (.int ((2 : Int32) * n.toInt32))] [])) _
        rw [hj0]
        exact st3 t kt
    · obtain ⟨T1, X1, e1, st1⟩ := getF X0 hx hZ hown (host := "") (Or.inl (hw _ (List.mem_of_getElem? (i := 23) rfl))) Via.refl e0 F1 (g := (mkF m 77 #[.val (.ref o), .val (.int p1), .val (.long sv), .second, .val (.int (-1 : Int32)), .val (.int n.toInt32)] [(.ref o), (.int n.toInt32)])) rfl rfl (hb hby d_innermostSince_77)
      have hc80 : ¬ (n.toInt32 < q.toInt32) := fun q => absurd ((own_lt (by omega) (by omega)).mp q) (by omega)
      rw [own_dnE (by omega)]
      refine ⟨T1, X1, e1, fun t kt => ?_⟩
      show Steps p.tables e below (T0.setTop (mkF m 74 #[.val (.ref o), .val (.int p1), .val (.long sv), .second, .val (.int (-1 : Int32)), .val (.int n.toInt32)] [])) _
      refine XS.iload X0.here hx rfl (hb hby d_innermostSince_74) rfl ?_
      show Steps p.tables e below (T0.setTop (mkF m 76 #[.val (.ref o), .val (.int p1), .val (.long sv), .second, .val (.int (-1 : Int32)), .val (.int n.toInt32)] [(.int n.toInt32)])) _
      refine XS.aloadN X0.here hx rfl (hb hby d_innermostSince_76) rfl rfl ?_
      show Steps p.tables e below (T0.setTop (mkF m 77 #[.val (.ref o), .val (.int p1), .val (.long sv), .second, .val (.int (-1 : Int32)), .val (.int n.toInt32)] [(.ref o), (.int n.toInt32)])) _
      refine st1 _ ?_
      show Steps p.tables e below (T1.setTop (mkF m 80 #[.val (.ref o), .val (.int p1), .val (.long sv), .second, .val (.int (-1 : Int32)), .val (.int n.toInt32)] [(.int q.toInt32), (.int n.toInt32)])) _
      refine XS.icmpYes X1.here hx rfl (pc0 := 80) (pc' := 117) rfl (hb hby d_innermostSince_80) rfl (flt hc80).2.1 (by decide) (by decide) ?_
      exact kt
def own_ri (p : Nat) (f : Nat → Int64) (sv : Int64) (p1 : Int32) : Int32 := if (0 : Int32) < p1 then (if own_n1 p f sv p1.toInt.toNat = 0 then (-1 : Int32) else (own_n2 p f sv p1.toInt.toNat).toInt32 - (2 ^ p).toInt32) else (-1 : Int32)
theorem own_ri_spec {p : Nat} {f : Nat → Int64} {sv : Int64} {p1 : Int32} (ht : own_tree (2 ^ p) f) (hp : 2 * 2 ^ p < 2147483648) (hb : p1.toInt ≤ (2 ^ p : Nat)) : own_spec (fun d => f (2 ^ p + d)) p1.toInt.toNat sv (own_ri p f sv p1).toInt := by
  by_cases h : (0 : Int32) < p1
  · have h' := h
    rw [Int32.lt_iff_toInt_lt, show (0 : Int32).toInt = 0 from rfl] at h'
    have I := own_inner (s := sv) ht (b := p1.toInt.toNat) (by omega) (by omega)
    by_cases h1 : own_n1 p f sv p1.toInt.toNat = 0
    · rw [own_ri, if_pos h, if_pos h1]
      exact I.1 h1
    · rw [own_ri, if_pos h, if_neg h1]
      obtain ⟨a, b, c⟩ := I.2 h1
      rw [own_minus (by omega) a, own_t (by omega)]
      rw [show ((own_n2 p f sv p1.toInt.toNat - 2 ^ p : Nat) : Int) = (own_n2 p f sv p1.toInt.toNat : Int) - (2 ^ p : Nat) by omega]
      exact c
  · rw [own_ri, if_neg h]
    rw [Int32.lt_iff_toInt_lt, show (0 : Int32).toInt = 0 from rfl] at h
    exact Or.inl ⟨rfl, fun d hd => by omega⟩
def Q_rm_in (Z : State) (o : Addr) (p1 : Int32) (sv : Int64) (pw : Nat) (f : Nat → Int64) (h0 : Heap) (n0 : Nat) (v : Option Value) (h : Heap) (L : List Loc) : Prop := (v = some (.int (own_ri pw f sv p1)) ∧ Fr n0 L ∧ h = h0)
set_option maxRecDepth 65536 in
set_option maxHeartbeats 40000000 in
theorem rm_in (l : Launch) (Z : State) (a0 : Array Value) (hw : ∀ d ∈ tables_1, d.before a0 Z = true) (ws : List Jvm.Cond) (o : Addr) (p1 : Int32) (sv : Int64) (h0 : Heap) (n0 : Nat) (b : Addr) (pw q : Nat) (hpq : q = 2 ^ pw) (hq : 2 * q < 2147483648) (hbq : p1.toInt ≤ q) (f : Nat → Int64) (F1 : Fld Z h0 o "com/example/mutableau/mutableau/formula/BindingReferences" "leaves" "I" (.int q.toInt32)) (F2 : Fld Z h0 o "com/example/mutableau/mutableau/formula/BindingReferences" "latest" "[J" (.ref b)) (A : own_A Z h0 b (2 * q) f) (ht : own_tree q f) :
    MetFree l (⟨"com/example/mutableau/mutableau/formula/BindingReferences", "innermostSince", "(IJ)I"⟩ : MethodName) (head1 (Jvm.Cond.code (⟨"com/example/mutableau/mutableau/formula/BindingReferences", "innermostSince", "(IJ)I"⟩ : MethodName) prog_152_method_4_code 6 (some .int) :: ws) ({ frames := 0, cells := 0, slots := 0, locals := 0 } : Room)) (fun a U => a = #[(.ref o), (.int p1), (.long sv)] ∧ Z.Warmed39 U.vm ∧ U.heap = h0) (fun _ _ _ _ _ => True) (fun _ U oc U' => ∃ v L, oc = .returned v ∧ Q_rm_in Z o p1 sv pw f h0 n0 v U'.heap L ∧ FrameEnd U oc U' L ({ frames := 0, cells := 0, slots := 0, locals := 0 } : Room).cells ({ frames := 0, cells := 0, slots := 0, locals := 0 } : Room).slots) := by
  refine MetFree.of_bodySF (plainFor_of_name pn_b) hisR ?_
  intro p e s m args below meth c s₁ Bd hml0 hP hK
  obtain ⟨rfl, hZ, hh⟩ := hP
  have hx := Bd.exec
  have hby := Bd.bytes
  have hml : c.maxLocals = 6 := hml0
  have hown : s.vm.findClass "com/example/mutableau/mutableau/formula/BindingReferences" = some m.cls := findClass_of_methodNamed Bd.named
  have hnm := (name_of_methodNamed Bd.named Bd.method).1
  have X0 : Stand p l e ({ frames := 0, cells := 0, slots := 0, locals := 0 } : Room) s m #[(.ref o), (.int p1), (.long sv)] below meth c s₁ [] 0 0 := Stand.of_body Bd
  have e0 : s₁.heap = h0 := by rw [← hh, Bd.state]; rfl
  have N0 := Fr.nil n0
  have pre0 : ∀ t, Steps p.tables e below (s₁.setTop (mkF m 0 #[.val (.ref o), .val (.int p1), .val (.long sv), .second, .unset, .unset] [])) t → Steps p.tables e below (s₁.setTop (entryFrame m #[(.ref o), (.int p1), (.long sv)] 6)) t := fun t k => castTop (ef_in m o p1 sv) k
  by_cases hc4 : (0 : Int32) < p1
  · have hp1 := hc4
    rw [Int32.lt_iff_toInt_lt, show (0 : Int32).toInt = 0 from rfl] at hp1
    obtain ⟨bl, hbl⟩ : ∃ z : Nat, z = p1.toInt.toNat := ⟨_, rfl⟩
    have hblp : p1 = bl.toInt32 := own_i (by omega) (by omega)
    obtain ⟨T1, X1, e1, st1⟩ := getF X0 hx hZ hown (host := "") (Or.inl (hw _ (List.mem_of_getElem? (i := 23) rfl))) Via.refl e0 F1 (g := (mkF m 8 #[.val (.ref o), .val (.int p1), .val (.long sv), .second, .val (.int (-1 : Int32)), .unset] [(.ref o)])) rfl rfl (hb hby d_innermostSince_8)
    have hst : q.toInt32 + p1 - (1 : Int32) = (q + bl - 1).toInt32 := by rw [hblp, own_plus (by omega)]; exact own_dec (by omega) (by omega)
    obtain ⟨T2, X2, e2, st2⟩ := lp_ou hx hZ hw hby hown o b p1 sv q hq f F1 F2 A (q + bl - 1) (q + bl - 1) T1 (Nat.le_refl _) (by omega) X1 e1
    have hn1 : own_out f sv (q + bl - 1) (q + bl - 1) = own_n1 pw f sv p1.toInt.toNat := by rw [← hbl, own_n1, hpq]
    rw [hn1] at st2
    have ht' : own_tree (2 ^ pw) f := hpq ▸ ht
    have I := own_inner (s := sv) ht' (b := p1.toInt.toNat) (by omega) (by omega)
    by_cases hz : (own_n1 pw f sv p1.toInt.toNat) = 0
    · have hc71 : ¬ ((0 : Int32) < (own_n1 pw f sv p1.toInt.toNat).toInt32) := by rw [hz]; decide
      have hv : own_ri pw f sv p1 = (-1 : Int32) := by rw [own_ri, if_pos hc4, if_pos hz]
      obtain ⟨fs, hr, hrun, hended, hW, hsame⟩ := X2.leave (v := some (.int (own_ri pw f sv p1))) (fun h => by rw [Bd.returns] at h; cases h)
      refine ⟨_, _, pre0 _ ?_, hrun, hended, _, _, rfl, ⟨rfl, N0, e2⟩, ⟨_, rfl⟩, hW, hsame.mono (by decide) (by decide)⟩
      rw [hv] at hr
      show Steps p.tables e below (s₁.setTop (mkF m 0 #[.val (.ref o), .val (.int p1), .val (.long sv), .second, .unset, .unset] [])) _
      refine XS.iconst X0.here hx rfl (hb hby d_innermostSince_0) ?_
      show Steps p.tables e below (s₁.setTop (mkF m 1 #[.val (.ref o), .val (.int p1), .val (.long sv), .second, .unset, .unset] [(.int (-1 : Int32))])) _
      refine XS.istore X0.here hx rfl (hb hby d_innermostSince_1) rfl (l' := #[.val (.ref o), .val (.int p1), .val (.long sv), .second, .val (.int (-1 : Int32)), .unset]) rfl ?_
      show Steps p.tables e below (s₁.setTop (mkF m 3 #[.val (.ref o), .val (.int p1), .val (.long sv), .second, .val (.int (-1 : Int32)), .unset] [])) _
      refine XS.iloadN X0.here hx rfl (hb hby d_innermostSince_3) rfl ?_
      show Steps p.tables e below (s₁.setTop (mkF m 4 #[.val (.ref o), .val (.int p1), .val (.long sv), .second, .val (.int (-1 : Int32)), .unset] [(.int p1)])) _
      refine XS.ifNo X0.here hx rfl (hb hby d_innermostSince_4) rfl ((if0 _ _).trans (tlt hc4).2.2.2) ?_
      show Steps p.tables e below (s₁.setTop (mkF m 7 #[.val (.ref o), .val (.int p1), .val (.long sv), .second, .val (.int (-1 : Int32)), .unset] [])) _
      refine XS.aloadN X0.here hx rfl (hb hby d_innermostSince_7) rfl rfl ?_
      show Steps p.tables e below (s₁.setTop (mkF m 8 #[.val (.ref o), .val (.int p1), .val (.long sv), .second, .val (.int (-1 : Int32)), .unset] [(.ref o)])) _
      refine st1 _ ?_
      show Steps p.tables e below (T1.setTop (mkF m 11 #[.val (.ref o), .val (.int p1), .val (.long sv), .second, .val (.int (-1 : Int32)), .unset] [(.int q.toInt32)])) _
      refine XS.iloadN X1.here hx rfl (hb hby d_innermostSince_11) rfl ?_
      show Steps p.tables e below (T1.setTop (mkF m 12 #[.val (.ref o), .val (.int p1), .val (.long sv), .second, .val (.int (-1 : Int32)), .unset] [(.int p1), (.int q.toInt32)])) _
      refine XS.iadd X1.here hx rfl (hb hby d_innermostSince_12) rfl ?_
      show Steps p.tables e below (T1.setTop (mkF m 13 #[.val (.ref o), .val (.int p1), .val (.long sv), .second, .val (.int (-1 : Int32)), .unset] [(.int (q.toInt32 + p1))])) _
      refine XS.iconst X1.here hx rfl (hb hby d_innermostSince_13) ?_
      show Steps p.tables e below (T1.setTop (mkF m 14 #[.val (.ref o), .val (.int p1), .val (.long sv), .second, .val (.int (-1 : Int32)), .unset] [(.int (1 : Int32)), (.int (q.toInt32 + p1))])) _
      refine XS.isub X1.here hx rfl (hb hby d_innermostSince_14) rfl ?_
      show Steps p.tables e below (T1.setTop (mkF m 15 #[.val (.ref o), .val (.int p1), .val (.long sv), .second, .val (.int (-1 : Int32)), .unset] [(.int ((q.toInt32 + p1) - (1 : Int32)))])) _
      refine XS.istore X1.here hx rfl (hb hby d_innermostSince_15) rfl (l' := #[.val (.ref o), .val (.int p1), .val (.long sv), .second, .val (.int (-1 : Int32)), .val (.int ((q.toInt32 + p1) - (1 : Int32)))]) rfl ?_
      show Steps p.tables e below (T1.setTop (mkF m 17 #[.val (.ref o), .val (.int p1), .val (.long sv), .second, .val (.int (-1 : Int32)), .val (.int ((q.toInt32 + p1) - (1 : Int32)))] [])) _
      rw [hst]
      refine st2 _ ?_
      show Steps p.tables e below (T2.setTop (mkF m 69 #[.val (.ref o), .val (.int p1), .val (.long sv), .second, .val (.int (-1 : Int32)), .val (.int (own_n1 pw f sv p1.toInt.toNat).toInt32)] [])) _
      refine XS.iload X2.here hx rfl (hb hby d_innermostSince_69) rfl ?_
      show Steps p.tables e below (T2.setTop (mkF m 71 #[.val (.ref o), .val (.int p1), .val (.long sv), .second, .val (.int (-1 : Int32)), .val (.int (own_n1 pw f sv p1.toInt.toNat).toInt32)] [(.int (own_n1 pw f sv p1.toInt.toNat).toInt32)])) _
      refine XS.ifYes X2.here hx rfl (pc0 := 71) (pc' := 126) rfl (hb hby d_innermostSince_71) rfl ((if0 _ _).trans (flt hc71).2.2.2) (by decide) (by decide) ?_
      show Steps p.tables e below (T2.setTop (mkF m 126 #[.val (.ref o), .val (.int p1), .val (.long sv), .second, .val (.int (-1 : Int32)), .val (.int (own_n1 pw f sv p1.toInt.toNat).toInt32)] [])) _
      refine XS.iload X2.here hx rfl (hb hby d_innermostSince_126) rfl ?_
      show Steps p.tables e below (T2.setTop (mkF m 128 #[.val (.ref o), .val (.int p1), .val (.long sv), .second, .val (.int (-1 : Int32)), .val (.int (own_n1 pw f sv p1.toInt.toNat).toInt32)] [(.int (-1 : Int32))])) _
      exact retI X2 hx Bd.returns (hb hby d_innermostSince_128) hr
    · obtain ⟨I1, I2, -⟩ := I.2 hz
      have hle : (own_n1 pw f sv p1.toInt.toNat) ≤ 2 ^ pw + p1.toInt.toNat - 1 := own_out_le _ _
      have hlt : (own_n1 pw f sv p1.toInt.toNat) < 2 * q := by omega
      have hc71 : (0 : Int32) < (own_n1 pw f sv p1.toInt.toNat).toInt32 := (own_pos (by omega)).mpr hz
      obtain ⟨T3, X3, e3, st3⟩ := lp_dn hx hZ hw hby hown o b p1 sv q hq f F1 F2 A q (own_n1 pw f sv p1.toInt.toNat) T2 (by omega) (by omega) hlt X2 e2
      have hn2 : own_dn f sv q q (own_n1 pw f sv p1.toInt.toNat) = own_n2 pw f sv p1.toInt.toNat := by rw [own_n2, hpq]
      rw [hn2] at st3
      obtain ⟨T4, X4, e4, st4⟩ := getF X3 hx hZ hown (host := "") (Or.inl (hw _ (List.mem_of_getElem? (i := 23) rfl))) Via.refl e3 F1 (g := (mkF m 120 #[.val (.ref o), .val (.int p1), .val (.long sv), .second, .val (.int (-1 : Int32)), .val (.int (own_n2 pw f sv p1.toInt.toNat).toInt32)] [(.ref o), (.int (own_n2 pw f sv p1.toInt.toNat).toInt32)])) rfl rfl (hb hby d_innermostSince_120)
      have hv : own_ri pw f sv p1 = (own_n2 pw f sv p1.toInt.toNat).toInt32 - q.toInt32 := by rw [own_ri, if_pos hc4, if_neg hz, ← hpq]
      obtain ⟨fs, hr, hrun, hended, hW, hsame⟩ := X4.leave (v := some (.int (own_ri pw f sv p1))) (fun h => by rw [Bd.returns] at h; cases h)
      refine ⟨_, _, pre0 _ ?_, hrun, hended, _, _, rfl, ⟨rfl, N0, e4⟩, ⟨_, rfl⟩, hW, hsame.mono (by decide) (by decide)⟩
      rw [hv] at hr
      show Steps p.tables e below (s₁.setTop (mkF m 0 #[.val (.ref o), .val (.int p1), .val (.long sv), .second, .unset, .unset] [])) _
      refine XS.iconst X0.here hx rfl (hb hby d_innermostSince_0) ?_
      show Steps p.tables e below (s₁.setTop (mkF m 1 #[.val (.ref o), .val (.int p1), .val (.long sv), .second, .unset, .unset] [(.int (-1 : Int32))])) _
      refine XS.istore X0.here hx rfl (hb hby d_innermostSince_1) rfl (l' := #[.val (.ref o), .val (.int p1), .val (.long sv), .second, .val (.int (-1 : Int32)), .unset]) rfl ?_
      show Steps p.tables e below (s₁.setTop (mkF m 3 #[.val (.ref o), .val (.int p1), .val (.long sv), .second, .val (.int (-1 : Int32)), .unset] [])) _
      refine XS.iloadN X0.here hx rfl (hb hby d_innermostSince_3) rfl ?_
      show Steps p.tables e below (s₁.setTop (mkF m 4 #[.val (.ref o), .val (.int p1), .val (.long sv), .second, .val (.int (-1 : Int32)), .unset] [(.int p1)])) _
      refine XS.ifNo X0.here hx rfl (hb hby d_innermostSince_4) rfl ((if0 _ _).trans (tlt hc4).2.2.2) ?_
      show Steps p.tables e below (s₁.setTop (mkF m 7 #[.val (.ref o), .val (.int p1), .val (.long sv), .second, .val (.int (-1 : Int32)), .unset] [])) _
      refine XS.aloadN X0.here hx rfl (hb hby d_innermostSince_7) rfl rfl ?_
      show Steps p.tables e below (s₁.setTop (mkF m 8 #[.val (.ref o), .val (.int p1), .val (.long sv), .second, .val (.int (-1 : Int32)), .unset] [(.ref o)])) _
      refine st1 _ ?_
      show Steps p.tables e below (T1.setTop (mkF m 11 #[.val (.ref o), .val (.int p1), .val (.long sv), .second, .val (.int (-1 : Int32)), .unset] [(.int q.toInt32)])) _
      refine XS.iloadN X1.here hx rfl (hb hby d_innermostSince_11) rfl ?_
      show Steps p.tables e below (T1.setTop (mkF m 12 #[.val (.ref o), .val (.int p1), .val (.long sv), .second, .val (.int (-1 : Int32)), .unset] [(.int p1), (.int q.toInt32)])) _
      refine XS.iadd X1.here hx rfl (hb hby d_innermostSince_12) rfl ?_
      show Steps p.tables e below (T1.setTop (mkF m 13 #[.val (.ref o), .val (.int p1), .val (.long sv), .second, .val (.int (-1 : Int32)), .unset] [(.int (q.toInt32 + p1))])) _
      refine XS.iconst X1.here hx rfl (hb hby d_innermostSince_13) ?_
      show Steps p.tables e below (T1.setTop (mkF m 14 #[.val (.ref o), .val (.int p1), .val (.long sv), .second, .val (.int (-1 : Int32)), .unset] [(.int (1 : Int32)), (.int (q.toInt32 + p1))])) _
      refine XS.isub X1.here hx rfl (hb hby d_innermostSince_14) rfl ?_
      show Steps p.tables e below (T1.setTop (mkF m 15 #[.val (.ref o), .val (.int p1), .val (.long sv), .second, .val (.int (-1 : Int32)), .unset] [(.int ((q.toInt32 + p1) - (1 : Int32)))])) _
      refine XS.istore X1.here hx rfl (hb hby d_innermostSince_15) rfl (l' := #[.val (.ref o), .val (.int p1), .val (.long sv), .second, .val (.int (-1 : Int32)), .val (.int ((q.toInt32 + p1) - (1 : Int32)))]) rfl ?_
      show Steps p.tables e below (T1.setTop (mkF m 17 #[.val (.ref o), .val (.int p1), .val (.long sv), .second, .val (.int (-1 : Int32)), .val (.int ((q.toInt32 + p1) - (1 : Int32)))] [])) _
      rw [hst]
      refine st2 _ ?_
      show Steps p.tables e below (T2.setTop (mkF m 69 #[.val (.ref o), .val (.int p1), .val (.long sv), .second, .val (.int (-1 : Int32)), .val (.int (own_n1 pw f sv p1.toInt.toNat).toInt32)] [])) _
      refine XS.iload X2.here hx rfl (hb hby d_innermostSince_69) rfl ?_
      show Steps p.tables e below (T2.setTop (mkF m 71 #[.val (.ref o), .val (.int p1), .val (.long sv), .second, .val (.int (-1 : Int32)), .val (.int (own_n1 pw f sv p1.toInt.toNat).toInt32)] [(.int (own_n1 pw f sv p1.toInt.toNat).toInt32)])) _
      refine XS.ifNo X2.here hx rfl (hb hby d_innermostSince_71) rfl ((if0 _ _).trans (tlt hc71).2.2.2) ?_
      refine st3 _ ?_
      show Steps p.tables e below (T3.setTop (mkF m 117 #[.val (.ref o), .val (.int p1), .val (.long sv), .second, .val (.int (-1 : Int32)), .val (.int (own_n2 pw f sv p1.toInt.toNat).toInt32)] [])) _
      refine XS.iload X3.here hx rfl (hb hby d_innermostSince_117) rfl ?_
      show Steps p.tables e below (T3.setTop (mkF m 119 #[.val (.ref o), .val (.int p1), .val (.long sv), .second, .val (.int (-1 : Int32)), .val (.int (own_n2 pw f sv p1.toInt.toNat).toInt32)] [(.int (own_n2 pw f sv p1.toInt.toNat).toInt32)])) _
      refine XS.aloadN X3.here hx rfl (hb hby d_innermostSince_119) rfl rfl ?_
      show Steps p.tables e below (T3.setTop (mkF m 120 #[.val (.ref o), .val (.int p1), .val (.long sv), .second, .val (.int (-1 : Int32)), .val (.int (own_n2 pw f sv p1.toInt.toNat).toInt32)] [(.ref o), (.int (own_n2 pw f sv p1.toInt.toNat).toInt32)])) _
      refine st4 _ ?_
      show Steps p.tables e below (T4.setTop (mkF m 123 #[.val (.ref o), .val (.int p1), .val (.long sv), .second, .val (.int (-1 : Int32)), .val (.int (own_n2 pw f sv p1.toInt.toNat).toInt32)] [(.int q.toInt32), (.int (own_n2 pw f sv p1.toInt.toNat).toInt32)])) _
      refine XS.isub X4.here hx rfl (hb hby d_innermostSince_123) rfl ?_
      show Steps p.tables e below (T4.setTop (mkF m 124 #[.val (.ref o), .val (.int p1), .val (.long sv), .second, .val (.int (-1 : Int32)), .val (.int (own_n2 pw f sv p1.toInt.toNat).toInt32)] [(.int ((own_n2 pw f sv p1.toInt.toNat).toInt32 - q.toInt32))])) _
      refine XS.istore X4.here hx rfl (hb hby d_innermostSince_124) rfl (l' := #[.val (.ref o), .val (.int p1), .val (.long sv), .second, .val (.int ((own_n2 pw f sv p1.toInt.toNat).toInt32 - q.toInt32)), .val (.int (own_n2 pw f sv p1.toInt.toNat).toInt32)]) rfl ?_
      show Steps p.tables e below (T4.setTop (mkF m 126 #[.val (.ref o), .val (.int p1), .val (.long sv), .second, .val (.int ((own_n2 pw f sv p1.toInt.toNat).toInt32 - q.toInt32)), .val (.int (own_n2 pw f sv p1.toInt.toNat).toInt32)] [])) _
      refine XS.iload X4.here hx rfl (hb hby d_innermostSince_126) rfl ?_
      show Steps p.tables e below (T4.setTop (mkF m 128 #[.val (.ref o), .val (.int p1), .val (.long sv), .second, .val (.int ((own_n2 pw f sv p1.toInt.toNat).toInt32 - q.toInt32)), .val (.int (own_n2 pw f sv p1.toInt.toNat).toInt32)] [(.int ((own_n2 pw f sv p1.toInt.toNat).toInt32 - q.toInt32))])) _
      exact retI X4 hx Bd.returns (hb hby d_innermostSince_128) hr
  · have hv : own_ri pw f sv p1 = (-1 : Int32) := if_neg hc4
    obtain ⟨fs, hr, hrun, hended, hW, hsame⟩ := X0.leave (v := some (.int (own_ri pw f sv p1))) (fun h => by rw [Bd.returns] at h; cases h)
    refine ⟨_, _, pre0 _ ?_, hrun, hended, _, _, rfl, ⟨rfl, N0, e0⟩, ⟨_, rfl⟩, hW, hsame.mono (by decide) (by decide)⟩
    rw [hv] at hr
    show Steps p.tables e below (s₁.setTop (mkF m 0 #[.val (.ref o), .val (.int p1), .val (.long sv), .second, .unset, .unset] [])) _
    refine XS.iconst X0.here hx rfl (hb hby d_innermostSince_0) ?_
    show Steps p.tables e below (s₁.setTop (mkF m 1 #[.val (.ref o), .val (.int p1), .val (.long sv), .second, .unset, .unset] [(.int (-1 : Int32))])) _
    refine XS.istore X0.here hx rfl (hb hby d_innermostSince_1) rfl (l' := #[.val (.ref o), .val (.int p1), .val (.long sv), .second, .val (.int (-1 : Int32)), .unset]) rfl ?_
    show Steps p.tables e below (s₁.setTop (mkF m 3 #[.val (.ref o), .val (.int p1), .val (.long sv), .second, .val (.int (-1 : Int32)), .unset] [])) _
    refine XS.iloadN X0.here hx rfl (hb hby d_innermostSince_3) rfl ?_
    show Steps p.tables e below (s₁.setTop (mkF m 4 #[.val (.ref o), .val (.int p1), .val (.long sv), .second, .val (.int (-1 : Int32)), .unset] [(.int p1)])) _
    refine XS.ifYes X0.here hx rfl (pc0 := 4) (pc' := 126) rfl (hb hby d_innermostSince_4) rfl ((if0 _ _).trans (flt hc4).2.2.2) (by decide) (by decide) ?_
    show Steps p.tables e below (s₁.setTop (mkF m 126 #[.val (.ref o), .val (.int p1), .val (.long sv), .second, .val (.int (-1 : Int32)), .unset] [])) _
    refine XS.iload X0.here hx rfl (hb hby d_innermostSince_126) rfl ?_
    show Steps p.tables e below (s₁.setTop (mkF m 128 #[.val (.ref o), .val (.int p1), .val (.long sv), .second, .val (.int (-1 : Int32)), .unset] [(.int (-1 : Int32))])) _
    exact retI X0 hx Bd.returns (hb hby d_innermostSince_128) hr
theorem own_lvs (n : Nat) (h1 : 1 ≤ n) (h2 : n ≤ 16) : ∃ pw : Nat, own_lv n.toInt32 = (2 ^ pw).toInt32 ∧ n ≤ 2 ^ pw ∧ 2 ^ pw ≤ 16 ∧ (n ≤ 8 → 2 ^ pw ≤ 8) ∧ (0 : Int32) < own_mx (((2 : Int32) * n.toInt32) - (1 : Int32)) (1 : Int32) ∧ own_mx (((2 : Int32) * n.toInt32) - (1 : Int32)) (1 : Int32) < (256 : Int32) := by
  have h : n = 1 ∨ n = 2 ∨ n = 3 ∨ n = 4 ∨ n = 5 ∨ n = 6 ∨ n = 7 ∨ n = 8 ∨ n = 9 ∨ n = 10 ∨ n = 11 ∨ n = 12 ∨ n = 13 ∨ n = 14 ∨ n = 15 ∨ n = 16 := by omega
  rcases h with rfl | rfl | rfl | rfl | rfl | rfl | rfl | rfl | rfl | rfl | rfl | rfl | rfl | rfl | rfl | rfl
  · exact ⟨0, by decide +kernel, by decide +kernel, by decide +kernel, by decide +kernel, by decide +kernel, by decide +kernel⟩
  · exact ⟨1, by decide +kernel, by decide +kernel, by decide +kernel, by decide +kernel, by decide +kernel, by decide +kernel⟩
  · exact ⟨2, by decide +kernel, by decide +kernel, by decide +kernel, by decide +kernel, by decide +kernel, by decide +kernel⟩
  · exact ⟨2, by decide +kernel, by decide +kernel, by decide +kernel, by decide +kernel, by decide +kernel, by decide +kernel⟩
  · exact ⟨3, by decide +kernel, by decide +kernel, by decide +kernel, by decide +kernel, by decide +kernel, by decide +kernel⟩
  · exact ⟨3, by decide +kernel, by decide +kernel, by decide +kernel, by decide +kernel, by decide +kernel, by decide +kernel⟩
  · exact ⟨3, by decide +kernel, by decide +kernel, by decide +kernel, by decide +kernel, by decide +kernel, by decide +kernel⟩
  · exact ⟨3, by decide +kernel, by decide +kernel, by decide +kernel, by decide +kernel, by decide +kernel, by decide +kernel⟩
  · exact ⟨4, by decide +kernel, by decide +kernel, by decide +kernel, by decide +kernel, by decide +kernel, by decide +kernel⟩
  · exact ⟨4, by decide +kernel, by decide +kernel, by decide +kernel, by decide +kernel, by decide +kernel, by decide +kernel⟩
  · exact ⟨4, by decide +kernel, by decide +kernel, by decide +kernel, by decide +kernel, by decide +kernel, by decide +kernel⟩
  · exact ⟨4, by decide +kernel, by decide +kernel, by decide +kernel, by decide +kernel, by decide +kernel, by decide +kernel⟩
  · exact ⟨4, by decide +kernel, by decide +kernel, by decide +kernel, by decide +kernel, by decide +kernel, by decide +kernel⟩
  · exact ⟨4, by decide +kernel, by decide +kernel, by decide +kernel, by decide +kernel, by decide +kernel, by decide +kernel⟩
  · exact ⟨4, by decide +kernel, by decide +kernel, by decide +kernel, by decide +kernel, by decide +kernel, by decide +kernel⟩
  · exact ⟨4, by decide +kernel, by decide +kernel, by decide +kernel, by decide +kernel, by decide +kernel, by decide +kernel⟩
theorem pd_in : parseMethodDescriptor "(IJ)I" = some ⟨[.int, .long], some .int⟩ := by decide +kernel
theorem pd_la : parseMethodDescriptor "()J" = some ⟨[], some .long⟩ := by decide +kernel
theorem pd_cd : parseMethodDescriptor "(IIJIJ)I" = some ⟨[.int, .int, .long, .int, .long], some .int⟩ := by decide +kernel
theorem d_latest_0 : decode prog_152_method_2_code 0 = .ok (.aload_n 0, 1) := by decide +kernel
theorem d_latest_1 : decode prog_152_method_2_code 1 = .ok (.getfield 25, 3) := by decide +kernel
theorem d_latest_4 : decode prog_152_method_2_code 4 = .ok (.iconst 1, 1) := by decide +kernel
theorem d_latest_5 : decode prog_152_method_2_code 5 = .ok (.laload, 1) := by decide +kernel
theorem d_latest_6 : decode prog_152_method_2_code 6 = .ok (.lreturn, 1) := by decide +kernel
theorem d_cand_0 : decode method_2_code 0 = .ok (.lload_n 2, 1) := by decide +kernel
theorem d_cand_1 : decode method_2_code 1 = .ok (.lload 5, 2) := by decide +kernel
theorem d_cand_3 : decode method_2_code 3 = .ok (.lcmp, 1) := by decide +kernel
theorem d_cand_4 : decode method_2_code 4 = .ok (.ifCond .le 15, 3) := by decide +kernel
theorem d_cand_7 : decode method_2_code 7 = .ok (.iload_n 1, 1) := by decide +kernel
theorem d_cand_8 : decode method_2_code 8 = .ok (.iload 4, 2) := by decide +kernel
theorem d_cand_10 : decode method_2_code 10 = .ok (.if_icmp .ge 9, 3) := by decide +kernel
theorem d_cand_13 : decode method_2_code 13 = .ok (.iload_n 0, 1) := by decide +kernel
theorem d_cand_14 : decode method_2_code 14 = .ok (.iload_n 1, 1) := by decide +kernel
theorem d_cand_15 : decode method_2_code 15 = .ok (.invokestatic 7, 3) := by decide +kernel
theorem d_cand_18 : decode method_2_code 18 = .ok (.ireturn, 1) := by decide +kernel
theorem d_cand_19 : decode method_2_code 19 = .ok (.iload_n 0, 1) := by decide +kernel
theorem d_cand_20 : decode method_2_code 20 = .ok (.ireturn, 1) := by decide +kernel
theorem pn_0 : plainName "com/example/mutableau/mutableau/formula/BindingReferencesReferPinLaw" = true := by first | (simp [plainName, overriddenIn]; done) | decide +kernel
theorem ef_la (m : MethodId) (x0 : Addr) : entryFrame m #[(.ref x0)] 1 = mkF m 0 #[.val (.ref x0)] [] := by first | (simp [entryFrame, mkF, argsToLocals, Value.category]; done) | rfl
theorem ef_cd (m : MethodId) (x0 : Int32) (x1 : Int32) (x2 : Int64) (x3 : Int32) (x4 : Int64) : entryFrame m #[(.int x0), (.int x1), (.long x2), (.int x3), (.long x4)] 7 = mkF m 0 #[.val (.int x0), .val (.int x1), .val (.long x2), .second, .val (.int x3), .val (.long x4), .second] [] := by first | (simp [entryFrame, mkF, argsToLocals, Value.category]; done) | rfl
theorem ef_0 (m : MethodId) (x0 : Int32) (x1 : Int32) (x2 : Int32) (x3 : Int32) (x4 : Int32) (x5 : Int32) : entryFrame m #[(.int x0), (.int x1), (.int x2), (.int x3), (.int x4), (.int x5)] maxLocals = mkF m 0 #[.val (.int x0), .val (.int x1), .val (.int x2), .val (.int x3), .val (.int x4), .val (.int x5), .unset, .unset, .unset, .unset, .unset, .unset, .unset, .unset, .unset, .unset, .unset] [] := by first | (simp [entryFrame, mkF, argsToLocals, Value.category, maxLocals]; done) | rfl
def Q_rm_la (Z : State) (o : Addr) (f : Nat → Int64) (h0 : Heap) (n0 : Nat) (v : Option Value) (h : Heap) (L : List Loc) : Prop := (v = some (.long (f 1)) ∧ Fr n0 L ∧ h = h0)
set_option maxRecDepth 65536 in
set_option maxHeartbeats 40000000 in
theorem rm_la (l : Launch) (Z : State) (a0 : Array Value) (hw : ∀ d ∈ tables_1, d.before a0 Z = true) (ws : List Jvm.Cond) (o : Addr) (h0 : Heap) (n0 : Nat) (b : Addr) (q : Nat) (hq1 : 1 ≤ q) (hq : 2 * q < 2147483648) (f : Nat → Int64) (F2 : Fld Z h0 o "com/example/mutableau/mutableau/formula/BindingReferences" "latest" "[J" (.ref b)) (A0 : own_A Z h0 b (2 * q) f) :
    MetFree l (⟨"com/example/mutableau/mutableau/formula/BindingReferences", "latest", "()J"⟩ : MethodName) (head1 (Jvm.Cond.code (⟨"com/example/mutableau/mutableau/formula/BindingReferences", "latest", "()J"⟩ : MethodName) prog_152_method_2_code 1 (some .long) :: ws) ({ frames := 0, cells := 0, slots := 0, locals := 0 } : Room)) (fun a U => a = #[(.ref o)] ∧ Z.Warmed39 U.vm ∧ U.heap = h0) (fun _ _ _ _ _ => True) (fun _ U oc U' => ∃ v L, oc = .returned v ∧ Q_rm_la Z o f h0 n0 v U'.heap L ∧ FrameEnd U oc U' L ({ frames := 0, cells := 0, slots := 0, locals := 0 } : Room).cells ({ frames := 0, cells := 0, slots := 0, locals := 0 } : Room).slots) := by
  refine MetFree.of_bodySF (plainFor_of_name pn_b) hisR ?_
  intro p e s m args below meth c s₁ Bd hml0 hP hK
  obtain ⟨rfl, hZ, hh⟩ := hP
  have hx := Bd.exec
  have hby := Bd.bytes
  have hml : c.maxLocals = 1 := hml0
  have hown : s.vm.findClass "com/example/mutableau/mutableau/formula/BindingReferences" = some m.cls := findClass_of_methodNamed Bd.named
  have hnm := (name_of_methodNamed Bd.named Bd.method).1
  have X0 : Stand p l e ({ frames := 0, cells := 0, slots := 0, locals := 0 } : Room) s m #[(.ref o)] below meth c s₁ [] 0 0 := Stand.of_body Bd
  have e0 : s₁.heap = h0 := by rw [← hh, Bd.state]; rfl
  have N0 := Fr.nil n0
  have pre0 : ∀ t, Steps p.tables e below (s₁.setTop (mkF m 0 #[.val (.ref o)] [])) t → Steps p.tables e below (s₁.setTop (entryFrame m #[(.ref o)] 1)) t := fun t k => castTop (ef_la m o) k
  obtain ⟨T1, X1, e1, st1⟩ := getF X0 hx hZ hown (host := "") (Or.inl (hw _ (List.mem_of_getElem? (i := 26) rfl))) Via.refl e0 F2 (g := (mkF m 1 #[.val (.ref o)] [(.ref o)])) rfl rfl (hb hby d_latest_1)
  obtain ⟨cl, Ar, Sz, H⟩ := id A0
  obtain ⟨hin, hat⟩ := own_rd (i := 1) Sz H (j := (1 : Int32)) rfl (by omega) (by omega)
  obtain ⟨fs, hr, hrun, hended, hW, hsame⟩ := X1.leave (v := some (.long (f 1))) (fun h => by rw [Bd.returns] at h; cases h)
  refine ⟨_, _, pre0 _ ?_, hrun, hended, _, _, rfl, ⟨rfl, N0, e1⟩, ⟨_, rfl⟩, hW, hsame.mono (by decide) (by decide)⟩
  show Steps p.tables e below (s₁.setTop (mkF m 0 #[.val (.ref o)] [])) _
  refine XS.aloadN X0.here hx rfl (hb hby d_latest_0) rfl rfl ?_
  show Steps p.tables e below (s₁.setTop (mkF m 1 #[.val (.ref o)] [(.ref o)])) _
  refine st1 _ ?_
  show Steps p.tables e below (T1.setTop (mkF m 4 #[.val (.ref o)] [(.ref b)])) _
  refine XS.iconst X1.here hx rfl (hb hby d_latest_4) ?_
  show Steps p.tables e below (T1.setTop (mkF m 5 #[.val (.ref o)] [(.int (1 : Int32)), (.ref b)])) _
  refine X1.laload hx (j := (1 : Int32)) (v := (.long (f 1))) (by rw [e1]; exact Ar.1) (State.isArrayOf_alike hZ.alike Ar.2.1) Ar.2.2 hin hat (g := (mkF m 5 #[.val (.ref o)] [(.int (1 : Int32)), (.ref b)])) rfl rfl (hb hby d_latest_5) _ ?_
  show Steps p.tables e below (T1.setTop (mkF m 6 #[.val (.ref o)] [(.long (f 1))])) _
  exact X1.lreturnOut hx Bd.returns (hb hby d_latest_6) hr
def own_cd (p1 p2 : Int32) (p3 : Int64) (p4 : Int32) (p5 : Int64) : Int32 := if p5 < p3 then (if p2 < p4 then own_mx p1 p2 else p1) else p1
def Q_rm_cd (Z : State) (p1 : Int32) (p2 : Int32) (p3 : Int64) (p4 : Int32) (p5 : Int64)  (h0 : Heap) (n0 : Nat) (v : Option Value) (h : Heap) (L : List Loc) : Prop := (v = some (.int (own_cd p1 p2 p3 p4 p5)) ∧ Fr n0 L ∧ h = h0)
set_option maxRecDepth 65536 in
set_option maxHeartbeats 40000000 in
theorem rm_cd (l : Launch) (Z : State) (a0 : Array Value) (hw : ∀ d ∈ tables_1, d.before a0 Z = true) (ws : List Jvm.Cond) (p1 : Int32) (p2 : Int32) (p3 : Int64) (p4 : Int32) (p5 : Int64) (h0 : Heap) (n0 : Nat)  :
    MetFree l (⟨"com/example/mutableau/mutableau/formula/BindingReferencesReferPinLaw", "cand", "(IIJIJ)I"⟩ : MethodName) (head1 (Jvm.Cond.code (⟨"com/example/mutableau/mutableau/formula/BindingReferencesReferPinLaw", "cand", "(IIJIJ)I"⟩ : MethodName) method_2_code 7 (some .int) :: ws) ({ frames := 1, cells := 0, slots := 0, locals := 13 } : Room)) (fun a U => a = #[(.int p1), (.int p2), (.long p3), (.int p4), (.long p5)] ∧ Z.Warmed39 U.vm ∧ U.heap = h0) (fun _ _ _ _ _ => True) (fun _ U oc U' => ∃ v L, oc = .returned v ∧ Q_rm_cd Z p1 p2 p3 p4 p5 h0 n0 v U'.heap L ∧ FrameEnd U oc U' L ({ frames := 1, cells := 0, slots := 0, locals := 13 } : Room).cells ({ frames := 1, cells := 0, slots := 0, locals := 13 } : Room).slots) := by
  refine MetFree.of_bodySF (plainFor_of_name pn_0) hisR ?_
  intro p e s m args below meth c s₁ Bd hml0 hP hK
  obtain ⟨rfl, hZ, hh⟩ := hP
  have hx := Bd.exec
  have hby := Bd.bytes
  have hml : c.maxLocals = 7 := hml0
  have hown : s.vm.findClass "com/example/mutableau/mutableau/formula/BindingReferencesReferPinLaw" = some m.cls := findClass_of_methodNamed Bd.named
  have hnm := (name_of_methodNamed Bd.named Bd.method).1
  have X0 : Stand p l e ({ frames := 1, cells := 0, slots := 0, locals := 13 } : Room) s m #[(.int p1), (.int p2), (.long p3), (.int p4), (.long p5)] below meth c s₁ [] 0 0 := Stand.of_body Bd
  have e0 : s₁.heap = h0 := by rw [← hh, Bd.state]; rfl
  have N0 := Fr.nil n0
  have pre0 : ∀ t, Steps p.tables e below (s₁.setTop (mkF m 0 #[.val (.int p1), .val (.int p2), .val (.long p3), .second, .val (.int p4), .val (.long p5), .second] [])) t → Steps p.tables e below (s₁.setTop (entryFrame m #[(.int p1), (.int p2), (.long p3), (.int p4), (.long p5)] 7)) t := fun t k => castTop (ef_cd m p1 p2 p3 p4 p5) k
  by_cases hs : p5 < p3
  · have hc4 : (0 : Int32) < (lcmpW p3 p5) := (lw_gt _ _).mpr hs
    by_cases hc10 : p2 < p4
    · obtain ⟨_, _, ⟨T1, L1, k1, n1⟩, -, X1, ⟨Lc1, hQ1, l1, y1, z1⟩, st1⟩ := Jvm.LawKit.callS X0 hx (y := (⟨"java/lang/Math", "max", "(II)I"⟩ : MethodName)) hown (mvT hZ (hw _ (List.mem_of_getElem? (i := 49) rfl))) (mvT hZ (hw _ (List.mem_of_getElem? (i := 11) rfl))) (mvT hZ (hw _ (List.mem_of_getElem? (i := 12) rfl))) (mvT hZ (hw _ (List.mem_of_getElem? (i := 13) rfl))) (by decide) (backOf (W := 0) (rm_mx l Z a0 hw [] p1 p2 h0 n0) hZ (hw _ (List.mem_of_getElem? (i := 13) rfl)) (hw _ (List.mem_of_getElem? (i := 12) rfl)) (by decide) (by decide)) (g := (mkF m 15 #[.val (.int p1), .val (.int p2), .val (.long p3), .second, .val (.int p4), .val (.long p5), .second] [(.int p2), (.int p1)])) rfl (by rw [hml]; rfl) (argsL := [(.int p1), (.int p2)]) (rest := []) (lenOf pd_ii_i rfl) rfl (by show 2 * 0 + _ ≤ _; exact Nat.le_of_eq rfl) (hb hby d_cand_15) (fun _ _ => ⟨rfl, e0, (by decide : 0 + 0 ≤ _), (by decide : 0 + 0 ≤ _)⟩)
      dsimp only [Pt.U, Pt.locs, Pt.cells, Pt.slots] at X1 l1 y1 z1 st1 hQ1
      subst l1 y1 z1
      obtain ⟨rfl, N1q, e1⟩ := hQ1
      have N1 := Fr.app N0 N1q
      have hv : (own_cd p1 p2 p3 p4 p5) = own_mx p1 p2 := (if_pos hs).trans (if_pos hc10)
      obtain ⟨fs, hr, hrun, hended, hW, hsame⟩ := X1.leave (v := some (.int (own_cd p1 p2 p3 p4 p5))) (fun h => by rw [Bd.returns] at h; cases h)
      refine ⟨_, _, pre0 _ ?_, hrun, hended, _, _, rfl, ⟨rfl, N1, e1⟩, ⟨_, rfl⟩, hW, hsame.mono (by decide) (by decide)⟩
      rw [hv] at hr
      show Steps p.tables e below (s₁.setTop (mkF m 0 #[.val (.int p1), .val (.int p2), .val (.long p3), .second, .val (.int p4), .val (.long p5), .second] [])) _
      refine XS.lloadN X0.here hx rfl (hb hby d_cand_0) rfl ?_
      show Steps p.tables e below (s₁.setTop (mkF m 1 #[.val (.int p1), .val (.int p2), .val (.long p3), .second, .val (.int p4), .val (.long p5), .second] [(.long p3)])) _
      refine XS.lload X0.here hx rfl (hb hby d_cand_1) rfl ?_
      show Steps p.tables e below (s₁.setTop (mkF m 3 #[.val (.int p1), .val (.int p2), .val (.long p3), .second, .val (.int p4), .val (.long p5), .second] [(.long p5), (.long p3)])) _
      refine XS.lcmp X0.here hx rfl (hb hby d_cand_3) rfl ?_
      show Steps p.tables e below (s₁.setTop (mkF m 4 #[.val (.int p1), .val (.int p2), .val (.long p3), .second, .val (.int p4), .val (.long p5), .second] [(.int (lcmpW p3 p5))])) _
      refine XS.ifNo X0.here hx rfl (hb hby d_cand_4) rfl ((if0 _ _).trans (tlt hc4).2.2.2) ?_
      show Steps p.tables e below (s₁.setTop (mkF m 7 #[.val (.int p1), .val (.int p2), .val (.long p3), .second, .val (.int p4), .val (.long p5), .second] [])) _
      refine XS.iloadN X0.here hx rfl (hb hby d_cand_7) rfl ?_
      show Steps p.tables e below (s₁.setTop (mkF m 8 #[.val (.int p1), .val (.int p2), .val (.long p3), .second, .val (.int p4), .val (.long p5), .second] [(.int p2)])) _
      refine XS.iload X0.here hx rfl (hb hby d_cand_8) rfl ?_
      show Steps p.tables e below (s₁.setTop (mkF m 10 #[.val (.int p1), .val (.int p2), .val (.long p3), .second, .val (.int p4), .val (.long p5), .second] [(.int p4), (.int p2)])) _
      refine XS.icmpNo X0.here hx rfl (hb hby d_cand_10) rfl (tlt hc10).2.1 ?_
      show Steps p.tables e below (s₁.setTop (mkF m 13 #[.val (.int p1), .val (.int p2), .val (.long p3), .second, .val (.int p4), .val (.long p5), .second] [])) _
      refine XS.iloadN X0.here hx rfl (hb hby d_cand_13) rfl ?_
      show Steps p.tables e below (s₁.setTop (mkF m 14 #[.val (.int p1), .val (.int p2), .val (.long p3), .second, .val (.int p4), .val (.long p5), .second] [(.int p1)])) _
      refine XS.iloadN X0.here hx rfl (hb hby d_cand_14) rfl ?_
      show Steps p.tables e below (s₁.setTop (mkF m 15 #[.val (.int p1), .val (.int p2), .val (.long p3), .second, .val (.int p4), .val (.long p5), .second] [(.int p2), (.int p1)])) _
      refine st1 _ ?_
      show Steps p.tables e below (T1.setTop (mkF m 18 #[.val (.int p1), .val (.int p2), .val (.long p3), .second, .val (.int p4), .val (.long p5), .second] [(.int (own_mx p1 p2))])) _
      exact retI X1 hx Bd.returns (hb hby d_cand_18) hr
    · have hv : (own_cd p1 p2 p3 p4 p5) = p1 := (if_pos hs).trans (if_neg hc10)
      obtain ⟨fs, hr, hrun, hended, hW, hsame⟩ := X0.leave (v := some (.int (own_cd p1 p2 p3 p4 p5))) (fun h => by rw [Bd.returns] at h; cases h)
      refine ⟨_, _, pre0 _ ?_, hrun, hended, _, _, rfl, ⟨rfl, N0, e0⟩, ⟨_, rfl⟩, hW, hsame.mono (by decide) (by decide)⟩
      rw [hv] at hr
      show Steps p.tables e below (s₁.setTop (mkF m 0 #[.val (.int p1), .val (.int p2), .val (.long p3), .second, .val (.int p4), .val (.long p5), .second] [])) _
      refine XS.lloadN X0.here hx rfl (hb hby d_cand_0) rfl ?_
      show Steps p.tables e below (s₁.setTop (mkF m 1 #[.val (.int p1), .val (.int p2), .val (.long p3), .second, .val (.int p4), .val (.long p5), .second] [(.long p3)])) _
      refine XS.lload X0.here hx rfl (hb hby d_cand_1) rfl ?_
      show Steps p.tables e below (s₁.setTop (mkF m 3 #[.val (.int p1), .val (.int p2), .val (.long p3), .second, .val (.int p4), .val (.long p5), .second] [(.long p5), (.long p3)])) _
      refine XS.lcmp X0.here hx rfl (hb hby d_cand_3) rfl ?_
      show Steps p.tables e below (s₁.setTop (mkF m 4 #[.val (.int p1), .val (.int p2), .val (.long p3), .second, .val (.int p4), .val (.long p5), .second] [(.int (lcmpW p3 p5))])) _
      refine XS.ifNo X0.here hx rfl (hb hby d_cand_4) rfl ((if0 _ _).trans (tlt hc4).2.2.2) ?_
      show Steps p.tables e below (s₁.setTop (mkF m 7 #[.val (.int p1), .val (.int p2), .val (.long p3), .second, .val (.int p4), .val (.long p5), .second] [])) _
      refine XS.iloadN X0.here hx rfl (hb hby d_cand_7) rfl ?_
      show Steps p.tables e below (s₁.setTop (mkF m 8 #[.val (.int p1), .val (.int p2), .val (.long p3), .second, .val (.int p4), .val (.long p5), .second] [(.int p2)])) _
      refine XS.iload X0.here hx rfl (hb hby d_cand_8) rfl ?_
      show Steps p.tables e below (s₁.setTop (mkF m 10 #[.val (.int p1), .val (.int p2), .val (.long p3), .second, .val (.int p4), .val (.long p5), .second] [(.int p4), (.int p2)])) _
      refine XS.icmpYes X0.here hx rfl (pc0 := 10) (pc' := 19) rfl (hb hby d_cand_10) rfl (flt hc10).2.1 (by decide) (by decide) ?_
      show Steps p.tables e below (s₁.setTop (mkF m 19 #[.val (.int p1), .val (.int p2), .val (.long p3), .second, .val (.int p4), .val (.long p5), .second] [])) _
      refine XS.iloadN X0.here hx rfl (hb hby d_cand_19) rfl ?_
      show Steps p.tables e below (s₁.setTop (mkF m 20 #[.val (.int p1), .val (.int p2), .val (.long p3), .second, .val (.int p4), .val (.long p5), .second] [(.int p1)])) _
      exact retI X0 hx Bd.returns (hb hby d_cand_20) hr
  · have hc4 : ¬ ((0 : Int32) < (lcmpW p3 p5)) := fun q => hs ((lw_gt _ _).mp q)
    have hv : (own_cd p1 p2 p3 p4 p5) = p1 := if_neg hs
    obtain ⟨fs, hr, hrun, hended, hW, hsame⟩ := X0.leave (v := some (.int (own_cd p1 p2 p3 p4 p5))) (fun h => by rw [Bd.returns] at h; cases h)
    refine ⟨_, _, pre0 _ ?_, hrun, hended, _, _, rfl, ⟨rfl, N0, e0⟩, ⟨_, rfl⟩, hW, hsame.mono (by decide) (by decide)⟩
    rw [hv] at hr
    show Steps p.tables e below (s₁.setTop (mkF m 0 #[.val (.int p1), .val (.int p2), .val (.long p3), .second, .val (.int p4), .val (.long p5), .second] [])) _
    refine XS.lloadN X0.here hx rfl (hb hby d_cand_0) rfl ?_
    show Steps p.tables e below (s₁.setTop (mkF m 1 #[.val (.int p1), .val (.int p2), .val (.long p3), .second, .val (.int p4), .val (.long p5), .second] [(.long p3)])) _
    refine XS.lload X0.here hx rfl (hb hby d_cand_1) rfl ?_
    show Steps p.tables e below (s₁.setTop (mkF m 3 #[.val (.int p1), .val (.int p2), .val (.long p3), .second, .val (.int p4), .val (.long p5), .second] [(.long p5), (.long p3)])) _
    refine XS.lcmp X0.here hx rfl (hb hby d_cand_3) rfl ?_
    show Steps p.tables e below (s₁.setTop (mkF m 4 #[.val (.int p1), .val (.int p2), .val (.long p3), .second, .val (.int p4), .val (.long p5), .second] [(.int (lcmpW p3 p5))])) _
    refine XS.ifYes X0.here hx rfl (pc0 := 4) (pc' := 19) rfl (hb hby d_cand_4) rfl ((if0 _ _).trans (flt hc4).2.2.2) (by decide) (by decide) ?_
    show Steps p.tables e below (s₁.setTop (mkF m 19 #[.val (.int p1), .val (.int p2), .val (.long p3), .second, .val (.int p4), .val (.long p5), .second] [])) _
    refine XS.iloadN X0.here hx rfl (hb hby d_cand_19) rfl ?_
    show Steps p.tables e below (s₁.setTop (mkF m 20 #[.val (.int p1), .val (.int p2), .val (.long p3), .second, .val (.int p4), .val (.long p5), .second] [(.int p1)])) _
    exact retI X0 hx Bd.returns (hb hby d_cand_20) hr
theorem own_cdf (p1 p2 : Int32) (p3 : Int64) (p4 : Int32) (p5 : Int64) : (p5.toInt < p3.toInt ∧ p2.toInt < p4.toInt → ((own_cd p1 p2 p3 p4 p5).toInt = p1.toInt ∨ (own_cd p1 p2 p3 p4 p5).toInt = p2.toInt) ∧ p1.toInt ≤ (own_cd p1 p2 p3 p4 p5).toInt ∧ p2.toInt ≤ (own_cd p1 p2 p3 p4 p5).toInt) ∧ (¬ (p5.toInt < p3.toInt ∧ p2.toInt < p4.toInt) → (own_cd p1 p2 p3 p4 p5).toInt = p1.toInt) := by
  by_cases h1 : p5 < p3
  · by_cases h2 : p2 < p4
    · rw [own_cd, if_pos h1, if_pos h2]
      rw [Int64.lt_iff_toInt_lt] at h1
      rw [Int32.lt_iff_toInt_lt] at h2
      refine ⟨fun _ => ?_, fun q => absurd ⟨h1, h2⟩ q⟩
      by_cases h3 : p1 < p2
      · rw [own_mx, if_pos h3]
        rw [Int32.lt_iff_toInt_lt] at h3
        exact ⟨Or.inr rfl, by omega, by omega⟩
      · rw [own_mx, if_neg h3]
        rw [Int32.lt_iff_toInt_lt] at h3
        exact ⟨Or.inl rfl, by omega, by omega⟩
    · rw [own_cd, if_pos h1, if_neg h2]
      rw [Int32.lt_iff_toInt_lt] at h2
      exact ⟨fun q => absurd q.2 h2, fun _ => rfl⟩
  · rw [own_cd, if_neg h1]
    rw [Int64.lt_iff_toInt_lt] at h1
    exact ⟨fun q => absurd q.1 h1, fun _ => rfl⟩
theorem own_step {q d cc : Nat} {f : Nat → Int64} (t : own_tree q f) (hc : (f 1).toInt = cc) (hc7 : cc ≤ 7) (hd : d < q) : own_tree q (own_path (f 1 + 1) (q + d) (q + d) f) ∧ (own_path (f 1 + 1) (q + d) (q + d) f 1).toInt = (cc + 1 : Nat) ∧ ∀ e, e < q → (own_path (f 1 + 1) (q + d) (q + d) f (q + e)).toInt = if e = d then (cc + 1 : Int) else (f (q + e)).toInt := by
  have hv : (f 1 + 1).toInt = cc + 1 := by
    have q1 := c_ladd (f 1) 1
    have q2 := rng64 (f 1 + 1)
    rw [hc, show (1 : Int64).toInt = 1 from by decide] at q1
    omega
  have hlt : f 1 < f 1 + 1 := by rw [Int64.lt_iff_toInt_lt, hv, hc]; omega
  obtain ⟨r1, r2, r3⟩ := own_refer t hlt hd
  refine ⟨r1, by rw [r2, hv]; omega, fun e he => ?_⟩
  rw [r3 e he]
  by_cases h : e = d
  · rw [if_pos h, if_pos h, hv]
  · rw [if_neg h, if_neg h]
theorem own_three {b d1 d2 d3 : Nat} {F : Nat → Int64} {sv : Int64} {y r1 r2 r3 : Int32} (hy : y.toInt = b) (h1 : d1.toInt32.toInt = d1) (h2 : d2.toInt32.toInt = d2) (h3 : d3.toInt32.toInt = d3) (hs : 0 ≤ sv.toInt) (hF : ∀ e, e < b → (F e).toInt = if e = d3 then (3 : Int) else if e = d2 then 2 else if e = d1 then 1 else 0)
    (e1 : r1 = own_cd (-1) d1.toInt32 1 y sv) (e2 : r2 = own_cd r1 d2.toInt32 2 y sv) (e3 : r3 = own_cd r2 d3.toInt32 3 y sv) : own_spec F b sv r3.toInt := by
  have c1 := own_cdf (-1) d1.toInt32 1 y sv
  have c2 := own_cdf r1 d2.toInt32 2 y sv
  have c3 := own_cdf r2 d3.toInt32 3 y sv
  rw [← e1, hy, h1, show (1 : Int64).toInt = 1 from by decide, show (-1 : Int32).toInt = -1 from by decide] at c1
  rw [← e2, hy, h2, show (2 : Int64).toInt = 2 from by decide] at c2
  rw [← e3, hy, h3, show (3 : Int64).toInt = 3 from by decide] at c3
  clear e1 e2 e3
  generalize r1.toInt = x1 at *
  generalize r2.toInt = x2 at *
  generalize r3.toInt = x3 at *
  have G : ∀ e, e < b → (sv < F e ↔ ((e = d3 ∧ sv.toInt < 3) ∨ (e = d2 ∧ sv.toInt < 2) ∨ (e = d1 ∧ sv.toInt < 1))) := by
    intro e he
    rw [Int64.lt_iff_toInt_lt, hF e he]
    by_cases a3 : e = d3
    · rw [if_pos a3]; omega
    · rw [if_neg a3]
      by_cases a2 : e = d2
      · rw [if_pos a2]; omega
      · rw [if_neg a2]
        by_cases a1 : e = d1
        · rw [if_pos a1]; omega
        · rw [if_neg a1]; omega
  have up : ∀ e, e < b → sv < F e → (e : Int) ≤ x3 := by
    intro e he hse
    rw [G e he] at hse
    omega
  have lo : x3 = -1 ∨ ∃ d, d < b ∧ x3 = (d : Int) ∧ sv < F d := by
    have k : x3 = -1 ∨ (x3 = d3 ∧ sv.toInt < 3 ∧ d3 < b) ∨ (x3 = d2 ∧ sv.toInt < 2 ∧ d2 < b) ∨ (x3 = d1 ∧ sv.toInt < 1 ∧ d1 < b) := by omega
    rcases k with k | ⟨k1, k2, k3⟩ | ⟨k1, k2, k3⟩ | ⟨k1, k2, k3⟩
    · exact Or.inl k
    · exact Or.inr ⟨d3, k3, k1, (G d3 k3).mpr (Or.inl ⟨rfl, k2⟩)⟩
    · exact Or.inr ⟨d2, k3, k1, (G d2 k3).mpr (Or.inr (Or.inl ⟨rfl, k2⟩))⟩
    · exact Or.inr ⟨d1, k3, k1, (G d1 k3).mpr (Or.inr (Or.inr ⟨rfl, k2⟩))⟩
  rcases lo with lo | ⟨d, d1', d2', d3'⟩
  · exact Or.inl ⟨lo, fun e he hse => by have := up e he hse; omega⟩
  · exact Or.inr ⟨d, d1', d2', d3', fun e e1 e2 hse => by have := up e e2 hse; omega⟩
set_option maxRecDepth 65536 in
set_option maxHeartbeats 40000000 in
theorem rm0 (l : Launch) (Z : State) (a0 : Array Value) (hw : ∀ d ∈ tables_1, d.before a0 Z = true) (ws : List Jvm.Cond) (p1 : Int32) (p2 : Int32) (p3 : Int32) (p4 : Int32) (p5 : Int32) (p6 : Int32) (h0 : Heap) (n0 : Nat) (Z0 : n0 ≤ h0.size) :
    MetFree l x (head1 (Jvm.Cond.code x code maxLocals ret :: ws) room_1) (fun a U => a = #[(.int p1), (.int p2), (.int p3), (.int p4), (.int p5), (.int p6)] ∧ Z.Warmed39 U.vm ∧ U.heap = h0) (fun _ _ _ _ _ => True) (fun _ U oc U' => ∃ v L, oc = .returned v ∧ (v = some (.int 1) ∧ Fr n0 L) ∧ FrameEnd U oc U' L room_1.cells room_1.slots) := by
  refine MetFree.of_bodySF (plainFor_of_name pn_0) hisR ?_
  intro p e s m args below meth c s₁ Bd hml0 hP hK
  obtain ⟨rfl, hZ, hh⟩ := hP
  have hx := Bd.exec
  have hby := Bd.bytes
  have hml : c.maxLocals = 17 := hml0
  have hown : s.vm.findClass "com/example/mutableau/mutableau/formula/BindingReferencesReferPinLaw" = some m.cls := findClass_of_methodNamed Bd.named
  have hnm := (name_of_methodNamed Bd.named Bd.method).1
  have X0 : Stand p l e room_1 s m #[(.int p1), (.int p2), (.int p3), (.int p4), (.int p5), (.int p6)] below meth c s₁ [] 0 0 := Stand.of_body Bd
  have e0 : s₁.heap = h0 := by rw [← hh, Bd.state]; rfl
  have N0 := Fr.nil n0
  have pre0 : ∀ t, Steps p.tables e below (s₁.setTop (mkF m 0 #[.val (.int p1), .val (.int p2), .val (.int p3), .val (.int p4), .val (.int p5), .val (.int p6), .unset, .unset, .unset, .unset, .unset, .unset, .unset, .unset, .unset, .unset, .unset] [])) t → Steps p.tables e below (s₁.setTop (entryFrame m #[(.int p1), (.int p2), (.int p3), (.int p4), (.int p5), (.int p6)] maxLocals)) t := fun t k => castTop (ef_0 m p1 p2 p3 p4 p5 p6) k
  have P0 : ∀ t, Steps p.tables e below (s₁.setTop (mkF m 0 #[.val (.int p1), .val (.int p2), .val (.int p3), .val (.int p4), .val (.int p5), .val (.int p6), .unset, .unset, .unset, .unset, .unset, .unset, .unset, .unset, .unset, .unset, .unset] [])) t → Steps p.tables e below (s₁.setTop (entryFrame m #[(.int p1), (.int p2), (.int p3), (.int p4), (.int p5), (.int p6)] maxLocals)) t := fun t k => pre0 t k
  have hm1 : (p1 &&& (15 : Int32)).toInt = p1.toInt % 16 := c_mask p1 15 4 (by decide) (by decide)
  obtain ⟨n, hn, hn1, hn8⟩ : ∃ n : Nat, ((1 : Int32) + (p1 &&& (15 : Int32))) = n.toInt32 ∧ 1 ≤ n ∧ n ≤ 16 := by
    have q1 := c_iadd (1 : Int32) (p1 &&& (15 : Int32))
    have q2 := rng32 ((1 : Int32) + (p1 &&& (15 : Int32)))
    rw [show (1 : Int32).toInt = 1 from by decide] at q1
    exact ⟨(((1 : Int32) + (p1 &&& (15 : Int32)))).toInt.toNat, own_i (by omega) (by omega), by omega, by omega⟩
  obtain ⟨pw, lv1, lv2, lv3, -, lv5, lv6⟩ := own_lvs n hn1 hn8
  obtain ⟨q, hqp⟩ : ∃ z : Nat, z = 2 ^ pw := ⟨_, rfl⟩
  rw [← hqp] at lv1 lv2 lv3
  have hnz : n.toInt32 ≠ 0 := by intro q; have := (own_is (b := 0) (by omega) (by omega)).mp q; omega
  have hmod : ∀ (x : Int32) (k : Nat) (y : Int32), y = k.toInt32 → 1 ≤ k → k ≤ 17 → ∃ d : Nat, ((x &&& (2147483647 : Int32)) % y) = d.toInt32 ∧ d < k := by
    intro x k y hy h1 h2
    have hm3 : (x &&& (2147483647 : Int32)).toInt = x.toInt % 2147483648 := c_mask x 2147483647 31 (by decide) (by decide)
    have m1 := (c_irem (x &&& (2147483647 : Int32)) y (k : Int) (by rw [hy, own_t (by omega)])).1 (by omega)
    have m2 := Int.emod_lt_of_pos (x &&& (2147483647 : Int32)).toInt (show (0 : Int) < k by omega)
    have m3 := Int.emod_nonneg (x &&& (2147483647 : Int32)).toInt (show (k : Int) ≠ 0 by omega)
    exact ⟨((x &&& (2147483647 : Int32)) % y).toInt.toNat, own_i (by omega) (by omega), by omega⟩
  have Pn : ∀ t, Steps p.tables e below (s₁.setTop (mkF m 8 #[.val (.int p1), .val (.int p2), .val (.int p3), .val (.int p4), .val (.int p5), .val (.int p6), .val (.int n.toInt32), .unset, .unset, .unset, .unset, .unset, .unset, .unset, .unset, .unset, .unset] [])) t → Steps p.tables e below (s₁.setTop (entryFrame m #[(.int p1), (.int p2), (.int p3), (.int p4), (.int p5), (.int p6)] maxLocals)) t := by
    intro t k
    refine P0 t ?_
    show Steps p.tables e below (s₁.setTop (mkF m 0 #[.val (.int p1), .val (.int p2), .val (.int p3), .val (.int p4), .val (.int p5), .val (.int p6), .unset, .unset, .unset, .unset, .unset, .unset, .unset, .unset, .unset, .unset, .unset] [])) _
    refine XS.iconst X0.here hx rfl (hb hby at_0) ?_
    show Steps p.tables e below (s₁.setTop (mkF m 1 #[.val (.int p1), .val (.int p2), .val (.int p3), .val (.int p4), .val (.int p5), .val (.int p6), .unset, .unset, .unset, .unset, .unset, .unset, .unset, .unset, .unset, .unset, .unset] [(.int (1 : Int32))])) _
    refine XS.iloadN X0.here hx rfl (hb hby at_1) rfl ?_
    show Steps p.tables e below (s₁.setTop (mkF m 2 #[.val (.int p1), .val (.int p2), .val (.int p3), .val (.int p4), .val (.int p5), .val (.int p6), .unset, .unset, .unset, .unset, .unset, .unset, .unset, .unset, .unset, .unset, .unset] [(.int p1), (.int (1 : Int32))])) _
    refine XS.bipush X0.here hx rfl (hb hby at_2) ?_
    show Steps p.tables e below (s₁.setTop (mkF m 4 #[.val (.int p1), .val (.int p2), .val (.int p3), .val (.int p4), .val (.int p5), .val (.int p6), .unset, .unset, .unset, .unset, .unset, .unset, .unset, .unset, .unset, .unset, .unset] [(.int (15 : Int32)), (.int p1), (.int (1 : Int32))])) _
    refine XS.iand X0.here hx rfl (hb hby at_4) rfl ?_
    show Steps p.tables e below (s₁.setTop (mkF m 5 #[.val (.int p1), .val (.int p2), .val (.int p3), .val (.int p4), .val (.int p5), .val (.int p6), .unset, .unset, .unset, .unset, .unset, .unset, .unset, .unset, .unset, .unset, .unset] [(.int (p1 &&& (15 : Int32))), (.int (1 : Int32))])) _
    refine XS.iadd X0.here hx rfl (hb hby at_5) rfl ?_
    show Steps p.tables e below (s₁.setTop (mkF m 6 #[.val (.int p1), .val (.int p2), .val (.int p3), .val (.int p4), .val (.int p5), .val (.int p6), .unset, .unset, .unset, .unset, .unset, .unset, .unset, .unset, .unset, .unset, .unset] [(.int ((1 : Int32) + (p1 &&& (15 : Int32))))])) _
    refine XS.istore X0.here hx rfl (hb hby at_6) rfl (l' := #[.val (.int p1), .val (.int p2), .val (.int p3), .val (.int p4), .val (.int p5), .val (.int p6), .val (.int ((1 : Int32) + (p1 &&& (15 : Int32)))), .unset, .unset, .unset, .unset, .unset, .unset, .unset, .unset, .unset, .unset]) rfl ?_
    show Steps p.tables e below (s₁.setTop (mkF m 8 #[.val (.int p1), .val (.int p2), .val (.int p3), .val (.int p4), .val (.int p5), .val (.int p6), .val (.int ((1 : Int32) + (p1 &&& (15 : Int32)))), .unset, .unset, .unset, .unset, .unset, .unset, .unset, .unset, .unset, .unset] [])) _
    rw [hn]
    exact k
  obtain ⟨d1, hd1, hdn1⟩ := hmod p2 n n.toInt32 rfl hn1 (by omega)
  have Pd1 : ∀ t, Steps p.tables e below (s₁.setTop (mkF m 17 #[.val (.int p1), .val (.int p2), .val (.int p3), .val (.int p4), .val (.int p5), .val (.int p6), .val (.int n.toInt32), .val (.int d1.toInt32), .unset, .unset, .unset, .unset, .unset, .unset, .unset, .unset, .unset] [])) t → Steps p.tables e below (s₁.setTop (entryFrame m #[(.int p1), (.int p2), (.int p3), (.int p4), (.int p5), (.int p6)] maxLocals)) t := by
    intro t k
    refine Pn t ?_
    show Steps p.tables e below (s₁.setTop (mkF m 8 #[.val (.int p1), .val (.int p2), .val (.int p3), .val (.int p4), .val (.int p5), .val (.int p6), .val (.int n.toInt32), .unset, .unset, .unset, .unset, .unset, .unset, .unset, .unset, .unset, .unset] [])) _
    refine XS.iloadN X0.here hx rfl (hb hby at_8) rfl ?_
    show Steps p.tables e below (s₁.setTop (mkF m 9 #[.val (.int p1), .val (.int p2), .val (.int p3), .val (.int p4), .val (.int p5), .val (.int p6), .val (.int n.toInt32), .unset, .unset, .unset, .unset, .unset, .unset, .unset, .unset, .unset, .unset] [(.int p2)])) _
    refine Jvm.Stand.ldcI X0 hx hown (mvT hZ (hw _ (List.mem_of_getElem? (i := 0) rfl))) rfl (hb hby at_9) ?_
    show Steps p.tables e below (s₁.setTop (mkF m 11 #[.val (.int p1), .val (.int p2), .val (.int p3), .val (.int p4), .val (.int p5), .val (.int p6), .val (.int n.toInt32), .unset, .unset, .unset, .unset, .unset, .unset, .unset, .unset, .unset, .unset] [(.int (2147483647 : Int32)), (.int p2)])) _
    refine XS.iand X0.here hx rfl (hb hby at_11) rfl ?_
    show Steps p.tables e below (s₁.setTop (mkF m 12 #[.val (.int p1), .val (.int p2), .val (.int p3), .val (.int p4), .val (.int p5), .val (.int p6), .val (.int n.toInt32), .unset, .unset, .unset, .unset, .unset, .unset, .unset, .unset, .unset, .unset] [(.int (p2 &&& (2147483647 : Int32)))])) _
    refine XS.iload X0.here hx rfl (hb hby at_12) rfl ?_
    show Steps p.tables e below (s₁.setTop (mkF m 14 #[.val (.int p1), .val (.int p2), .val (.int p3), .val (.int p4), .val (.int p5), .val (.int p6), .val (.int n.toInt32), .unset, .unset, .unset, .unset, .unset, .unset, .unset, .unset, .unset, .unset] [(.int n.toInt32), (.int (p2 &&& (2147483647 : Int32)))])) _
    refine iremM X0 hx rfl (hb hby at_14) rfl hnz ?_
    show Steps p.tables e below (s₁.setTop (mkF m 15 #[.val (.int p1), .val (.int p2), .val (.int p3), .val (.int p4), .val (.int p5), .val (.int p6), .val (.int n.toInt32), .unset, .unset, .unset, .unset, .unset, .unset, .unset, .unset, .unset, .unset] [(.int ((p2 &&& (2147483647 : Int32)) % n.toInt32))])) _
    refine XS.istore X0.here hx rfl (hb hby at_15) rfl (l' := #[.val (.int p1), .val (.int p2), .val (.int p3), .val (.int p4), .val (.int p5), .val (.int p6), .val (.int n.toInt32), .val (.int ((p2 &&& (2147483647 : Int32)) % n.toInt32)), .unset, .unset, .unset, .unset, .unset, .unset, .unset, .unset, .unset]) rfl ?_
    show Steps p.tables e below (s₁.setTop (mkF m 17 #[.val (.int p1), .val (.int p2), .val (.int p3), .val (.int p4), .val (.int p5), .val (.int p6), .val (.int n.toInt32), .val (.int ((p2 &&& (2147483647 : Int32)) % n.toInt32)), .unset, .unset, .unset, .unset, .unset, .unset, .unset, .unset, .unset] [])) _
    rw [hd1]
    exact k
  obtain ⟨d2, hd2, hdn2⟩ := hmod p3 n n.toInt32 rfl hn1 (by omega)
  have Pd2 : ∀ t, Steps p.tables e below (s₁.setTop (mkF m 26 #[.val (.int p1), .val (.int p2), .val (.int p3), .val (.int p4), .val (.int p5), .val (.int p6), .val (.int n.toInt32), .val (.int d1.toInt32), .val (.int d2.toInt32), .unset, .unset, .unset, .unset, .unset, .unset, .unset, .unset] [])) t → Steps p.tables e below (s₁.setTop (entryFrame m #[(.int p1), (.int p2), (.int p3), (.int p4), (.int p5), (.int p6)] maxLocals)) t := by
    intro t k
    refine Pd1 t ?_
    show Steps p.tables e below (s₁.setTop (mkF m 17 #[.val (.int p1), .val (.int p2), .val (.int p3), .val (.int p4), .val (.int p5), .val (.int p6), .val (.int n.toInt32), .val (.int d1.toInt32), .unset, .unset, .unset, .unset, .unset, .unset, .unset, .unset, .unset] [])) _
    refine XS.iloadN X0.here hx rfl (hb hby at_17) rfl ?_
    show Steps p.tables e below (s₁.setTop (mkF m 18 #[.val (.int p1), .val (.int p2), .val (.int p3), .val (.int p4), .val (.int p5), .val (.int p6), .val (.int n.toInt32), .val (.int d1.toInt32), .unset, .unset, .unset, .unset, .unset, .unset, .unset, .unset, .unset] [(.int p3)])) _
    refine Jvm.Stand.ldcI X0 hx hown (mvT hZ (hw _ (List.mem_of_getElem? (i := 0) rfl))) rfl (hb hby at_18) ?_
    show Steps p.tables e below (s₁.setTop (mkF m 20 #[.val (.int p1), .val (.int p2), .val (.int p3), .val (.int p4), .val (.int p5), .val (.int p6), .val (.int n.toInt32), .val (.int d1.toInt32), .unset, .unset, .unset, .unset, .unset, .unset, .unset, .unset, .unset] [(.int (2147483647 : Int32)), (.int p3)])) _
    refine XS.iand X0.here hx rfl (hb hby at_20) rfl ?_
    show Steps p.tables e below (s₁.setTop (mkF m 21 #[.val (.int p1), .val (.int p2), .val (.int p3), .val (.int p4), .val (.int p5), .val (.int p6), .val (.int n.toInt32), .val (.int d1.toInt32), .unset, .unset, .unset, .unset, .unset, .unset, .unset, .unset, .unset] [(.int (p3 &&& (2147483647 : Int32)))])) _
    refine XS.iload X0.here hx rfl (hb hby at_21) rfl ?_
    show Steps p.tables e below (s₁.setTop (mkF m 23 #[.val (.int p1), .val (.int p2), .val (.int p3), .val (.int p4), .val (.int p5), .val (.int p6), .val (.int n.toInt32), .val (.int d1.toInt32), .unset, .unset, .unset, .unset, .unset, .unset, .unset, .unset, .unset] [(.int n.toInt32), (.int (p3 &&& (2147483647 : Int32)))])) _
    refine iremM X0 hx rfl (hb hby at_23) rfl hnz ?_
    show Steps p.tables e below (s₁.setTop (mkF m 24 #[.val (.int p1), .val (.int p2), .val (.int p3), .val (.int p4), .val (.int p5), .val (.int p6), .val (.int n.toInt32), .val (.int d1.toInt32), .unset, .unset, .unset, .unset, .unset, .unset, .unset, .unset, .unset] [(.int ((p3 &&& (2147483647 : Int32)) % n.toInt32))])) _
    refine XS.istore X0.here hx rfl (hb hby at_24) rfl (l' := #[.val (.int p1), .val (.int p2), .val (.int p3), .val (.int p4), .val (.int p5), .val (.int p6), .val (.int n.toInt32), .val (.int d1.toInt32), .val (.int ((p3 &&& (2147483647 : Int32)) % n.toInt32)), .unset, .unset, .unset, .unset, .unset, .unset, .unset, .unset]) rfl ?_
    show Steps p.tables e below (s₁.setTop (mkF m 26 #[.val (.int p1), .val (.int p2), .val (.int p3), .val (.int p4), .val (.int p5), .val (.int p6), .val (.int n.toInt32), .val (.int d1.toInt32), .val (.int ((p3 &&& (2147483647 : Int32)) % n.toInt32)), .unset, .unset, .unset, .unset, .unset, .unset, .unset, .unset] [])) _
    rw [hd2]
    exact k
  obtain ⟨d3, hd3, hdn3⟩ := hmod p4 n n.toInt32 rfl hn1 (by omega)
  have Pd3 : ∀ t, Steps p.tables e below (s₁.setTop (mkF m 35 #[.val (.int p1), .val (.int p2), .val (.int p3), .val (.int p4), .val (.int p5), .val (.int p6), .val (.int n.toInt32), .val (.int d1.toInt32), .val (.int d2.toInt32), .val (.int d3.toInt32), .unset, .unset, .unset, .unset, .unset, .unset, .unset] [])) t → Steps p.tables e below (s₁.setTop (entryFrame m #[(.int p1), (.int p2), (.int p3), (.int p4), (.int p5), (.int p6)] maxLocals)) t := by
    intro t k
    refine Pd2 t ?_
    show Steps p.tables e below (s₁.setTop (mkF m 26 #[.val (.int p1), .val (.int p2), .val (.int p3), .val (.int p4), .val (.int p5), .val (.int p6), .val (.int n.toInt32), .val (.int d1.toInt32), .val (.int d2.toInt32), .unset, .unset, .unset, .unset, .unset, .unset, .unset, .unset] [])) _
    refine XS.iloadN X0.here hx rfl (hb hby at_26) rfl ?_
    show Steps p.tables e below (s₁.setTop (mkF m 27 #[.val (.int p1), .val (.int p2), .val (.int p3), .val (.int p4), .val (.int p5), .val (.int p6), .val (.int n.toInt32), .val (.int d1.toInt32), .val (.int d2.toInt32), .unset, .unset, .unset, .unset, .unset, .unset, .unset, .unset] [(.int p4)])) _
    refine Jvm.Stand.ldcI X0 hx hown (mvT hZ (hw _ (List.mem_of_getElem? (i := 0) rfl))) rfl (hb hby at_27) ?_
    show Steps p.tables e below (s₁.setTop (mkF m 29 #[.val (.int p1), .val (.int p2), .val (.int p3), .val (.int p4), .val (.int p5), .val (.int p6), .val (.int n.toInt32), .val (.int d1.toInt32), .val (.int d2.toInt32), .unset, .unset, .unset, .unset, .unset, .unset, .unset, .unset] [(.int (2147483647 : Int32)), (.int p4)])) _
    refine XS.iand X0.here hx rfl (hb hby at_29) rfl ?_
    show Steps p.tables e below (s₁.setTop (mkF m 30 #[.val (.int p1), .val (.int p2), .val (.int p3), .val (.int p4), .val (.int p5), .val (.int p6), .val (.int n.toInt32), .val (.int d1.toInt32), .val (.int d2.toInt32), .unset, .unset, .unset, .unset, .unset, .unset, .unset, .unset] [(.int (p4 &&& (2147483647 : Int32)))])) _
    refine XS.iload X0.here hx rfl (hb hby at_30) rfl ?_
    show Steps p.tables e below (s₁.setTop (mkF m 32 #[.val (.int p1), .val (.int p2), .val (.int p3), .val (.int p4), .val (.int p5), .val (.int p6), .val (.int n.toInt32), .val (.int d1.toInt32), .val (.int d2.toInt32), .unset, .unset, .unset, .unset, .unset, .unset, .unset, .unset] [(.int n.toInt32), (.int (p4 &&& (2147483647 : Int32)))])) _
    refine iremM X0 hx rfl (hb hby at_32) rfl hnz ?_
    show Steps p.tables e below (s₁.setTop (mkF m 33 #[.val (.int p1), .val (.int p2), .val (.int p3), .val (.int p4), .val (.int p5), .val (.int p6), .val (.int n.toInt32), .val (.int d1.toInt32), .val (.int d2.toInt32), .unset, .unset, .unset, .unset, .unset, .unset, .unset, .unset] [(.int ((p4 &&& (2147483647 : Int32)) % n.toInt32))])) _
    refine XS.istore X0.here hx rfl (hb hby at_33) rfl (l' := #[.val (.int p1), .val (.int p2), .val (.int p3), .val (.int p4), .val (.int p5), .val (.int p6), .val (.int n.toInt32), .val (.int d1.toInt32), .val (.int d2.toInt32), .val (.int ((p4 &&& (2147483647 : Int32)) % n.toInt32)), .unset, .unset, .unset, .unset, .unset, .unset, .unset]) rfl ?_
    show Steps p.tables e below (s₁.setTop (mkF m 35 #[.val (.int p1), .val (.int p2), .val (.int p3), .val (.int p4), .val (.int p5), .val (.int p6), .val (.int n.toInt32), .val (.int d1.toInt32), .val (.int d2.toInt32), .val (.int ((p4 &&& (2147483647 : Int32)) % n.toInt32)), .unset, .unset, .unset, .unset, .unset, .unset, .unset] [])) _
    rw [hd3]
    exact k
  have hi1 : n.toInt32 + (1 : Int32) = (n + 1).toInt32 := own_inc (by omega)
  have hnz1 : n.toInt32 + (1 : Int32) ≠ 0 := by rw [hi1]; intro q; have := (own_is (b := 0) (by omega) (by omega)).mp q; omega
  obtain ⟨bl, hbl, hbln⟩ := hmod p5 (n + 1) (n.toInt32 + (1 : Int32)) hi1 (by omega) (by omega)
  have Pbl : ∀ t, Steps p.tables e below (s₁.setTop (mkF m 47 #[.val (.int p1), .val (.int p2), .val (.int p3), .val (.int p4), .val (.int p5), .val (.int p6), .val (.int n.toInt32), .val (.int d1.toInt32), .val (.int d2.toInt32), .val (.int d3.toInt32), .val (.int bl.toInt32), .unset, .unset, .unset, .unset, .unset, .unset] [])) t → Steps p.tables e below (s₁.setTop (entryFrame m #[(.int p1), (.int p2), (.int p3), (.int p4), (.int p5), (.int p6)] maxLocals)) t := by
    intro t k
    refine Pd3 t ?_
    show Steps p.tables e below (s₁.setTop (mkF m 35 #[.val (.int p1), .val (.int p2), .val (.int p3), .val (.int p4), .val (.int p5), .val (.int p6), .val (.int n.toInt32), .val (.int d1.toInt32), .val (.int d2.toInt32), .val (.int d3.toInt32), .unset, .unset, .unset, .unset, .unset, .unset, .unset] [])) _
    refine XS.iload X0.here hx rfl (hb hby at_35) rfl ?_
    show Steps p.tables e below (s₁.setTop (mkF m 37 #[.val (.int p1), .val (.int p2), .val (.int p3), .val (.int p4), .val (.int p5), .val (.int p6), .val (.int n.toInt32), .val (.int d1.toInt32), .val (.int d2.toInt32), .val (.int d3.toInt32), .unset, .unset, .unset, .unset, .unset, .unset, .unset] [(.int p5)])) _
    refine Jvm.Stand.ldcI X0 hx hown (mvT hZ (hw _ (List.mem_of_getElem? (i := 0) rfl))) rfl (hb hby at_37) ?_
    show Steps p.tables e below (s₁.setTop (mkF m 39 #[.val (.int p1), .val (.int p2), .val (.int p3), .val (.int p4), .val (.int p5), .val (.int p6), .val (.int n.toInt32), .val (.int d1.toInt32), .val (.int d2.toInt32), .val (.int d3.toInt32), .unset, .unset, .unset, .unset, .unset, .unset, .unset] [(.int (2147483647 : Int32)), (.int p5)])) _
    refine XS.iand X0.here hx rfl (hb hby at_39) rfl ?_
    show Steps p.tables e below (s₁.setTop (mkF m 40 #[.val (.int p1), .val (.int p2), .val (.int p3), .val (.int p4), .val (.int p5), .val (.int p6), .val (.int n.toInt32), .val (.int d1.toInt32), .val (.int d2.toInt32), .val (.int d3.toInt32), .unset, .unset, .unset, .unset, .unset, .unset, .unset] [(.int (p5 &&& (2147483647 : Int32)))])) _
    refine XS.iload X0.here hx rfl (hb hby at_40) rfl ?_
    show Steps p.tables e below (s₁.setTop (mkF m 42 #[.val (.int p1), .val (.int p2), .val (.int p3), .val (.int p4), .val (.int p5), .val (.int p6), .val (.int n.toInt32), .val (.int d1.toInt32), .val (.int d2.toInt32), .val (.int d3.toInt32), .unset, .unset, .unset, .unset, .unset, .unset, .unset] [(.int n.toInt32), (.int (p5 &&& (2147483647 : Int32)))])) _
    refine XS.iconst X0.here hx rfl (hb hby at_42) ?_
    show Steps p.tables e below (s₁.setTop (mkF m 43 #[.val (.int p1), .val (.int p2), .val (.int p3), .val (.int p4), .val (.int p5), .val (.int p6), .val (.int n.toInt32), .val (.int d1.toInt32), .val (.int d2.toInt32), .val (.int d3.toInt32), .unset, .unset, .unset, .unset, .unset, .unset, .unset] [(.int (1 : Int32)), (.int n.toInt32), (.int (p5 &&& (2147483647 : Int32)))])) _
    refine XS.iadd X0.here hx rfl (hb hby at_43) rfl ?_
    show Steps p.tables e below (s₁.setTop (mkF m 44 #[.val (.int p1), .val (.int p2), .val (.int p3), .val (.int p4), .val (.int p5), .val (.int p6), .val (.int n.toInt32), .val (.int d1.toInt32), .val (.int d2.toInt32), .val (.int d3.toInt32), .unset, .unset, .unset, .unset, .unset, .unset, .unset] [(.int (n.toInt32 + (1 : Int32))), (.int (p5 &&& (2147483647 : Int32)))])) _
    refine iremM X0 hx rfl (hb hby at_44) rfl hnz1 ?_
    show Steps p.tables e below (s₁.setTop (mkF m 45 #[.val (.int p1), .val (.int p2), .val (.int p3), .val (.int p4), .val (.int p5), .val (.int p6), .val (.int n.toInt32), .val (.int d1.toInt32), .val (.int d2.toInt32), .val (.int d3.toInt32), .unset, .unset, .unset, .unset, .unset, .unset, .unset] [(.int ((p5 &&& (2147483647 : Int32)) % (n.toInt32 + (1 : Int32))))])) _
    refine XS.istore X0.here hx rfl (hb hby at_45) rfl (l' := #[.val (.int p1), .val (.int p2), .val (.int p3), .val (.int p4), .val (.int p5), .val (.int p6), .val (.int n.toInt32), .val (.int d1.toInt32), .val (.int d2.toInt32), .val (.int d3.toInt32), .val (.int ((p5 &&& (2147483647 : Int32)) % (n.toInt32 + (1 : Int32)))), .unset, .unset, .unset, .unset, .unset, .unset]) rfl ?_
    show Steps p.tables e below (s₁.setTop (mkF m 47 #[.val (.int p1), .val (.int p2), .val (.int p3), .val (.int p4), .val (.int p5), .val (.int p6), .val (.int n.toInt32), .val (.int d1.toInt32), .val (.int d2.toInt32), .val (.int d3.toInt32), .val (.int ((p5 &&& (2147483647 : Int32)) % (n.toInt32 + (1 : Int32)))), .unset, .unset, .unset, .unset, .unset, .unset] [])) _
    rw [hbl]
    exact k
  obtain ⟨sv, hsv, hs0⟩ : ∃ sv : Int64, ((p6 &&& (3 : Int32)).toInt64) = sv ∧ 0 ≤ sv.toInt := by
    have m1 : (p6 &&& (3 : Int32)).toInt = p6.toInt % 4 := c_mask p6 3 2 (by decide) (by decide)
    exact ⟨_, rfl, by rw [c_i2l]; omega⟩
  have Psv : ∀ t, Steps p.tables e below (s₁.setTop (mkF m 54 #[.val (.int p1), .val (.int p2), .val (.int p3), .val (.int p4), .val (.int p5), .val (.int p6), .val (.int n.toInt32), .val (.int d1.toInt32), .val (.int d2.toInt32), .val (.int d3.toInt32), .val (.int bl.toInt32), .val (.long sv), .second, .unset, .unset, .unset, .unset] [])) t → Steps p.tables e below (s₁.setTop (entryFrame m #[(.int p1), (.int p2), (.int p3), (.int p4), (.int p5), (.int p6)] maxLocals)) t := by
    intro t k
    refine Pbl t ?_
    show Steps p.tables e below (s₁.setTop (mkF m 47 #[.val (.int p1), .val (.int p2), .val (.int p3), .val (.int p4), .val (.int p5), .val (.int p6), .val (.int n.toInt32), .val (.int d1.toInt32), .val (.int d2.toInt32), .val (.int d3.toInt32), .val (.int bl.toInt32), .unset, .unset, .unset, .unset, .unset, .unset] [])) _
    refine XS.iload X0.here hx rfl (hb hby at_47) rfl ?_
    show Steps p.tables e below (s₁.setTop (mkF m 49 #[.val (.int p1), .val (.int p2), .val (.int p3), .val (.int p4), .val (.int p5), .val (.int p6), .val (.int n.toInt32), .val (.int d1.toInt32), .val (.int d2.toInt32), .val (.int d3.toInt32), .val (.int bl.toInt32), .unset, .unset, .unset, .unset, .unset, .unset] [(.int p6)])) _
    refine XS.iconst X0.here hx rfl (hb hby at_49) ?_
    show Steps p.tables e below (s₁.setTop (mkF m 50 #[.val (.int p1), .val (.int p2), .val (.int p3), .val (.int p4), .val (.int p5), .val (.int p6), .val (.int n.toInt32), .val (.int d1.toInt32), .val (.int d2.toInt32), .val (.int d3.toInt32), .val (.int bl.toInt32), .unset, .unset, .unset, .unset, .unset, .unset] [(.int (3 : Int32)), (.int p6)])) _
    refine XS.iand X0.here hx rfl (hb hby at_50) rfl ?_
    show Steps p.tables e below (s₁.setTop (mkF m 51 #[.val (.int p1), .val (.int p2), .val (.int p3), .val (.int p4), .val (.int p5), .val (.int p6), .val (.int n.toInt32), .val (.int d1.toInt32), .val (.int d2.toInt32), .val (.int d3.toInt32), .val (.int bl.toInt32), .unset, .unset, .unset, .unset, .unset, .unset] [(.int (p6 &&& (3 : Int32)))])) _
    refine XS.i2l X0.here hx rfl (hb hby at_51) rfl ?_
    show Steps p.tables e below (s₁.setTop (mkF m 52 #[.val (.int p1), .val (.int p2), .val (.int p3), .val (.int p4), .val (.int p5), .val (.int p6), .val (.int n.toInt32), .val (.int d1.toInt32), .val (.int d2.toInt32), .val (.int d3.toInt32), .val (.int bl.toInt32), .unset, .unset, .unset, .unset, .unset, .unset] [(.long ((p6 &&& (3 : Int32)).toInt64))])) _
    refine XS.lstore X0.here hx rfl (hb hby at_52) rfl (l' := #[.val (.int p1), .val (.int p2), .val (.int p3), .val (.int p4), .val (.int p5), .val (.int p6), .val (.int n.toInt32), .val (.int d1.toInt32), .val (.int d2.toInt32), .val (.int d3.toInt32), .val (.int bl.toInt32), .val (.long ((p6 &&& (3 : Int32)).toInt64)), .second, .unset, .unset, .unset, .unset]) rfl ?_
    show Steps p.tables e below (s₁.setTop (mkF m 54 #[.val (.int p1), .val (.int p2), .val (.int p3), .val (.int p4), .val (.int p5), .val (.int p6), .val (.int n.toInt32), .val (.int d1.toInt32), .val (.int d2.toInt32), .val (.int d3.toInt32), .val (.int bl.toInt32), .val (.long ((p6 &&& (3 : Int32)).toInt64)), .second, .unset, .unset, .unset, .unset] [])) _
    rw [hsv]
    exact k
  obtain ⟨T1, h1, X1, e1, E1, A1, D1, -, st1⟩ := newO X0 hx hZ hown (hw _ (List.mem_of_getElem? (i := 1) rfl)) (hw _ (List.mem_of_getElem? (i := 2) rfl)) (hw _ (List.mem_of_getElem? (i := 3) rfl)) e0 (g := (mkF m 54 #[.val (.int p1), .val (.int p2), .val (.int p3), .val (.int p4), .val (.int p5), .val (.int p6), .val (.int n.toInt32), .val (.int d1.toInt32), .val (.int d2.toInt32), .val (.int d3.toInt32), .val (.int bl.toInt32), .val (.long sv), .second, .unset, .unset, .unset, .unset] [])) rfl (hb hby at_54) (by decide) (by decide)
  obtain ⟨o, g1⟩ : ∃ z, z = h0.size := ⟨_, rfl⟩
  rw [← g1] at A1 D1 st1
  have F11 : Fld Z h1 o "com/example/mutableau/mutableau/formula/BindingReferences" "leaves" "I" (.int (0 : Int32)) := D1 (Or.inr (hw _ (List.mem_of_getElem? (i := 24) rfl))) (ty := .int) (by decide)
  have F21 : Fld Z h1 o "com/example/mutableau/mutableau/formula/BindingReferences" "latest" "[J" .null := D1 (Or.inr (hw _ (List.mem_of_getElem? (i := 27) rfl))) (ty := .array .long) (by decide)
  have P1 : ∀ t, Steps p.tables e below (T1.setTop (mkF m 57 #[.val (.int p1), .val (.int p2), .val (.int p3), .val (.int p4), .val (.int p5), .val (.int p6), .val (.int n.toInt32), .val (.int d1.toInt32), .val (.int d2.toInt32), .val (.int d3.toInt32), .val (.int bl.toInt32), .val (.long sv), .second, .unset, .unset, .unset, .unset] [(.ref o)])) t → Steps p.tables e below (s₁.setTop (entryFrame m #[(.int p1), (.int p2), (.int p3), (.int p4), (.int p5), (.int p6)] maxLocals)) t := by
    intro t k
    refine Psv t ?_
    refine st1 _ ?_
    exact k
  have go : n0 ≤ o := Nat.le_trans Z0 (Nat.le_of_eq g1.symm)
  have Z1 : n0 ≤ h1.size := Nat.le_trans Z0 E1.1
  obtain ⟨_, _, ⟨T2, L2, k2, n2⟩, -, X2, ⟨Lc2, hQ2, l2, y2, z2⟩, st2⟩ := X1.specialBack hx (y := (⟨"com/example/mutableau/mutableau/formula/BindingReferences", "<init>", "(I)V"⟩ : MethodName)) rfl hown (mvT hZ (hw _ (List.mem_of_getElem? (i := 4) rfl))) (mvT hZ (hw _ (List.mem_of_getElem? (i := 5) rfl))) (mvT hZ (hw _ (List.mem_of_getElem? (i := 6) rfl))) (by decide) (backOf (W := 1) (rm_ct l Z a0 hw [] o n.toInt32 h1 n0 q lv1 (by omega) lv5 lv6 Z1 F11 F21 A1 go) hZ (hw _ (List.mem_of_getElem? (i := 6) rfl)) (hw _ (List.mem_of_getElem? (i := 3) rfl)) (by decide) (by decide)) (g := (mkF m 60 #[.val (.int p1), .val (.int p2), .val (.int p3), .val (.int p4), .val (.int p5), .val (.int p6), .val (.int n.toInt32), .val (.int d1.toInt32), .val (.int d2.toInt32), .val (.int d3.toInt32), .val (.int bl.toInt32), .val (.long sv), .second, .unset, .unset, .unset, .unset] [(.int n.toInt32), (.ref o), (.ref o)])) rfl (by rw [hml]; rfl) (Steps.refl _) (a := o) (argsL := [(.int n.toInt32)]) (rest := [(.ref o)]) (lenOf pd_ct rfl) rfl (by show 2 * 0 + _ ≤ _; exact Nat.le_of_eq rfl) (hb hby at_60) (fun _ _ => ⟨rfl, e1, (by decide : 1 + 1 ≤ _), (by decide : 2 + 32 ≤ _)⟩)
  dsimp only [Pt.U, Pt.locs, Pt.cells, Pt.slots] at X2 l2 y2 z2 st2 hQ2
  subst l2 y2 z2
  obtain ⟨rfl, N2q, K2, E2, F12, b, hb2, F22, A2⟩ := hQ2
  have N2 := Fr.app N0 N2q
  have P2 : ∀ t, Steps p.tables e below (T2.setTop (mkF m 63 #[.val (.int p1), .val (.int p2), .val (.int p3), .val (.int p4), .val (.int p5), .val (.int p6), .val (.int n.toInt32), .val (.int d1.toInt32), .val (.int d2.toInt32), .val (.int d3.toInt32), .val (.int bl.toInt32), .val (.long sv), .second, .unset, .unset, .unset, .unset] [(.ref o)])) t → Steps p.tables e below (s₁.setTop (entryFrame m #[(.int p1), (.int p2), (.int p3), (.int p4), (.int p5), (.int p6)] maxLocals)) t := by
    intro t k
    refine P1 t ?_
    show Steps p.tables e below (T1.setTop (mkF m 57 #[.val (.int p1), .val (.int p2), .val (.int p3), .val (.int p4), .val (.int p5), .val (.int p6), .val (.int n.toInt32), .val (.int d1.toInt32), .val (.int d2.toInt32), .val (.int d3.toInt32), .val (.int bl.toInt32), .val (.long sv), .second, .unset, .unset, .unset, .unset] [(.ref o)])) _
    refine XS.dup X1.here hx rfl (hb hby at_57) rfl rfl ?_
    show Steps p.tables e below (T1.setTop (mkF m 58 #[.val (.int p1), .val (.int p2), .val (.int p3), .val (.int p4), .val (.int p5), .val (.int p6), .val (.int n.toInt32), .val (.int d1.toInt32), .val (.int d2.toInt32), .val (.int d3.toInt32), .val (.int bl.toInt32), .val (.long sv), .second, .unset, .unset, .unset, .unset] [(.ref o), (.ref o)])) _
    refine XS.iload X1.here hx rfl (hb hby at_58) rfl ?_
    show Steps p.tables e below (T1.setTop (mkF m 60 #[.val (.int p1), .val (.int p2), .val (.int p3), .val (.int p4), .val (.int p5), .val (.int p6), .val (.int n.toInt32), .val (.int d1.toInt32), .val (.int d2.toInt32), .val (.int d3.toInt32), .val (.int bl.toInt32), .val (.long sv), .second, .unset, .unset, .unset, .unset] [(.int n.toInt32), (.ref o), (.ref o)])) _
    refine st2.trans ?_
    exact k
  have gb : n0 ≤ b := Nat.le_trans Z1 hb2
  have hob : o ≠ b := Nat.ne_of_lt (Nat.lt_of_lt_of_le A1.lt hb2)
  have t0 : own_tree q (fun _ => 0) := fun i _ _ s => ⟨Or.inl, fun h => h.elim id id⟩
  have v0 : ((fun _ => 0 : Nat → Int64) 1).toInt = (0 : Nat) := rfl
  obtain ⟨cql0, kql0, ql0a, ql0b, ql0c⟩ := isOf hZ rfl E2
  obtain ⟨_, _, ⟨Tl0, Ll0, kl0, nl0⟩, -, Xl0, ⟨Lcl0, hQl0, ll0, yl0, zl0⟩, stl0⟩ := X2.virtualBack hx (y := (⟨"com/example/mutableau/mutableau/formula/BindingReferences", "latest", "()J"⟩ : MethodName)) (z := (⟨"com/example/mutableau/mutableau/formula/BindingReferences", "latest", "()J"⟩ : MethodName)) hown (mvT hZ (hw _ (List.mem_of_getElem? (i := 28) rfl))) (mvT hZ (hw _ (List.mem_of_getElem? (i := 29) rfl))) (notFace_of_selects (args := #[]) (mvT hZ (hw _ (List.mem_of_getElem? (i := 31) rfl)))) (mvT hZ (hw _ (List.mem_of_getElem? (i := 31) rfl))) (mvT hZ (hw _ (List.mem_of_getElem? (i := 30) rfl))) (by decide) (backOf (W := 0) (rm_la l Z a0 hw [] o T2.heap n0 b q (by omega) (by omega) (fun _ => 0) F22 A2) hZ (hw _ (List.mem_of_getElem? (i := 32) rfl)) (hw _ (List.mem_of_getElem? (i := 3) rfl)) (by decide) (by decide)) ql0a ql0c (g := (mkF m 67 #[.val (.int p1), .val (.int p2), .val (.int p3), .val (.int p4), .val (.int p5), .val (.int p6), .val (.int n.toInt32), .val (.int d1.toInt32), .val (.int d2.toInt32), .val (.int d3.toInt32), .val (.int bl.toInt32), .val (.long sv), .second, .val (.ref o), .unset, .unset, .unset] [(.ref o)])) rfl (by rw [hml]; rfl) (Steps.refl _) (argsL := []) (rest := []) (lenOf pd_la rfl) rfl (by show 2 * 0 + _ ≤ _; exact Nat.le_of_eq rfl) (hb hby at_67) (fun _ _ => ⟨rfl, rfl, (by decide : 2 + 0 ≤ _), (by decide : 34 + 0 ≤ _)⟩)
  dsimp only [Pt.U, Pt.locs, Pt.cells, Pt.slots] at Xl0 ll0 yl0 zl0 stl0 hQl0
  subst ll0 yl0 zl0
  obtain ⟨rfl, Nl0q, el0⟩ := hQl0
  have Nl0 := Fr.app N2 Nl0q
  have Pl0 : ∀ t, Steps p.tables e below (Tl0.setTop (mkF m 70 #[.val (.int p1), .val (.int p2), .val (.int p3), .val (.int p4), .val (.int p5), .val (.int p6), .val (.int n.toInt32), .val (.int d1.toInt32), .val (.int d2.toInt32), .val (.int d3.toInt32), .val (.int bl.toInt32), .val (.long sv), .second, .val (.ref o), .unset, .unset, .unset] [(.long ((fun _ => 0) 1))])) t → Steps p.tables e below (s₁.setTop (entryFrame m #[(.int p1), (.int p2), (.int p3), (.int p4), (.int p5), (.int p6)] maxLocals)) t := by
    intro t k
    refine P2 t ?_
    show Steps p.tables e below (T2.setTop (mkF m 63 #[.val (.int p1), .val (.int p2), .val (.int p3), .val (.int p4), .val (.int p5), .val (.int p6), .val (.int n.toInt32), .val (.int d1.toInt32), .val (.int d2.toInt32), .val (.int d3.toInt32), .val (.int bl.toInt32), .val (.long sv), .second, .unset, .unset, .unset, .unset] [(.ref o)])) _
    refine XS.astore X2.here hx rfl (hb hby at_63) rfl rfl (l' := #[.val (.int p1), .val (.int p2), .val (.int p3), .val (.int p4), .val (.int p5), .val (.int p6), .val (.int n.toInt32), .val (.int d1.toInt32), .val (.int d2.toInt32), .val (.int d3.toInt32), .val (.int bl.toInt32), .val (.long sv), .second, .val (.ref o), .unset, .unset, .unset]) rfl ?_
    show Steps p.tables e below (T2.setTop (mkF m 65 #[.val (.int p1), .val (.int p2), .val (.int p3), .val (.int p4), .val (.int p5), .val (.int p6), .val (.int n.toInt32), .val (.int d1.toInt32), .val (.int d2.toInt32), .val (.int d3.toInt32), .val (.int bl.toInt32), .val (.long sv), .second, .val (.ref o), .unset, .unset, .unset] [])) _
    refine XS.aload X2.here hx rfl (hb hby at_65) rfl rfl ?_
    show Steps p.tables e below (T2.setTop (mkF m 67 #[.val (.int p1), .val (.int p2), .val (.int p3), .val (.int p4), .val (.int p5), .val (.int p6), .val (.int n.toInt32), .val (.int d1.toInt32), .val (.int d2.toInt32), .val (.int d3.toInt32), .val (.int bl.toInt32), .val (.long sv), .second, .val (.ref o), .unset, .unset, .unset] [(.ref o)])) _
    refine stl0.trans ?_
    exact k
  have hc72 : (lcmpW ((fun _ => 0) 1) (0 : Int64)) = (0 : Int32) := (lw_eq _ _).mpr (Int64.toInt_inj.mp (Eq.trans v0 (by decide)))
  have Po0 : ∀ t, Steps p.tables e below (Tl0.setTop (mkF m 82 #[.val (.int p1), .val (.int p2), .val (.int p3), .val (.int p4), .val (.int p5), .val (.int p6), .val (.int n.toInt32), .val (.int d1.toInt32), .val (.int d2.toInt32), .val (.int d3.toInt32), .val (.int bl.toInt32), .val (.long sv), .second, .val (.ref o), .val (.int (1 : Int32)), .unset, .unset] [])) t → Steps p.tables e below (s₁.setTop (entryFrame m #[(.int p1), (.int p2), (.int p3), (.int p4), (.int p5), (.int p6)] maxLocals)) t := by
    intro t k
    refine Pl0 t ?_
    show Steps p.tables e below (Tl0.setTop (mkF m 70 #[.val (.int p1), .val (.int p2), .val (.int p3), .val (.int p4), .val (.int p5), .val (.int p6), .val (.int n.toInt32), .val (.int d1.toInt32), .val (.int d2.toInt32), .val (.int d3.toInt32), .val (.int bl.toInt32), .val (.long sv), .second, .val (.ref o), .unset, .unset, .unset] [(.long ((fun _ => 0) 1))])) _
    refine XS.lconst Xl0.here hx rfl (hb hby at_70) ?_
    show Steps p.tables e below (Tl0.setTop (mkF m 71 #[.val (.int p1), .val (.int p2), .val (.int p3), .val (.int p4), .val (.int p5), .val (.int p6), .val (.int n.toInt32), .val (.int d1.toInt32), .val (.int d2.toInt32), .val (.int d3.toInt32), .val (.int bl.toInt32), .val (.long sv), .second, .val (.ref o), .unset, .unset, .unset] [(.long (0 : Int64)), (.long ((fun _ => 0) 1))])) _
    refine XS.lcmp Xl0.here hx rfl (hb hby at_71) rfl ?_
    show Steps p.tables e below (Tl0.setTop (mkF m 72 #[.val (.int p1), .val (.int p2), .val (.int p3), .val (.int p4), .val (.int p5), .val (.int p6), .val (.int n.toInt32), .val (.int d1.toInt32), .val (.int d2.toInt32), .val (.int d3.toInt32), .val (.int bl.toInt32), .val (.long sv), .second, .val (.ref o), .unset, .unset, .unset] [(.int (lcmpW ((fun _ => 0) 1) (0 : Int64)))])) _
    refine XS.ifNo Xl0.here hx rfl (hb hby at_72) rfl ((if0 _ _).trans (teq hc72).2) ?_
    show Steps p.tables e below (Tl0.setTop (mkF m 75 #[.val (.int p1), .val (.int p2), .val (.int p3), .val (.int p4), .val (.int p5), .val (.int p6), .val (.int n.toInt32), .val (.int d1.toInt32), .val (.int d2.toInt32), .val (.int d3.toInt32), .val (.int bl.toInt32), .val (.long sv), .second, .val (.ref o), .unset, .unset, .unset] [])) _
    refine XS.iconst Xl0.here hx rfl (hb hby at_75) ?_
    show Steps p.tables e below (Tl0.setTop (mkF m 76 #[.val (.int p1), .val (.int p2), .val (.int p3), .val (.int p4), .val (.int p5), .val (.int p6), .val (.int n.toInt32), .val (.int d1.toInt32), .val (.int d2.toInt32), .val (.int d3.toInt32), .val (.int bl.toInt32), .val (.long sv), .second, .val (.ref o), .unset, .unset, .unset] [(.int (1 : Int32))])) _
    refine XS.goto Xl0.here hx rfl (pc0 := 76) (pc' := 80) rfl (hb hby at_76) (by decide) (by decide) ?_
    show Steps p.tables e below (Tl0.setTop (mkF m 80 #[.val (.int p1), .val (.int p2), .val (.int p3), .val (.int p4), .val (.int p5), .val (.int p6), .val (.int n.toInt32), .val (.int d1.toInt32), .val (.int d2.toInt32), .val (.int d3.toInt32), .val (.int bl.toInt32), .val (.long sv), .second, .val (.ref o), .unset, .unset, .unset] [(.int (1 : Int32))])) _
    refine XS.istore Xl0.here hx rfl (hb hby at_80) rfl (l' := #[.val (.int p1), .val (.int p2), .val (.int p3), .val (.int p4), .val (.int p5), .val (.int p6), .val (.int n.toInt32), .val (.int d1.toInt32), .val (.int d2.toInt32), .val (.int d3.toInt32), .val (.int bl.toInt32), .val (.long sv), .second, .val (.ref o), .val (.int (1 : Int32)), .unset, .unset]) rfl ?_
    exact k
  obtain ⟨cqr0, kqr0, qr0a, qr0b, qr0c⟩ := isOf hZ el0 E2
  obtain ⟨_, _, ⟨Tr0, Lr0, kr0, nr0⟩, -, Xr0, ⟨Lcr0, hQr0, lr0, yr0, zr0⟩, str0⟩ := Xl0.virtualBack hx (y := (⟨"com/example/mutableau/mutableau/formula/BindingReferences", "refer", "(I)V"⟩ : MethodName)) (z := (⟨"com/example/mutableau/mutableau/formula/BindingReferences", "refer", "(I)V"⟩ : MethodName)) hown (mvT hZ (hw _ (List.mem_of_getElem? (i := 33) rfl))) (mvT hZ (hw _ (List.mem_of_getElem? (i := 34) rfl))) (notFace_of_selects (args := #[]) (mvT hZ (hw _ (List.mem_of_getElem? (i := 36) rfl)))) (mvT hZ (hw _ (List.mem_of_getElem? (i := 36) rfl))) (mvT hZ (hw _ (List.mem_of_getElem? (i := 35) rfl))) (by decide) (backOf (W := 0) (rm_rf l Z a0 hw [] o d1.toInt32 T2.heap n0 d1 rfl b q (by omega) (by omega) (fun _ => 0) F12 F22 A2 hob gb) hZ (hw _ (List.mem_of_getElem? (i := 37) rfl)) (hw _ (List.mem_of_getElem? (i := 3) rfl)) (by decide) (by decide)) qr0a qr0c (g := (mkF m 86 #[.val (.int p1), .val (.int p2), .val (.int p3), .val (.int p4), .val (.int p5), .val (.int p6), .val (.int n.toInt32), .val (.int d1.toInt32), .val (.int d2.toInt32), .val (.int d3.toInt32), .val (.int bl.toInt32), .val (.long sv), .second, .val (.ref o), .val (.int (1 : Int32)), .unset, .unset] [(.int d1.toInt32), (.ref o)])) rfl (by rw [hml]; rfl) (Steps.refl _) (argsL := [(.int d1.toInt32)]) (rest := []) (lenOf pd_ct rfl) rfl (by show 2 * 0 + _ ≤ _; exact Nat.le_of_eq rfl) (hb hby at_86) (fun _ _ => ⟨rfl, el0, (by decide : 2 + 0 ≤ _), (by decide : 34 + 0 ≤ _)⟩)
  dsimp only [Pt.U, Pt.locs, Pt.cells, Pt.slots] at Xr0 lr0 yr0 zr0 str0 hQr0
  subst lr0 yr0 zr0
  obtain ⟨rfl, Nr0q, Kr0, Ar0⟩ := hQr0
  have Nr0 := Fr.app Nl0 Nr0q
  have Pr0 : ∀ t, Steps p.tables e below (Tr0.setTop (mkF m 89 #[.val (.int p1), .val (.int p2), .val (.int p3), .val (.int p4), .val (.int p5), .val (.int p6), .val (.int n.toInt32), .val (.int d1.toInt32), .val (.int d2.toInt32), .val (.int d3.toInt32), .val (.int bl.toInt32), .val (.long sv), .second, .val (.ref o), .val (.int (1 : Int32)), .unset, .unset] [])) t → Steps p.tables e below (s₁.setTop (entryFrame m #[(.int p1), (.int p2), (.int p3), (.int p4), (.int p5), (.int p6)] maxLocals)) t := by
    intro t k
    refine Po0 t ?_
    show Steps p.tables e below (Tl0.setTop (mkF m 82 #[.val (.int p1), .val (.int p2), .val (.int p3), .val (.int p4), .val (.int p5), .val (.int p6), .val (.int n.toInt32), .val (.int d1.toInt32), .val (.int d2.toInt32), .val (.int d3.toInt32), .val (.int bl.toInt32), .val (.long sv), .second, .val (.ref o), .val (.int (1 : Int32)), .unset, .unset] [])) _
    refine XS.aload Xl0.here hx rfl (hb hby at_82) rfl rfl ?_
    show Steps p.tables e below (Tl0.setTop (mkF m 84 #[.val (.int p1), .val (.int p2), .val (.int p3), .val (.int p4), .val (.int p5), .val (.int p6), .val (.int n.toInt32), .val (.int d1.toInt32), .val (.int d2.toInt32), .val (.int d3.toInt32), .val (.int bl.toInt32), .val (.long sv), .second, .val (.ref o), .val (.int (1 : Int32)), .unset, .unset] [(.ref o)])) _
    refine XS.iload Xl0.here hx rfl (hb hby at_84) rfl ?_
    show Steps p.tables e below (Tl0.setTop (mkF m 86 #[.val (.int p1), .val (.int p2), .val (.int p3), .val (.int p4), .val (.int p5), .val (.int p6), .val (.int n.toInt32), .val (.int d1.toInt32), .val (.int d2.toInt32), .val (.int d3.toInt32), .val (.int bl.toInt32), .val (.long sv), .second, .val (.ref o), .val (.int (1 : Int32)), .unset, .unset] [(.int d1.toInt32), (.ref o)])) _
    refine str0.trans ?_
    exact k
  obtain ⟨f1, hf1⟩ : ∃ z : Nat → Int64, z = own_path ((fun _ => 0) 1 + 1) (q + d1) (q + d1) (fun _ => 0) := ⟨_, rfl⟩
  obtain ⟨t1, v1, l1⟩ := own_step t0 v0 (by omega) (show d1 < q by omega)
  rw [← hf1] at t1 v1 l1 Ar0
  have Er0 := E2.keep Kr0
  have F1r0 := F12.keep Kr0 (ninS hob nin0)
  have F2r0 := F22.keep Kr0 (ninS hob nin0)
  obtain ⟨cql1, kql1, ql1a, ql1b, ql1c⟩ := isOf hZ rfl Er0
  obtain ⟨_, _, ⟨Tl1, Ll1, kl1, nl1⟩, -, Xl1, ⟨Lcl1, hQl1, ll1, yl1, zl1⟩, stl1⟩ := Xr0.virtualBack hx (y := (⟨"com/example/mutableau/mutableau/formula/BindingReferences", "latest", "()J"⟩ : MethodName)) (z := (⟨"com/example/mutableau/mutableau/formula/BindingReferences", "latest", "()J"⟩ : MethodName)) hown (mvT hZ (hw _ (List.mem_of_getElem? (i := 28) rfl))) (mvT hZ (hw _ (List.mem_of_getElem? (i := 29) rfl))) (notFace_of_selects (args := #[]) (mvT hZ (hw _ (List.mem_of_getElem? (i := 31) rfl)))) (mvT hZ (hw _ (List.mem_of_getElem? (i := 31) rfl))) (mvT hZ (hw _ (List.mem_of_getElem? (i := 30) rfl))) (by decide) (backOf (W := 0) (rm_la l Z a0 hw [] o Tr0.heap n0 b q (by omega) (by omega) f1 F2r0 Ar0) hZ (hw _ (List.mem_of_getElem? (i := 32) rfl)) (hw _ (List.mem_of_getElem? (i := 3) rfl)) (by decide) (by decide)) ql1a ql1c (g := (mkF m 96 #[.val (.int p1), .val (.int p2), .val (.int p3), .val (.int p4), .val (.int p5), .val (.int p6), .val (.int n.toInt32), .val (.int d1.toInt32), .val (.int d2.toInt32), .val (.int d3.toInt32), .val (.int bl.toInt32), .val (.long sv), .second, .val (.ref o), .val (.int (1 : Int32)), .unset, .unset] [(.ref o)])) rfl (by rw [hml]; rfl) (Steps.refl _) (argsL := []) (rest := []) (lenOf pd_la rfl) rfl (by show 2 * 0 + _ ≤ _; exact Nat.le_of_eq rfl) (hb hby at_96) (fun _ _ => ⟨rfl, rfl, (by decide : 2 + 0 ≤ _), (by decide : 34 + 0 ≤ _)⟩)
  dsimp only [Pt.U, Pt.locs, Pt.cells, Pt.slots] at Xl1 ll1 yl1 zl1 stl1 hQl1
  subst ll1 yl1 zl1
  obtain ⟨rfl, Nl1q, el1⟩ := hQl1
  have Nl1 := Fr.app Nr0 Nl1q
  have Pl1 : ∀ t, Steps p.tables e below (Tl1.setTop (mkF m 99 #[.val (.int p1), .val (.int p2), .val (.int p3), .val (.int p4), .val (.int p5), .val (.int p6), .val (.int n.toInt32), .val (.int d1.toInt32), .val (.int d2.toInt32), .val (.int d3.toInt32), .val (.int bl.toInt32), .val (.long sv), .second, .val (.ref o), .val (.int (1 : Int32)), .unset, .unset] [(.long (f1 1))])) t → Steps p.tables e below (s₁.setTop (entryFrame m #[(.int p1), (.int p2), (.int p3), (.int p4), (.int p5), (.int p6)] maxLocals)) t := by
    intro t k
    refine Pr0 t ?_
    show Steps p.tables e below (Tr0.setTop (mkF m 89 #[.val (.int p1), .val (.int p2), .val (.int p3), .val (.int p4), .val (.int p5), .val (.int p6), .val (.int n.toInt32), .val (.int d1.toInt32), .val (.int d2.toInt32), .val (.int d3.toInt32), .val (.int bl.toInt32), .val (.long sv), .second, .val (.ref o), .val (.int (1 : Int32)), .unset, .unset] [])) _
    refine XS.iload Xr0.here hx rfl (hb hby at_89) rfl ?_
    have hc91 : ¬ ((1 : Int32) = (0 : Int32)) := by decide
    show Steps p.tables e below (Tr0.setTop (mkF m 91 #[.val (.int p1), .val (.int p2), .val (.int p3), .val (.int p4), .val (.int p5), .val (.int p6), .val (.int n.toInt32), .val (.int d1.toInt32), .val (.int d2.toInt32), .val (.int d3.toInt32), .val (.int bl.toInt32), .val (.long sv), .second, .val (.ref o), .val (.int (1 : Int32)), .unset, .unset] [(.int (1 : Int32))])) _
    refine XS.ifNo Xr0.here hx rfl (hb hby at_91) rfl ((if0 _ _).trans (feq hc91).1) ?_
    show Steps p.tables e below (Tr0.setTop (mkF m 94 #[.val (.int p1), .val (.int p2), .val (.int p3), .val (.int p4), .val (.int p5), .val (.int p6), .val (.int n.toInt32), .val (.int d1.toInt32), .val (.int d2.toInt32), .val (.int d3.toInt32), .val (.int bl.toInt32), .val (.long sv), .second, .val (.ref o), .val (.int (1 : Int32)), .unset, .unset] [])) _
    refine XS.aload Xr0.here hx rfl (hb hby at_94) rfl rfl ?_
    show Steps p.tables e below (Tr0.setTop (mkF m 96 #[.val (.int p1), .val (.int p2), .val (.int p3), .val (.int p4), .val (.int p5), .val (.int p6), .val (.int n.toInt32), .val (.int d1.toInt32), .val (.int d2.toInt32), .val (.int d3.toInt32), .val (.int bl.toInt32), .val (.long sv), .second, .val (.ref o), .val (.int (1 : Int32)), .unset, .unset] [(.ref o)])) _
    refine stl1.trans ?_
    exact k
  have hc101 : (lcmpW (f1 1) (1 : Int64)) = (0 : Int32) := (lw_eq _ _).mpr (Int64.toInt_inj.mp (Eq.trans v1 (by decide)))
  have Po1 : ∀ t, Steps p.tables e below (Tl1.setTop (mkF m 111 #[.val (.int p1), .val (.int p2), .val (.int p3), .val (.int p4), .val (.int p5), .val (.int p6), .val (.int n.toInt32), .val (.int d1.toInt32), .val (.int d2.toInt32), .val (.int d3.toInt32), .val (.int bl.toInt32), .val (.long sv), .second, .val (.ref o), .val (.int (1 : Int32)), .unset, .unset] [])) t → Steps p.tables e below (s₁.setTop (entryFrame m #[(.int p1), (.int p2), (.int p3), (.int p4), (.int p5), (.int p6)] maxLocals)) t := by
    intro t k
    refine Pl1 t ?_
    show Steps p.tables e below (Tl1.setTop (mkF m 99 #[.val (.int p1), .val (.int p2), .val (.int p3), .val (.int p4), .val (.int p5), .val (.int p6), .val (.int n.toInt32), .val (.int d1.toInt32), .val (.int d2.toInt32), .val (.int d3.toInt32), .val (.int bl.toInt32), .val (.long sv), .second, .val (.ref o), .val (.int (1 : Int32)), .unset, .unset] [(.long (f1 1))])) _
    refine XS.lconst Xl1.here hx rfl (hb hby at_99) ?_
    show Steps p.tables e below (Tl1.setTop (mkF m 100 #[.val (.int p1), .val (.int p2), .val (.int p3), .val (.int p4), .val (.int p5), .val (.int p6), .val (.int n.toInt32), .val (.int d1.toInt32), .val (.int d2.toInt32), .val (.int d3.toInt32), .val (.int bl.toInt32), .val (.long sv), .second, .val (.ref o), .val (.int (1 : Int32)), .unset, .unset] [(.long (1 : Int64)), (.long (f1 1))])) _
    refine XS.lcmp Xl1.here hx rfl (hb hby at_100) rfl ?_
    show Steps p.tables e below (Tl1.setTop (mkF m 101 #[.val (.int p1), .val (.int p2), .val (.int p3), .val (.int p4), .val (.int p5), .val (.int p6), .val (.int n.toInt32), .val (.int d1.toInt32), .val (.int d2.toInt32), .val (.int d3.toInt32), .val (.int bl.toInt32), .val (.long sv), .second, .val (.ref o), .val (.int (1 : Int32)), .unset, .unset] [(.int (lcmpW (f1 1) (1 : Int64)))])) _
    refine XS.ifNo Xl1.here hx rfl (hb hby at_101) rfl ((if0 _ _).trans (teq hc101).2) ?_
    show Steps p.tables e below (Tl1.setTop (mkF m 104 #[.val (.int p1), .val (.int p2), .val (.int p3), .val (.int p4), .val (.int p5), .val (.int p6), .val (.int n.toInt32), .val (.int d1.toInt32), .val (.int d2.toInt32), .val (.int d3.toInt32), .val (.int bl.toInt32), .val (.long sv), .second, .val (.ref o), .val (.int (1 : Int32)), .unset, .unset] [])) _
    refine XS.iconst Xl1.here hx rfl (hb hby at_104) ?_
    show Steps p.tables e below (Tl1.setTop (mkF m 105 #[.val (.int p1), .val (.int p2), .val (.int p3), .val (.int p4), .val (.int p5), .val (.int p6), .val (.int n.toInt32), .val (.int d1.toInt32), .val (.int d2.toInt32), .val (.int d3.toInt32), .val (.int bl.toInt32), .val (.long sv), .second, .val (.ref o), .val (.int (1 : Int32)), .unset, .unset] [(.int (1 : Int32))])) _
    refine XS.goto Xl1.here hx rfl (pc0 := 105) (pc' := 109) rfl (hb hby at_105) (by decide) (by decide) ?_
    show Steps p.tables e below (Tl1.setTop (mkF m 109 #[.val (.int p1), .val (.int p2), .val (.int p3), .val (.int p4), .val (.int p5), .val (.int p6), .val (.int n.toInt32), .val (.int d1.toInt32), .val (.int d2.toInt32), .val (.int d3.toInt32), .val (.int bl.toInt32), .val (.long sv), .second, .val (.ref o), .val (.int (1 : Int32)), .unset, .unset] [(.int (1 : Int32))])) _
    refine XS.istore Xl1.here hx rfl (hb hby at_109) rfl (l' := #[.val (.int p1), .val (.int p2), .val (.int p3), .val (.int p4), .val (.int p5), .val (.int p6), .val (.int n.toInt32), .val (.int d1.toInt32), .val (.int d2.toInt32), .val (.int d3.toInt32), .val (.int bl.toInt32), .val (.long sv), .second, .val (.ref o), .val (.int (1 : Int32)), .unset, .unset]) rfl ?_
    exact k
  obtain ⟨cqr1, kqr1, qr1a, qr1b, qr1c⟩ := isOf hZ el1 Er0
  obtain ⟨_, _, ⟨Tr1, Lr1, kr1, nr1⟩, -, Xr1, ⟨Lcr1, hQr1, lr1, yr1, zr1⟩, str1⟩ := Xl1.virtualBack hx (y := (⟨"com/example/mutableau/mutableau/formula/BindingReferences", "refer", "(I)V"⟩ : MethodName)) (z := (⟨"com/example/mutableau/mutableau/formula/BindingReferences", "refer", "(I)V"⟩ : MethodName)) hown (mvT hZ (hw _ (List.mem_of_getElem? (i := 33) rfl))) (mvT hZ (hw _ (List.mem_of_getElem? (i := 34) rfl))) (notFace_of_selects (args := #[]) (mvT hZ (hw _ (List.mem_of_getElem? (i := 36) rfl)))) (mvT hZ (hw _ (List.mem_of_getElem? (i := 36) rfl))) (mvT hZ (hw _ (List.mem_of_getElem? (i := 35) rfl))) (by decide) (backOf (W := 0) (rm_rf l Z a0 hw [] o d2.toInt32 Tr0.heap n0 d2 rfl b q (by omega) (by omega) f1 F1r0 F2r0 Ar0 hob gb) hZ (hw _ (List.mem_of_getElem? (i := 37) rfl)) (hw _ (List.mem_of_getElem? (i := 3) rfl)) (by decide) (by decide)) qr1a qr1c (g := (mkF m 115 #[.val (.int p1), .val (.int p2), .val (.int p3), .val (.int p4), .val (.int p5), .val (.int p6), .val (.int n.toInt32), .val (.int d1.toInt32), .val (.int d2.toInt32), .val (.int d3.toInt32), .val (.int bl.toInt32), .val (.long sv), .second, .val (.ref o), .val (.int (1 : Int32)), .unset, .unset] [(.int d2.toInt32), (.ref o)])) rfl (by rw [hml]; rfl) (Steps.refl _) (argsL := [(.int d2.toInt32)]) (rest := []) (lenOf pd_ct rfl) rfl (by show 2 * 0 + _ ≤ _; exact Nat.le_of_eq rfl) (hb hby at_115) (fun _ _ => ⟨rfl, el1, (by decide : 2 + 0 ≤ _), (by decide : 34 + 0 ≤ _)⟩)
  dsimp only [Pt.U, Pt.locs, Pt.cells, Pt.slots] at Xr1 lr1 yr1 zr1 str1 hQr1
  subst lr1 yr1 zr1
  obtain ⟨rfl, Nr1q, Kr1, Ar1⟩ := hQr1
  have Nr1 := Fr.app Nl1 Nr1q
  have Pr1 : ∀ t, Steps p.tables e below (Tr1.setTop (mkF m 118 #[.val (.int p1), .val (.int p2), .val (.int p3), .val (.int p4), .val (.int p5), .val (.int p6), .val (.int n.toInt32), .val (.int d1.toInt32), .val (.int d2.toInt32), .val (.int d3.toInt32), .val (.int bl.toInt32), .val (.long sv), .second, .val (.ref o), .val (.int (1 : Int32)), .unset, .unset] [])) t → Steps p.tables e below (s₁.setTop (entryFrame m #[(.int p1), (.int p2), (.int p3), (.int p4), (.int p5), (.int p6)] maxLocals)) t := by
    intro t k
    refine Po1 t ?_
    show Steps p.tables e below (Tl1.setTop (mkF m 111 #[.val (.int p1), .val (.int p2), .val (.int p3), .val (.int p4), .val (.int p5), .val (.int p6), .val (.int n.toInt32), .val (.int d1.toInt32), .val (.int d2.toInt32), .val (.int d3.toInt32), .val (.int bl.toInt32), .val (.long sv), .second, .val (.ref o), .val (.int (1 : Int32)), .unset, .unset] [])) _
    refine XS.aload Xl1.here hx rfl (hb hby at_111) rfl rfl ?_
    show Steps p.tables e below (Tl1.setTop (mkF m 113 #[.val (.int p1), .val (.int p2), .val (.int p3), .val (.int p4), .val (.int p5), .val (.int p6), .val (.int n.toInt32), .val (.int d1.toInt32), .val (.int d2.toInt32), .val (.int d3.toInt32), .val (.int bl.toInt32), .val (.long sv), .second, .val (.ref o), .val (.int (1 : Int32)), .unset, .unset] [(.ref o)])) _
    refine XS.iload Xl1.here hx rfl (hb hby at_113) rfl ?_
    show Steps p.tables e below (Tl1.setTop (mkF m 115 #[.val (.int p1), .val (.int p2), .val (.int p3), .val (.int p4), .val (.int p5), .val (.int p6), .val (.int n.toInt32), .val (.int d1.toInt32), .val (.int d2.toInt32), .val (.int d3.toInt32), .val (.int bl.toInt32), .val (.long sv), .second, .val (.ref o), .val (.int (1 : Int32)), .unset, .unset] [(.int d2.toInt32), (.ref o)])) _
    refine str1.trans ?_
    exact k
  obtain ⟨f2, hf2⟩ : ∃ z : Nat → Int64, z = own_path (f1 1 + 1) (q + d2) (q + d2) f1 := ⟨_, rfl⟩
  obtain ⟨t2, v2, l2⟩ := own_step t1 v1 (by omega) (show d2 < q by omega)
  rw [← hf2] at t2 v2 l2 Ar1
  have Er1 := Er0.keep Kr1
  have F1r1 := F1r0.keep Kr1 (ninS hob nin0)
  have F2r1 := F2r0.keep Kr1 (ninS hob nin0)
  obtain ⟨cql2, kql2, ql2a, ql2b, ql2c⟩ := isOf hZ rfl Er1
  obtain ⟨_, _, ⟨Tl2, Ll2, kl2, nl2⟩, -, Xl2, ⟨Lcl2, hQl2, ll2, yl2, zl2⟩, stl2⟩ := Xr1.virtualBack hx (y := (⟨"com/example/mutableau/mutableau/formula/BindingReferences", "latest", "()J"⟩ : MethodName)) (z := (⟨"com/example/mutableau/mutableau/formula/BindingReferences", "latest", "()J"⟩ : MethodName)) hown (mvT hZ (hw _ (List.mem_of_getElem? (i := 28) rfl))) (mvT hZ (hw _ (List.mem_of_getElem? (i := 29) rfl))) (notFace_of_selects (args := #[]) (mvT hZ (hw _ (List.mem_of_getElem? (i := 31) rfl)))) (mvT hZ (hw _ (List.mem_of_getElem? (i := 31) rfl))) (mvT hZ (hw _ (List.mem_of_getElem? (i := 30) rfl))) (by decide) (backOf (W := 0) (rm_la l Z a0 hw [] o Tr1.heap n0 b q (by omega) (by omega) f2 F2r1 Ar1) hZ (hw _ (List.mem_of_getElem? (i := 32) rfl)) (hw _ (List.mem_of_getElem? (i := 3) rfl)) (by decide) (by decide)) ql2a ql2c (g := (mkF m 125 #[.val (.int p1), .val (.int p2), .val (.int p3), .val (.int p4), .val (.int p5), .val (.int p6), .val (.int n.toInt32), .val (.int d1.toInt32), .val (.int d2.toInt32), .val (.int d3.toInt32), .val (.int bl.toInt32), .val (.long sv), .second, .val (.ref o), .val (.int (1 : Int32)), .unset, .unset] [(.ref o)])) rfl (by rw [hml]; rfl) (Steps.refl _) (argsL := []) (rest := []) (lenOf pd_la rfl) rfl (by show 2 * 0 + _ ≤ _; exact Nat.le_of_eq rfl) (hb hby at_125) (fun _ _ => ⟨rfl, rfl, (by decide : 2 + 0 ≤ _), (by decide : 34 + 0 ≤ _)⟩)
  dsimp only [Pt.U, Pt.locs, Pt.cells, Pt.slots] at Xl2 ll2 yl2 zl2 stl2 hQl2
  subst ll2 yl2 zl2
  obtain ⟨rfl, Nl2q, el2⟩ := hQl2
  have Nl2 := Fr.app Nr1 Nl2q
  have Pl2 : ∀ t, Steps p.tables e below (Tl2.setTop (mkF m 128 #[.val (.int p1), .val (.int p2), .val (.int p3), .val (.int p4), .val (.int p5), .val (.int p6), .val (.int n.toInt32), .val (.int d1.toInt32), .val (.int d2.toInt32), .val (.int d3.toInt32), .val (.int bl.toInt32), .val (.long sv), .second, .val (.ref o), .val (.int (1 : Int32)), .unset, .unset] [(.long (f2 1))])) t → Steps p.tables e below (s₁.setTop (entryFrame m #[(.int p1), (.int p2), (.int p3), (.int p4), (.int p5), (.int p6)] maxLocals)) t := by
    intro t k
    refine Pr1 t ?_
    show Steps p.tables e below (Tr1.setTop (mkF m 118 #[.val (.int p1), .val (.int p2), .val (.int p3), .val (.int p4), .val (.int p5), .val (.int p6), .val (.int n.toInt32), .val (.int d1.toInt32), .val (.int d2.toInt32), .val (.int d3.toInt32), .val (.int bl.toInt32), .val (.long sv), .second, .val (.ref o), .val (.int (1 : Int32)), .unset, .unset] [])) _
    refine XS.iload Xr1.here hx rfl (hb hby at_118) rfl ?_
    have hc120 : ¬ ((1 : Int32) = (0 : Int32)) := by decide
    show Steps p.tables e below (Tr1.setTop (mkF m 120 #[.val (.int p1), .val (.int p2), .val (.int p3), .val (.int p4), .val (.int p5), .val (.int p6), .val (.int n.toInt32), .val (.int d1.toInt32), .val (.int d2.toInt32), .val (.int d3.toInt32), .val (.int bl.toInt32), .val (.long sv), .second, .val (.ref o), .val (.int (1 : Int32)), .unset, .unset] [(.int (1 : Int32))])) _
    refine XS.ifNo Xr1.here hx rfl (hb hby at_120) rfl ((if0 _ _).trans (feq hc120).1) ?_
    show Steps p.tables e below (Tr1.setTop (mkF m 123 #[.val (.int p1), .val (.int p2), .val (.int p3), .val (.int p4), .val (.int p5), .val (.int p6), .val (.int n.toInt32), .val (.int d1.toInt32), .val (.int d2.toInt32), .val (.int d3.toInt32), .val (.int bl.toInt32), .val (.long sv), .second, .val (.ref o), .val (.int (1 : Int32)), .unset, .unset] [])) _
    refine XS.aload Xr1.here hx rfl (hb hby at_123) rfl rfl ?_
    show Steps p.tables e below (Tr1.setTop (mkF m 125 #[.val (.int p1), .val (.int p2), .val (.int p3), .val (.int p4), .val (.int p5), .val (.int p6), .val (.int n.toInt32), .val (.int d1.toInt32), .val (.int d2.toInt32), .val (.int d3.toInt32), .val (.int bl.toInt32), .val (.long sv), .second, .val (.ref o), .val (.int (1 : Int32)), .unset, .unset] [(.ref o)])) _
    refine stl2.trans ?_
    exact k
  have hc132 : (lcmpW (f2 1) (2 : Int64)) = (0 : Int32) := (lw_eq _ _).mpr (Int64.toInt_inj.mp (Eq.trans v2 (by decide)))
  have Po2 : ∀ t, Steps p.tables e below (Tl2.setTop (mkF m 142 #[.val (.int p1), .val (.int p2), .val (.int p3), .val (.int p4), .val (.int p5), .val (.int p6), .val (.int n.toInt32), .val (.int d1.toInt32), .val (.int d2.toInt32), .val (.int d3.toInt32), .val (.int bl.toInt32), .val (.long sv), .second, .val (.ref o), .val (.int (1 : Int32)), .unset, .unset] [])) t → Steps p.tables e below (s₁.setTop (entryFrame m #[(.int p1), (.int p2), (.int p3), (.int p4), (.int p5), (.int p6)] maxLocals)) t := by
    intro t k
    refine Pl2 t ?_
    show Steps p.tables e below (Tl2.setTop (mkF m 128 #[.val (.int p1), .val (.int p2), .val (.int p3), .val (.int p4), .val (.int p5), .val (.int p6), .val (.int n.toInt32), .val (.int d1.toInt32), .val (.int d2.toInt32), .val (.int d3.toInt32), .val (.int bl.toInt32), .val (.long sv), .second, .val (.ref o), .val (.int (1 : Int32)), .unset, .unset] [(.long (f2 1))])) _
    refine Jvm.Stand.ldc2J Xl2 hx hown (mvT hZ (hw _ (List.mem_of_getElem? (i := 38) rfl))) rfl (hb hby at_128) ?_
    show Steps p.tables e below (Tl2.setTop (mkF m 131 #[.val (.int p1), .val (.int p2), .val (.int p3), .val (.int p4), .val (.int p5), .val (.int p6), .val (.int n.toInt32), .val (.int d1.toInt32), .val (.int d2.toInt32), .val (.int d3.toInt32), .val (.int bl.toInt32), .val (.long sv), .second, .val (.ref o), .val (.int (1 : Int32)), .unset, .unset] [(.long (2 : Int64)), (.long (f2 1))])) _
    refine XS.lcmp Xl2.here hx rfl (hb hby at_131) rfl ?_
    show Steps p.tables e below (Tl2.setTop (mkF m 132 #[.val (.int p1), .val (.int p2), .val (.int p3), .val (.int p4), .val (.int p5), .val (.int p6), .val (.int n.toInt32), .val (.int d1.toInt32), .val (.int d2.toInt32), .val (.int d3.toInt32), .val (.int bl.toInt32), .val (.long sv), .second, .val (.ref o), .val (.int (1 : Int32)), .unset, .unset] [(.int (lcmpW (f2 1) (2 : Int64)))])) _
    refine XS.ifNo Xl2.here hx rfl (hb hby at_132) rfl ((if0 _ _).trans (teq hc132).2) ?_
    show Steps p.tables e below (Tl2.setTop (mkF m 135 #[.val (.int p1), .val (.int p2), .val (.int p3), .val (.int p4), .val (.int p5), .val (.int p6), .val (.int n.toInt32), .val (.int d1.toInt32), .val (.int d2.toInt32), .val (.int d3.toInt32), .val (.int bl.toInt32), .val (.long sv), .second, .val (.ref o), .val (.int (1 : Int32)), .unset, .unset] [])) _
    refine XS.iconst Xl2.here hx rfl (hb hby at_135) ?_
    show Steps p.tables e below (Tl2.setTop (mkF m 136 #[.val (.int p1), .val (.int p2), .val (.int p3), .val (.int p4), .val (.int p5), .val (.int p6), .val (.int n.toInt32), .val (.int d1.toInt32), .val (.int d2.toInt32), .val (.int d3.toInt32), .val (.int bl.toInt32), .val (.long sv), .second, .val (.ref o), .val (.int (1 : Int32)), .unset, .unset] [(.int (1 : Int32))])) _
    refine XS.goto Xl2.here hx rfl (pc0 := 136) (pc' := 140) rfl (hb hby at_136) (by decide) (by decide) ?_
    show Steps p.tables e below (Tl2.setTop (mkF m 140 #[.val (.int p1), .val (.int p2), .val (.int p3), .val (.int p4), .val (.int p5), .val (.int p6), .val (.int n.toInt32), .val (.int d1.toInt32), .val (.int d2.toInt32), .val (.int d3.toInt32), .val (.int bl.toInt32), .val (.long sv), .second, .val (.ref o), .val (.int (1 : Int32)), .unset, .unset] [(.int (1 : Int32))])) _
    refine XS.istore Xl2.here hx rfl (hb hby at_140) rfl (l' := #[.val (.int p1), .val (.int p2), .val (.int p3), .val (.int p4), .val (.int p5), .val (.int p6), .val (.int n.toInt32), .val (.int d1.toInt32), .val (.int d2.toInt32), .val (.int d3.toInt32), .val (.int bl.toInt32), .val (.long sv), .second, .val (.ref o), .val (.int (1 : Int32)), .unset, .unset]) rfl ?_
    exact k
  obtain ⟨cqr2, kqr2, qr2a, qr2b, qr2c⟩ := isOf hZ el2 Er1
  obtain ⟨_, _, ⟨Tr2, Lr2, kr2, nr2⟩, -, Xr2, ⟨Lcr2, hQr2, lr2, yr2, zr2⟩, str2⟩ := Xl2.virtualBack hx (y := (⟨"com/example/mutableau/mutableau/formula/BindingReferences", "refer", "(I)V"⟩ : MethodName)) (z := (⟨"com/example/mutableau/mutableau/formula/BindingReferences", "refer", "(I)V"⟩ : MethodName)) hown (mvT hZ (hw _ (List.mem_of_getElem? (i := 33) rfl))) (mvT hZ (hw _ (List.mem_of_getElem? (i := 34) rfl))) (notFace_of_selects (args := #[]) (mvT hZ (hw _ (List.mem_of_getElem? (i := 36) rfl)))) (mvT hZ (hw _ (List.mem_of_getElem? (i := 36) rfl))) (mvT hZ (hw _ (List.mem_of_getElem? (i := 35) rfl))) (by decide) (backOf (W := 0) (rm_rf l Z a0 hw [] o d3.toInt32 Tr1.heap n0 d3 rfl b q (by omega) (by omega) f2 F1r1 F2r1 Ar1 hob gb) hZ (hw _ (List.mem_of_getElem? (i := 37) rfl)) (hw _ (List.mem_of_getElem? (i := 3) rfl)) (by decide) (by decide)) qr2a qr2c (g := (mkF m 146 #[.val (.int p1), .val (.int p2), .val (.int p3), .val (.int p4), .val (.int p5), .val (.int p6), .val (.int n.toInt32), .val (.int d1.toInt32), .val (.int d2.toInt32), .val (.int d3.toInt32), .val (.int bl.toInt32), .val (.long sv), .second, .val (.ref o), .val (.int (1 : Int32)), .unset, .unset] [(.int d3.toInt32), (.ref o)])) rfl (by rw [hml]; rfl) (Steps.refl _) (argsL := [(.int d3.toInt32)]) (rest := []) (lenOf pd_ct rfl) rfl (by show 2 * 0 + _ ≤ _; exact Nat.le_of_eq rfl) (hb hby at_146) (fun _ _ => ⟨rfl, el2, (by decide : 2 + 0 ≤ _), (by decide : 34 + 0 ≤ _)⟩)
  dsimp only [Pt.U, Pt.locs, Pt.cells, Pt.slots] at Xr2 lr2 yr2 zr2 str2 hQr2
  subst lr2 yr2 zr2
  obtain ⟨rfl, Nr2q, Kr2, Ar2⟩ := hQr2
  have Nr2 := Fr.app Nl2 Nr2q
  have Pr2 : ∀ t, Steps p.tables e below (Tr2.setTop (mkF m 149 #[.val (.int p1), .val (.int p2), .val (.int p3), .val (.int p4), .val (.int p5), .val (.int p6), .val (.int n.toInt32), .val (.int d1.toInt32), .val (.int d2.toInt32), .val (.int d3.toInt32), .val (.int bl.toInt32), .val (.long sv), .second, .val (.ref o), .val (.int (1 : Int32)), .unset, .unset] [])) t → Steps p.tables e below (s₁.setTop (entryFrame m #[(.int p1), (.int p2), (.int p3), (.int p4), (.int p5), (.int p6)] maxLocals)) t := by
    intro t k
    refine Po2 t ?_
    show Steps p.tables e below (Tl2.setTop (mkF m 142 #[.val (.int p1), .val (.int p2), .val (.int p3), .val (.int p4), .val (.int p5), .val (.int p6), .val (.int n.toInt32), .val (.int d1.toInt32), .val (.int d2.toInt32), .val (.int d3.toInt32), .val (.int bl.toInt32), .val (.long sv), .second, .val (.ref o), .val (.int (1 : Int32)), .unset, .unset] [])) _
    refine XS.aload Xl2.here hx rfl (hb hby at_142) rfl rfl ?_
    show Steps p.tables e below (Tl2.setTop (mkF m 144 #[.val (.int p1), .val (.int p2), .val (.int p3), .val (.int p4), .val (.int p5), .val (.int p6), .val (.int n.toInt32), .val (.int d1.toInt32), .val (.int d2.toInt32), .val (.int d3.toInt32), .val (.int bl.toInt32), .val (.long sv), .second, .val (.ref o), .val (.int (1 : Int32)), .unset, .unset] [(.ref o)])) _
    refine XS.iload Xl2.here hx rfl (hb hby at_144) rfl ?_
    show Steps p.tables e below (Tl2.setTop (mkF m 146 #[.val (.int p1), .val (.int p2), .val (.int p3), .val (.int p4), .val (.int p5), .val (.int p6), .val (.int n.toInt32), .val (.int d1.toInt32), .val (.int d2.toInt32), .val (.int d3.toInt32), .val (.int bl.toInt32), .val (.long sv), .second, .val (.ref o), .val (.int (1 : Int32)), .unset, .unset] [(.int d3.toInt32), (.ref o)])) _
    refine str2.trans ?_
    exact k
  obtain ⟨f3, hf3⟩ : ∃ z : Nat → Int64, z = own_path (f2 1 + 1) (q + d3) (q + d3) f2 := ⟨_, rfl⟩
  obtain ⟨t3, v3, l3⟩ := own_step t2 v2 (by omega) (show d3 < q by omega)
  rw [← hf3] at t3 v3 l3 Ar2
  have Er2 := Er1.keep Kr2
  have F1r2 := F1r1.keep Kr2 (ninS hob nin0)
  have F2r2 := F2r1.keep Kr2 (ninS hob nin0)
  obtain ⟨cql3, kql3, ql3a, ql3b, ql3c⟩ := isOf hZ rfl Er2
  obtain ⟨_, _, ⟨Tl3, Ll3, kl3, nl3⟩, -, Xl3, ⟨Lcl3, hQl3, ll3, yl3, zl3⟩, stl3⟩ := Xr2.virtualBack hx (y := (⟨"com/example/mutableau/mutableau/formula/BindingReferences", "latest", "()J"⟩ : MethodName)) (z := (⟨"com/example/mutableau/mutableau/formula/BindingReferences", "latest", "()J"⟩ : MethodName)) hown (mvT hZ (hw _ (List.mem_of_getElem? (i := 28) rfl))) (mvT hZ (hw _ (List.mem_of_getElem? (i := 29) rfl))) (notFace_of_selects (args := #[]) (mvT hZ (hw _ (List.mem_of_getElem? (i := 31) rfl)))) (mvT hZ (hw _ (List.mem_of_getElem? (i := 31) rfl))) (mvT hZ (hw _ (List.mem_of_getElem? (i := 30) rfl))) (by decide) (backOf (W := 0) (rm_la l Z a0 hw [] o Tr2.heap n0 b q (by omega) (by omega) f3 F2r2 Ar2) hZ (hw _ (List.mem_of_getElem? (i := 32) rfl)) (hw _ (List.mem_of_getElem? (i := 3) rfl)) (by decide) (by decide)) ql3a ql3c (g := (mkF m 156 #[.val (.int p1), .val (.int p2), .val (.int p3), .val (.int p4), .val (.int p5), .val (.int p6), .val (.int n.toInt32), .val (.int d1.toInt32), .val (.int d2.toInt32), .val (.int d3.toInt32), .val (.int bl.toInt32), .val (.long sv), .second, .val (.ref o), .val (.int (1 : Int32)), .unset, .unset] [(.ref o)])) rfl (by rw [hml]; rfl) (Steps.refl _) (argsL := []) (rest := []) (lenOf pd_la rfl) rfl (by show 2 * 0 + _ ≤ _; exact Nat.le_of_eq rfl) (hb hby at_156) (fun _ _ => ⟨rfl, rfl, (by decide : 2 + 0 ≤ _), (by decide : 34 + 0 ≤ _)⟩)
  dsimp only [Pt.U, Pt.locs, Pt.cells, Pt.slots] at Xl3 ll3 yl3 zl3 stl3 hQl3
  subst ll3 yl3 zl3
  obtain ⟨rfl, Nl3q, el3⟩ := hQl3
  have Nl3 := Fr.app Nr2 Nl3q
  have Pl3 : ∀ t, Steps p.tables e below (Tl3.setTop (mkF m 159 #[.val (.int p1), .val (.int p2), .val (.int p3), .val (.int p4), .val (.int p5), .val (.int p6), .val (.int n.toInt32), .val (.int d1.toInt32), .val (.int d2.toInt32), .val (.int d3.toInt32), .val (.int bl.toInt32), .val (.long sv), .second, .val (.ref o), .val (.int (1 : Int32)), .unset, .unset] [(.long (f3 1))])) t → Steps p.tables e below (s₁.setTop (entryFrame m #[(.int p1), (.int p2), (.int p3), (.int p4), (.int p5), (.int p6)] maxLocals)) t := by
    intro t k
    refine Pr2 t ?_
    show Steps p.tables e below (Tr2.setTop (mkF m 149 #[.val (.int p1), .val (.int p2), .val (.int p3), .val (.int p4), .val (.int p5), .val (.int p6), .val (.int n.toInt32), .val (.int d1.toInt32), .val (.int d2.toInt32), .val (.int d3.toInt32), .val (.int bl.toInt32), .val (.long sv), .second, .val (.ref o), .val (.int (1 : Int32)), .unset, .unset] [])) _
    refine XS.iload Xr2.here hx rfl (hb hby at_149) rfl ?_
    have hc151 : ¬ ((1 : Int32) = (0 : Int32)) := by decide
    show Steps p.tables e below (Tr2.setTop (mkF m 151 #[.val (.int p1), .val (.int p2), .val (.int p3), .val (.int p4), .val (.int p5), .val (.int p6), .val (.int n.toInt32), .val (.int d1.toInt32), .val (.int d2.toInt32), .val (.int d3.toInt32), .val (.int bl.toInt32), .val (.long sv), .second, .val (.ref o), .val (.int (1 : Int32)), .unset, .unset] [(.int (1 : Int32))])) _
    refine XS.ifNo Xr2.here hx rfl (hb hby at_151) rfl ((if0 _ _).trans (feq hc151).1) ?_
    show Steps p.tables e below (Tr2.setTop (mkF m 154 #[.val (.int p1), .val (.int p2), .val (.int p3), .val (.int p4), .val (.int p5), .val (.int p6), .val (.int n.toInt32), .val (.int d1.toInt32), .val (.int d2.toInt32), .val (.int d3.toInt32), .val (.int bl.toInt32), .val (.long sv), .second, .val (.ref o), .val (.int (1 : Int32)), .unset, .unset] [])) _
    refine XS.aload Xr2.here hx rfl (hb hby at_154) rfl rfl ?_
    show Steps p.tables e below (Tr2.setTop (mkF m 156 #[.val (.int p1), .val (.int p2), .val (.int p3), .val (.int p4), .val (.int p5), .val (.int p6), .val (.int n.toInt32), .val (.int d1.toInt32), .val (.int d2.toInt32), .val (.int d3.toInt32), .val (.int bl.toInt32), .val (.long sv), .second, .val (.ref o), .val (.int (1 : Int32)), .unset, .unset] [(.ref o)])) _
    refine stl3.trans ?_
    exact k
  have hc163 : (lcmpW (f3 1) (3 : Int64)) = (0 : Int32) := (lw_eq _ _).mpr (Int64.toInt_inj.mp (Eq.trans v3 (by decide)))
  have Po3 : ∀ t, Steps p.tables e below (Tl3.setTop (mkF m 173 #[.val (.int p1), .val (.int p2), .val (.int p3), .val (.int p4), .val (.int p5), .val (.int p6), .val (.int n.toInt32), .val (.int d1.toInt32), .val (.int d2.toInt32), .val (.int d3.toInt32), .val (.int bl.toInt32), .val (.long sv), .second, .val (.ref o), .val (.int (1 : Int32)), .unset, .unset] [])) t → Steps p.tables e below (s₁.setTop (entryFrame m #[(.int p1), (.int p2), (.int p3), (.int p4), (.int p5), (.int p6)] maxLocals)) t := by
    intro t k
    refine Pl3 t ?_
    show Steps p.tables e below (Tl3.setTop (mkF m 159 #[.val (.int p1), .val (.int p2), .val (.int p3), .val (.int p4), .val (.int p5), .val (.int p6), .val (.int n.toInt32), .val (.int d1.toInt32), .val (.int d2.toInt32), .val (.int d3.toInt32), .val (.int bl.toInt32), .val (.long sv), .second, .val (.ref o), .val (.int (1 : Int32)), .unset, .unset] [(.long (f3 1))])) _
    refine Jvm.Stand.ldc2J Xl3 hx hown (mvT hZ (hw _ (List.mem_of_getElem? (i := 39) rfl))) rfl (hb hby at_159) ?_
    show Steps p.tables e below (Tl3.setTop (mkF m 162 #[.val (.int p1), .val (.int p2), .val (.int p3), .val (.int p4), .val (.int p5), .val (.int p6), .val (.int n.toInt32), .val (.int d1.toInt32), .val (.int d2.toInt32), .val (.int d3.toInt32), .val (.int bl.toInt32), .val (.long sv), .second, .val (.ref o), .val (.int (1 : Int32)), .unset, .unset] [(.long (3 : Int64)), (.long (f3 1))])) _
    refine XS.lcmp Xl3.here hx rfl (hb hby at_162) rfl ?_
    show Steps p.tables e below (Tl3.setTop (mkF m 163 #[.val (.int p1), .val (.int p2), .val (.int p3), .val (.int p4), .val (.int p5), .val (.int p6), .val (.int n.toInt32), .val (.int d1.toInt32), .val (.int d2.toInt32), .val (.int d3.toInt32), .val (.int bl.toInt32), .val (.long sv), .second, .val (.ref o), .val (.int (1 : Int32)), .unset, .unset] [(.int (lcmpW (f3 1) (3 : Int64)))])) _
    refine XS.ifNo Xl3.here hx rfl (hb hby at_163) rfl ((if0 _ _).trans (teq hc163).2) ?_
    show Steps p.tables e below (Tl3.setTop (mkF m 166 #[.val (.int p1), .val (.int p2), .val (.int p3), .val (.int p4), .val (.int p5), .val (.int p6), .val (.int n.toInt32), .val (.int d1.toInt32), .val (.int d2.toInt32), .val (.int d3.toInt32), .val (.int bl.toInt32), .val (.long sv), .second, .val (.ref o), .val (.int (1 : Int32)), .unset, .unset] [])) _
    refine XS.iconst Xl3.here hx rfl (hb hby at_166) ?_
    show Steps p.tables e below (Tl3.setTop (mkF m 167 #[.val (.int p1), .val (.int p2), .val (.int p3), .val (.int p4), .val (.int p5), .val (.int p6), .val (.int n.toInt32), .val (.int d1.toInt32), .val (.int d2.toInt32), .val (.int d3.toInt32), .val (.int bl.toInt32), .val (.long sv), .second, .val (.ref o), .val (.int (1 : Int32)), .unset, .unset] [(.int (1 : Int32))])) _
    refine XS.goto Xl3.here hx rfl (pc0 := 167) (pc' := 171) rfl (hb hby at_167) (by decide) (by decide) ?_
    show Steps p.tables e below (Tl3.setTop (mkF m 171 #[.val (.int p1), .val (.int p2), .val (.int p3), .val (.int p4), .val (.int p5), .val (.int p6), .val (.int n.toInt32), .val (.int d1.toInt32), .val (.int d2.toInt32), .val (.int d3.toInt32), .val (.int bl.toInt32), .val (.long sv), .second, .val (.ref o), .val (.int (1 : Int32)), .unset, .unset] [(.int (1 : Int32))])) _
    refine XS.istore Xl3.here hx rfl (hb hby at_171) rfl (l' := #[.val (.int p1), .val (.int p2), .val (.int p3), .val (.int p4), .val (.int p5), .val (.int p6), .val (.int n.toInt32), .val (.int d1.toInt32), .val (.int d2.toInt32), .val (.int d3.toInt32), .val (.int bl.toInt32), .val (.long sv), .second, .val (.ref o), .val (.int (1 : Int32)), .unset, .unset]) rfl ?_
    exact k
  obtain ⟨_, _, ⟨Tc0, Lc0, kc0, nc0⟩, -, Xc0, ⟨Lcc0, hQc0, lc0, yc0, zc0⟩, stc0⟩ := Jvm.LawKit.callS Xl3 hx (y := (⟨"com/example/mutableau/mutableau/formula/BindingReferencesReferPinLaw", "cand", "(IIJIJ)I"⟩ : MethodName)) hown (mvT hZ (hw _ (List.mem_of_getElem? (i := 40) rfl))) (mvT hZ (hw _ (List.mem_of_getElem? (i := 41) rfl))) (mvT hZ (hw _ (List.mem_of_getElem? (i := 42) rfl))) (mvT hZ (hw _ (List.mem_of_getElem? (i := 43) rfl))) (by decide) (backOf (W := 0) (rm_cd l Z a0 hw [] (-1 : Int32) d1.toInt32 (1 : Int64) bl.toInt32 sv Tr2.heap n0) hZ (hw _ (List.mem_of_getElem? (i := 43) rfl)) (hw _ (List.mem_of_getElem? (i := 42) rfl)) (by decide) (by decide)) (g := (mkF m 185 #[.val (.int p1), .val (.int p2), .val (.int p3), .val (.int p4), .val (.int p5), .val (.int p6), .val (.int n.toInt32), .val (.int d1.toInt32), .val (.int d2.toInt32), .val (.int d3.toInt32), .val (.int bl.toInt32), .val (.long sv), .second, .val (.ref o), .val (.int (1 : Int32)), .val (.int (-1 : Int32)), .unset] [(.long sv), (.int bl.toInt32), (.long (1 : Int64)), (.int d1.toInt32), (.int (-1 : Int32))])) rfl (by rw [hml]; rfl) (argsL := [(.int (-1 : Int32)), (.int d1.toInt32), (.long (1 : Int64)), (.int bl.toInt32), (.long sv)]) (rest := []) (lenOf pd_cd rfl) rfl (by show 2 * 0 + _ ≤ _; exact Nat.le_of_eq rfl) (hb hby at_185) (fun _ _ => ⟨rfl, el3, (by decide : 2 + 0 ≤ _), (by decide : 34 + 0 ≤ _)⟩)
  dsimp only [Pt.U, Pt.locs, Pt.cells, Pt.slots] at Xc0 lc0 yc0 zc0 stc0 hQc0
  subst lc0 yc0 zc0
  obtain ⟨rfl, Nc0q, ec0⟩ := hQc0
  have Nc0 := Fr.app Nl3 Nc0q
  obtain ⟨r1, hr1⟩ : ∃ z : Int32, z = (own_cd (-1 : Int32) d1.toInt32 (1 : Int64) bl.toInt32 sv) := ⟨_, rfl⟩
  have Pc0 : ∀ t, Steps p.tables e below (Tc0.setTop (mkF m 188 #[.val (.int p1), .val (.int p2), .val (.int p3), .val (.int p4), .val (.int p5), .val (.int p6), .val (.int n.toInt32), .val (.int d1.toInt32), .val (.int d2.toInt32), .val (.int d3.toInt32), .val (.int bl.toInt32), .val (.long sv), .second, .val (.ref o), .val (.int (1 : Int32)), .val (.int (-1 : Int32)), .unset] [(.int r1)])) t → Steps p.tables e below (s₁.setTop (entryFrame m #[(.int p1), (.int p2), (.int p3), (.int p4), (.int p5), (.int p6)] maxLocals)) t := by
    intro t k
    refine Po3 t ?_
    show Steps p.tables e below (Tl3.setTop (mkF m 173 #[.val (.int p1), .val (.int p2), .val (.int p3), .val (.int p4), .val (.int p5), .val (.int p6), .val (.int n.toInt32), .val (.int d1.toInt32), .val (.int d2.toInt32), .val (.int d3.toInt32), .val (.int bl.toInt32), .val (.long sv), .second, .val (.ref o), .val (.int (1 : Int32)), .unset, .unset] [])) _
    refine XS.iconst Xl3.here hx rfl (hb hby at_173) ?_
    show Steps p.tables e below (Tl3.setTop (mkF m 174 #[.val (.int p1), .val (.int p2), .val (.int p3), .val (.int p4), .val (.int p5), .val (.int p6), .val (.int n.toInt32), .val (.int d1.toInt32), .val (.int d2.toInt32), .val (.int d3.toInt32), .val (.int bl.toInt32), .val (.long sv), .second, .val (.ref o), .val (.int (1 : Int32)), .unset, .unset] [(.int (-1 : Int32))])) _
    refine XS.istore Xl3.here hx rfl (hb hby at_174) rfl (l' := #[.val (.int p1), .val (.int p2), .val (.int p3), .val (.int p4), .val (.int p5), .val (.int p6), .val (.int n.toInt32), .val (.int d1.toInt32), .val (.int d2.toInt32), .val (.int d3.toInt32), .val (.int bl.toInt32), .val (.long sv), .second, .val (.ref o), .val (.int (1 : Int32)), .val (.int (-1 : Int32)), .unset]) rfl ?_
    show Steps p.tables e below (Tl3.setTop (mkF m 176 #[.val (.int p1), .val (.int p2), .val (.int p3), .val (.int p4), .val (.int p5), .val (.int p6), .val (.int n.toInt32), .val (.int d1.toInt32), .val (.int d2.toInt32), .val (.int d3.toInt32), .val (.int bl.toInt32), .val (.long sv), .second, .val (.ref o), .val (.int (1 : Int32)), .val (.int (-1 : Int32)), .unset] [])) _
    refine XS.iload Xl3.here hx rfl (hb hby at_176) rfl ?_
    show Steps p.tables e below (Tl3.setTop (mkF m 178 #[.val (.int p1), .val (.int p2), .val (.int p3), .val (.int p4), .val (.int p5), .val (.int p6), .val (.int n.toInt32), .val (.int d1.toInt32), .val (.int d2.toInt32), .val (.int d3.toInt32), .val (.int bl.toInt32), .val (.long sv), .second, .val (.ref o), .val (.int (1 : Int32)), .val (.int (-1 : Int32)), .unset] [(.int (-1 : Int32))])) _
    refine XS.iload Xl3.here hx rfl (hb hby at_178) rfl ?_
    show Steps p.tables e below (Tl3.setTop (mkF m 180 #[.val (.int p1), .val (.int p2), .val (.int p3), .val (.int p4), .val (.int p5), .val (.int p6), .val (.int n.toInt32), .val (.int d1.toInt32), .val (.int d2.toInt32), .val (.int d3.toInt32), .val (.int bl.toInt32), .val (.long sv), .second, .val (.ref o), .val (.int (1 : Int32)), .val (.int (-1 : Int32)), .unset] [(.int d1.toInt32), (.int (-1 : Int32))])) _
    refine XS.lconst Xl3.here hx rfl (hb hby at_180) ?_
    show Steps p.tables e below (Tl3.setTop (mkF m 181 #[.val (.int p1), .val (.int p2), .val (.int p3), .val (.int p4), .val (.int p5), .val (.int p6), .val (.int n.toInt32), .val (.int d1.toInt32), .val (.int d2.toInt32), .val (.int d3.toInt32), .val (.int bl.toInt32), .val (.long sv), .second, .val (.ref o), .val (.int (1 : Int32)), .val (.int (-1 : Int32)), .unset] [(.long (1 : Int64)), (.int d1.toInt32), (.int (-1 : Int32))])) _
    refine XS.iload Xl3.here hx rfl (hb hby at_181) rfl ?_
    show Steps p.tables e below (Tl3.setTop (mkF m 183 #[.val (.int p1), .val (.int p2), .val (.int p3), .val (.int p4), .val (.int p5), .val (.int p6), .val (.int n.toInt32), .val (.int d1.toInt32), .val (.int d2.toInt32), .val (.int d3.toInt32), .val (.int bl.toInt32), .val (.long sv), .second, .val (.ref o), .val (.int (1 : Int32)), .val (.int (-1 : Int32)), .unset] [(.int bl.toInt32), (.long (1 : Int64)), (.int d1.toInt32), (.int (-1 : Int32))])) _
    refine XS.lload Xl3.here hx rfl (hb hby at_183) rfl ?_
    show Steps p.tables e below (Tl3.setTop (mkF m 185 #[.val (.int p1), .val (.int p2), .val (.int p3), .val (.int p4), .val (.int p5), .val (.int p6), .val (.int n.toInt32), .val (.int d1.toInt32), .val (.int d2.toInt32), .val (.int d3.toInt32), .val (.int bl.toInt32), .val (.long sv), .second, .val (.ref o), .val (.int (1 : Int32)), .val (.int (-1 : Int32)), .unset] [(.long sv), (.int bl.toInt32), (.long (1 : Int64)), (.int d1.toInt32), (.int (-1 : Int32))])) _
    refine stc0 _ ?_
    show Steps p.tables e below (Tc0.setTop (mkF m 188 #[.val (.int p1), .val (.int p2), .val (.int p3), .val (.int p4), .val (.int p5), .val (.int p6), .val (.int n.toInt32), .val (.int d1.toInt32), .val (.int d2.toInt32), .val (.int d3.toInt32), .val (.int bl.toInt32), .val (.long sv), .second, .val (.ref o), .val (.int (1 : Int32)), .val (.int (-1 : Int32)), .unset] [(.int (own_cd (-1 : Int32) d1.toInt32 (1 : Int64) bl.toInt32 sv))])) _
    rw [← hr1]
    exact k
  obtain ⟨_, _, ⟨Tc1, Lc1, kc1, nc1⟩, -, Xc1, ⟨Lcc1, hQc1, lc1, yc1, zc1⟩, stc1⟩ := Jvm.LawKit.callS Xc0 hx (y := (⟨"com/example/mutableau/mutableau/formula/BindingReferencesReferPinLaw", "cand", "(IIJIJ)I"⟩ : MethodName)) hown (mvT hZ (hw _ (List.mem_of_getElem? (i := 40) rfl))) (mvT hZ (hw _ (List.mem_of_getElem? (i := 41) rfl))) (mvT hZ (hw _ (List.mem_of_getElem? (i := 42) rfl))) (mvT hZ (hw _ (List.mem_of_getElem? (i := 43) rfl))) (by decide) (backOf (W := 0) (rm_cd l Z a0 hw [] r1 d2.toInt32 (2 : Int64) bl.toInt32 sv Tr2.heap n0) hZ (hw _ (List.mem_of_getElem? (i := 43) rfl)) (hw _ (List.mem_of_getElem? (i := 42) rfl)) (by decide) (by decide)) (g := (mkF m 201 #[.val (.int p1), .val (.int p2), .val (.int p3), .val (.int p4), .val (.int p5), .val (.int p6), .val (.int n.toInt32), .val (.int d1.toInt32), .val (.int d2.toInt32), .val (.int d3.toInt32), .val (.int bl.toInt32), .val (.long sv), .second, .val (.ref o), .val (.int (1 : Int32)), .val (.int r1), .unset] [(.long sv), (.int bl.toInt32), (.long (2 : Int64)), (.int d2.toInt32), (.int r1)])) rfl (by rw [hml]; rfl) (argsL := [(.int r1), (.int d2.toInt32), (.long (2 : Int64)), (.int bl.toInt32), (.long sv)]) (rest := []) (lenOf pd_cd rfl) rfl (by show 2 * 0 + _ ≤ _; exact Nat.le_of_eq rfl) (hb hby at_201) (fun _ _ => ⟨rfl, ec0, (by decide : 2 + 0 ≤ _), (by decide : 34 + 0 ≤ _)⟩)
  dsimp only [Pt.U, Pt.locs, Pt.cells, Pt.slots] at Xc1 lc1 yc1 zc1 stc1 hQc1
  subst lc1 yc1 zc1
  obtain ⟨rfl, Nc1q, ec1⟩ := hQc1
  have Nc1 := Fr.app Nc0 Nc1q
  obtain ⟨r2, hr2⟩ : ∃ z : Int32, z = (own_cd r1 d2.toInt32 (2 : Int64) bl.toInt32 sv) := ⟨_, rfl⟩
  have Pc1 : ∀ t, Steps p.tables e below (Tc1.setTop (mkF m 204 #[.val (.int p1), .val (.int p2), .val (.int p3), .val (.int p4), .val (.int p5), .val (.int p6), .val (.int n.toInt32), .val (.int d1.toInt32), .val (.int d2.toInt32), .val (.int d3.toInt32), .val (.int bl.toInt32), .val (.long sv), .second, .val (.ref o), .val (.int (1 : Int32)), .val (.int r1), .unset] [(.int r2)])) t → Steps p.tables e below (s₁.setTop (entryFrame m #[(.int p1), (.int p2), (.int p3), (.int p4), (.int p5), (.int p6)] maxLocals)) t := by
    intro t k
    refine Pc0 t ?_
    show Steps p.tables e below (Tc0.setTop (mkF m 188 #[.val (.int p1), .val (.int p2), .val (.int p3), .val (.int p4), .val (.int p5), .val (.int p6), .val (.int n.toInt32), .val (.int d1.toInt32), .val (.int d2.toInt32), .val (.int d3.toInt32), .val (.int bl.toInt32), .val (.long sv), .second, .val (.ref o), .val (.int (1 : Int32)), .val (.int (-1 : Int32)), .unset] [(.int r1)])) _
    refine XS.istore Xc0.here hx rfl (hb hby at_188) rfl (l' := #[.val (.int p1), .val (.int p2), .val (.int p3), .val (.int p4), .val (.int p5), .val (.int p6), .val (.int n.toInt32), .val (.int d1.toInt32), .val (.int d2.toInt32), .val (.int d3.toInt32), .val (.int bl.toInt32), .val (.long sv), .second, .val (.ref o), .val (.int (1 : Int32)), .val (.int r1), .unset]) rfl ?_
    show Steps p.tables e below (Tc0.setTop (mkF m 190 #[.val (.int p1), .val (.int p2), .val (.int p3), .val (.int p4), .val (.int p5), .val (.int p6), .val (.int n.toInt32), .val (.int d1.toInt32), .val (.int d2.toInt32), .val (.int d3.toInt32), .val (.int bl.toInt32), .val (.long sv), .second, .val (.ref o), .val (.int (1 : Int32)), .val (.int r1), .unset] [])) _
    refine XS.iload Xc0.here hx rfl (hb hby at_190) rfl ?_
    show Steps p.tables e below (Tc0.setTop (mkF m 192 #[.val (.int p1), .val (.int p2), .val (.int p3), .val (.int p4), .val (.int p5), .val (.int p6), .val (.int n.toInt32), .val (.int d1.toInt32), .val (.int d2.toInt32), .val (.int d3.toInt32), .val (.int bl.toInt32), .val (.long sv), .second, .val (.ref o), .val (.int (1 : Int32)), .val (.int r1), .unset] [(.int r1)])) _
    refine XS.iload Xc0.here hx rfl (hb hby at_192) rfl ?_
    show Steps p.tables e below (Tc0.setTop (mkF m 194 #[.val (.int p1), .val (.int p2), .val (.int p3), .val (.int p4), .val (.int p5), .val (.int p6), .val (.int n.toInt32), .val (.int d1.toInt32), .val (.int d2.toInt32), .val (.int d3.toInt32), .val (.int bl.toInt32), .val (.long sv), .second, .val (.ref o), .val (.int (1 : Int32)), .val (.int r1), .unset] [(.int d2.toInt32), (.int r1)])) _
    refine Jvm.Stand.ldc2J Xc0 hx hown (mvT hZ (hw _ (List.mem_of_getElem? (i := 38) rfl))) rfl (hb hby at_194) ?_
    show Steps p.tables e below (Tc0.setTop (mkF m 197 #[.val (.int p1), .val (.int p2), .val (.int p3), .val (.int p4), .val (.int p5), .val (.int p6), .val (.int n.toInt32), .val (.int d1.toInt32), .val (.int d2.toInt32), .val (.int d3.toInt32), .val (.int bl.toInt32), .val (.long sv), .second, .val (.ref o), .val (.int (1 : Int32)), .val (.int r1), .unset] [(.long (2 : Int64)), (.int d2.toInt32), (.int r1)])) _
    refine XS.iload Xc0.here hx rfl (hb hby at_197) rfl ?_
    show Steps p.tables e below (Tc0.setTop (mkF m 199 #[.val (.int p1), .val (.int p2), .val (.int p3), .val (.int p4), .val (.int p5), .val (.int p6), .val (.int n.toInt32), .val (.int d1.toInt32), .val (.int d2.toInt32), .val (.int d3.toInt32), .val (.int bl.toInt32), .val (.long sv), .second, .val (.ref o), .val (.int (1 : Int32)), .val (.int r1), .unset] [(.int bl.toInt32), (.long (2 : Int64)), (.int d2.toInt32), (.int r1)])) _
    refine XS.lload Xc0.here hx rfl (hb hby at_199) rfl ?_
    show Steps p.tables e below (Tc0.setTop (mkF m 201 #[.val (.int p1), .val (.int p2), .val (.int p3), .val (.int p4), .val (.int p5), .val (.int p6), .val (.int n.toInt32), .val (.int d1.toInt32), .val (.int d2.toInt32), .val (.int d3.toInt32), .val (.int bl.toInt32), .val (.long sv), .second, .val (.ref o), .val (.int (1 : Int32)), .val (.int r1), .unset] [(.long sv), (.int bl.toInt32), (.long (2 : Int64)), (.int d2.toInt32), (.int r1)])) _
    refine stc1 _ ?_
    show Steps p.tables e below (Tc1.setTop (mkF m 204 #[.val (.int p1), .val (.int p2), .val (.int p3), .val (.int p4), .val (.int p5), .val (.int p6), .val (.int n.toInt32), .val (.int d1.toInt32), .val (.int d2.toInt32), .val (.int d3.toInt32), .val (.int bl.toInt32), .val (.long sv), .second, .val (.ref o), .val (.int (1 : Int32)), .val (.int r1), .unset] [(.int (own_cd r1 d2.toInt32 (2 : Int64) bl.toInt32 sv))])) _
    rw [← hr2]
    exact k
  obtain ⟨_, _, ⟨Tc2, Lc2, kc2, nc2⟩, -, Xc2, ⟨Lcc2, hQc2, lc2, yc2, zc2⟩, stc2⟩ := Jvm.LawKit.callS Xc1 hx (y := (⟨"com/example/mutableau/mutableau/formula/BindingReferencesReferPinLaw", "cand", "(IIJIJ)I"⟩ : MethodName)) hown (mvT hZ (hw _ (List.mem_of_getElem? (i := 40) rfl))) (mvT hZ (hw _ (List.mem_of_getElem? (i := 41) rfl))) (mvT hZ (hw _ (List.mem_of_getElem? (i := 42) rfl))) (mvT hZ (hw _ (List.mem_of_getElem? (i := 43) rfl))) (by decide) (backOf (W := 0) (rm_cd l Z a0 hw [] r2 d3.toInt32 (3 : Int64) bl.toInt32 sv Tr2.heap n0) hZ (hw _ (List.mem_of_getElem? (i := 43) rfl)) (hw _ (List.mem_of_getElem? (i := 42) rfl)) (by decide) (by decide)) (g := (mkF m 217 #[.val (.int p1), .val (.int p2), .val (.int p3), .val (.int p4), .val (.int p5), .val (.int p6), .val (.int n.toInt32), .val (.int d1.toInt32), .val (.int d2.toInt32), .val (.int d3.toInt32), .val (.int bl.toInt32), .val (.long sv), .second, .val (.ref o), .val (.int (1 : Int32)), .val (.int r2), .unset] [(.long sv), (.int bl.toInt32), (.long (3 : Int64)), (.int d3.toInt32), (.int r2)])) rfl (by rw [hml]; rfl) (argsL := [(.int r2), (.int d3.toInt32), (.long (3 : Int64)), (.int bl.toInt32), (.long sv)]) (rest := []) (lenOf pd_cd rfl) rfl (by show 2 * 0 + _ ≤ _; exact Nat.le_of_eq rfl) (hb hby at_217) (fun _ _ => ⟨rfl, ec1, (by decide : 2 + 0 ≤ _), (by decide : 34 + 0 ≤ _)⟩)
  dsimp only [Pt.U, Pt.locs, Pt.cells, Pt.slots] at Xc2 lc2 yc2 zc2 stc2 hQc2
  subst lc2 yc2 zc2
  obtain ⟨rfl, Nc2q, ec2⟩ := hQc2
  have Nc2 := Fr.app Nc1 Nc2q
  obtain ⟨r3, hr3⟩ : ∃ z : Int32, z = (own_cd r2 d3.toInt32 (3 : Int64) bl.toInt32 sv) := ⟨_, rfl⟩
  have Pc2 : ∀ t, Steps p.tables e below (Tc2.setTop (mkF m 220 #[.val (.int p1), .val (.int p2), .val (.int p3), .val (.int p4), .val (.int p5), .val (.int p6), .val (.int n.toInt32), .val (.int d1.toInt32), .val (.int d2.toInt32), .val (.int d3.toInt32), .val (.int bl.toInt32), .val (.long sv), .second, .val (.ref o), .val (.int (1 : Int32)), .val (.int r2), .unset] [(.int r3)])) t → Steps p.tables e below (s₁.setTop (entryFrame m #[(.int p1), (.int p2), (.int p3), (.int p4), (.int p5), (.int p6)] maxLocals)) t := by
    intro t k
    refine Pc1 t ?_
    show Steps p.tables e below (Tc1.setTop (mkF m 204 #[.val (.int p1), .val (.int p2), .val (.int p3), .val (.int p4), .val (.int p5), .val (.int p6), .val (.int n.toInt32), .val (.int d1.toInt32), .val (.int d2.toInt32), .val (.int d3.toInt32), .val (.int bl.toInt32), .val (.long sv), .second, .val (.ref o), .val (.int (1 : Int32)), .val (.int r1), .unset] [(.int r2)])) _
    refine XS.istore Xc1.here hx rfl (hb hby at_204) rfl (l' := #[.val (.int p1), .val (.int p2), .val (.int p3), .val (.int p4), .val (.int p5), .val (.int p6), .val (.int n.toInt32), .val (.int d1.toInt32), .val (.int d2.toInt32), .val (.int d3.toInt32), .val (.int bl.toInt32), .val (.long sv), .second, .val (.ref o), .val (.int (1 : Int32)), .val (.int r2), .unset]) rfl ?_
    show Steps p.tables e below (Tc1.setTop (mkF m 206 #[.val (.int p1), .val (.int p2), .val (.int p3), .val (.int p4), .val (.int p5), .val (.int p6), .val (.int n.toInt32), .val (.int d1.toInt32), .val (.int d2.toInt32), .val (.int d3.toInt32), .val (.int bl.toInt32), .val (.long sv), .second, .val (.ref o), .val (.int (1 : Int32)), .val (.int r2), .unset] [])) _
    refine XS.iload Xc1.here hx rfl (hb hby at_206) rfl ?_
    show Steps p.tables e below (Tc1.setTop (mkF m 208 #[.val (.int p1), .val (.int p2), .val (.int p3), .val (.int p4), .val (.int p5), .val (.int p6), .val (.int n.toInt32), .val (.int d1.toInt32), .val (.int d2.toInt32), .val (.int d3.toInt32), .val (.int bl.toInt32), .val (.long sv), .second, .val (.ref o), .val (.int (1 : Int32)), .val (.int r2), .unset] [(.int r2)])) _
    refine XS.iload Xc1.here hx rfl (hb hby at_208) rfl ?_
    show Steps p.tables e below (Tc1.setTop (mkF m 210 #[.val (.int p1), .val (.int p2), .val (.int p3), .val (.int p4), .val (.int p5), .val (.int p6), .val (.int n.toInt32), .val (.int d1.toInt32), .val (.int d2.toInt32), .val (.int d3.toInt32), .val (.int bl.toInt32), .val (.long sv), .second, .val (.ref o), .val (.int (1 : Int32)), .val (.int r2), .unset] [(.int d3.toInt32), (.int r2)])) _
    refine Jvm.Stand.ldc2J Xc1 hx hown (mvT hZ (hw _ (List.mem_of_getElem? (i := 39) rfl))) rfl (hb hby at_210) ?_
    show Steps p.tables e below (Tc1.setTop (mkF m 213 #[.val (.int p1), .val (.int p2), .val (.int p3), .val (.int p4), .val (.int p5), .val (.int p6), .val (.int n.toInt32), .val (.int d1.toInt32), .val (.int d2.toInt32), .val (.int d3.toInt32), .val (.int bl.toInt32), .val (.long sv), .second, .val (.ref o), .val (.int (1 : Int32)), .val (.int r2), .unset] [(.long (3 : Int64)), (.int d3.toInt32), (.int r2)])) _
    refine XS.iload Xc1.here hx rfl (hb hby at_213) rfl ?_
    show Steps p.tables e below (Tc1.setTop (mkF m 215 #[.val (.int p1), .val (.int p2), .val (.int p3), .val (.int p4), .val (.int p5), .val (.int p6), .val (.int n.toInt32), .val (.int d1.toInt32), .val (.int d2.toInt32), .val (.int d3.toInt32), .val (.int bl.toInt32), .val (.long sv), .second, .val (.ref o), .val (.int (1 : Int32)), .val (.int r2), .unset] [(.int bl.toInt32), (.long (3 : Int64)), (.int d3.toInt32), (.int r2)])) _
    refine XS.lload Xc1.here hx rfl (hb hby at_215) rfl ?_
    show Steps p.tables e below (Tc1.setTop (mkF m 217 #[.val (.int p1), .val (.int p2), .val (.int p3), .val (.int p4), .val (.int p5), .val (.int p6), .val (.int n.toInt32), .val (.int d1.toInt32), .val (.int d2.toInt32), .val (.int d3.toInt32), .val (.int bl.toInt32), .val (.long sv), .second, .val (.ref o), .val (.int (1 : Int32)), .val (.int r2), .unset] [(.long sv), (.int bl.toInt32), (.long (3 : Int64)), (.int d3.toInt32), (.int r2)])) _
    refine stc2 _ ?_
    show Steps p.tables e below (Tc2.setTop (mkF m 220 #[.val (.int p1), .val (.int p2), .val (.int p3), .val (.int p4), .val (.int p5), .val (.int p6), .val (.int n.toInt32), .val (.int d1.toInt32), .val (.int d2.toInt32), .val (.int d3.toInt32), .val (.int bl.toInt32), .val (.long sv), .second, .val (.ref o), .val (.int (1 : Int32)), .val (.int r2), .unset] [(.int (own_cd r2 d3.toInt32 (3 : Int64) bl.toInt32 sv))])) _
    rw [← hr3]
    exact k
  obtain ⟨cqv, kqv, qva, qvb, qvc⟩ := isOf hZ ec2 Er2
  obtain ⟨_, _, ⟨Tv, Lv, kv, nv⟩, -, Xv, ⟨Lcv, hQv, lv, yv, zv⟩, stv⟩ := Xc2.virtualBack hx (y := (⟨"com/example/mutableau/mutableau/formula/BindingReferences", "innermostSince", "(IJ)I"⟩ : MethodName)) (z := (⟨"com/example/mutableau/mutableau/formula/BindingReferences", "innermostSince", "(IJ)I"⟩ : MethodName)) hown (mvT hZ (hw _ (List.mem_of_getElem? (i := 44) rfl))) (mvT hZ (hw _ (List.mem_of_getElem? (i := 45) rfl))) (notFace_of_selects (args := #[]) (mvT hZ (hw _ (List.mem_of_getElem? (i := 47) rfl)))) (mvT hZ (hw _ (List.mem_of_getElem? (i := 47) rfl))) (mvT hZ (hw _ (List.mem_of_getElem? (i := 46) rfl))) (by decide) (backOf (W := 0) (rm_in l Z a0 hw [] o bl.toInt32 sv Tr2.heap n0 b pw q hqp (by omega) (by rw [own_t (by omega)]; omega) f3 F1r2 F2r2 Ar2 t3) hZ (hw _ (List.mem_of_getElem? (i := 48) rfl)) (hw _ (List.mem_of_getElem? (i := 3) rfl)) (by decide) (by decide)) qva qvc (g := (mkF m 228 #[.val (.int p1), .val (.int p2), .val (.int p3), .val (.int p4), .val (.int p5), .val (.int p6), .val (.int n.toInt32), .val (.int d1.toInt32), .val (.int d2.toInt32), .val (.int d3.toInt32), .val (.int bl.toInt32), .val (.long sv), .second, .val (.ref o), .val (.int (1 : Int32)), .val (.int r3), .unset] [(.long sv), (.int bl.toInt32), (.ref o)])) rfl (by rw [hml]; rfl) (Steps.refl _) (argsL := [(.int bl.toInt32), (.long sv)]) (rest := []) (lenOf pd_in rfl) rfl (by show 2 * 0 + _ ≤ _; exact Nat.le_of_eq rfl) (hb hby at_228) (fun _ _ => ⟨rfl, ec2, (by decide : 2 + 0 ≤ _), (by decide : 34 + 0 ≤ _)⟩)
  dsimp only [Pt.U, Pt.locs, Pt.cells, Pt.slots] at Xv lv yv zv stv hQv
  subst lv yv zv
  obtain ⟨rfl, Nvq, ev⟩ := hQv
  have Nv := Fr.app Nc2 Nvq
  have Pv : ∀ t, Steps p.tables e below (Tv.setTop (mkF m 231 #[.val (.int p1), .val (.int p2), .val (.int p3), .val (.int p4), .val (.int p5), .val (.int p6), .val (.int n.toInt32), .val (.int d1.toInt32), .val (.int d2.toInt32), .val (.int d3.toInt32), .val (.int bl.toInt32), .val (.long sv), .second, .val (.ref o), .val (.int (1 : Int32)), .val (.int r3), .unset] [(.int (own_ri pw f3 sv bl.toInt32))])) t → Steps p.tables e below (s₁.setTop (entryFrame m #[(.int p1), (.int p2), (.int p3), (.int p4), (.int p5), (.int p6)] maxLocals)) t := by
    intro t k
    refine Pc2 t ?_
    show Steps p.tables e below (Tc2.setTop (mkF m 220 #[.val (.int p1), .val (.int p2), .val (.int p3), .val (.int p4), .val (.int p5), .val (.int p6), .val (.int n.toInt32), .val (.int d1.toInt32), .val (.int d2.toInt32), .val (.int d3.toInt32), .val (.int bl.toInt32), .val (.long sv), .second, .val (.ref o), .val (.int (1 : Int32)), .val (.int r2), .unset] [(.int r3)])) _
    refine XS.istore Xc2.here hx rfl (hb hby at_220) rfl (l' := #[.val (.int p1), .val (.int p2), .val (.int p3), .val (.int p4), .val (.int p5), .val (.int p6), .val (.int n.toInt32), .val (.int d1.toInt32), .val (.int d2.toInt32), .val (.int d3.toInt32), .val (.int bl.toInt32), .val (.long sv), .second, .val (.ref o), .val (.int (1 : Int32)), .val (.int r3), .unset]) rfl ?_
    show Steps p.tables e below (Tc2.setTop (mkF m 222 #[.val (.int p1), .val (.int p2), .val (.int p3), .val (.int p4), .val (.int p5), .val (.int p6), .val (.int n.toInt32), .val (.int d1.toInt32), .val (.int d2.toInt32), .val (.int d3.toInt32), .val (.int bl.toInt32), .val (.long sv), .second, .val (.ref o), .val (.int (1 : Int32)), .val (.int r3), .unset] [])) _
    refine XS.aload Xc2.here hx rfl (hb hby at_222) rfl rfl ?_
    show Steps p.tables e below (Tc2.setTop (mkF m 224 #[.val (.int p1), .val (.int p2), .val (.int p3), .val (.int p4), .val (.int p5), .val (.int p6), .val (.int n.toInt32), .val (.int d1.toInt32), .val (.int d2.toInt32), .val (.int d3.toInt32), .val (.int bl.toInt32), .val (.long sv), .second, .val (.ref o), .val (.int (1 : Int32)), .val (.int r3), .unset] [(.ref o)])) _
    refine XS.iload Xc2.here hx rfl (hb hby at_224) rfl ?_
    show Steps p.tables e below (Tc2.setTop (mkF m 226 #[.val (.int p1), .val (.int p2), .val (.int p3), .val (.int p4), .val (.int p5), .val (.int p6), .val (.int n.toInt32), .val (.int d1.toInt32), .val (.int d2.toInt32), .val (.int d3.toInt32), .val (.int bl.toInt32), .val (.long sv), .second, .val (.ref o), .val (.int (1 : Int32)), .val (.int r3), .unset] [(.int bl.toInt32), (.ref o)])) _
    refine XS.lload Xc2.here hx rfl (hb hby at_226) rfl ?_
    show Steps p.tables e below (Tc2.setTop (mkF m 228 #[.val (.int p1), .val (.int p2), .val (.int p3), .val (.int p4), .val (.int p5), .val (.int p6), .val (.int n.toInt32), .val (.int d1.toInt32), .val (.int d2.toInt32), .val (.int d3.toInt32), .val (.int bl.toInt32), .val (.long sv), .second, .val (.ref o), .val (.int (1 : Int32)), .val (.int r3), .unset] [(.long sv), (.int bl.toInt32), (.ref o)])) _
    refine stv.trans ?_
    exact k
  have heq : (own_ri pw f3 sv bl.toInt32) = r3 := by
    apply Int32.toInt_inj.mp
    have ht : own_tree (2 ^ pw) f3 := hqp ▸ t3
    have hbt : bl.toInt32.toInt = bl := own_t (by omega)
    have R := own_ri_spec (sv := sv) (p1 := bl.toInt32) ht (by omega) (by rw [hbt]; omega)
    rw [hbt, ← hqp] at R
    refine own_spec_uniq R (own_three hbt (own_t (by omega)) (own_t (by omega)) (own_t (by omega)) hs0 (fun e he => ?_) hr1 hr2 hr3)
    show (f3 (q + e)).toInt = _
    rw [l3 e (by omega), l2 e (by omega), l1 e (by omega)]
    rfl
  obtain ⟨fs, hr, hrun, hended, hW, hsame⟩ := Xv.leave (v := some (.int (1 : Int32))) (fun h => by rw [Bd.returns] at h; cases h)
  refine ⟨_, _, Pv _ ?_, hrun, hended, _, _, rfl, ⟨rfl, Nv⟩, ⟨_, rfl⟩, hW, hsame.mono (by decide) (by decide)⟩
  show Steps p.tables e below (Tv.setTop (mkF m 231 #[.val (.int p1), .val (.int p2), .val (.int p3), .val (.int p4), .val (.int p5), .val (.int p6), .val (.int n.toInt32), .val (.int d1.toInt32), .val (.int d2.toInt32), .val (.int d3.toInt32), .val (.int bl.toInt32), .val (.long sv), .second, .val (.ref o), .val (.int (1 : Int32)), .val (.int r3), .unset] [(.int (own_ri pw f3 sv bl.toInt32))])) _
  refine XS.istore Xv.here hx rfl (hb hby at_231) rfl (l' := #[.val (.int p1), .val (.int p2), .val (.int p3), .val (.int p4), .val (.int p5), .val (.int p6), .val (.int n.toInt32), .val (.int d1.toInt32), .val (.int d2.toInt32), .val (.int d3.toInt32), .val (.int bl.toInt32), .val (.long sv), .second, .val (.ref o), .val (.int (1 : Int32)), .val (.int r3), .val (.int (own_ri pw f3 sv bl.toInt32))]) rfl ?_
  show Steps p.tables e below (Tv.setTop (mkF m 233 #[.val (.int p1), .val (.int p2), .val (.int p3), .val (.int p4), .val (.int p5), .val (.int p6), .val (.int n.toInt32), .val (.int d1.toInt32), .val (.int d2.toInt32), .val (.int d3.toInt32), .val (.int bl.toInt32), .val (.long sv), .second, .val (.ref o), .val (.int (1 : Int32)), .val (.int r3), .val (.int (own_ri pw f3 sv bl.toInt32))] [])) _
  refine XS.iload Xv.here hx rfl (hb hby at_233) rfl ?_
  have hc235 : ¬ ((1 : Int32) = (0 : Int32)) := by decide
  show Steps p.tables e below (Tv.setTop (mkF m 235 #[.val (.int p1), .val (.int p2), .val (.int p3), .val (.int p4), .val (.int p5), .val (.int p6), .val (.int n.toInt32), .val (.int d1.toInt32), .val (.int d2.toInt32), .val (.int d3.toInt32), .val (.int bl.toInt32), .val (.long sv), .second, .val (.ref o), .val (.int (1 : Int32)), .val (.int r3), .val (.int (own_ri pw f3 sv bl.toInt32))] [(.int (1 : Int32))])) _
  refine XS.ifNo Xv.here hx rfl (hb hby at_235) rfl ((if0 _ _).trans (feq hc235).1) ?_
  show Steps p.tables e below (Tv.setTop (mkF m 238 #[.val (.int p1), .val (.int p2), .val (.int p3), .val (.int p4), .val (.int p5), .val (.int p6), .val (.int n.toInt32), .val (.int d1.toInt32), .val (.int d2.toInt32), .val (.int d3.toInt32), .val (.int bl.toInt32), .val (.long sv), .second, .val (.ref o), .val (.int (1 : Int32)), .val (.int r3), .val (.int (own_ri pw f3 sv bl.toInt32))] [])) _
  refine XS.iload Xv.here hx rfl (hb hby at_238) rfl ?_
  show Steps p.tables e below (Tv.setTop (mkF m 240 #[.val (.int p1), .val (.int p2), .val (.int p3), .val (.int p4), .val (.int p5), .val (.int p6), .val (.int n.toInt32), .val (.int d1.toInt32), .val (.int d2.toInt32), .val (.int d3.toInt32), .val (.int bl.toInt32), .val (.long sv), .second, .val (.ref o), .val (.int (1 : Int32)), .val (.int r3), .val (.int (own_ri pw f3 sv bl.toInt32))] [(.int (own_ri pw f3 sv bl.toInt32))])) _
  refine XS.iload Xv.here hx rfl (hb hby at_240) rfl ?_
  have hc242 := heq
  show Steps p.tables e below (Tv.setTop (mkF m 242 #[.val (.int p1), .val (.int p2), .val (.int p3), .val (.int p4), .val (.int p5), .val (.int p6), .val (.int n.toInt32), .val (.int d1.toInt32), .val (.int d2.toInt32), .val (.int d3.toInt32), .val (.int bl.toInt32), .val (.long sv), .second, .val (.ref o), .val (.int (1 : Int32)), .val (.int r3), .val (.int (own_ri pw f3 sv bl.toInt32))] [(.int r3), (.int (own_ri pw f3 sv bl.toInt32))])) _
  refine XS.icmpNo Xv.here hx rfl (hb hby at_242) rfl (teq hc242).2 ?_
  show Steps p.tables e below (Tv.setTop (mkF m 245 #[.val (.int p1), .val (.int p2), .val (.int p3), .val (.int p4), .val (.int p5), .val (.int p6), .val (.int n.toInt32), .val (.int d1.toInt32), .val (.int d2.toInt32), .val (.int d3.toInt32), .val (.int bl.toInt32), .val (.long sv), .second, .val (.ref o), .val (.int (1 : Int32)), .val (.int r3), .val (.int (own_ri pw f3 sv bl.toInt32))] [])) _
  refine XS.iconst Xv.here hx rfl (hb hby at_245) ?_
  show Steps p.tables e below (Tv.setTop (mkF m 246 #[.val (.int p1), .val (.int p2), .val (.int p3), .val (.int p4), .val (.int p5), .val (.int p6), .val (.int n.toInt32), .val (.int d1.toInt32), .val (.int d2.toInt32), .val (.int d3.toInt32), .val (.int bl.toInt32), .val (.long sv), .second, .val (.ref o), .val (.int (1 : Int32)), .val (.int r3), .val (.int (own_ri pw f3 sv bl.toInt32))] [(.int (1 : Int32))])) _
  refine XS.goto Xv.here hx rfl (pc0 := 246) (pc' := 250) rfl (hb hby at_246) (by decide) (by decide) ?_
  show Steps p.tables e below (Tv.setTop (mkF m 250 #[.val (.int p1), .val (.int p2), .val (.int p3), .val (.int p4), .val (.int p5), .val (.int p6), .val (.int n.toInt32), .val (.int d1.toInt32), .val (.int d2.toInt32), .val (.int d3.toInt32), .val (.int bl.toInt32), .val (.long sv), .second, .val (.ref o), .val (.int (1 : Int32)), .val (.int r3), .val (.int (own_ri pw f3 sv bl.toInt32))] [(.int (1 : Int32))])) _
  exact retN Xv hx (t := .boolean) Bd.returns (by simp) (hb hby at_250) hr
set_option maxRecDepth 65536 in
set_option maxHeartbeats 40000000 in
theorem comes_1 {Post : Tables → Env → Array Value → State → Outcome → State → Prop} (hpost : ∀ tb e args s v u, (limb_1_1.after args s (.returned v) u = true ∧ limb_1_2.after args s (.returned v) u = true ∧ True) → FrameEnd s (.returned v) u (Jvm.fieldLocs frame_1_writes args s ++ Jvm.arrayLocs frame_1_arrays args s ++ Jvm.staticLocs frame_1_statics s) 16 192 → Post tb e args s (.returned v) u) :
    ArmFor flags0 classFile x code maxLocals ret World_1 tables_1 room_1 Calls_1 rest_1 Pre_1 Post := by
  intro l hfl _ _ p e ha hc hk s m args below hf hA hF happ hP
  obtain ⟨hcalls, hrest, hpre⟩ := hP
  obtain ⟨-, -, -, hnamed, -, -, -, hat⟩ := (Spec.applies_iff hf).mp happ
  obtain ⟨hg, hn⟩ := and_e (Cond.before_iff.mp (show (Jvm.Cond.and given_1 narrow_1).before args s = true from hpre))
  obtain ⟨gc, gr0⟩ := and_e hg
  obtain ⟨g0, gr1⟩ := and_e gr0
  obtain ⟨g1, gr2⟩ := and_e gr1
  obtain ⟨g2, gr3⟩ := and_e gr2
  obtain ⟨g3, gr4⟩ := and_e gr3
  obtain ⟨g4, gr5⟩ := and_e gr4
  obtain ⟨w0, w1, w2, w3, w4, w5, rfl⟩ : ∃ w0 w1 w2 w3 w4 w5 : Value, args = #[w0, w1, w2, w3, w4, w5] := by
    have hs : args.size = 6 := by simpa [Cond.value, given_1] using gc
    obtain ⟨L⟩ := args
    match L, hs with
    | [w0, w1, w2, w3, w4, w5], _ => exact ⟨w0, w1, w2, w3, w4, w5, rfl⟩
  have hw := fun d (hd : d ∈ tables_1) => atoms_spec (ws := Jvm.Cond.code x code maxLocals ret :: tables_1) hat d (List.mem_cons_of_mem _ hd)
  obtain ⟨i0, ei0⟩ := is_v g0
  obtain rfl : w0 = (.int i0) := Option.some.inj ei0
  obtain ⟨i1, ei1⟩ := is_v g1
  obtain rfl : w1 = (.int i1) := Option.some.inj ei1
  obtain ⟨i2, ei2⟩ := is_v g2
  obtain rfl : w2 = (.int i2) := Option.some.inj ei2
  obtain ⟨i3, ei3⟩ := is_v g3
  obtain rfl : w3 = (.int i3) := Option.some.inj ei3
  obtain ⟨i4, ei4⟩ := is_v g4
  obtain rfl : w4 = (.int i4) := Option.some.inj ei4
  obtain ⟨i5, ei5⟩ := is_v gr5
  obtain rfl : w5 = (.int i5) := Option.some.inj ei5
  obtain ⟨n, o, h1, h2, h3, _, L, rfl, ⟨rfl, N⟩, hq⟩ := rm0 l s _ hw tables_1 i0 i1 i2 i3 i4 i5 s.heap s.heap.size (Nat.le_refl _) p e ha hc hk s m _ below hf ((Spec.applies_iff_loose hf).mp happ).1 ⟨rfl, State.Warmed39.refl s, rfl⟩ trivial
  refine ⟨n, _, h1, h2, h3, hpost _ _ _ _ _ _ ⟨Cond.after_iff.mpr rfl, Cond.after_iff.mpr (eq_i res_at (Term.int_eval (1)) rfl), trivial⟩ ⟨hq.1, hq.2.1, (hq.2.2.sift fun y hy => Or.inr (N y hy)).mono (by decide) (by decide)⟩⟩
theorem main_1_1 : Claimed_1_1 := comes_1 fun _ _ _ _ _ _ h hF => ⟨h.1, hF⟩
theorem main_1_2 : Claimed_1_2 := comes_1 fun _ _ _ _ _ _ h hF => ⟨h.2.1, hF⟩
end Jvm.Pilot.@@N@@
namespace Jvm.Pilot.@@N@@
open Jvm Jvm.ClassFile Sem Op Lib Jvm.Free Jvm.Stand Jvm.Pilot.@@N@@.Jvm.D
/-! MADE BY PROGRAM (witnessworld.py) out of the Statement's table words and the real class files: 17 classes; the members and pool entries that the words name. The judged class is class 1, her method 2. -/
namespace start1
open Jvm.ClassFile
def u (s : String) : CpInfo := .utf8 (stringToUtf16 s)
/-- a pool by its gaps: so many unusable entries, then the entry; so many at the end -/
def gap : Nat → List CpInfo → List CpInfo
  | 0, r => r
  | n + 1, r => .unusable :: gap n r
def poolList (es : List (Nat × CpInfo)) (last : Nat) : List CpInfo := es.foldr (fun e r => gap e.1 (e.2 :: r)) (gap last [])
def pool (es : List (Nat × CpInfo)) (last : Nat) : Array CpInfo := ⟨poolList es last⟩
def fileOf (pool : Array CpInfo) (this : Nat) (attrs : Array Attribute := #[]) (ms : Array MethodInfo := #[]) (fl : Nat := 33) (sup : Nat := 0) (ifs : Array Nat := #[]) (fds : Array FieldInfo := #[]) : ClassFile where
  minorVersion := 0
  majorVersion := 65
  constantPool := pool
  accessFlags := fl
  thisClass := this
  superClass := sup
  interfaces := ifs
  fields := fds
  methods := ms
  attributes := attrs
def plain (name : String) (sup : Option ClassId) : Class where
  name := name
  kind := .ordinary
  loader := none
  accessFlags := 33
  super := sup
  interfaces := #[]
  cf := none
  fields := #[]
  methods := #[]
  instanceTypes := #[]
  staticTypes := #[]
  resolved := #[]
  callSites := []
  init := .initialized
  statics := none
  mirror := none

def pool0 : Array CpInfo := pool [(5, u "<init>"), (0, u "()V"), (1, .class_ 10), (1, u "java/lang/Object")] 113

def k0c0 : Code := { maxStack := 0, maxLocals := 1, code := object_method_1_code, exceptionTable := #[], attributes := #[] }
def k0m0 : Method := { name := "<init>", desc := "()V", sig := { parameters := [], returnType := none }, accessFlags := 1, code := some k0c0 }
/-- java/lang/Object -/
def k0 : Class := { plain "java/lang/Object" none with
  accessFlags := 33
  interfaces := #[]
  cf := some (fileOf pool0 8 #[] #[{ accessFlags := 1, nameIndex := 5, descriptorIndex := 6, attributes := #[] }] 33 0 #[] #[])
  fields := #[]
  methods := #[k0m0]
  instanceTypes := #[]
  staticTypes := #[]
  resolved := Array.replicate 124 none
  statics := none }

def pool1 : Array CpInfo := pool [(2, .class_ 4), (1, u "java/lang/Object"), (0, u "<init>"), (0, u "()V"), (0, .methodref 8 9), (0, .class_ 10), (0, .nameAndType 11 12), (0, u "java/lang/Math"), (0, u "max"), (0, u "(II)I"), (0, .integer 2147483647), (0, .class_ 15), (0, u "com/example/mutableau/mutableau/formula/BindingReferences"), (0, .methodref 14 17), (0, .nameAndType 5 18), (0, u "(I)V"), (0, .methodref 14 20), (0, .nameAndType 21 22), (0, u "latest"), (0, u "()J"), (0, .methodref 14 24), (0, .nameAndType 25 18), (0, u "refer"), (0, .long 2), (1, .long 3), (1, .methodref 31 32), (0, .class_ 33), (0, .nameAndType 34 35), (0, u "com/example/mutableau/mutableau/formula/BindingReferencesReferPinLaw"), (0, u "cand"), (0, u "(IIJIJ)I"), (0, .methodref 14 37), (0, .nameAndType 38 39), (0, u "innermostSince"), (0, u "(IJ)I"), (3, u "law"), (0, u "(IIIIII)Z")] 2

def k1m0 : Method := { name := "<init>", desc := "()V", sig := { parameters := [], returnType := none }, accessFlags := 1, code := none }
def k1c1 : Code := { maxStack := 4, maxLocals := 7, code := method_2_code, exceptionTable := #[], attributes := #[] }
def k1m1 : Method := { name := "cand", desc := "(IIJIJ)I", sig := { parameters := [.int, .int, .long, .int, .long], returnType := some .int }, accessFlags := 10, code := some k1c1 }
def k1c2 : Code := { maxStack := 7, maxLocals := 17, code := code, exceptionTable := #[], attributes := #[] }
def k1m2 : Method := { name := "law", desc := "(IIIIII)Z", sig := { parameters := [.int, .int, .int, .int, .int, .int], returnType := some .boolean }, accessFlags := 9, code := some k1c2 }
/-- com/example/mutableau/mutableau/formula/BindingReferencesReferPinLaw -/
def k1 : Class := { plain "com/example/mutableau/mutableau/formula/BindingReferencesReferPinLaw" (some 0) with
  accessFlags := 49
  interfaces := #[]
  cf := some (fileOf pool1 31 #[] #[{ accessFlags := 1, nameIndex := 5, descriptorIndex := 6, attributes := #[] }, { accessFlags := 10, nameIndex := 34, descriptorIndex := 35, attributes := #[] }, { accessFlags := 9, nameIndex := 43, descriptorIndex := 44, attributes := #[] }] 49 2 #[] #[])
  fields := #[]
  methods := #[k1m0, k1m1, k1m2]
  instanceTypes := #[]
  staticTypes := #[]
  resolved := Array.replicate 47 none
  statics := none }

def pool2 : Array CpInfo := pool [(1, .methodref 2 3), (0, .class_ 4), (0, .nameAndType 5 6), (0, u "java/lang/Object"), (0, u "<init>"), (0, u "()V"), (0, .methodref 8 9), (0, .class_ 10), (0, .nameAndType 11 12), (0, u "java/lang/Math"), (0, u "max"), (0, u "(II)I"), (0, .methodref 14 15), (0, .class_ 16), (0, .nameAndType 17 18), (0, u "java/lang/Integer"), (0, u "highestOneBit"), (0, u "(I)I"), (0, .fieldref 20 21), (0, .class_ 22), (0, .nameAndType 23 24), (0, u "com/example/mutableau/mutableau/formula/BindingReferences"), (0, u "leaves"), (0, u "I"), (0, .fieldref 20 26), (0, .nameAndType 27 28), (0, u "latest"), (0, u "[J"), (0, u "(I)V"), (2, u "()J"), (0, u "refer"), (1, u "innermostSince"), (0, u "(IJ)I")] 2

def k2c0 : Code := { maxStack := 3, maxLocals := 2, code := prog_152_method_1_code, exceptionTable := #[], attributes := #[] }
def k2m0 : Method := { name := "<init>", desc := "(I)V", sig := { parameters := [.int], returnType := none }, accessFlags := 0, code := some k2c0 }
def k2c1 : Code := { maxStack := 2, maxLocals := 1, code := prog_152_method_2_code, exceptionTable := #[], attributes := #[] }
def k2m1 : Method := { name := "latest", desc := "()J", sig := { parameters := [], returnType := some .long }, accessFlags := 0, code := some k2c1 }
def k2c2 : Code := { maxStack := 4, maxLocals := 5, code := prog_152_method_3_code, exceptionTable := #[], attributes := #[] }
def k2m2 : Method := { name := "refer", desc := "(I)V", sig := { parameters := [.int], returnType := none }, accessFlags := 0, code := some k2c2 }
def k2c3 : Code := { maxStack := 4, maxLocals := 6, code := prog_152_method_4_code, exceptionTable := #[], attributes := #[] }
def k2m3 : Method := { name := "innermostSince", desc := "(IJ)I", sig := { parameters := [.int, .long], returnType := some .int }, accessFlags := 0, code := some k2c3 }
/-- com/example/mutableau/mutableau/formula/BindingReferences -/
def k2 : Class := { plain "com/example/mutableau/mutableau/formula/BindingReferences" (some 0) with
  accessFlags := 48
  interfaces := #[]
  cf := some (fileOf pool2 20 #[] #[{ accessFlags := 0, nameIndex := 5, descriptorIndex := 29, attributes := #[] }, { accessFlags := 0, nameIndex := 27, descriptorIndex := 32, attributes := #[] }, { accessFlags := 0, nameIndex := 33, descriptorIndex := 29, attributes := #[] }, { accessFlags := 0, nameIndex := 35, descriptorIndex := 36, attributes := #[] }] 48 2 #[] #[{ accessFlags := 18, nameIndex := 23, descriptorIndex := 24, attributes := #[] }, { accessFlags := 18, nameIndex := 27, descriptorIndex := 28, attributes := #[] }])
  fields := #[{ name := "leaves", type := .int, accessFlags := 18, slot := 0, constantValue := 0 }, { name := "latest", type := (.array .long), accessFlags := 18, slot := 1, constantValue := 0 }]
  methods := #[k2m0, k2m1, k2m2, k2m3]
  instanceTypes := #[.int, (.array .long)]
  staticTypes := #[]
  resolved := Array.replicate 39 none
  statics := none }

def pool3 : Array CpInfo := pool [(1, .class_ 2), (0, u "java/lang/Math"), (1, .class_ 6), (1, u "java/lang/Object"), (0, u "<init>"), (0, u "()V"), (89, .class_ 100), (1, u "java/lang/Math$RandomNumberGeneratorHolder"), (71, u "negativeZeroFloatBits"), (0, u "J"), (2, u "negativeZeroDoubleBits"), (21, u "max"), (46, u "$assertionsDisabled"), (0, u "Z"), (88, u "(II)I"), (2, u "twoToTheDoubleScaleDown"), (0, u "D"), (4, u "twoToTheDoubleScaleUp"), (9, u "E"), (3, u "PI"), (2, u "TAU"), (2, u "DEGREES_TO_RADIANS"), (0, u "RADIANS_TO_DEGREES")] 94

def k3m0 : Method := { name := "<init>", desc := "()V", sig := { parameters := [], returnType := none }, accessFlags := 2, code := none }
def k3c1 : Code := { maxStack := 2, maxLocals := 2, code := jdk_29_method_65_code, exceptionTable := #[], attributes := #[] }
def k3m1 : Method := { name := "max", desc := "(II)I", sig := { parameters := [.int, .int], returnType := some .int }, accessFlags := 9, code := some k3c1 }
/-- java/lang/Math -/
def k3 : Class := { plain "java/lang/Math" (some 0) with
  accessFlags := 49
  interfaces := #[]
  cf := some (fileOf pool3 1 #[.nestMembers #[98]] #[{ accessFlags := 2, nameIndex := 7, descriptorIndex := 8, attributes := #[] }, { accessFlags := 9, nameIndex := 198, descriptorIndex := 335, attributes := #[] }] 49 4 #[] #[{ accessFlags := 25, nameIndex := 354, descriptorIndex := 339, attributes := #[] }, { accessFlags := 25, nameIndex := 358, descriptorIndex := 339, attributes := #[] }, { accessFlags := 25, nameIndex := 361, descriptorIndex := 339, attributes := #[] }, { accessFlags := 26, nameIndex := 364, descriptorIndex := 339, attributes := #[] }, { accessFlags := 26, nameIndex := 365, descriptorIndex := 339, attributes := #[] }, { accessFlags := 26, nameIndex := 172, descriptorIndex := 173, attributes := #[] }, { accessFlags := 26, nameIndex := 176, descriptorIndex := 173, attributes := #[] }, { accessFlags := 8, nameIndex := 344, descriptorIndex := 339, attributes := #[] }, { accessFlags := 8, nameIndex := 338, descriptorIndex := 339, attributes := #[] }, { accessFlags := 4120, nameIndex := 245, descriptorIndex := 246, attributes := #[] }])
  fields := #[{ name := "E", type := .double, accessFlags := 25, slot := 0, constantValue := 0 }, { name := "PI", type := .double, accessFlags := 25, slot := 1, constantValue := 0 }, { name := "TAU", type := .double, accessFlags := 25, slot := 2, constantValue := 0 }, { name := "DEGREES_TO_RADIANS", type := .double, accessFlags := 26, slot := 3, constantValue := 0 }, { name := "RADIANS_TO_DEGREES", type := .double, accessFlags := 26, slot := 4, constantValue := 0 }, { name := "negativeZeroFloatBits", type := .long, accessFlags := 26, slot := 5, constantValue := 0 }, { name := "negativeZeroDoubleBits", type := .long, accessFlags := 26, slot := 6, constantValue := 0 }, { name := "twoToTheDoubleScaleUp", type := .double, accessFlags := 8, slot := 7, constantValue := 0 }, { name := "twoToTheDoubleScaleDown", type := .double, accessFlags := 8, slot := 8, constantValue := 0 }, { name := "$assertionsDisabled", type := .boolean, accessFlags := 4120, slot := 9, constantValue := 0 }]
  methods := #[k3m0, k3m1]
  instanceTypes := #[]
  staticTypes := #[.double, .double, .double, .double, .double, .long, .long, .double, .double, .boolean]
  resolved := Array.replicate 460 none
  statics := none }

def pool4 : Array CpInfo := pool [(1, .class_ 2), (0, u "java/io/Serializable"), (0, .class_ 4), (0, u "java/lang/Object")] 2

/-- java/io/Serializable -/
def k4 : Class := { plain "java/io/Serializable" (some 0) with
  accessFlags := 1537
  interfaces := #[]
  cf := some (fileOf pool4 1 #[] #[] 1537 3 #[] #[])
  fields := #[]
  methods := #[]
  instanceTypes := #[]
  staticTypes := #[]
  resolved := Array.replicate 7 none
  statics := none }

def pool5 : Array CpInfo := pool [(2, .class_ 4), (1, u "java/lang/Object"), (0, u "<init>"), (0, u "()V"), (1, .class_ 10), (1, u "java/lang/Number"), (2, .class_ 14), (0, u "java/io/Serializable"), (0, u "serialVersionUID"), (0, u "J")] 20

def k5m0 : Method := { name := "<init>", desc := "()V", sig := { parameters := [], returnType := none }, accessFlags := 1, code := none }
/-- java/lang/Number -/
def k5 : Class := { plain "java/lang/Number" (some 0) with
  accessFlags := 1057
  interfaces := #[4]
  cf := some (fileOf pool5 8 #[] #[{ accessFlags := 1, nameIndex := 5, descriptorIndex := 6, attributes := #[] }] 1057 2 #[13] #[{ accessFlags := 26, nameIndex := 15, descriptorIndex := 16, attributes := #[] }])
  fields := #[{ name := "serialVersionUID", type := .long, accessFlags := 26, slot := 0, constantValue := 0 }]
  methods := #[k5m0]
  instanceTypes := #[]
  staticTypes := #[.long]
  resolved := Array.replicate 37 none
  statics := none }

def pool6 : Array CpInfo := pool [(1, .class_ 2), (0, u "java/lang/Comparable"), (0, .class_ 4), (0, u "java/lang/Object")] 7

/-- java/lang/Comparable -/
def k6 : Class := { plain "java/lang/Comparable" (some 0) with
  accessFlags := 1537
  interfaces := #[]
  cf := some (fileOf pool6 1 #[] #[] 1537 3 #[] #[])
  fields := #[]
  methods := #[]
  instanceTypes := #[]
  staticTypes := #[]
  resolved := Array.replicate 12 none
  statics := none }

def pool7 : Array CpInfo := pool [(1, .class_ 2), (0, u "java/lang/constant/Constable"), (0, .class_ 4), (0, u "java/lang/Object")] 6

/-- java/lang/constant/Constable -/
def k7 : Class := { plain "java/lang/constant/Constable" (some 0) with
  accessFlags := 1537
  interfaces := #[]
  cf := some (fileOf pool7 1 #[] #[] 1537 3 #[] #[])
  fields := #[]
  methods := #[]
  instanceTypes := #[]
  staticTypes := #[]
  resolved := Array.replicate 11 none
  statics := none }

def pool8 : Array CpInfo := pool [(1, .class_ 2), (0, u "java/lang/constant/ConstantDesc"), (0, .class_ 4), (0, u "java/lang/Object")] 32

/-- java/lang/constant/ConstantDesc -/
def k8 : Class := { plain "java/lang/constant/ConstantDesc" (some 0) with
  accessFlags := 1537
  interfaces := #[]
  cf := some (fileOf pool8 1 #[] #[] 1537 3 #[] #[])
  fields := #[]
  methods := #[]
  instanceTypes := #[]
  staticTypes := #[]
  resolved := Array.replicate 37 none
  statics := none }

def pool9 : Array CpInfo := pool [(1, .class_ 2), (0, u "java/lang/Integer"), (16, u "digits"), (0, u "[C"), (30, .methodref 1 52), (0, .nameAndType 53 54), (0, u "numberOfLeadingZeros"), (0, u "(I)I"), (30, u "DigitOnes"), (0, u "[B"), (2, u "DigitTens"), (37, .integer 2147483648), (61, .class_ 190), (0, u "java/lang/Integer$IntegerCache"), (3, u "I"), (8, .class_ 204), (0, u "java/lang/Number"), (2, u "value"), (56, .integer 65536), (37, u "TYPE"), (0, u "Ljava/lang/Class;"), (0, .class_ 305), (0, u "java/lang/Comparable"), (0, .class_ 307), (0, u "java/lang/constant/Constable"), (0, .class_ 309), (0, u "java/lang/constant/ConstantDesc"), (0, u "MIN_VALUE"), (1, u "MAX_VALUE"), (3, u "SIZE"), (1, u "BYTES"), (1, u "serialVersionUID"), (0, u "J"), (81, u "highestOneBit")] 49

def k9c0 : Code := { maxStack := 3, maxLocals := 1, code := jdk_33_method_45_code, exceptionTable := #[], attributes := #[] }
def k9m0 : Method := { name := "highestOneBit", desc := "(I)I", sig := { parameters := [.int], returnType := some .int }, accessFlags := 9, code := some k9c0 }
def k9c1 : Code := { maxStack := 3, maxLocals := 2, code := jdk_33_method_47_code, exceptionTable := #[], attributes := #[] }
def k9m1 : Method := { name := "numberOfLeadingZeros", desc := "(I)I", sig := { parameters := [.int], returnType := some .int }, accessFlags := 9, code := some k9c1 }
/-- java/lang/Integer -/
def k9 : Class := { plain "java/lang/Integer" (some 5) with
  accessFlags := 49
  interfaces := #[6, 7, 8]
  cf := some (fileOf pool9 1 #[.nestMembers #[189]] #[{ accessFlags := 9, nameIndex := 403, descriptorIndex := 54, attributes := #[] }, { accessFlags := 9, nameIndex := 53, descriptorIndex := 54, attributes := #[] }] 49 203 #[304, 306, 308] #[{ accessFlags := 25, nameIndex := 310, descriptorIndex := 194, attributes := #[] }, { accessFlags := 25, nameIndex := 312, descriptorIndex := 194, attributes := #[] }, { accessFlags := 25, nameIndex := 302, descriptorIndex := 303, attributes := #[] }, { accessFlags := 24, nameIndex := 19, descriptorIndex := 20, attributes := #[] }, { accessFlags := 24, nameIndex := 89, descriptorIndex := 86, attributes := #[] }, { accessFlags := 24, nameIndex := 85, descriptorIndex := 86, attributes := #[] }, { accessFlags := 18, nameIndex := 207, descriptorIndex := 194, attributes := #[] }, { accessFlags := 25, nameIndex := 316, descriptorIndex := 194, attributes := #[] }, { accessFlags := 25, nameIndex := 318, descriptorIndex := 194, attributes := #[] }, { accessFlags := 26, nameIndex := 320, descriptorIndex := 321, attributes := #[] }])
  fields := #[{ name := "MIN_VALUE", type := .int, accessFlags := 25, slot := 0, constantValue := 0 }, { name := "MAX_VALUE", type := .int, accessFlags := 25, slot := 1, constantValue := 0 }, { name := "TYPE", type := (.object "java/lang/Class"), accessFlags := 25, slot := 2, constantValue := 0 }, { name := "digits", type := (.array .char), accessFlags := 24, slot := 3, constantValue := 0 }, { name := "DigitTens", type := (.array .byte), accessFlags := 24, slot := 4, constantValue := 0 }, { name := "DigitOnes", type := (.array .byte), accessFlags := 24, slot := 5, constantValue := 0 }, { name := "value", type := .int, accessFlags := 18, slot := 0, constantValue := 0 }, { name := "SIZE", type := .int, accessFlags := 25, slot := 6, constantValue := 0 }, { name := "BYTES", type := .int, accessFlags := 25, slot := 7, constantValue := 0 }, { name := "serialVersionUID", type := .long, accessFlags := 26, slot := 8, constantValue := 0 }]
  methods := #[k9m0, k9m1]
  instanceTypes := #[.int]
  staticTypes := #[.int, .int, (.object "java/lang/Class"), (.array .char), (.array .byte), (.array .byte), .int, .int, .long]
  resolved := Array.replicate 453 none
  statics := none }

def pool10 : Array CpInfo := pool [(1, u "java/lang/Cloneable"), (0, .class_ 1), (0, u "java/lang/Object"), (0, .class_ 3)] 3

/-- java/lang/Cloneable -/
def k10 : Class := { plain "java/lang/Cloneable" (some 0) with
  accessFlags := 1537
  interfaces := #[]
  cf := some (fileOf pool10 2 #[] #[] 1537 4 #[] #[])
  fields := #[]
  methods := #[]
  instanceTypes := #[]
  staticTypes := #[]
  resolved := Array.replicate 8 none
  statics := none }

/-- the primitive byte -/
def k11 : Class := { plain "byte" none with kind := .primitive 'B', accessFlags := 0x411 }
/-- [B -/
def k12 : Class := { plain "[B" (some 0) with kind := .array 11 .byte, interfaces := #[10, 4], accessFlags := 1041 }

/-- the primitive int -/
def k13 : Class := { plain "int" none with kind := .primitive 'I', accessFlags := 0x411 }
/-- [I -/
def k14 : Class := { plain "[I" (some 0) with kind := .array 13 .int, interfaces := #[10, 4], accessFlags := 1041 }

/-- the primitive long -/
def k15 : Class := { plain "long" none with kind := .primitive 'J', accessFlags := 0x411 }
/-- [J -/
def k16 : Class := { plain "[J" (some 0) with kind := .array 15 .long, interfaces := #[10, 4], accessFlags := 1041 }

def heap : Heap := #[]
def classes : Array Class := #[k0, k1, k2, k3, k4, k5, k6, k7, k8, k9, k10, k11, k12, k13, k14, k15, k16]
def interned : List (Array UInt16 × Addr) := []
def slotsUsed : Nat := 0
def theMethod : MethodId := ⟨1, 2⟩
def args0 : Array Value := #[.int 5, .int 3, .int 7, .int 2, .int 4, .int 1]
def aboutOver (below : List Frame) : State where
  vm := { classes := classes, interned := interned.toArray }
  heap := heap
  slotsUsed := slotsUsed
  threads := #[{ frames := .invoking theMethod args0 :: below }]
def below0 : List Frame := [.native { method := ⟨0, 0⟩, args := #[] }]
def about1 : State := aboutOver below0
def p0 : Program := .bare "" "" ""
def e0 : Env := launch0.env 0 0 0
theorem w_frames : about1.frames = Frame.invoking theMethod args0 :: below0 := rfl
set_option maxRecDepth 65536 in
theorem w_args : argsFit about1.vm theMethod args0 = true := by decide +kernel
set_option maxRecDepth 65536 in
theorem w_heap : heapFits about1 = true := by decide +kernel
set_option maxRecDepth 65536 in
theorem w_runnable : about1.curStatus? = some .runnable := by decide +kernel
set_option maxRecDepth 65536 in
theorem w_alone : about1.alone = true := by decide +kernel
set_option maxRecDepth 65536 in
theorem w_named : about1.methodNamed? x = some theMethod := by decide +kernel
set_option maxRecDepth 65536 in
theorem w_hears : about1.hears theMethod below0 = true := by decide +kernel
set_option maxRecDepth 65536 in
theorem w_ripe : about1.ripe theMethod args0 below0 = true := by decide +kernel
theorem w_running : about1.status = .running := rfl
set_option maxRecDepth 65536 in
theorem w_room : about1.hasRoom e0.platform room_1 = true :=
  launch0.hasRoom_least _ room_1 (by decide +kernel) (by decide +kernel) (by decide +kernel) (by decide +kernel) (by decide +kernel) (by decide +kernel)
theorem allAtoms_all (ts : List Jvm.Cond) (a : Array Jvm.Value) (st : Jvm.State) : (allAtoms ts).before a st = ts.all (fun c => c.before a st) := by
  induction ts with
  | nil => rfl
  | cons c t ih =>
    show (Jvm.Cond.and c (allAtoms t)).before a st = _
    rw [Jvm.Cond.before_and, ih, List.all_cons]
def words1 : List Jvm.Cond := Jvm.Cond.code x code maxLocals ret :: tables_1
/-- a 'code' word, met by the world's own term for the bytes: nothing is compared byte by byte -/
theorem code_word {y : MethodName} {bytes : ByteArray} {mx : Nat} {rt : Option FieldType} {a : Array Value} {s : State} {m : MethodId} {meth : Method} {c : Code} (h1 : s.methodNamed? y = some m) (h2 : s.vm.method? m = some meth) (h3 : meth.code = some c) (h4 : c.code = bytes)
    (h5 : (c.maxLocals == mx && c.exceptionTable.isEmpty && decide (c.maxStack ≤ mostOperands) && decide (meth.sig.returnType = rt) && !meth.locks && decide (parseMethodDescriptor y.desc = some meth.sig)) = true) : (Jvm.Cond.code y bytes mx rt).before a s = true := by
  simp only [Bool.and_eq_true, beq_iff_eq, Bool.not_eq_true', decide_eq_true_eq] at h5
  obtain ⟨⟨⟨⟨⟨g1, g2⟩, g3⟩, g4⟩, g5⟩, g6⟩ := h5
  simp [Cond.before, Cond.holds, Cond.value, h1, h2, h3, h4, g1, g2, g3, g4, g5, g6]
def isCode : Jvm.Cond → Bool
  | .code _ _ _ _ => true
  | _ => false
theorem all_split {L : List Jvm.Cond} {P : Jvm.Cond → Bool} (h1 : L.all (fun c => isCode c || P c) = true) (h2 : ∀ c ∈ L.filter isCode, P c = true) : L.all P = true := by
  refine List.all_eq_true.mpr fun c hc => ?_
  have h := List.all_eq_true.mp h1 c hc
  rcases Bool.eq_false_or_eq_true (isCode c) with hi | hi
  · exact h2 c (List.mem_filter.mpr ⟨hc, hi⟩)
  · simpa [hi] using h
set_option maxRecDepth 65536 in
theorem w_c0 : (Jvm.Cond.code x code maxLocals ret).before args0 about1 = true := code_word (m := ⟨1, 2⟩) (meth := k1m2) (c := k1c2) (by decide +kernel) rfl rfl rfl (by decide +kernel)
set_option maxRecDepth 65536 in
theorem w_c1 : (Jvm.Cond.code ({ cls := "com/example/mutableau/mutableau/formula/BindingReferences", name := "<init>", desc := "(I)V" } : Jvm.MethodName) prog_152_method_1_code (2 : Nat) (Option.none : Option Jvm.ClassFile.FieldType)).before args0 about1 = true := code_word (m := ⟨2, 0⟩) (meth := k2m0) (c := k2c0) (by decide +kernel) rfl rfl rfl (by decide +kernel)
set_option maxRecDepth 65536 in
theorem w_c2 : (Jvm.Cond.code ({ cls := "java/lang/Object", name := "<init>", desc := "()V" } : Jvm.MethodName) object_method_1_code (1 : Nat) (Option.none : Option Jvm.ClassFile.FieldType)).before args0 about1 = true := code_word (m := ⟨0, 0⟩) (meth := k0m0) (c := k0c0) (by decide +kernel) rfl rfl rfl (by decide +kernel)
set_option maxRecDepth 65536 in
theorem w_c3 : (Jvm.Cond.code ({ cls := "java/lang/Math", name := "max", desc := "(II)I" } : Jvm.MethodName) jdk_29_method_65_code (2 : Nat) (Option.some Jvm.ClassFile.FieldType.int)).before args0 about1 = true := code_word (m := ⟨3, 1⟩) (meth := k3m1) (c := k3c1) (by decide +kernel) rfl rfl rfl (by decide +kernel)
set_option maxRecDepth 65536 in
theorem w_c4 : (Jvm.Cond.code ({ cls := "java/lang/Integer", name := "highestOneBit", desc := "(I)I" } : Jvm.MethodName) jdk_33_method_45_code (1 : Nat) (Option.some Jvm.ClassFile.FieldType.int)).before args0 about1 = true := code_word (m := ⟨9, 0⟩) (meth := k9m0) (c := k9c0) (by decide +kernel) rfl rfl rfl (by decide +kernel)
set_option maxRecDepth 65536 in
theorem w_c5 : (Jvm.Cond.code ({ cls := "java/lang/Integer", name := "numberOfLeadingZeros", desc := "(I)I" } : Jvm.MethodName) jdk_33_method_47_code (2 : Nat) (Option.some Jvm.ClassFile.FieldType.int)).before args0 about1 = true := code_word (m := ⟨9, 1⟩) (meth := k9m1) (c := k9c1) (by decide +kernel) rfl rfl rfl (by decide +kernel)
set_option maxRecDepth 65536 in
theorem w_c6 : (Jvm.Cond.code ({ cls := "com/example/mutableau/mutableau/formula/BindingReferences", name := "latest", desc := "()J" } : Jvm.MethodName) prog_152_method_2_code (1 : Nat) (Option.some Jvm.ClassFile.FieldType.long)).before args0 about1 = true := code_word (m := ⟨2, 1⟩) (meth := k2m1) (c := k2c1) (by decide +kernel) rfl rfl rfl (by decide +kernel)
set_option maxRecDepth 65536 in
theorem w_c7 : (Jvm.Cond.code ({ cls := "com/example/mutableau/mutableau/formula/BindingReferences", name := "refer", desc := "(I)V" } : Jvm.MethodName) prog_152_method_3_code (5 : Nat) (Option.none : Option Jvm.ClassFile.FieldType)).before args0 about1 = true := code_word (m := ⟨2, 2⟩) (meth := k2m2) (c := k2c2) (by decide +kernel) rfl rfl rfl (by decide +kernel)
set_option maxRecDepth 65536 in
theorem w_c8 : (Jvm.Cond.code ({ cls := "com/example/mutableau/mutableau/formula/BindingReferencesReferPinLaw", name := "cand", desc := "(IIJIJ)I" } : Jvm.MethodName) method_2_code (7 : Nat) (Option.some Jvm.ClassFile.FieldType.int)).before args0 about1 = true := code_word (m := ⟨1, 1⟩) (meth := k1m1) (c := k1c1) (by decide +kernel) rfl rfl rfl (by decide +kernel)
set_option maxRecDepth 65536 in
theorem w_c9 : (Jvm.Cond.code ({ cls := "com/example/mutableau/mutableau/formula/BindingReferences", name := "innermostSince", desc := "(IJ)I" } : Jvm.MethodName) prog_152_method_4_code (6 : Nat) (Option.some Jvm.ClassFile.FieldType.int)).before args0 about1 = true := code_word (m := ⟨2, 3⟩) (meth := k2m3) (c := k2c3) (by decide +kernel) rfl rfl rfl (by decide +kernel)
def codes1 : List Jvm.Cond := [Jvm.Cond.code x code maxLocals ret, Jvm.Cond.code ({ cls := "com/example/mutableau/mutableau/formula/BindingReferences", name := "<init>", desc := "(I)V" } : Jvm.MethodName) prog_152_method_1_code (2 : Nat) (Option.none : Option Jvm.ClassFile.FieldType), Jvm.Cond.code ({ cls := "java/lang/Object", name := "<init>", desc := "()V" } : Jvm.MethodName) object_method_1_code (1 : Nat) (Option.none : Option Jvm.ClassFile.FieldType), Jvm.Cond.code ({ cls := "java/lang/Math", name := "max", desc := "(II)I" } : Jvm.MethodName) jdk_29_method_65_code (2 : Nat) (Option.some Jvm.ClassFile.FieldType.int), Jvm.Cond.code ({ cls := "java/lang/Integer", name := "highestOneBit", desc := "(I)I" } : Jvm.MethodName) jdk_33_method_45_code (1 : Nat) (Option.some Jvm.ClassFile.FieldType.int), Jvm.Cond.code ({ cls := "java/lang/Integer", name := "numberOfLeadingZeros", desc := "(I)I" } : Jvm.MethodName) jdk_33_method_47_code (2 : Nat) (Option.some Jvm.ClassFile.FieldType.int), Jvm.Cond.code ({ cls := "com/example/mutableau/mutableau/formula/BindingReferences", name := "latest", desc := "()J" } : Jvm.MethodName) prog_152_method_2_code (1 : Nat) (Option.some Jvm.ClassFile.FieldType.long), Jvm.Cond.code ({ cls := "com/example/mutableau/mutableau/formula/BindingReferences", name := "refer", desc := "(I)V" } : Jvm.MethodName) prog_152_method_3_code (5 : Nat) (Option.none : Option Jvm.ClassFile.FieldType), Jvm.Cond.code ({ cls := "com/example/mutableau/mutableau/formula/BindingReferencesReferPinLaw", name := "cand", desc := "(IIJIJ)I" } : Jvm.MethodName) method_2_code (7 : Nat) (Option.some Jvm.ClassFile.FieldType.int), Jvm.Cond.code ({ cls := "com/example/mutableau/mutableau/formula/BindingReferences", name := "innermostSince", desc := "(IJ)I" } : Jvm.MethodName) prog_152_method_4_code (6 : Nat) (Option.some Jvm.ClassFile.FieldType.int)]
set_option maxRecDepth 65536 in
theorem codes_eq : words1.filter isCode = codes1 := rfl
theorem w_codes : ∀ c ∈ words1.filter isCode, c.before args0 about1 = true := by
  rw [codes_eq]
  intro c hc
  simp only [codes1, List.mem_cons, List.not_mem_nil, or_false] at hc
  rcases hc with rfl | rfl | rfl | rfl | rfl | rfl | rfl | rfl | rfl | rfl
  · exact w_c0
  · exact w_c1
  · exact w_c2
  · exact w_c3
  · exact w_c4
  · exact w_c5
  · exact w_c6
  · exact w_c7
  · exact w_c8
  · exact w_c9
set_option maxRecDepth 65536 in
theorem w_t1 : (words1.take 24).all (fun c => isCode c || c.before args0 about1) = true := by decide +kernel
set_option maxRecDepth 65536 in
theorem w_t2 : ((words1.drop 24).take 24).all (fun c => isCode c || c.before args0 about1) = true := by decide +kernel
set_option maxRecDepth 65536 in
theorem w_t3 : ((words1.drop 24).drop 24).all (fun c => isCode c || c.before args0 about1) = true := by decide +kernel
theorem w_tables : (allAtoms (Jvm.Cond.code x code maxLocals ret :: tables_1)).before args0 about1 = true := by
  rw [allAtoms_all]
  show words1.all (fun c => c.before args0 about1) = true
  refine all_split ?_ w_codes
  rw [← List.take_append_drop 24 words1, List.all_append, w_t1, ← List.take_append_drop 24 (words1.drop 24), List.all_append, w_t2, w_t3]
  rfl
set_option maxRecDepth 65536 in
theorem w_case : (Jvm.Cond.and given_1 narrow_1).before args0 about1 = true := by decide +kernel
theorem w_applies : (headSpec (Jvm.Cond.code x code maxLocals ret :: tables_1) room_1).applies x e0.platform about1 = true :=
  (Spec.applies_iff w_frames).mpr ⟨w_running, w_runnable, w_alone, w_named, w_hears, w_ripe, w_room, w_tables⟩
theorem atStart : AtStart classFile x code maxLocals ret World_1 tables_1 room_1 Calls_1 rest_1 Pre_1 launch0 p0 e0 about1 theMethod args0 below0 :=
  ⟨lists_1, trivial, launch0.admits_env _ _ _, launch0.least_env, fairChoices_fair.cas, fairChoices_fair.clock, w_frames, w_args, w_heap, w_applies, trivial, trivial, w_case⟩
end start1
theorem witness_1 : WitnessClaimed_1 := ⟨start1.p0, start1.e0, start1.about1, start1.theMethod, start1.args0, start1.below0, start1.atStart⟩
end Jvm.Pilot.@@N@@
