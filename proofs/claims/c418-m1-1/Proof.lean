import JvmDerived
import JvmDerived.Pilot.@@N@@Statement
import JvmDerived.Pilot.@@N@@Code
set_option linter.unusedVariables false
set_option linter.unusedSimpArgs false
namespace Jvm.RoadKit
open Sem ClassFile Op Lib Jvm.Stand Jvm.Free Jvm.LawKit
section New
variable {p : Program} {l : Launch} {e : Env} {R : Room} {s : State} {m : MethodId} {args : Array Value} {below : List Frame} {meth : Method} {c : Code} {T : State} {locs : List Loc} {cells slots : Nat}
theorem retI (X : Stand p l e R s m args below meth c T locs cells slots) (hx : p.tables.exec = Jvm.exec) {pc : Nat} {Ls : Array Slot} {z : Int32} {rest : List Value} (hret : meth.sig.returnType = some .int) (hd : decode c.code pc = .ok (.ireturn, 1)) {fs : List Frame}
    (hl : ∀ (f : JFrame) (acts : List Action), f.method = m → f.locked = none → f.entered = [] → (doReturn e (T.setTop f) acts (some (.int z))).1 = T.setFrames fs) : Steps p.tables e below (T.setTop (mkF m pc Ls (.int z :: rest))) (T.setFrames fs) := by
  have hm' : T.vm.method? m = some meth := X.method'
  have hn : narrow .int (.int z) = .int z := rfl
  show Steps p.tables e below (T.setTop { method := m, pc := pc, locals := Ls, stack := _ :: rest, locked := none }) _
  jvm_step X.here [X.here.top, hx, hd, hm', hret, hn]
  first | (intro acts; rw [hl _ acts rfl rfl rfl]) | rw [hl _ _ rfl rfl rfl]
  exact Steps.refl _
end New
end Jvm.RoadKit
namespace Jvm.Pilot.@@N@@
open Jvm Jvm.ClassFile Sem Op Lib Jvm.Free Jvm.Stand Jvm.LawKit Jvm.RoadKit Bundle Jvm.Pilot.@@N@@.Jvm.D
abbrev vI (x : Int32) : Slot := .val (.int x)
abbrev vJ (x : Int64) : Slot := .val (.long x)
abbrev vR (x : Addr) : Slot := .val (.ref x)
def AV (Z : State) (h : Heap) (a : Addr) (ty : FieldType) (n : Nat) (f : Nat → Value) : Prop := ∃ c : Cell, Arr Z h a c ty ∧ c.slots.size = n ∧ ∀ j, j < n → c.slots[j]? = some (f j) ∧ fits ty (f j) = true
def own_upd (f : Nat → Value) (k : Nat) (v : Value) : Nat → Value := fun j => if j = k then v else f j
section AVs
variable {Z : State} {h h' : Heap} {a b : Addr} {ty : FieldType} {n : Nat} {f : Nat → Value} {v : Value} {sl : Nat}
theorem AV.lt (A : AV Z h a ty n f) : a < h.size := by obtain ⟨c, A, -⟩ := A; exact A.lt
theorem AV.ext (A : AV Z h a ty n f) (E : Ext h h') : AV Z h' a ty n f := by obtain ⟨c, A, r⟩ := A; exact ⟨c, A.ext E, r⟩
theorem AV.other (A : AV Z h b ty n f) (W : Wr h h' a sl v) (q : b ≠ a) : AV Z h' b ty n f := by obtain ⟨c, A, r⟩ := A; exact ⟨c, A.other W q, r⟩
theorem AV.keep {ws : List Addr} (A : AV Z h a ty n f) (K : Keep h h' ws) (q : a ∉ ws) : AV Z h' a ty n f := by obtain ⟨c, A, r⟩ := A; exact ⟨c, ⟨K.2.1 a c A.1 q, A.2⟩, r⟩
theorem AV.new {k : ClassId} {z : Int32} (A : Arr Z h a (newA k ty z) ty) (hz : z.toNatClampNeg = n) (hf : fits ty (defaultValue ty) = true) : AV Z h a ty n (fun _ => defaultValue ty) := ⟨_, A, by rw [sz_new]; exact hz, fun j hj => ⟨by simp [newA, hz, hj], hf⟩⟩
theorem AV.set (A : AV Z h a ty n f) (W : Wr h h' a sl v) (hv : fits ty v = true) : AV Z h' a ty n (own_upd f sl v) := by
  obtain ⟨c, A, S, H⟩ := A
  refine ⟨_, A.same W, by rw [sz_set]; exact S, fun j hj => ?_⟩
  by_cases e : j = sl
  · subst e
    exact ⟨by simp [Cell.setSlot, own_upd, S, hj], by simp [own_upd, hv]⟩
  · have e2 : (c.setSlot sl v).slots[j]? = c.slots[j]? := Array.getElem?_setIfInBounds_ne (Ne.symm e)
    exact ⟨by rw [e2, own_upd, if_neg e]; exact (H j hj).1, by rw [own_upd, if_neg e]; exact (H j hj).2⟩
theorem AV.at (A : AV Z h a ty n f) {j : Int32} {k : Nat} (h0 : ¬ j < 0) (hj : j.toNatClampNeg = k) (hk : k < n) : ∃ c : Cell, Arr Z h a c ty ∧ ¬ (j < 0 ∨ c.slots.size ≤ j.toNatClampNeg) ∧ c.slots[j.toNatClampNeg]? = some (f k) := by
  obtain ⟨c, A, S, H⟩ := A
  exact ⟨c, A, fun q => q.elim h0 (fun r => by omega), by rw [hj]; exact (H k hk).1⟩
theorem AV.len (A : AV Z h a ty n f) : ∃ c : Cell, Arr Z h a c ty ∧ c.slots.size.toInt32 = n.toInt32 := by
  obtain ⟨c, A, S, H⟩ := A
  exact ⟨c, A, by rw [S]⟩
theorem AV.congr (A : AV Z h a ty n f) {g : Nat → Value} (e : ∀ j, j < n → f j = g j) : AV Z h a ty n g := by
  obtain ⟨c, A, S, H⟩ := A
  exact ⟨c, A, S, fun j hj => by rw [← e j hj]; exact H j hj⟩
theorem AV.fit (A : AV Z h a ty n f) {j : Nat} (hj : j < n) : fits ty (f j) = true := by
  obtain ⟨c, A, S, H⟩ := A
  exact (H j hj).2
end AVs
theorem own_notin1 {a b : Addr} (h : a ≠ b) : a ∉ [b] := fun q => h (List.mem_singleton.mp q)
theorem own_notin2 {a b c : Addr} (h : a ≠ b) (h2 : a ≠ c) : a ∉ [b, c] := fun q => by
  rcases List.mem_cons.mp q with r | r
  · exact h r
  · exact own_notin1 h2 r
theorem own_notin0 {a : Addr} : a ∉ ([] : List Addr) := nofun
theorem own_trans0 {ws : List Addr} {n : Nat} : ∀ x ∈ ([] : List Addr), x ∈ ws ∨ n ≤ x := nofun
theorem own_trans1 {ws : List Addr} {n : Nat} {a : Addr} (h : a ∈ ws ∨ n ≤ a) : ∀ x ∈ [a], x ∈ ws ∨ n ≤ x := fun x q => by cases List.mem_singleton.mp q; exact h
theorem own_trans2 {ws : List Addr} {n : Nat} {a b : Addr} (h : a ∈ ws ∨ n ≤ a) (h2 : b ∈ ws ∨ n ≤ b) : ∀ x ∈ [a, b], x ∈ ws ∨ n ≤ x := fun x q => by
  rcases List.mem_cons.mp q with r | r
  · cases r; exact h
  · cases List.mem_singleton.mp r; exact h2
def own_set {α : Type} (f : Nat → α) (k : Nat) (v : α) : Nat → α := fun j => if j = k then v else f j
section AVt
variable {Z : State} {h h' : Heap} {a : Addr} {n sl : Nat}
theorem AV.setI {g : Nat → Int32} {v : Int32} (A : AV Z h a .int n (fun j => .int (g j))) (W : Wr h h' a sl (.int v)) : AV Z h' a .int n (fun j => .int (own_set g sl v j)) := (A.set W rfl).congr (fun j _ => by simp only [own_upd, own_set]; split <;> rfl)
theorem AV.setJ {g : Nat → Int64} {v : Int64} (A : AV Z h a .long n (fun j => .long (g j))) (W : Wr h h' a sl (.long v)) : AV Z h' a .long n (fun j => .long (own_set g sl v j)) := (A.set W rfl).congr (fun j _ => by simp only [own_upd, own_set]; split <;> rfl)
end AVt
theorem own_notin3 {a b c d : Addr} (h : a ≠ b) (h2 : a ≠ c) (h3 : a ≠ d) : a ∉ [b, c, d] := fun q => by
  rcases List.mem_cons.mp q with r | r
  · exact h r
  · exact own_notin2 h2 h3 r
theorem own_trans3 {ws : List Addr} {n : Nat} {a b c : Addr} (h : a ∈ ws ∨ n ≤ a) (h2 : b ∈ ws ∨ n ≤ b) (h3 : c ∈ ws ∨ n ≤ c) : ∀ x ∈ [a, b, c], x ∈ ws ∨ n ≤ x := fun x q => by
  rcases List.mem_cons.mp q with r | r
  · cases r; exact h
  · exact own_trans2 h2 h3 x r
theorem own_selp {s : State} {args : Array Value} {y : MethodName} {n : Nat} (hins : (Jvm.Cond.instantiable y.cls n).before args s = true) (hpriv : (Jvm.Cond.privateMethod y).before args s = true) (hinst : (Jvm.Cond.instanceMethod y).before args s = true) (hy : y.cls ≠ "java/lang/invoke/MethodHandle" ∧ y.cls ≠ "java/lang/invoke/VarHandle") : (Jvm.Cond.selects y.cls y y).before args s = true := by
  obtain ⟨c, k, hc, hk, -, hniab, -, -⟩ := Cond.instantiable_spec hins
  exact selects_self_of_private hc hk (Bool.or_eq_false_iff.mp hniab).1 (Cond.privateMethod_at hpriv) hinst hy
section DRs
open Jvm.FP.Core
/-- a datum times 2^k -/
def own_sh (k : Int) : Datum → Datum
  | .fin s c q => .fin s c (q + k)
  | d => d
/-- the double a is the number i / 2^k -/
def DR (k : Nat) (i : Int) (a : UInt64) : Prop := Whole i (own_sh k (val64 a))
theorem own_p53 : (2 : Nat) ^ b64.p = 2 ^ 53 := rfl
theorem own_rnd {k : Nat} (hk : k ≤ 8) {n : Nat} (hn : n ≤ 2 ^ 53) (h0 : n ≠ 0) (s : Bool) : ∃ c q, roundRatio b64 s n 1 (-(k : Int)) = .fin s c (q - k) ∧ n * 2 ^ (-q).toNat = c * 2 ^ q.toNat := by
  obtain ⟨c, q, hfit, hv⟩ := natFit good_b64 wide_b64 s (n := n) hn
  rw [show (0 - q).toNat = (-q).toNat by omega, show (q - 0).toNat = q.toNat by omega, Nat.mul_one] at hv
  obtain ⟨f1, f2, f3, f4⟩ := hfit
  have e1 : b64.qmin = -1074 := by decide
  have e2 : b64.qmax = 971 := by decide
  have e3 : (2 : Nat) ^ b64.p = 2 ^ 53 := rfl
  rw [e1] at f2 f4
  rw [e2] at f3
  rw [e3] at f1
  have hq : -53 < q := by
    refine Int.lt_of_not_ge fun hge => ?_
    have z : q.toNat = 0 := by omega
    rw [z, Nat.pow_zero, Nat.mul_one] at hv
    have p : 2 ^ 53 ≤ 2 ^ (-q).toNat := Nat.pow_le_pow_right (by decide) (by omega)
    have : 1 * 2 ^ 53 ≤ n * 2 ^ (-q).toNat := Nat.mul_le_mul (by omega) p
    omega
  refine ⟨c, q, ?_, hv⟩
  refine roundRatio_exact good_b64 (by decide) ⟨by rw [e3]; exact f1, by rw [e1]; omega, by rw [e2]; omega, Or.inr (by rcases f4 with f4 | f4; omega; exact f4)⟩ ?_
  rw [show (-(k : Int) - (q - k)).toNat = (-q).toNat by omega, show (q - k - -(k : Int)).toNat = q.toNat by omega, Nat.mul_one]
  exact hv
theorem own_end {k : Nat} {i : Int} {s : Bool} {c : Nat} {q : Int} (hs : i ≠ 0 → s = decide (i < 0)) (hv : i.natAbs * 2 ^ (-q).toNat = c * 2 ^ q.toNat) : Whole i (own_sh k (.fin s c (q - k))) := by
  show signed s (c * 2 ^ (q - k + k).toNat) = i * ((2 ^ (-(q - k + k)).toNat : Nat) : Int)
  rw [show q - (k : Int) + k = q by omega, ← hv, signed_mul]
  congr 1
  by_cases hi0 : i = 0
  · rw [hi0]; exact signed_zero s
  · rw [hs hi0]
    unfold signed
    by_cases h : i < 0 <;> simp [h] <;> omega
theorem own_zero {k : Nat} (s : Bool) (q : Int) : Whole 0 (own_sh k (.fin s 0 q)) := by
  show signed s (0 * _) = 0 * _
  rw [Nat.zero_mul, Int.zero_mul]; exact signed_zero s
theorem own_round {k : Nat} (hk : k ≤ 8) {i : Int} (hi : i.natAbs ≤ 2 ^ 53) {d : Datum} (h : Whole i (own_sh k d)) : Whole i (own_sh k (round b64 d)) := by
  cases d with
  | nan => exact h.elim
  | inf => exact h.elim
  | fin s c q =>
    have h' : Whole i (.fin s c (q + k)) := h
    have e : round b64 (.fin s c q) = roundRatio b64 s i.natAbs 1 (-(k : Int)) := by
      refine roundRatio_congr (by decide) (by decide) ?_
      have := whole_natAbs h'
      rw [show (q - -(k : Int)).toNat = (q + k).toNat by omega, show (-(k : Int) - q).toNat = (-(q + k)).toNat by omega]
      simpa using this
    rw [e]
    by_cases h0 : i = 0
    · subst h0
      have : roundRatio b64 s (0 : Int).natAbs 1 (-(k : Int)) = .fin s 0 b64.qmin := if_pos rfl
      rw [this]; exact own_zero s _
    · obtain ⟨c', q', e2, hv⟩ := own_rnd hk hi (by omega) s
      rw [e2]
      exact own_end (fun hi0 => whole_sign h' hi0) hv
theorem own_sh_neg (k : Int) (d : Datum) : own_sh k (negate d) = negate (own_sh k d) := by cases d <;> rfl
theorem own_iu (c : Nat) (q e k : Int) : inUnits c (q + k) (e + k) = inUnits c q e := by
  unfold inUnits; rw [show q + k - (e + k) = q - e by omega]
theorem own_sh_sum (k : Int) (x y : Datum) (hx : own_sh k x ≠ .nan) : own_sh k (exactSum x y) = exactSum (own_sh k x) (own_sh k y) := by
  cases x with
  | nan => exact absurd rfl hx
  | inf s => cases y with
    | nan => rfl
    | inf t => show own_sh k (if s = t then _ else _) = (if s = t then _ else _); split <;> rfl
    | fin t d r => rfl
  | fin s c q => cases y with
    | nan => rfl
    | inf t => rfl
    | fin t d r =>
      show Datum.fin _ _ _ = Datum.fin _ _ _
      have m : min (q + k) (r + k) = min q r + k := by omega
      have u : sumUnits s c (q + k) t d (r + k) (min q r + k) = sumUnits s c q t d r (min q r) := by
        unfold sumUnits; rw [own_iu, own_iu]
      rw [m, u]
theorem own_sh_prod (k l : Int) {s t : Bool} {c d : Nat} {q r : Int} : own_sh (k + l) (exactProduct (.fin s c q) (.fin t d r)) = exactProduct (own_sh k (.fin s c q)) (own_sh l (.fin t d r)) := by
  show Datum.fin _ _ _ = Datum.fin _ _ _
  congr 1; omega
theorem own_whole_fin {i : Int} {k : Int} {d : Datum} (h : Whole i (own_sh k d)) : ∃ s c q, d = .fin s c q := by
  cases d with
  | nan => exact h.elim
  | inf => exact h.elim
  | fin s c q => exact ⟨s, c, q, rfl⟩
theorem DR.sub {k : Nat} {i j : Int} {a b : UInt64} (ha : DR k i a) (hb : DR k j b) (hk : k ≤ 8) (h : (i - j).natAbs ≤ 2 ^ 53) : DR k (i - j) (Jvm.FP.dsub a b) := by
  unfold DR at *
  rw [show Jvm.FP.dsub a b = Jvm.FP.Core.dsub a b from rfl, val64_dsub]
  refine own_round hk h ?_
  rw [own_sh_sum _ _ _ (by intro q; rw [q] at ha; exact ha), own_sh_neg, Int.sub_eq_add_neg]
  exact whole_sum ha (whole_negate hb)
theorem DR.mul {k l : Nat} {i j : Int} {a b : UInt64} (ha : DR k i a) (hb : DR l j b) (hk : k + l ≤ 8) (h : (i * j).natAbs ≤ 2 ^ 53) : DR (k + l) (i * j) (Jvm.FP.dmul a b) := by
  unfold DR at *
  rw [show Jvm.FP.dmul a b = Jvm.FP.Core.dmul a b from rfl, val64_dmul]
  obtain ⟨s, c, q, e1⟩ := own_whole_fin ha
  obtain ⟨t, d, r, e2⟩ := own_whole_fin hb
  refine own_round (k := k + l) hk h ?_
  rw [e1] at ha ⊢
  rw [e2] at hb ⊢
  rw [show ((k + l : Nat) : Int) = (k : Int) + l by omega, own_sh_prod]
  exact whole_product ha hb
theorem own_cancel {A B x y : Nat} (h : A * 2 ^ x = B * 2 ^ y) : A * 2 ^ (x - y) = B * 2 ^ (y - x) := by
  rcases Nat.le_total x y with c | c
  · rw [show x - y = 0 by omega, Nat.pow_zero, Nat.mul_one]
    rw [show y = (y - x) + x by omega, Nat.pow_add, ← Nat.mul_assoc] at h
    exact Nat.eq_of_mul_eq_mul_right (Nat.two_pow_pos x) h
  · rw [show y - x = 0 by omega, Nat.pow_zero, Nat.mul_one]
    rw [show x = (x - y) + y by omega, Nat.pow_add, ← Nat.mul_assoc] at h
    exact Nat.eq_of_mul_eq_mul_right (Nat.two_pow_pos y) h
theorem own_quo {I J C c d : Nat} {Q R m : Int} (hm : 0 ≤ m) (h1 : c * 2 ^ Q.toNat = I * 2 ^ (-Q).toNat) (h2 : d * 2 ^ R.toNat = J * 2 ^ (-R).toNat) (h3 : I * 2 ^ m.toNat = C * J) (hJ : J ≠ 0) : c * 2 ^ (Q - R + m).toNat = C * d * 2 ^ (-(Q - R + m)).toNat := by
  have k : c * 2 ^ (Q.toNat + m.toNat + (-R).toNat) = C * d * 2 ^ ((-Q).toNat + R.toNat) := by
    refine Nat.eq_of_mul_eq_mul_right (Nat.pos_of_ne_zero hJ) ?_
    calc c * 2 ^ (Q.toNat + m.toNat + (-R).toNat) * J = (c * 2 ^ Q.toNat) * 2 ^ m.toNat * (J * 2 ^ (-R).toNat) := by rw [Nat.pow_add, Nat.pow_add]; ac_rfl
      _ = (I * 2 ^ m.toNat) * 2 ^ (-Q).toNat * (d * 2 ^ R.toNat) := by rw [h1, ← h2]; ac_rfl
      _ = C * d * 2 ^ ((-Q).toNat + R.toNat) * J := by rw [h3, Nat.pow_add]; ac_rfl
  have q := own_cancel k
  rw [show (Q - R + m).toNat = Q.toNat + m.toNat + (-R).toNat - ((-Q).toNat + R.toNat) by omega, show (-(Q - R + m)).toNat = (-Q).toNat + R.toNat - (Q.toNat + m.toNat + (-R).toNat) by omega]
  exact q
theorem DR.div {k m : Nat} {i j c : Int} {a b : UInt64} (ha : DR k i a) (hb : DR k j b) (hj : j ≠ 0) (hm : m ≤ 8) (h : i * 2 ^ m = c * j) (hc : c.natAbs ≤ 2 ^ 53) : DR m c (Jvm.FP.ddiv a b) := by
  unfold DR at *
  rw [show Jvm.FP.ddiv a b = Jvm.FP.Core.ddiv a b from rfl, val64_ddiv]
  obtain ⟨s, x, q, e1⟩ := own_whole_fin ha
  obtain ⟨t, y, r, e2⟩ := own_whole_fin hb
  rw [e1] at ha ⊢
  rw [e2] at hb ⊢
  have ha' : Whole i (.fin s x (q + k)) := ha
  have hb' : Whole j (.fin t y (r + k)) := hb
  have hy : y ≠ 0 := fun z => hj ((whole_zero hb').mp z)
  have eq : quotient b64 (.fin s x q) (.fin t y r) = roundRatio b64 (s != t) x y (q - r) := if_neg hy
  rw [eq]
  have n3 : i.natAbs * 2 ^ m = c.natAbs * j.natAbs := by
    have := congrArg Int.natAbs h
    rw [Int.natAbs_mul, Int.natAbs_mul] at this
    rw [← this]; congr 1
  have hq := own_quo (m := (m : Int)) (by omega) (whole_natAbs ha') (whole_natAbs hb') n3 (by omega)
  have e : roundRatio b64 (s != t) x y (q - r) = roundRatio b64 (s != t) c.natAbs 1 (-(m : Int)) := by
    refine roundRatio_congr (by omega) (by decide) ?_
    rw [show (q - r - -(m : Int)).toNat = (q + k - (r + k) + m).toNat by omega, show (-(m : Int) - (q - r)).toNat = (-(q + k - (r + k) + m)).toNat by omega, Nat.mul_one]
    exact hq
  rw [e]
  by_cases h0 : c = 0
  · subst h0
    have : roundRatio b64 (s != t) (0 : Int).natAbs 1 (-(m : Int)) = .fin (s != t) 0 b64.qmin := if_pos rfl
    rw [this]; exact own_zero _ _
  · obtain ⟨c', q', e2, hv⟩ := own_rnd hm hc (by omega) (s != t)
    rw [e2]
    refine own_end (fun _ => ?_) hv
    have hi : i ≠ 0 := fun z => by
      rw [z, Int.zero_mul] at h
      rcases Int.mul_eq_zero.mp h.symm with q | q
      · exact h0 q
      · exact hj q
    rw [whole_sign ha' hi, whole_sign hb' hj]
    have p : (0 : Int) < 2 ^ m := Int.pow_pos (by decide)
    rcases Int.lt_or_gt_of_ne hi with hi' | hi' <;> rcases Int.lt_or_gt_of_ne hj with hj' | hj'
    · have l : i * 2 ^ m < 0 := Int.mul_neg_of_neg_of_pos hi' p
      have : 0 < c := by
        refine Int.lt_of_not_ge fun g => ?_
        have := Int.mul_nonneg_of_nonpos_of_nonpos g (Int.le_of_lt hj'); omega
      simp [hi', hj', show ¬ c < 0 by omega]
    · have l : i * 2 ^ m < 0 := Int.mul_neg_of_neg_of_pos hi' p
      have : c < 0 := by
        refine Int.lt_of_not_ge fun g => ?_
        have := Int.mul_nonneg g (Int.le_of_lt hj'); omega
      simp [hi', show ¬ j < 0 by omega, this]
    · have l : 0 < i * 2 ^ m := Int.mul_pos hi' p
      have : c < 0 := by
        refine Int.lt_of_not_ge fun g => ?_
        have := Int.mul_nonpos_of_nonneg_of_nonpos g (Int.le_of_lt hj'); omega
      simp [show ¬ i < 0 by omega, hj', this]
    · have l : 0 < i * 2 ^ m := Int.mul_pos hi' p
      have : 0 < c := by
        refine Int.lt_of_not_ge fun g => ?_
        have := Int.mul_nonpos_of_nonpos_of_nonneg g (Int.le_of_lt hj'); omega
      simp [show ¬ i < 0 by omega, show ¬ j < 0 by omega, show ¬ c < 0 by omega]
theorem own_sh_order (k : Int) {s t : Bool} {c d : Nat} {q r : Int} : order (own_sh k (.fin s c q)) (own_sh k (.fin t d r)) = order (.fin s c q) (.fin t d r) := by
  show some (compare _ _) = some (compare _ _)
  have m : min (q + k) (r + k) = min q r + k := by omega
  rw [m, own_iu, own_iu]
theorem DR.cmp {k : Nat} {i j : Int} {a b : UInt64} (ha : DR k i a) (hb : DR k j b) : Jvm.FP.dcmp a b = some (compare i j) := by
  unfold DR at *
  show order (val64 a) (val64 b) = _
  obtain ⟨s, x, q, e1⟩ := own_whole_fin ha
  obtain ⟨t, y, r, e2⟩ := own_whole_fin hb
  rw [e1] at ha ⊢
  rw [e2] at hb ⊢
  rw [← own_sh_order k]
  exact order_whole ha hb
theorem own_sh0 (d : Datum) : own_sh 0 d = d := by
  cases d with
  | fin s c q => show Datum.fin s c (q + 0) = _; rw [Int.add_zero]
  | nan => rfl
  | inf => rfl
theorem DR.l2d {a : Int64} (h : a.toInt.natAbs ≤ 2 ^ 53) : DR 0 a.toInt (Jvm.FP.l2d a) := by
  show Whole _ (own_sh (0 : Nat) _)
  rw [show ((0 : Nat) : Int) = 0 from rfl, own_sh0]
  exact l2d_int h
theorem DR.i2d (a : Int32) : DR 0 a.toInt (Jvm.FP.i2d a) := by
  show Whole _ (own_sh (0 : Nat) _)
  rw [show ((0 : Nat) : Int) = 0 from rfl, own_sh0]
  exact i2d_int a
theorem own_wsh {i : Int} {s : Bool} {c : Nat} {q : Int} {m : Nat} : Whole i (.fin s c q) ↔ Whole (i * 2 ^ m) (.fin s c (q + m)) := by
  show signed s (c * 2 ^ q.toNat) = i * ((2 ^ (-q).toNat : Nat) : Int) ↔ signed s (c * 2 ^ (q + m).toNat) = i * 2 ^ m * ((2 ^ (-(q + m)).toNat : Nat) : Int)
  rw [signed_mul, signed_mul]
  have e : ((2 ^ (q + m).toNat : Nat) : Int) * ((2 ^ (-q).toNat : Nat) : Int) = 2 ^ m * ((2 ^ (-(q + m)).toNat : Nat) : Int) * ((2 ^ q.toNat : Nat) : Int) := by
    have : (2 : Nat) ^ (q + m).toNat * 2 ^ (-q).toNat = 2 ^ m * 2 ^ (-(q + m)).toNat * 2 ^ q.toNat := by
      rw [← Nat.pow_add, ← Nat.pow_add, ← Nat.pow_add]; congr 1; omega
    exact_mod_cast this
  have p1 : ((2 ^ q.toNat : Nat) : Int) ≠ 0 := by have := Nat.two_pow_pos q.toNat; omega
  have p2 : ((2 ^ (-q).toNat : Nat) : Int) ≠ 0 := by have := Nat.two_pow_pos (-q).toNat; omega
  constructor
  · intro h
    refine Int.eq_of_mul_eq_mul_right p2 ?_
    rw [Int.mul_assoc, e]
    calc signed s c * (2 ^ m * ((2 ^ (-(q + m)).toNat : Nat) : Int) * ((2 ^ q.toNat : Nat) : Int)) = (signed s c * ((2 ^ q.toNat : Nat) : Int)) * (2 ^ m * ((2 ^ (-(q + m)).toNat : Nat) : Int)) := by ac_rfl
      _ = i * 2 ^ m * ((2 ^ (-(q + m)).toNat : Nat) : Int) * ((2 ^ (-q).toNat : Nat) : Int) := by rw [h]; ac_rfl
  · intro h
    have p3 : (2 : Int) ^ m * ((2 ^ (-(q + m)).toNat : Nat) : Int) ≠ 0 := by
      have a1 : (0 : Int) < 2 ^ m := Int.pow_pos (by decide)
      have a2 : (0 : Int) < ((2 ^ (-(q + m)).toNat : Nat) : Int) := by have := Nat.two_pow_pos (-(q + m)).toNat; omega
      have := Int.mul_pos a1 a2; omega
    refine Int.eq_of_mul_eq_mul_right p3 ?_
    calc signed s c * ((2 ^ q.toNat : Nat) : Int) * (2 ^ m * ((2 ^ (-(q + m)).toNat : Nat) : Int)) = signed s c * (2 ^ m * ((2 ^ (-(q + m)).toNat : Nat) : Int) * ((2 ^ q.toNat : Nat) : Int)) := by ac_rfl
      _ = signed s c * (((2 ^ (q + m).toNat : Nat) : Int) * ((2 ^ (-q).toNat : Nat) : Int)) := by rw [e]
      _ = (signed s c * ((2 ^ (q + m).toNat : Nat) : Int)) * ((2 ^ (-q).toNat : Nat) : Int) := by ac_rfl
      _ = i * ((2 ^ (-q).toNat : Nat) : Int) * (2 ^ m * ((2 ^ (-(q + m)).toNat : Nat) : Int)) := by rw [h]; ac_rfl
theorem DR.up {k m : Nat} {i : Int} {a : UInt64} : DR k i a ↔ DR (k + m) (i * 2 ^ m) a := by
  unfold DR
  cases e : val64 a with
  | nan => exact Iff.rfl
  | inf => exact Iff.rfl
  | fin s c q =>
    show Whole i (.fin s c (q + k)) ↔ Whole (i * 2 ^ m) (.fin s c (q + ((k + m : Nat) : Int)))
    rw [show q + ((k + m : Nat) : Int) = q + k + m by omega]
    exact own_wsh
theorem DR.noNaN {k : Nat} {i : Int} {a : UInt64} (h : DR k i a) : val64 a ≠ .nan := fun q => by
  unfold DR at h; rw [q] at h; exact h
theorem own_absd (n : Nat) : decode b64 (n % 9223372036854775808) = (match decode b64 n with | .fin _ c q => .fin false c q | .inf _ => .inf false | .nan => .nan) := by
  have t : b64.tails = 4503599627370496 := by decide
  have x : b64.exps = 2048 := by decide
  have f1 : fieldT b64 (n % 9223372036854775808) = fieldT b64 n := by unfold fieldT; rw [t]; omega
  have f2 : fieldE b64 (n % 9223372036854775808) = fieldE b64 n := by unfold fieldE; rw [t, x]; omega
  have f3 : fieldS b64 (n % 9223372036854775808) = false := by
    unfold fieldS; rw [t, x]
    have : n % 9223372036854775808 / 4503599627370496 / 2048 % 2 = 0 := by omega
    rw [this]; rfl
  unfold Jvm.FP.Core.decode
  rw [f1, f2, f3]
  by_cases a : fieldE b64 n = b64.exps - 1
  · rw [if_pos a, if_pos a]
    by_cases b : fieldT b64 n = 0
    · rw [if_pos b, if_pos b]
    · rw [if_neg b, if_neg b]
  · rw [if_neg a, if_neg a]
    by_cases b : fieldE b64 n = 0
    · rw [if_pos b, if_pos b]
    · rw [if_neg b, if_neg b]
theorem DR.abs {k : Nat} {i : Int} {a : UInt64} (h : DR k i a) : DR k (i.natAbs : Int) (a &&& 0x7fffffffffffffff) := by
  unfold DR at *
  have e : val64 (a &&& 0x7fffffffffffffff) = (match val64 a with | .fin _ c q => .fin false c q | .inf _ => .inf false | .nan => .nan) := by
    unfold val64
    rw [show (a &&& 0x7fffffffffffffff).toNat = a.toNat % 9223372036854775808 from by
      rw [UInt64.toNat_and]
      exact Nat.and_two_pow_sub_one_eq_mod _ 63]
    exact own_absd _
  obtain ⟨s, c, q, e1⟩ := own_whole_fin h
  rw [e1] at h
  rw [e, e1]
  have w := whole_natAbs (show Whole i (.fin s c (q + k)) from h)
  show signed false (c * 2 ^ (q + (k : Int)).toNat) = (i.natAbs : Int) * ((2 ^ (-(q + (k : Int))).toNat : Nat) : Int)
  rw [w]
  show ((i.natAbs * 2 ^ (-(q + (k : Int))).toNat : Nat) : Int) = _
  rw [Int.natCast_mul]
theorem DR.nn {k : Nat} {i : Int} {a : UInt64} (h : DR k i a) : Jvm.Free.Fl.NoNaN64 a := Jvm.Free.Fl.val64_no.mpr h.noNaN
end DRs
abbrev vD (x : UInt64) : Slot := .val (.double x)
def own_cv (i j : Int) : Int32 := if i < j then (-1 : Int32) else if i = j then (0 : Int32) else (1 : Int32)
theorem own_cvl {k : Nat} {i j : Int} {a b : UInt64} (ha : DR k i a) (hb : DR k j b) (o : CmpOp) : cmpValue (Jvm.FP.dcmp a b) o = own_cv i j := by
  rw [DR.cmp ha hb]
  show cmpValue (some (compareOfLessAndEq i j)) o = _
  unfold own_cv compareOfLessAndEq
  split
  · rfl
  · split <;> rfl
theorem own_gt0 {i j : Int} (h : j < i) : (0 : Int32) < own_cv i j := by
  unfold own_cv; rw [if_neg (by omega), if_neg (by omega)]; decide
theorem own_ng0 {i j : Int} (h : ¬ j < i) : ¬ (0 : Int32) < own_cv i j := by
  unfold own_cv; split
  · decide
  · rw [if_pos (by omega)]; decide
theorem own_eq0 {i j : Int} (h : i = j) : own_cv i j = (0 : Int32) := by
  unfold own_cv; rw [if_neg (by omega), if_pos h]
theorem own_ne0 {i j : Int} (h : ¬ i = j) : ¬ own_cv i j = (0 : Int32) := by
  unfold own_cv; rw [if_neg h]; split <;> decide
theorem own_up2 {i : Int} {a : UInt64} (h : DR 0 i a) : DR 2 (i * 4) a := (DR.up (k := 0) (m := 2)).mp h
theorem own_dr0 : DR 2 0 0 := by
  have h := own_up2 (DR.i2d 0)
  rw [show Jvm.FP.i2d 0 = 0 from by decide +kernel] at h
  exact h
theorem own_dr4 : DR 0 4 4616189618054758400 := by
  have h := DR.i2d 4
  rw [show Jvm.FP.i2d 4 = 4616189618054758400 from by decide +kernel] at h
  exact h
theorem own_qd {n : Int64} (h : n.toInt.natAbs ≤ 2 ^ 53) : ∃ v, Jvm.FP.ddiv (Jvm.FP.l2d n) 4616189618054758400 = v ∧ Jvm.Free.Fl.NoNaN64 (Jvm.FP.ddiv (Jvm.FP.l2d n) 4616189618054758400) ∧ DR 2 n.toInt v := by
  have q : DR 2 n.toInt (Jvm.FP.ddiv (Jvm.FP.l2d n) 4616189618054758400) := DR.div (DR.l2d h) own_dr4 (by decide) (by decide) (by rfl) h
  exact ⟨_, rfl, q.nn, q⟩
theorem own_dv {i j c : Int} {a b : UInt64} (ha : DR 2 i a) (hb : DR 2 j b) (hj : j ≠ 0) (h : i * 4 = c * j) (hc : c.natAbs ≤ 2 ^ 53) : ∃ v, Jvm.FP.ddiv a b = v ∧ Jvm.Free.Fl.NoNaN64 (Jvm.FP.ddiv a b) ∧ DR 2 c v := by
  have q : DR 2 c (Jvm.FP.ddiv a b) := DR.div ha hb hj (by decide) h hc
  exact ⟨_, rfl, q.nn, q⟩
theorem own_ms {i k j t : Int} {a b c : UInt64} (ha : DR 2 i a) (hb : DR 2 k b) (hc : DR 2 j c) (h : i * 4 - k * j = t * 4) (h1 : (k * j).natAbs ≤ 2 ^ 53) (h2 : (t * 4).natAbs ≤ 2 ^ 53) :
    Jvm.Free.Fl.NoNaN64 (Jvm.FP.dmul b c) ∧ ∃ v, Jvm.FP.dsub a (Jvm.FP.dmul b c) = v ∧ Jvm.Free.Fl.NoNaN64 (Jvm.FP.dsub a (Jvm.FP.dmul b c)) ∧ DR 2 t v := by
  have m : DR 4 (k * j) (Jvm.FP.dmul b c) := DR.mul hb hc (by decide) h1
  have a4 : DR 4 (i * 4) a := (DR.up (k := 2) (m := 2)).mp ha
  have s : DR 4 (i * 4 - k * j) (Jvm.FP.dsub a (Jvm.FP.dmul b c)) := DR.sub a4 m (by decide) (by rw [h]; exact h2)
  rw [h] at s
  have z : DR 2 t (Jvm.FP.dsub a (Jvm.FP.dmul b c)) := (DR.up (k := 2) (m := 2)).mpr s
  exact ⟨m.nn, _, rfl, z.nn, z⟩
def VD (Z : State) (h : Heap) (a : Addr) (N : Nat) (l : List Int) : Prop := ∃ f : Nat → UInt64, AV Z h a .double N (fun j => .double (f j)) ∧ l.length = N ∧ ∀ j, j < N → DR 2 (l.getD j 0) (f j)
section VDs
variable {Z : State} {h h' : Heap} {a b : Addr} {N : Nat} {l : List Int} {sl : Nat}
theorem VD.lt (A : VD Z h a N l) : a < h.size := by obtain ⟨f, A, -⟩ := A; exact A.lt
theorem VD.ext (A : VD Z h a N l) (E : Ext h h') : VD Z h' a N l := by obtain ⟨f, A, r⟩ := A; exact ⟨f, A.ext E, r⟩
theorem VD.other {v : Value} (A : VD Z h b N l) (W : Wr h h' a sl v) (q : b ≠ a) : VD Z h' b N l := by obtain ⟨f, A, r⟩ := A; exact ⟨f, A.other W q, r⟩
theorem VD.keep {ws : List Addr} (A : VD Z h a N l) (K : Keep h h' ws) (q : a ∉ ws) : VD Z h' a N l := by obtain ⟨f, A, r⟩ := A; exact ⟨f, A.keep K q, r⟩
theorem VD.new (A : AV Z h a .double N (fun _ => defaultValue .double)) : VD Z h a N (List.replicate N 0) := ⟨fun _ => 0, A, List.length_replicate, fun j hj => by rw [show (List.replicate N (0 : Int)).getD j 0 = 0 from by simp [List.getD, hj]]; exact own_dr0⟩
theorem VD.at (A : VD Z h a N l) {j : Int32} {k : Nat} (h0 : ¬ j < 0) (hj : j.toNatClampNeg = k) (hk : k < N) : ∃ (c : Cell) (d : UInt64), Arr Z h a c .double ∧ ¬ (j < 0 ∨ c.slots.size ≤ j.toNatClampNeg) ∧ c.slots[j.toNatClampNeg]? = some (.double d) ∧ DR 2 (l.getD k 0) d := by
  obtain ⟨f, A, hl, H⟩ := A
  obtain ⟨c, A, r, t⟩ := A.at h0 hj hk
  exact ⟨c, f k, A, r, t, H k hk⟩
theorem VD.set (A : VD Z h a N l) {d : UInt64} {i : Int} (W : Wr h h' a sl (.double d)) (hd : DR 2 i d) : VD Z h' a N (l.set sl i) := by
  obtain ⟨f, A, hl, H⟩ := A
  refine ⟨fun j => if j = sl then d else f j, (A.set W rfl).congr (fun j _ => by simp only [own_upd]; split <;> rfl), by rw [List.length_set, hl], fun j hj => ?_⟩
  show DR 2 _ (if j = sl then d else f j)
  by_cases e : j = sl
  · subst e
    rw [if_pos rfl, show (l.set j i).getD j 0 = i from by simp [List.getD, hl, hj]]; exact hd
  · rw [if_neg e, show (l.set sl i).getD j 0 = l.getD j 0 from by simp [List.getD, List.getElem?_set_ne (Ne.symm e)]]; exact H j hj
theorem VD.len (A : VD Z h a N l) : ∃ c : Cell, Arr Z h a c .double ∧ c.slots.size.toInt32 = N.toInt32 := by obtain ⟨f, A, -⟩ := A; exact A.len
end VDs
def own_s12 (q : Int64) : Int32 := ((q &&& (4095 : Int64)).toInt32 - (2048 : Int32))
def own_nz (q : Int64) : Int32 := if own_s12 q < (0 : Int32) then own_s12 q else (own_s12 q + (1 : Int32))
def own_lk (p : Int32) : Int32 := (((p &&& (15 : Int32)) - ((p &&& (15 : Int32)) / (5 : Int32)) * (5 : Int32)) - (2 : Int32))
theorem own_p3 {p : Int32} {α : Nat} (h : p.toInt = α) (hα : α < 3) : (α = 0 ∧ p = 0) ∨ (α = 1 ∧ p = 1) ∨ (α = 2 ∧ p = 2) := by
  have c : α = 0 ∨ α = 1 ∨ α = 2 := by omega
  rcases c with rfl | rfl | rfl
  · exact Or.inl ⟨rfl, Int32.toInt_inj.mp h⟩
  · exact Or.inr (Or.inl ⟨rfl, Int32.toInt_inj.mp h⟩)
  · exact Or.inr (Or.inr ⟨rfl, Int32.toInt_inj.mp h⟩)
theorem own_ix3 {p : Int32} {α : Nat} (h : p.toInt = α) (hα : α < 3) {j : Int32} {n : Nat} (hj : j.toInt = n) (hn : n < 3) : ¬ ((p * (3 : Int32)) + j) < 0 ∧ ((p * (3 : Int32)) + j).toNatClampNeg = 3 * α + n ∧ 3 * α + n < 9 := by
  rcases own_p3 h hα with ⟨rfl, rfl⟩ | ⟨rfl, rfl⟩ | ⟨rfl, rfl⟩ <;> rcases own_p3 hj hn with ⟨rfl, rfl⟩ | ⟨rfl, rfl⟩ | ⟨rfl, rfl⟩ <;> decide
theorem own_iy3 {p : Int32} {α : Nat} (h : p.toInt = α) (hα : α < 3) : (¬ ((3 : Int32) * p) < 0 ∧ ((3 : Int32) * p).toNatClampNeg = 3 * α ∧ 3 * α < 9) ∧ (¬ (((3 : Int32) * p) + (1 : Int32)) < 0 ∧ (((3 : Int32) * p) + (1 : Int32)).toNatClampNeg = 3 * α + 1 ∧ 3 * α + 1 < 9) ∧ (¬ (((3 : Int32) * p) + (2 : Int32)) < 0 ∧ (((3 : Int32) * p) + (2 : Int32)).toNatClampNeg = 3 * α + 2 ∧ 3 * α + 2 < 9) ∧ (¬ p < 0 ∧ p.toNatClampNeg = α) := by
  rcases own_p3 h hα with ⟨rfl, rfl⟩ | ⟨rfl, rfl⟩ | ⟨rfl, rfl⟩ <;> decide
def own_sx (l : List Int) (α β j : Nat) : List Int := (l.set (3 * α + j) (l.getD (3 * β + j) 0)).set (3 * β + j) (l.getD (3 * α + j) 0)
def own_sr (l : List Int) (α β : Nat) : List Int := if α = β then l else own_sx (own_sx (own_sx l α β 0) α β 1) α β 2
theorem own_sre {l : List Int} {α β : Nat} {p q : Int32} (h : p.toInt = α) (h2 : q.toInt = β) (e : p = q) : l = own_sr l α β := by
  have : α = β := by rw [e, h2] at h; omega
  unfold own_sr; rw [if_pos this]
theorem own_srn {l : List Int} {α β : Nat} {p q : Int32} (h : p.toInt = α) (h2 : q.toInt = β) (e : ¬ p = q) : own_sx (own_sx (own_sx l α β 0) α β 1) α β 2 = own_sr l α β := by
  have : ¬ α = β := fun k => e (Int32.toInt_inj.mp (by rw [h, h2, k]))
  unfold own_sr; rw [if_neg this]
def own_row (l : List Int) (κ : Nat) (x y z : Int) : List Int := ((l.set (3 * κ) x).set (3 * κ + 1) y).set (3 * κ + 2) z
def own_P0 (κ : Nat) (x y z : Int) : Prop := (κ = 0 ∧ ¬ (x.natAbs : Int) < (y.natAbs : Int) ∧ ¬ (x.natAbs : Int) < (z.natAbs : Int)) ∨ (κ = 1 ∧ (x.natAbs : Int) < (y.natAbs : Int) ∧ ¬ (y.natAbs : Int) < (z.natAbs : Int)) ∨ (κ = 2 ∧ (x.natAbs : Int) < (z.natAbs : Int) ∧ (y.natAbs : Int) < (z.natAbs : Int))
def own_P1 (κ : Nat) (y z : Int) : Prop := (κ = 1 ∧ ¬ (y.natAbs : Int) < (z.natAbs : Int)) ∨ (κ = 2 ∧ (y.natAbs : Int) < (z.natAbs : Int))
def own_OK (s8 s9 s10 : Slot) : Prop := ((s8 = .unset ∧ s9 = .unset) ∨ (∃ d, s8 = .val (.double d) ∧ s9 = .second)) ∧ (s10 = .unset ∨ ∃ z, s10 = .val (.int z))
theorem own_st8 {x0 x1 x2 x3 x4 x5 x6 x7 s8 s9 s10 : Slot} {d : UInt64} (h : own_OK s8 s9 s10) : storeLocals #[x0, x1, x2, x3, x4, x5, x6, x7, s8, s9, s10] 8 (.double d) = some #[x0, x1, x2, x3, x4, x5, x6, x7, .val (.double d), .second, s10] := by
  obtain ⟨a, b⟩ := h
  rcases a with ⟨rfl, rfl⟩ | ⟨e, rfl, rfl⟩ <;> rfl
theorem own_st10 {x0 x1 x2 x3 x4 x5 x6 x7 s8 s9 s10 y8 y9 : Slot} {z : Int32} (h : own_OK y8 y9 s10) : storeLocals #[x0, x1, x2, x3, x4, x5, x6, x7, s8, s9, s10] 10 (.int z) = some #[x0, x1, x2, x3, x4, x5, x6, x7, s8, s9, .val (.int z)] := by
  obtain ⟨-, b⟩ := h
  rcases b with rfl | ⟨e, rfl⟩ <;> rfl
theorem own_ok8 {s8 s9 s10 : Slot} {d : UInt64} (h : own_OK s8 s9 s10) : own_OK (.val (.double d)) .second s10 := ⟨Or.inr ⟨_, rfl, rfl⟩, h.2⟩
theorem own_ok10 {d : UInt64} {z : Int32} : own_OK (.val (.double d)) .second (.val (.int z)) := ⟨Or.inr ⟨_, rfl, rfl⟩, Or.inr ⟨_, rfl⟩⟩
theorem own_ok0 : own_OK .unset .unset .unset := ⟨Or.inl ⟨rfl, rfl⟩, Or.inl rfl⟩
/-- a step of the elimination in one column, in quarters -/
def own_M1 (f a e t : Int) : Prop := e * 4 - f * a = t * 4 ∧ (f * a).natAbs ≤ 2 ^ 53 ∧ (t * 4).natAbs ≤ 2 ^ 53
def own_D1 (e a f : Int) : Prop := a ≠ 0 ∧ e * 4 = f * a ∧ f.natAbs ≤ 2 ^ 53
theorem own_cv0 {f : Int} (h : own_cv f 0 = (0 : Int32)) : f = 0 := Decidable.byContradiction fun k => own_ne0 k h
theorem own_M0 {f a e t : Int} (h : own_M1 f a e t) (h0 : f = 0) : e = t := by
  obtain ⟨h, -, -⟩ := h
  rw [h0, Int.zero_mul] at h; omega
def own_pv (κ κ1 : Nat) : Nat → Int32 := own_set (own_set (own_set (fun _ => (0 : Int32)) 0 (Int32.ofNat κ)) 1 (Int32.ofNat κ1)) 2 (2 : Int32)
theorem own_ofn {κ : Nat} (h : κ < 3) : (Int32.ofNat κ).toInt = κ := by
  have c : κ = 0 ∨ κ = 1 ∨ κ = 2 := by omega
  rcases c with rfl | rfl | rfl <;> rfl
theorem own_P0_lt {κ : Nat} {x y z : Int} (h : own_P0 κ x y z) : κ < 3 := by unfold own_P0 at h; omega
theorem own_P1_lt {κ : Nat} {y z : Int} (h : own_P1 κ y z) : κ < 3 := by unfold own_P1 at h; omega
def own_s1 (l : List Int) (i π : Nat) : List Int := (l.set π (l.getD i 0)).set i (l.getD π 0)
theorem own_pv0 {κ κ1 : Nat} (h : κ < 3) : ¬ ((own_pv κ κ1) 0) < 0 ∧ ((own_pv κ κ1) 0).toNatClampNeg = κ := by
  have c : κ = 0 ∨ κ = 1 ∨ κ = 2 := by omega
  show ¬ (Int32.ofNat κ) < 0 ∧ (Int32.ofNat κ).toNatClampNeg = κ
  rcases c with rfl | rfl | rfl <;> decide
theorem own_pv1 {κ κ1 : Nat} (h : κ1 < 3) : ¬ ((own_pv κ κ1) 1) < 0 ∧ ((own_pv κ κ1) 1).toNatClampNeg = κ1 := by
  have c : κ1 = 0 ∨ κ1 = 1 ∨ κ1 = 2 := by omega
  show ¬ (Int32.ofNat κ1) < 0 ∧ (Int32.ofNat κ1).toNatClampNeg = κ1
  rcases c with rfl | rfl | rfl <;> decide
theorem own_pv2 {κ κ1 : Nat} : ¬ ((own_pv κ κ1) 2) < 0 ∧ ((own_pv κ κ1) 2).toNatClampNeg = 2 := by
  show ¬ (2 : Int32) < 0 ∧ (2 : Int32).toNatClampNeg = 2
  decide
theorem own_irem (x y : Int32) : x - (x / y) * y = x % y := by
  have b1 := Int32.le_toInt (x % y)
  have b2 := Int32.toInt_lt (x % y)
  rw [Int32.toInt_mod] at b1 b2
  rw [← Int32.toInt_inj, Int32.toInt_mod]
  have k := Int.tmod_def x.toInt y.toInt
  have m : (x - (x / y) * y).toInt = (x.toInt - x.toInt.tdiv y.toInt * y.toInt).bmod (2 ^ 32) := by
    simp only [Int32.toInt_sub, Int32.toInt_mul, Int32.toInt_div, Int.bmod_mul_bmod, Int.sub_bmod_bmod]
  rw [m, show x.toInt - x.toInt.tdiv y.toInt * y.toInt = x.toInt.tmod y.toInt by rw [k, Int.mul_comm]]
  exact Int.bmod_eq_of_le (by omega) (by omega)
theorem own_s12_b (q : Int64) : -2048 ≤ (own_s12 q).toInt ∧ (own_s12 q).toInt ≤ 2047 := by
  have a := c_maskL q (4095 : Int64) 12 (by decide) (by decide)
  have c := c_l2i (q &&& (4095 : Int64))
  have n1 := Int32.le_toInt (q &&& (4095 : Int64)).toInt32
  have n2 := Int32.toInt_lt (q &&& (4095 : Int64)).toInt32
  have s := c_isub (q &&& (4095 : Int64)).toInt32 (2048 : Int32)
  have f : (2048 : Int32).toInt = 2048 := rfl
  have m1 := Int32.le_toInt (own_s12 q)
  have m2 := Int32.toInt_lt (own_s12 q)
  rw [show ((2 ^ 12 : Nat) : Int) = 4096 from rfl] at a
  unfold own_s12 at *
  omega
theorem own_nz1 {z : Int32} (h : -2048 ≤ z.toInt ∧ z.toInt ≤ 2047) (c : z < (0 : Int32)) : z.toInt ≠ 0 ∧ -2048 ≤ z.toInt ∧ z.toInt ≤ 2048 := by
  rw [Int32.lt_iff_toInt_lt, show (0 : Int32).toInt = 0 from rfl] at c; omega
theorem own_nz2 {z : Int32} (h : -2048 ≤ z.toInt ∧ z.toInt ≤ 2047) (c : ¬ z < (0 : Int32)) : (z + (1 : Int32)).toInt ≠ 0 ∧ -2048 ≤ (z + (1 : Int32)).toInt ∧ (z + (1 : Int32)).toInt ≤ 2048 := by
  rw [Int32.lt_iff_toInt_lt, show (0 : Int32).toInt = 0 from rfl] at c
  have q := c_iadd z (1 : Int32)
  have f : (1 : Int32).toInt = 1 := rfl
  have m1 := Int32.le_toInt (z + (1 : Int32))
  have m2 := Int32.toInt_lt (z + (1 : Int32))
  omega
theorem own_lk_b (p : Int32) : -2 ≤ (own_lk p).toInt ∧ (own_lk p).toInt ≤ 2 := by
  have a := c_and p (15 : Int32) (by decide)
  unfold own_lk
  rw [own_irem]
  have r := (c_irem (p &&& (15 : Int32)) (5 : Int32) 5 rfl).1 a.1
  have s := c_isub ((p &&& (15 : Int32)) % (5 : Int32)) (2 : Int32)
  have f : (2 : Int32).toInt = 2 := rfl
  have m1 := Int32.le_toInt (((p &&& (15 : Int32)) % (5 : Int32)) - (2 : Int32))
  have m2 := Int32.toInt_lt (((p &&& (15 : Int32)) % (5 : Int32)) - (2 : Int32))
  omega
def own_pp (p : Int32) : Int32 := ((p &&& (255 : Int32)) - ((p &&& (255 : Int32)) / (6 : Int32)) * (6 : Int32))
def own_t0 (p : Int32) : Int32 := (own_pp p / (2 : Int32))
def own_low (z : Int32) : Int32 := if z = (0 : Int32) then (1 : Int32) else (0 : Int32)
def own_hig (z : Int32) : Int32 := if z = (2 : Int32) then (1 : Int32) else (2 : Int32)
def own_t1 (p : Int32) : Int32 := if (own_pp p &&& (1 : Int32)) = (0 : Int32) then (own_low (own_t0 p)) else (own_hig (own_t0 p))
def own_t2 (p : Int32) : Int32 := (((3 : Int32) - own_t0 p) - own_t1 p)
def own_PM (i j k : Nat) : Prop := (i = 0 ∧ j = 1 ∧ k = 2) ∨ (i = 0 ∧ j = 2 ∧ k = 1) ∨ (i = 1 ∧ j = 0 ∧ k = 2) ∨ (i = 1 ∧ j = 2 ∧ k = 0) ∨ (i = 2 ∧ j = 0 ∧ k = 1) ∨ (i = 2 ∧ j = 1 ∧ k = 0)
theorem own_perm (p : Int32) : ∃ i j k : Nat, (own_t0 p).toInt = i ∧ (own_t1 p).toInt = j ∧ (own_t2 p).toInt = k ∧ i < 3 ∧ j < 3 ∧ k < 3 ∧ own_PM i j k := by
  have a := c_and p (255 : Int32) (by decide)
  have r := (c_irem (p &&& (255 : Int32)) (6 : Int32) 6 rfl).1 a.1
  have e : own_pp p = (p &&& (255 : Int32)) % (6 : Int32) := own_irem _ _
  rw [← e] at r
  unfold own_t2 own_t1 own_t0
  have c : (own_pp p).toInt = 0 ∨ (own_pp p).toInt = 1 ∨ (own_pp p).toInt = 2 ∨ (own_pp p).toInt = 3 ∨ (own_pp p).toInt = 4 ∨ (own_pp p).toInt = 5 := by omega
  rcases c with c | c | c | c | c | c
  · rw [Int32.toInt_inj.mp (show (own_pp p).toInt = (0 : Int32).toInt from c)]; exact ⟨0, 1, 2, by decide, by decide, by decide, by decide, by decide, by decide, by unfold own_PM; decide⟩
  · rw [Int32.toInt_inj.mp (show (own_pp p).toInt = (1 : Int32).toInt from c)]; exact ⟨0, 2, 1, by decide, by decide, by decide, by decide, by decide, by decide, by unfold own_PM; decide⟩
  · rw [Int32.toInt_inj.mp (show (own_pp p).toInt = (2 : Int32).toInt from c)]; exact ⟨1, 0, 2, by decide, by decide, by decide, by decide, by decide, by decide, by unfold own_PM; decide⟩
  · rw [Int32.toInt_inj.mp (show (own_pp p).toInt = (3 : Int32).toInt from c)]; exact ⟨1, 2, 0, by decide, by decide, by decide, by decide, by decide, by decide, by unfold own_PM; decide⟩
  · rw [Int32.toInt_inj.mp (show (own_pp p).toInt = (4 : Int32).toInt from c)]; exact ⟨2, 0, 1, by decide, by decide, by decide, by decide, by decide, by decide, by unfold own_PM; decide⟩
  · rw [Int32.toInt_inj.mp (show (own_pp p).toInt = (5 : Int32).toInt from c)]; exact ⟨2, 1, 0, by decide, by decide, by decide, by decide, by decide, by decide, by unfold own_PM; decide⟩
/-- the numbers: at most B -/
def own_B (B : Nat) (x : Int) : Prop := x.natAbs ≤ B
theorem own_B.mul {A B : Nat} {x y : Int} (h : own_B A x) (h2 : own_B B y) : own_B (A * B) (x * y) := by
  unfold own_B at *; rw [Int.natAbs_mul]; exact Nat.mul_le_mul h h2
theorem own_B.add {A B : Nat} {x y : Int} (h : own_B A x) (h2 : own_B B y) : own_B (A + B) (x + y) := by unfold own_B at *; omega
theorem own_B.le {A B : Nat} {x : Int} (h : own_B A x) (q : A ≤ B) : own_B B x := Nat.le_trans h q
theorem own_B.i {x : Int32} : own_B 2147483648 x.toInt := by
  have a := Int32.le_toInt x
  have b := Int32.toInt_lt x
  unfold own_B; omega
theorem own_m64 {x y : Int64} {B : Nat} (h : own_B B (x.toInt * y.toInt)) (hB : B < 9223372036854775808) : (x * y).toInt = x.toInt * y.toInt := by
  have q := c_lmul x y
  have m1 := Int64.le_toInt (x * y)
  have m2 := Int64.toInt_lt (x * y)
  unfold own_B at h
  generalize (x * y).toInt = a at *
  generalize x.toInt * y.toInt = b at *
  omega
theorem own_a64 {x y : Int64} {A B : Nat} (h : own_B A x.toInt) (h2 : own_B B y.toInt) (hB : A + B < 9223372036854775808) : (x + y).toInt = x.toInt + y.toInt := by
  have q := c_ladd x y
  have m1 := Int64.le_toInt (x + y)
  have m2 := Int64.toInt_lt (x + y)
  unfold own_B at *
  omega
/-- a small product of ints as longs -/
theorem own_kl {k u : Int32} {A B : Nat} (h : own_B A k.toInt) (h2 : own_B B u.toInt) (hB : A * B < 9223372036854775808) : ((k.toInt64) * (u.toInt64)).toInt = k.toInt * u.toInt ∧ own_B (A * B) ((k.toInt64) * (u.toInt64)).toInt := by
  have m := own_B.mul h h2
  rw [← c_i2l k, ← c_i2l u] at m ⊢
  rw [own_m64 m hB]
  exact ⟨rfl, m⟩
theorem own_4l {u : Int32} {B : Nat} (h2 : own_B B u.toInt) (hB : 4 * B < 9223372036854775808) : ((4 : Int64) * (u.toInt64)).toInt = 4 * u.toInt ∧ own_B (4 * B) ((4 : Int64) * (u.toInt64)).toInt := by
  have m : own_B (4 * B) ((4 : Int64).toInt * u.toInt64.toInt) := own_B.mul (show own_B 4 (4 : Int64).toInt by unfold own_B; decide) (by rw [c_i2l]; exact h2)
  rw [own_m64 m hB]
  exact ⟨by rw [c_i2l]; rfl, m⟩
theorem own_al {x y : Int64} {A B : Nat} {i j : Int} (h : x.toInt = i ∧ own_B A x.toInt) (h2 : y.toInt = j ∧ own_B B y.toInt) (hB : A + B < 9223372036854775808) : (x + y).toInt = i + j ∧ own_B (A + B) (x + y).toInt := by
  have e := own_a64 h.2 h2.2 hB
  exact ⟨by rw [e, h.1, h2.1], by rw [e]; exact own_B.add h.2 h2.2⟩
theorem own_lsum {n0 n1 n2 : Int64} {i0 i1 i2 : Int} (x0 x1 x2 : Int32) (h0 : n0.toInt = i0 ∧ own_B 32768 n0.toInt) (h1 : n1.toInt = i1 ∧ own_B 32768 n1.toInt) (h2 : n2.toInt = i2 ∧ own_B 32768 n2.toInt) :
    (((n0 * (x0.toInt64)) + (n1 * (x1.toInt64))) + (n2 * (x2.toInt64))).toInt = i0 * x0.toInt + i1 * x1.toInt + i2 * x2.toInt ∧ (((n0 * (x0.toInt64)) + (n1 * (x1.toInt64))) + (n2 * (x2.toInt64))).toInt.natAbs ≤ 2 ^ 53 := by
  have g : ∀ {n : Int64} {i : Int} (x : Int32), (n.toInt = i ∧ own_B 32768 n.toInt) → ((n * (x.toInt64)).toInt = i * x.toInt ∧ own_B 70368744177664 (n * (x.toInt64)).toInt) := by
    intro n i x h
    have m := own_B.mul h.2 (own_B.i (x := x))
    rw [← c_i2l x] at m
    have e := own_m64 m (by decide)
    exact ⟨by rw [e, h.1, c_i2l], by rw [e]; exact m⟩
  have s := own_al (own_al (g x0 h0) (g x1 h1) (by decide)) (g x2 h2) (by decide)
  exact ⟨s.1, Nat.le_trans s.2 (by decide)⟩
theorem own_b53 {n : Int64} {i : Int} (h : n.toInt = i ∧ own_B 32768 n.toInt) : n.toInt.natAbs ≤ 2 ^ 53 := Nat.le_trans h.2 (by decide)
theorem own_bb {n : Int64} {i : Int} {A : Nat} (h : n.toInt = i ∧ own_B A n.toInt) (q : A ≤ 32768) : n.toInt = i ∧ own_B 32768 n.toInt := ⟨h.1, own_B.le h.2 q⟩
theorem own_lin1 (K a b : Int) : (K * a + 4 * b) * 4 - K * (4 * a) = (4 * b) * 4 := by
  rw [show K * (4 * a) = 4 * (K * a) by rw [← Int.mul_assoc, Int.mul_comm K 4, Int.mul_assoc]]
  generalize K * a = x; omega
theorem own_lin2 (K a b : Int) : (K * a + b) * 4 - K * (4 * a) = b * 4 := by
  rw [show K * (4 * a) = 4 * (K * a) by rw [← Int.mul_assoc, Int.mul_comm K 4, Int.mul_assoc]]
  generalize K * a = x; omega
theorem own_lin0 (K a : Int) : (K * a) * 4 = K * (4 * a) := by rw [Int.mul_assoc, Int.mul_comm a 4]
theorem own_lt4 {K U : Int} (hK : own_B 2 K) (hU : U ≠ 0) : ((K * U).natAbs : Int) < ((4 * U).natAbs : Int) := by
  unfold own_B at hK
  rw [Int.natAbs_mul, Int.natAbs_mul]
  have p : 0 < U.natAbs := Int.natAbs_pos.mpr hU
  have q : K.natAbs * U.natAbs ≤ 2 * U.natAbs := Nat.mul_le_mul_right _ hK
  have r : (4 : Int).natAbs = 4 := rfl
  rw [r]; omega
theorem own_4ne {U : Int} (h : U ≠ 0) : 4 * U ≠ 0 := by omega
theorem own_n53 {A : Nat} {x : Int} (h : own_B A x) (q : A ≤ 9007199254740992) : x.natAbs ≤ 2 ^ 53 := Nat.le_trans h q
section Main
variable {U00 U01 U02 U11 U12 U22 K10 K20 K21 : Int}
theorem own_Db (h : U00 ≠ 0) (hK : own_B 2 K10) : own_D1 (K10 * U00) (4 * U00) K10 := ⟨own_4ne h, own_lin0 _ _, own_n53 hK (by decide)⟩
theorem own_b4 {u : Int} (h : own_B 2048 u) : own_B 8192 (4 * u) := own_B.mul (A := 4) (by unfold own_B; decide) h
theorem own_b44 {A : Nat} {u : Int} (h : own_B A u) : own_B (A * 4) (u * 4) := own_B.mul h (by unfold own_B; decide)
theorem own_Mb (hK : own_B 2 K10) (h1 : own_B 2048 U01) (h2 : own_B 2048 U11) : own_M1 K10 (4 * U01) (K10 * U01 + 4 * U11) (4 * U11) :=
  ⟨own_lin1 _ _ _, own_n53 (own_B.mul hK (own_b4 h1)) (by decide), own_n53 (own_b44 (own_b4 h2)) (by decide)⟩
theorem own_Mc {b : Int} {B : Nat} (hK : own_B 2 K20) (h1 : own_B 2048 U01) (h2 : own_B B b) (hB : B ≤ 32768) : own_M1 K20 (4 * U01) (K20 * U01 + b) b :=
  ⟨own_lin2 _ _ _, own_n53 (own_B.mul hK (own_b4 h1)) (by decide), own_n53 (own_b44 h2) (by omega)⟩
theorem own_main {S0 S1 S2 : Int} (b00 : own_B 2048 U00) (b01 : own_B 2048 U01) (b02 : own_B 2048 U02) (b11 : own_B 2048 U11) (b12 : own_B 2048 U12) (b22 : own_B 2048 U22) (k10 : own_B 2 K10) (k20 : own_B 2 K20) (k21 : own_B 2 K21) (n0 : U00 ≠ 0) (n1 : U11 ≠ 0) {i j k : Nat} (hP : own_PM i j k) :
    ∃ (kb : Nat) (m0 m1 m2 m3 m4 m5 m6 m7 m8 y3 y4 y5 y6 y7 y8 f1 u4 u5 f2 v7 v8 r0 r1 r2 : Int),
      own_row (own_row (own_row [0, 0, 0, 0, 0, 0, 0, 0, 0] i (4 * U00) (4 * U01) (4 * U02)) j (K10 * U00) (K10 * U01 + 4 * U11) (K10 * U02 + 4 * U12)) k (K20 * U00) (K20 * U01 + K21 * U11) (K20 * U02 + K21 * U12 + 4 * U22) = [m0, m1, m2, m3, m4, m5, m6, m7, m8] ∧
      own_P0 i m0 m3 m6 ∧ own_sr [m0, m1, m2, m3, m4, m5, m6, m7, m8] 0 i = [4 * U00, 4 * U01, 4 * U02, y3, y4, y5, y6, y7, y8] ∧
      own_D1 y3 (4 * U00) f1 ∧ own_M1 f1 (4 * U01) y4 u4 ∧ own_M1 f1 (4 * U02) y5 u5 ∧ own_D1 y6 (4 * U00) f2 ∧ own_M1 f2 (4 * U01) y7 v7 ∧ own_M1 f2 (4 * U02) y8 v8 ∧
      own_P1 kb u4 v7 ∧ own_sr [4 * U00, 4 * U01, 4 * U02, f1, u4, u5, f2, v7, v8] 1 kb = [4 * U00, 4 * U01, 4 * U02, K10, 4 * U11, 4 * U12, K20, K21 * U11, K21 * U12 + 4 * U22] ∧
      (([0, 0, 0].set i S0).set j S1).set k S2 = [r0, r1, r2] ∧ own_s1 (own_s1 (own_s1 [r0, r1, r2] 0 i) 1 kb) 2 2 = [S0, S1, S2] := by
  have hb0 := own_Db n0 k10
  have hb1 := own_Mb k10 b01 b11
  have hb2 := own_Mb k10 b02 b12
  have hc0 := own_Db n0 k20
  have hc1 := own_Mc (b := K21 * U11) k20 b01 (own_B.mul k21 b11) (by decide)
  have hc2 := own_Mc (b := K21 * U12 + 4 * U22) k20 b02 (own_B.add (own_B.mul k21 b12) (own_b4 b22)) (by decide)
  rw [← Int.add_assoc] at hc2
  have g1 := own_lt4 k10 n0
  have g2 := own_lt4 k20 n0
  have g3 := own_lt4 k21 n1
  have g1' : ¬ ((4 * U00).natAbs : Int) < ((K10 * U00).natAbs : Int) := Int.not_lt.mpr (Int.le_of_lt g1)
  have g2' : ¬ ((4 * U00).natAbs : Int) < ((K20 * U00).natAbs : Int) := Int.not_lt.mpr (Int.le_of_lt g2)
  have g3' : ¬ ((4 * U11).natAbs : Int) < ((K21 * U11).natAbs : Int) := Int.not_lt.mpr (Int.le_of_lt g3)
  rcases hP with ⟨rfl, rfl, rfl⟩ | ⟨rfl, rfl, rfl⟩ | ⟨rfl, rfl, rfl⟩ | ⟨rfl, rfl, rfl⟩ | ⟨rfl, rfl, rfl⟩ | ⟨rfl, rfl, rfl⟩
  · exact ⟨1, _, _, _, _, _, _, _, _, _, _, _, _, _, _, _, _, _, _, _, _, _, _, _, _, rfl, Or.inl ⟨rfl, g1', g2'⟩, rfl, hb0, hb1, hb2, hc0, hc1, hc2, Or.inl ⟨rfl, g3'⟩, rfl, rfl, rfl⟩
  · exact ⟨2, _, _, _, _, _, _, _, _, _, _, _, _, _, _, _, _, _, _, _, _, _, _, _, _, rfl, Or.inl ⟨rfl, g2', g1'⟩, rfl, hc0, hc1, hc2, hb0, hb1, hb2, Or.inr ⟨rfl, g3⟩, rfl, rfl, rfl⟩
  · exact ⟨1, _, _, _, _, _, _, _, _, _, _, _, _, _, _, _, _, _, _, _, _, _, _, _, _, rfl, Or.inr (Or.inl ⟨rfl, g1, g2'⟩), rfl, hb0, hb1, hb2, hc0, hc1, hc2, Or.inl ⟨rfl, g3'⟩, rfl, rfl, rfl⟩
  · exact ⟨2, _, _, _, _, _, _, _, _, _, _, _, _, _, _, _, _, _, _, _, _, _, _, _, _, rfl, Or.inr (Or.inl ⟨rfl, g2, g1'⟩), rfl, hc0, hc1, hc2, hb0, hb1, hb2, Or.inr ⟨rfl, g3⟩, rfl, rfl, rfl⟩
  · exact ⟨2, _, _, _, _, _, _, _, _, _, _, _, _, _, _, _, _, _, _, _, _, _, _, _, _, rfl, Or.inr (Or.inr ⟨rfl, g1, g2⟩), rfl, hc0, hc1, hc2, hb0, hb1, hb2, Or.inr ⟨rfl, g3⟩, rfl, rfl, rfl⟩
  · exact ⟨1, _, _, _, _, _, _, _, _, _, _, _, _, _, _, _, _, _, _, _, _, _, _, _, _, rfl, Or.inr (Or.inr ⟨rfl, g2, g1⟩), rfl, hb0, hb1, hb2, hc0, hc1, hc2, Or.inl ⟨rfl, g3'⟩, rfl, rfl, rfl⟩
theorem own_D3 (n1 : U11 ≠ 0) (k21 : own_B 2 K21) : own_D1 (K21 * U11) (4 * U11) K21 := own_Db n1 k21
theorem own_M3 (k21 : own_B 2 K21) (b12 : own_B 2048 U12) (b22 : own_B 2048 U22) : own_M1 K21 (4 * U12) (K21 * U12 + 4 * U22) (4 * U22) := own_Mb k21 b12 b22
/-- the solve's steps -/
theorem own_sol {X0 X1 X2 : Int} (b00 : own_B 2048 U00) (b01 : own_B 2048 U01) (b02 : own_B 2048 U02) (b11 : own_B 2048 U11) (b12 : own_B 2048 U12) (b22 : own_B 2048 U22) (k10 : own_B 2 K10) (k20 : own_B 2 K20) (k21 : own_B 2 K21) (n0 : U00 ≠ 0) (n1 : U11 ≠ 0) (n2 : U22 ≠ 0) (x0 : own_B 2147483648 X0) (x1 : own_B 2147483648 X1) (x2 : own_B 2147483648 X2) :
    ∃ g1 gx g2 px py pz : Int,
      own_M1 K10 ((4 * U00) * X0 + (4 * U01) * X1 + (4 * U02) * X2) ((K10 * U00) * X0 + (K10 * U01 + 4 * U11) * X1 + (K10 * U02 + 4 * U12) * X2) g1 ∧
      own_M1 K20 ((4 * U00) * X0 + (4 * U01) * X1 + (4 * U02) * X2) ((K20 * U00) * X0 + (K20 * U01 + K21 * U11) * X1 + (K20 * U02 + K21 * U12 + 4 * U22) * X2) gx ∧
      own_M1 K21 g1 gx g2 ∧ own_D1 g2 (4 * U22) (X2 * 4) ∧ own_M1 (4 * U12) (X2 * 4) g1 px ∧ own_D1 px (4 * U11) (X1 * 4) ∧
      own_M1 (4 * U01) (X1 * 4) ((4 * U00) * X0 + (4 * U01) * X1 + (4 * U02) * X2) py ∧ own_M1 (4 * U02) (X2 * 4) py pz ∧ own_D1 pz (4 * U00) (X0 * 4) := by
  have e1 : ∀ {a b : Int}, own_B 2048 a → own_B 2147483648 b → own_B 4398046511104 (a * b) := fun h h2 => own_B.mul h h2
  have q00 := e1 b00 x0; have q01 := e1 b01 x1; have q02 := e1 b02 x2; have q11 := e1 b11 x1; have q12 := e1 b12 x2; have q22 := e1 b22 x2
  have a4 : ∀ (a b : Int), (4 * a) * b = 4 * (a * b) := fun a b => Int.mul_assoc _ _ _
  have kk : ∀ (k a b : Int), (k * a) * b = k * (a * b) := fun k a b => Int.mul_assoc _ _ _
  have c4 : ∀ (a b : Int), (4 * a) * (b * 4) = 16 * (a * b) := fun a b => by rw [Int.mul_assoc, ← Int.mul_assoc a b 4, Int.mul_comm (a * b) 4, ← Int.mul_assoc]; rfl
  have d4 : ∀ (a b : Int), (a * 4) * (4 * b) = 16 * (b * a) := fun a b => by rw [Int.mul_comm, c4]
  have w0 : (4 * U00) * X0 + (4 * U01) * X1 + (4 * U02) * X2 = 4 * (U00 * X0 + U01 * X1 + U02 * X2) := by rw [a4, a4, a4]; omega
  have w1 : (K10 * U00) * X0 + (K10 * U01 + 4 * U11) * X1 + (K10 * U02 + 4 * U12) * X2 = K10 * (U00 * X0 + U01 * X1 + U02 * X2) + 4 * (U11 * X1 + U12 * X2) := by
    simp only [Int.add_mul, Int.mul_add, Int.mul_assoc]; omega
  have w2 : (K20 * U00) * X0 + (K20 * U01 + K21 * U11) * X1 + (K20 * U02 + K21 * U12 + 4 * U22) * X2 = K20 * (U00 * X0 + U01 * X1 + U02 * X2) + (K21 * (U11 * X1 + U12 * X2) + 4 * (U22 * X2)) := by
    simp only [Int.add_mul, Int.mul_add, Int.mul_assoc]; omega
  have bY0 := own_B.add (own_B.add q00 q01) q02
  have bY1 := own_B.add q11 q12
  have l2 : own_B 4 4 := by unfold own_B; decide
  rw [w0, w1, w2]
  have t4 : own_B 16 (16 : Int) := by unfold own_B; decide
  refine ⟨4 * (U11 * X1 + U12 * X2), K21 * (U11 * X1 + U12 * X2) + 4 * (U22 * X2), 4 * (U22 * X2), 4 * (U11 * X1), 4 * (U00 * X0) + 4 * (U02 * X2), 4 * (U00 * X0), ?_, ?_, ?_, ?_, ?_, ?_, ?_, ?_, ?_⟩
  · exact ⟨own_lin1 _ _ _, own_n53 (own_B.mul k10 (own_B.mul l2 bY0)) (by decide), own_n53 (own_b44 (own_B.mul l2 bY1)) (by decide)⟩
  · exact ⟨own_lin2 _ _ _, own_n53 (own_B.mul k20 (own_B.mul l2 bY0)) (by decide), own_n53 (own_b44 (own_B.add (own_B.mul k21 bY1) (own_B.mul l2 q22))) (by decide)⟩
  · exact ⟨own_lin1 _ _ _, own_n53 (own_B.mul k21 (own_B.mul l2 bY1)) (by decide), own_n53 (own_b44 (own_B.mul l2 q22)) (by decide)⟩
  · exact ⟨own_4ne n2, by rw [d4]; omega, own_n53 (own_b44 x2) (by decide)⟩
  · exact ⟨by rw [c4]; omega, by rw [c4]; exact own_n53 (own_B.mul t4 q12) (by decide), own_n53 (own_b44 (own_B.mul l2 q11)) (by decide)⟩
  · exact ⟨own_4ne n1, by rw [d4]; omega, own_n53 (own_b44 x1) (by decide)⟩
  · exact ⟨by rw [c4]; omega, by rw [c4]; exact own_n53 (own_B.mul t4 q01) (by decide), own_n53 (own_b44 (own_B.add (own_B.mul l2 q00) (own_B.mul l2 q02))) (by decide)⟩
  · exact ⟨by rw [c4]; omega, by rw [c4]; exact own_n53 (own_B.mul t4 q02) (by decide), own_n53 (own_b44 (own_B.mul l2 q00)) (by decide)⟩
  · exact ⟨own_4ne n0, by rw [d4]; omega, own_n53 (own_b44 x0) (by decide)⟩
end Main
theorem own_toB {z : Int32} (h : -2048 ≤ z.toInt ∧ z.toInt ≤ 2048) : own_B 2048 z.toInt := by unfold own_B; omega
theorem own_toC {z : Int32} (h : -2048 ≤ z.toInt ∧ z.toInt ≤ 2047) : own_B 2048 z.toInt := by unfold own_B; omega
theorem own_toK {z : Int32} (h : -2 ≤ z.toInt ∧ z.toInt ≤ 2) : own_B 2 z.toInt := by unfold own_B; omega
theorem pn_0 : plainName "com/example/inexact_odds/inexactodds/reach/DenseLuSolvePinLaw" = true := by first | (simp [plainName, overriddenIn]; done) | decide +kernel
theorem d2_0 : decode method_2_code 0 = .ok (.lload_n 0, 1) := by decide +kernel
theorem d2_1 : decode method_2_code 1 = .ok (.ldc2_w 7, 3) := by decide +kernel
theorem d2_4 : decode method_2_code 4 = .ok (.land, 1) := by decide +kernel
theorem d2_5 : decode method_2_code 5 = .ok (.l2i, 1) := by decide +kernel
theorem d2_6 : decode method_2_code 6 = .ok (.sipush 2048, 3) := by decide +kernel
theorem d2_9 : decode method_2_code 9 = .ok (.isub, 1) := by decide +kernel
theorem d2_10 : decode method_2_code 10 = .ok (.ireturn, 1) := by decide +kernel
theorem ef_rm_s12 (m : MethodId) (q1 : Int64) : entryFrame m #[(.long q1)] 2 = mkF m 0 #[vJ q1, .second] [] := by first | (simp [entryFrame, mkF, argsToLocals, Value.category]; done) | rfl
def Q_rm_s12 (Z : State) (q1 : Int64) (h0 : Heap) (n0 : Nat) (v : Option Value) (h : Heap) (L : List Loc) : Prop := ∃ z : Int32, v = some (.int z) ∧ Fr n0 L ∧ h = h0 ∧ -2048 ≤ z.toInt ∧ z.toInt ≤ 2047
set_option maxRecDepth 65536 in
set_option maxHeartbeats 40000000 in
theorem rm_s12 (l : Launch) (Z : State) (a0 : Array Value) (hw : ∀ d ∈ tables_1, d.before a0 Z = true) (ws : List Jvm.Cond) (q1 : Int64) (h0 : Heap) (n0 : Nat) (Z0 : n0 ≤ h0.size) :
    MetFree l (⟨"com/example/inexact_odds/inexactodds/reach/DenseLuSolvePinLaw", "s12", "(J)I"⟩ : MethodName) (head1 (Jvm.Cond.code (⟨"com/example/inexact_odds/inexactodds/reach/DenseLuSolvePinLaw", "s12", "(J)I"⟩ : MethodName) method_2_code 2 (some .int) :: ws) ({ frames := 0, cells := 0, slots := 0, locals := 0 } : Room)) (fun a U => a = #[(.long q1)] ∧ Z.Warmed39 U.vm ∧ U.heap = h0) (fun _ _ _ _ _ => True) (fun _ U oC U' => ∃ v L, oC = .returned v ∧ Q_rm_s12 Z q1 h0 n0 v U'.heap L ∧ FrameEnd U oC U' L ({ frames := 0, cells := 0, slots := 0, locals := 0 } : Room).cells ({ frames := 0, cells := 0, slots := 0, locals := 0 } : Room).slots) := by
  refine MetFree.of_bodySF (plainFor_of_name pn_0) hisR ?_
  intro p e s m args below meth c s₁ Bd hml0 hP hK
  obtain ⟨rfl, hZ, hh⟩ := hP
  have hx := Bd.exec
  have hby := Bd.bytes
  have hml : c.maxLocals = 2 := hml0
  have hown : s.vm.findClass "com/example/inexact_odds/inexactodds/reach/DenseLuSolvePinLaw" = some m.cls := findClass_of_methodNamed Bd.named
  have hnm := (name_of_methodNamed Bd.named Bd.method).1
  have X0 : Stand p l e ({ frames := 0, cells := 0, slots := 0, locals := 0 } : Room) s m #[(.long q1)] below meth c s₁ [] 0 0 := Stand.of_body Bd
  have e0 : s₁.heap = h0 := by rw [← hh, Bd.state]; rfl
  have N0 := Fr.nil n0
  have pre0 : ∀ tg, Steps p.tables e below (s₁.setTop (mkF m 0 #[vJ q1, .second] [])) tg → Steps p.tables e below (s₁.setTop (entryFrame m #[(.long q1)] 2)) tg := fun t k => castTop (ef_rm_s12 m q1) k
  have pre00 : ∀ tg, Steps p.tables e below (s₁.setTop (mkF m 0 #[vJ q1, .second] [])) tg → Steps p.tables e below (s₁.setTop (mkF m 0 #[vJ q1, .second] [])) tg := fun _ k => k
  have R1 : ∀ tg, Steps p.tables e below (s₁.setTop (mkF m 10 #[vJ q1, .second] [(.int (((q1 &&& (4095 : Int64)).toInt32) - (2048 : Int32)))])) tg → Steps p.tables e below (s₁.setTop (mkF m 0 #[vJ q1, .second] [])) tg := by
    intro tg kt
    refine pre00 _ ?_
    show Steps p.tables e below (s₁.setTop (mkF m 0 #[vJ q1, .second] [])) _
    refine XS.lloadN X0.here hx rfl (hb hby d2_0) rfl ?_
    show Steps p.tables e below (s₁.setTop (mkF m 1 #[vJ q1, .second] [(.long q1)])) _
    refine X0.ldc2Long hx hown (mvT hZ (hw _ (List.mem_of_getElem? (i := 7) rfl))) (g := (mkF m 1 #[vJ q1, .second] [(.long q1)])) rfl (hb hby d2_1) _ ?_
    show Steps p.tables e below (s₁.setTop (mkF m 4 #[vJ q1, .second] [(.long (4095 : Int64)), (.long q1)])) _
    refine XS.land X0.here hx rfl (hb hby d2_4) rfl ?_
    show Steps p.tables e below (s₁.setTop (mkF m 5 #[vJ q1, .second] [(.long (q1 &&& (4095 : Int64)))])) _
    refine XS.l2i X0.here hx rfl (hb hby d2_5) rfl ?_
    refine XS.sipush X0.here hx rfl (hb hby d2_6) ?_
    show Steps p.tables e below (s₁.setTop (mkF m 9 #[vJ q1, .second] [(.int (2048 : Int32)), (.int ((q1 &&& (4095 : Int64)).toInt32))])) _
    refine XS.isub X0.here hx rfl (hb hby d2_9) rfl ?_
    exact kt
  obtain ⟨fs, hr, hrun, hended, hW, hsame⟩ := X0.leave (v := some (.int (((q1 &&& (4095 : Int64)).toInt32) - (2048 : Int32)))) (fun h => by rw [Bd.returns] at h; cases h)
  refine ⟨_, _, pre0 _ (R1 _ ?_), hrun, hended, _, _, rfl, ?_, ⟨_, rfl⟩, hW, hsame.mono (by decide) (by decide)⟩
  · exact retI X0 hx Bd.returns (hb hby d2_10) hr
  · show Q_rm_s12 Z q1 h0 n0 _ s₁.heap _
    rw [e0]
    exact ⟨_, rfl, N0, rfl, own_s12_b q1⟩
theorem d1_0 : decode method_3_code 0 = .ok (.lload_n 0, 1) := by decide +kernel
theorem pd_0 : parseMethodDescriptor "(J)I" = some ⟨[.long], some .int⟩ := by decide +kernel
theorem d1_1 : decode method_3_code 1 = .ok (.invokestatic 9, 3) := by decide +kernel
theorem d1_4 : decode method_3_code 4 = .ok (.istore_n 2, 1) := by decide +kernel
theorem d1_5 : decode method_3_code 5 = .ok (.iload_n 2, 1) := by decide +kernel
theorem d1_6 : decode method_3_code 6 = .ok (.ifCond .lt 9, 3) := by decide +kernel
theorem d1_15 : decode method_3_code 15 = .ok (.iload_n 2, 1) := by decide +kernel
theorem d1_16 : decode method_3_code 16 = .ok (.ireturn, 1) := by decide +kernel
theorem d1_9 : decode method_3_code 9 = .ok (.iload_n 2, 1) := by decide +kernel
theorem d1_10 : decode method_3_code 10 = .ok (.iconst 1, 1) := by decide +kernel
theorem d1_11 : decode method_3_code 11 = .ok (.iadd, 1) := by decide +kernel
theorem d1_12 : decode method_3_code 12 = .ok (.goto 4, 3) := by decide +kernel
theorem ef_rm_nz (m : MethodId) (q1 : Int64) : entryFrame m #[(.long q1)] 3 = mkF m 0 #[vJ q1, .second, .unset] [] := by first | (simp [entryFrame, mkF, argsToLocals, Value.category]; done) | rfl
def Q_rm_nz (Z : State) (q1 : Int64) (h0 : Heap) (n0 : Nat) (v : Option Value) (h : Heap) (L : List Loc) : Prop := ∃ z : Int32, v = some (.int z) ∧ Fr n0 L ∧ h = h0 ∧ z.toInt ≠ 0 ∧ -2048 ≤ z.toInt ∧ z.toInt ≤ 2048
set_option maxRecDepth 65536 in
set_option maxHeartbeats 40000000 in
theorem rm_nz (l : Launch) (Z : State) (a0 : Array Value) (hw : ∀ d ∈ tables_1, d.before a0 Z = true) (ws : List Jvm.Cond) (q1 : Int64) (h0 : Heap) (n0 : Nat) (Z0 : n0 ≤ h0.size) :
    MetFree l (⟨"com/example/inexact_odds/inexactodds/reach/DenseLuSolvePinLaw", "nz12", "(J)I"⟩ : MethodName) (head1 (Jvm.Cond.code (⟨"com/example/inexact_odds/inexactodds/reach/DenseLuSolvePinLaw", "nz12", "(J)I"⟩ : MethodName) method_3_code 3 (some .int) :: ws) ({ frames := 1, cells := 0, slots := 0, locals := 13 } : Room)) (fun a U => a = #[(.long q1)] ∧ Z.Warmed39 U.vm ∧ U.heap = h0) (fun _ _ _ _ _ => True) (fun _ U oC U' => ∃ v L, oC = .returned v ∧ Q_rm_nz Z q1 h0 n0 v U'.heap L ∧ FrameEnd U oC U' L ({ frames := 1, cells := 0, slots := 0, locals := 13 } : Room).cells ({ frames := 1, cells := 0, slots := 0, locals := 13 } : Room).slots) := by
  refine MetFree.of_bodySF (plainFor_of_name pn_0) hisR ?_
  intro p e s m args below meth c s₁ Bd hml0 hP hK
  obtain ⟨rfl, hZ, hh⟩ := hP
  have hx := Bd.exec
  have hby := Bd.bytes
  have hml : c.maxLocals = 3 := hml0
  have hown : s.vm.findClass "com/example/inexact_odds/inexactodds/reach/DenseLuSolvePinLaw" = some m.cls := findClass_of_methodNamed Bd.named
  have hnm := (name_of_methodNamed Bd.named Bd.method).1
  have X0 : Stand p l e ({ frames := 1, cells := 0, slots := 0, locals := 13 } : Room) s m #[(.long q1)] below meth c s₁ [] 0 0 := Stand.of_body Bd
  have e0 : s₁.heap = h0 := by rw [← hh, Bd.state]; rfl
  have N0 := Fr.nil n0
  have pre0 : ∀ tg, Steps p.tables e below (s₁.setTop (mkF m 0 #[vJ q1, .second, .unset] [])) tg → Steps p.tables e below (s₁.setTop (entryFrame m #[(.long q1)] 3)) tg := fun t k => castTop (ef_rm_nz m q1) k
  have pre00 : ∀ tg, Steps p.tables e below (s₁.setTop (mkF m 0 #[vJ q1, .second, .unset] [])) tg → Steps p.tables e below (s₁.setTop (mkF m 0 #[vJ q1, .second, .unset] [])) tg := fun _ k => k
  have R2 : ∀ tg, Steps p.tables e below (s₁.setTop (mkF m 1 #[vJ q1, .second, .unset] [(.long q1)])) tg → Steps p.tables e below (s₁.setTop (mkF m 0 #[vJ q1, .second, .unset] [])) tg := by
    intro tg kt
    refine pre00 _ ?_
    show Steps p.tables e below (s₁.setTop (mkF m 0 #[vJ q1, .second, .unset] [])) _
    refine XS.lloadN X0.here hx rfl (hb hby d1_0) rfl ?_
    exact kt
  obtain ⟨_, _, ⟨T3, L3, k3, n3⟩, -, X3, ⟨Lc3, hQ3, l3, y3, z3⟩, st3⟩ := Jvm.LawKit.callS X0 hx (y := (⟨"com/example/inexact_odds/inexactodds/reach/DenseLuSolvePinLaw", "s12", "(J)I"⟩ : MethodName)) hown (mvT hZ (hw _ (List.mem_of_getElem? (i := 4) rfl))) (mvT hZ (hw _ (List.mem_of_getElem? (i := 5) rfl))) (mvT hZ (hw _ (List.mem_of_getElem? (i := 2) rfl))) (mvT hZ (hw _ (List.mem_of_getElem? (i := 6) rfl))) (by decide) (backOf (W := 0) (rm_s12 l Z a0 hw [] q1 h0 n0 Z0) hZ (hw _ (List.mem_of_getElem? (i := 6) rfl)) (hw _ (List.mem_of_getElem? (i := 2) rfl)) (by decide) (by decide)) (g := (mkF m 1 #[vJ q1, .second, .unset] [(.long q1)])) rfl (by rw [hml]; rfl) (argsL := [(.long q1)]) (rest := []) (lenOf pd_0 rfl) rfl (by show 2 * 0 + _ ≤ _; exact Nat.le_of_eq rfl) (hb hby d1_1) (fun _ _ => ⟨rfl, e0, (by decide : 0 + 0 ≤ _), (by decide : 0 + 0 ≤ _)⟩)
  dsimp only [Pt.U, Pt.locs, Pt.cells, Pt.slots] at X3 l3 y3 z3 st3 hQ3
  rw [l3, y3, z3] at X3
  obtain ⟨zz, rfl, N3q, hh3, bz⟩ := hQ3
  have N3 := Fr.app N0 N3q
  have R4 : ∀ tg, Steps p.tables e below (T3.setTop (mkF m 6 #[vJ q1, .second, vI zz] [(.int zz)])) tg → Steps p.tables e below (s₁.setTop (mkF m 0 #[vJ q1, .second, .unset] [])) tg := by
    intro tg kt
    refine R2 _ ?_
    refine st3 _ ?_
    show Steps p.tables e below (T3.setTop (mkF m 4 #[vJ q1, .second, .unset] [(.int zz)])) _
    refine XS.istoreN X3.here hx rfl (hb hby d1_4) rfl (l' := #[vJ q1, .second, vI zz]) rfl ?_
    refine XS.iloadN X3.here hx rfl (hb hby d1_5) rfl ?_
    exact kt
  clear R2 st3
  by_cases hc : zz < (0 : Int32)
  · have R5 : ∀ tg, Steps p.tables e below (T3.setTop (mkF m 16 #[vJ q1, .second, vI zz] [(.int zz)])) tg → Steps p.tables e below (s₁.setTop (mkF m 0 #[vJ q1, .second, .unset] [])) tg := by
      intro tg kt
      refine R4 _ ?_
      show Steps p.tables e below (T3.setTop (mkF m 6 #[vJ q1, .second, vI zz] [(.int zz)])) _
      refine XS.ifYes X3.here hx rfl (pc0 := 6) (pc' := 15) rfl (hb hby d1_6) rfl ((if0 _ _).trans (tlt (hc : zz < (0 : Int32))).1) (by decide) (by decide) ?_
      refine XS.iloadN X3.here hx rfl (hb hby d1_15) rfl ?_
      exact kt
    clear R4
    obtain ⟨fs, hr, hrun, hended, hW, hsame⟩ := X3.leave (v := some (.int zz)) (fun h => by rw [Bd.returns] at h; cases h)
    refine ⟨_, _, pre0 _ (R5 _ ?_), hrun, hended, _, _, rfl, ?_, ⟨_, rfl⟩, hW, hsame.mono (by decide) (by decide)⟩
    · exact retI X3 hx Bd.returns (hb hby d1_16) hr
    · show Q_rm_nz Z q1 h0 n0 _ T3.heap _
      rw [hh3]
      exact ⟨_, rfl, N3, rfl, own_nz1 bz hc⟩
  · have R6 : ∀ tg, Steps p.tables e below (T3.setTop (mkF m 16 #[vJ q1, .second, vI zz] [(.int (zz + (1 : Int32)))])) tg → Steps p.tables e below (s₁.setTop (mkF m 0 #[vJ q1, .second, .unset] [])) tg := by
      intro tg kt
      refine R4 _ ?_
      show Steps p.tables e below (T3.setTop (mkF m 6 #[vJ q1, .second, vI zz] [(.int zz)])) _
      refine XS.ifNo X3.here hx rfl (hb hby d1_6) rfl ((if0 _ _).trans (flt (hc : ¬ (zz < (0 : Int32)))).1) ?_
      refine XS.iloadN X3.here hx rfl (hb hby d1_9) rfl ?_
      refine XS.iconst X3.here hx rfl (hb hby d1_10) ?_
      show Steps p.tables e below (T3.setTop (mkF m 11 #[vJ q1, .second, vI zz] [(.int (1 : Int32)), (.int zz)])) _
      refine XS.iadd X3.here hx rfl (hb hby d1_11) rfl ?_
      show Steps p.tables e below (T3.setTop (mkF m 12 #[vJ q1, .second, vI zz] [(.int (zz + (1 : Int32)))])) _
      refine XS.goto X3.here hx rfl (pc0 := 12) (pc' := 16) rfl (hb hby d1_12) (by decide) (by decide) ?_
      exact kt
    clear R4
    obtain ⟨fs, hr, hrun, hended, hW, hsame⟩ := X3.leave (v := some (.int (zz + (1 : Int32)))) (fun h => by rw [Bd.returns] at h; cases h)
    refine ⟨_, _, pre0 _ (R6 _ ?_), hrun, hended, _, _, rfl, ?_, ⟨_, rfl⟩, hW, hsame.mono (by decide) (by decide)⟩
    · exact retI X3 hx Bd.returns (hb hby d1_16) hr
    · show Q_rm_nz Z q1 h0 n0 _ T3.heap _
      rw [hh3]
      exact ⟨_, rfl, N3, rfl, own_nz2 bz hc⟩
theorem d3_0 : decode method_4_code 0 = .ok (.iload_n 0, 1) := by decide +kernel
theorem d3_1 : decode method_4_code 1 = .ok (.bipush 15, 2) := by decide +kernel
theorem d3_3 : decode method_4_code 3 = .ok (.iand, 1) := by decide +kernel
theorem d3_4 : decode method_4_code 4 = .ok (.iconst 5, 1) := by decide +kernel
theorem d3_5 : decode method_4_code 5 = .ok (.irem, 1) := by decide +kernel
theorem d3_6 : decode method_4_code 6 = .ok (.iconst 2, 1) := by decide +kernel
theorem d3_7 : decode method_4_code 7 = .ok (.isub, 1) := by decide +kernel
theorem d3_8 : decode method_4_code 8 = .ok (.ireturn, 1) := by decide +kernel
theorem ef_rm_lk (m : MethodId) (p1 : Int32) : entryFrame m #[(.int p1)] 1 = mkF m 0 #[vI p1] [] := by first | (simp [entryFrame, mkF, argsToLocals, Value.category]; done) | rfl
def Q_rm_lk (Z : State) (p1 : Int32) (h0 : Heap) (n0 : Nat) (v : Option Value) (h : Heap) (L : List Loc) : Prop := ∃ z : Int32, v = some (.int z) ∧ Fr n0 L ∧ h = h0 ∧ -2 ≤ z.toInt ∧ z.toInt ≤ 2
set_option maxRecDepth 65536 in
set_option maxHeartbeats 40000000 in
theorem rm_lk (l : Launch) (Z : State) (a0 : Array Value) (hw : ∀ d ∈ tables_1, d.before a0 Z = true) (ws : List Jvm.Cond) (p1 : Int32) (h0 : Heap) (n0 : Nat) (Z0 : n0 ≤ h0.size) :
    MetFree l (⟨"com/example/inexact_odds/inexactodds/reach/DenseLuSolvePinLaw", "lk", "(I)I"⟩ : MethodName) (head1 (Jvm.Cond.code (⟨"com/example/inexact_odds/inexactodds/reach/DenseLuSolvePinLaw", "lk", "(I)I"⟩ : MethodName) method_4_code 1 (some .int) :: ws) ({ frames := 0, cells := 0, slots := 0, locals := 0 } : Room)) (fun a U => a = #[(.int p1)] ∧ Z.Warmed39 U.vm ∧ U.heap = h0) (fun _ _ _ _ _ => True) (fun _ U oC U' => ∃ v L, oC = .returned v ∧ Q_rm_lk Z p1 h0 n0 v U'.heap L ∧ FrameEnd U oC U' L ({ frames := 0, cells := 0, slots := 0, locals := 0 } : Room).cells ({ frames := 0, cells := 0, slots := 0, locals := 0 } : Room).slots) := by
  refine MetFree.of_bodySF (plainFor_of_name pn_0) hisR ?_
  intro p e s m args below meth c s₁ Bd hml0 hP hK
  obtain ⟨rfl, hZ, hh⟩ := hP
  have hx := Bd.exec
  have hby := Bd.bytes
  have hml : c.maxLocals = 1 := hml0
  have hown : s.vm.findClass "com/example/inexact_odds/inexactodds/reach/DenseLuSolvePinLaw" = some m.cls := findClass_of_methodNamed Bd.named
  have hnm := (name_of_methodNamed Bd.named Bd.method).1
  have X0 : Stand p l e ({ frames := 0, cells := 0, slots := 0, locals := 0 } : Room) s m #[(.int p1)] below meth c s₁ [] 0 0 := Stand.of_body Bd
  have e0 : s₁.heap = h0 := by rw [← hh, Bd.state]; rfl
  have N0 := Fr.nil n0
  have pre0 : ∀ tg, Steps p.tables e below (s₁.setTop (mkF m 0 #[vI p1] [])) tg → Steps p.tables e below (s₁.setTop (entryFrame m #[(.int p1)] 1)) tg := fun t k => castTop (ef_rm_lk m p1) k
  have pre00 : ∀ tg, Steps p.tables e below (s₁.setTop (mkF m 0 #[vI p1] [])) tg → Steps p.tables e below (s₁.setTop (mkF m 0 #[vI p1] [])) tg := fun _ k => k
  have R7 : ∀ tg, Steps p.tables e below (s₁.setTop (mkF m 8 #[vI p1] [(.int (((p1 &&& (15 : Int32)) - ((p1 &&& (15 : Int32)) / (5 : Int32)) * (5 : Int32)) - (2 : Int32)))])) tg → Steps p.tables e below (s₁.setTop (mkF m 0 #[vI p1] [])) tg := by
    intro tg kt
    refine pre00 _ ?_
    show Steps p.tables e below (s₁.setTop (mkF m 0 #[vI p1] [])) _
    refine XS.iloadN X0.here hx rfl (hb hby d3_0) rfl ?_
    refine XS.bipush X0.here hx rfl (hb hby d3_1) ?_
    show Steps p.tables e below (s₁.setTop (mkF m 3 #[vI p1] [(.int (15 : Int32)), (.int p1)])) _
    refine XS.iand X0.here hx rfl (hb hby d3_3) rfl ?_
    refine XS.iconst X0.here hx rfl (hb hby d3_4) ?_
    show Steps p.tables e below (s₁.setTop (mkF m 5 #[vI p1] [(.int (5 : Int32)), (.int (p1 &&& (15 : Int32)))])) _
    refine XS.irem X0.here hx rfl (hb hby d3_5) rfl (by decide) ?_
    refine XS.iconst X0.here hx rfl (hb hby d3_6) ?_
    show Steps p.tables e below (s₁.setTop (mkF m 7 #[vI p1] [(.int (2 : Int32)), (.int ((p1 &&& (15 : Int32)) - ((p1 &&& (15 : Int32)) / (5 : Int32)) * (5 : Int32)))])) _
    refine XS.isub X0.here hx rfl (hb hby d3_7) rfl ?_
    exact kt
  obtain ⟨fs, hr, hrun, hended, hW, hsame⟩ := X0.leave (v := some (.int (((p1 &&& (15 : Int32)) - ((p1 &&& (15 : Int32)) / (5 : Int32)) * (5 : Int32)) - (2 : Int32)))) (fun h => by rw [Bd.returns] at h; cases h)
  refine ⟨_, _, pre0 _ (R7 _ ?_), hrun, hended, _, _, rfl, ?_, ⟨_, rfl⟩, hW, hsame.mono (by decide) (by decide)⟩
  · exact retI X0 hx Bd.returns (hb hby d3_8) hr
  · show Q_rm_lk Z p1 h0 n0 _ s₁.heap _
    rw [e0]
    exact ⟨_, rfl, N0, rfl, own_lk_b p1⟩
theorem d4_0 : decode method_5_code 0 = .ok (.aload_n 0, 1) := by decide +kernel
theorem d4_1 : decode method_5_code 1 = .ok (.iconst 3, 1) := by decide +kernel
theorem d4_2 : decode method_5_code 2 = .ok (.iload_n 2, 1) := by decide +kernel
theorem d4_3 : decode method_5_code 3 = .ok (.imul, 1) := by decide +kernel
theorem d4_4 : decode method_5_code 4 = .ok (.lload_n 3, 1) := by decide +kernel
theorem d4_5 : decode method_5_code 5 = .ok (.l2d, 1) := by decide +kernel
theorem d4_6 : decode method_5_code 6 = .ok (.ldc2_w 15, 3) := by decide +kernel
theorem d4_9 : decode method_5_code 9 = .ok (.ddiv, 1) := by decide +kernel
theorem d4_10 : decode method_5_code 10 = .ok (.dastore, 1) := by decide +kernel
theorem d4_11 : decode method_5_code 11 = .ok (.aload_n 0, 1) := by decide +kernel
theorem d4_12 : decode method_5_code 12 = .ok (.iconst 3, 1) := by decide +kernel
theorem d4_13 : decode method_5_code 13 = .ok (.iload_n 2, 1) := by decide +kernel
theorem d4_14 : decode method_5_code 14 = .ok (.imul, 1) := by decide +kernel
theorem d4_15 : decode method_5_code 15 = .ok (.iconst 1, 1) := by decide +kernel
theorem d4_16 : decode method_5_code 16 = .ok (.iadd, 1) := by decide +kernel
theorem d4_17 : decode method_5_code 17 = .ok (.lload 5, 2) := by decide +kernel
theorem d4_19 : decode method_5_code 19 = .ok (.l2d, 1) := by decide +kernel
theorem d4_20 : decode method_5_code 20 = .ok (.ldc2_w 15, 3) := by decide +kernel
theorem d4_23 : decode method_5_code 23 = .ok (.ddiv, 1) := by decide +kernel
theorem d4_24 : decode method_5_code 24 = .ok (.dastore, 1) := by decide +kernel
theorem d4_25 : decode method_5_code 25 = .ok (.aload_n 0, 1) := by decide +kernel
theorem d4_26 : decode method_5_code 26 = .ok (.iconst 3, 1) := by decide +kernel
theorem d4_27 : decode method_5_code 27 = .ok (.iload_n 2, 1) := by decide +kernel
theorem d4_28 : decode method_5_code 28 = .ok (.imul, 1) := by decide +kernel
theorem d4_29 : decode method_5_code 29 = .ok (.iconst 2, 1) := by decide +kernel
theorem d4_30 : decode method_5_code 30 = .ok (.iadd, 1) := by decide +kernel
theorem d4_31 : decode method_5_code 31 = .ok (.lload 7, 2) := by decide +kernel
theorem d4_33 : decode method_5_code 33 = .ok (.l2d, 1) := by decide +kernel
theorem d4_34 : decode method_5_code 34 = .ok (.ldc2_w 15, 3) := by decide +kernel
theorem d4_37 : decode method_5_code 37 = .ok (.ddiv, 1) := by decide +kernel
theorem d4_38 : decode method_5_code 38 = .ok (.dastore, 1) := by decide +kernel
theorem d4_39 : decode method_5_code 39 = .ok (.aload_n 1, 1) := by decide +kernel
theorem d4_40 : decode method_5_code 40 = .ok (.iload_n 2, 1) := by decide +kernel
theorem d4_41 : decode method_5_code 41 = .ok (.lload_n 3, 1) := by decide +kernel
theorem d4_42 : decode method_5_code 42 = .ok (.iload 9, 2) := by decide +kernel
theorem d4_44 : decode method_5_code 44 = .ok (.i2l, 1) := by decide +kernel
theorem d4_45 : decode method_5_code 45 = .ok (.lmul, 1) := by decide +kernel
theorem d4_46 : decode method_5_code 46 = .ok (.lload 5, 2) := by decide +kernel
theorem d4_48 : decode method_5_code 48 = .ok (.iload 10, 2) := by decide +kernel
theorem d4_50 : decode method_5_code 50 = .ok (.i2l, 1) := by decide +kernel
theorem d4_51 : decode method_5_code 51 = .ok (.lmul, 1) := by decide +kernel
theorem d4_52 : decode method_5_code 52 = .ok (.ladd, 1) := by decide +kernel
theorem d4_53 : decode method_5_code 53 = .ok (.lload 7, 2) := by decide +kernel
theorem d4_55 : decode method_5_code 55 = .ok (.iload 11, 2) := by decide +kernel
theorem d4_57 : decode method_5_code 57 = .ok (.i2l, 1) := by decide +kernel
theorem d4_58 : decode method_5_code 58 = .ok (.lmul, 1) := by decide +kernel
theorem d4_59 : decode method_5_code 59 = .ok (.ladd, 1) := by decide +kernel
theorem d4_60 : decode method_5_code 60 = .ok (.l2d, 1) := by decide +kernel
theorem d4_61 : decode method_5_code 61 = .ok (.ldc2_w 15, 3) := by decide +kernel
theorem d4_64 : decode method_5_code 64 = .ok (.ddiv, 1) := by decide +kernel
theorem d4_65 : decode method_5_code 65 = .ok (.dastore, 1) := by decide +kernel
theorem d4_66 : decode method_5_code 66 = .ok (.return_, 1) := by decide +kernel
theorem ef_rm_pl (m : MethodId) (a1 : Addr) (a2 : Addr) (p3 : Int32) (q4 : Int64) (q5 : Int64) (q6 : Int64) (p7 : Int32) (p8 : Int32) (p9 : Int32) : entryFrame m #[(.ref a1), (.ref a2), (.int p3), (.long q4), (.long q5), (.long q6), (.int p7), (.int p8), (.int p9)] 12 = mkF m 0 #[vR a1, vR a2, vI p3, vJ q4, .second, vJ q5, .second, vJ q6, .second, vI p7, vI p8, vI p9] [] := by first | (simp [entryFrame, mkF, argsToLocals, Value.category]; done) | rfl
def Q_rm_pl (Z : State) (a1 : Addr) (a2 : Addr) (p3 : Int32) (q4 : Int64) (q5 : Int64) (q6 : Int64) (p7 : Int32) (p8 : Int32) (p9 : Int32) (li : List Int) (ri : List Int) (ka : Nat) (h0 : Heap) (n0 : Nat) (v : Option Value) (h : Heap) (L : List Loc) : Prop := v = none ∧ Fr n0 L ∧ Keep h0 h [a1, a2] ∧ VD Z h a1 9 (own_row li ka q4.toInt q5.toInt q6.toInt) ∧ VD Z h a2 3 (ri.set ka (((q4 * (p7.toInt64)) + (q5 * (p8.toInt64))) + (q6 * (p9.toInt64))).toInt)
set_option maxRecDepth 65536 in
set_option maxHeartbeats 40000000 in
theorem rm_pl (l : Launch) (Z : State) (a0 : Array Value) (hw : ∀ d ∈ tables_1, d.before a0 Z = true) (ws : List Jvm.Cond) (a1 : Addr) (a2 : Addr) (p3 : Int32) (q4 : Int64) (q5 : Int64) (q6 : Int64) (p7 : Int32) (p8 : Int32) (p9 : Int32) (li : List Int) (ri : List Int) (ka : Nat) (h0 : Heap) (n0 : Nat) (Z0 : n0 ≤ h0.size) (VM : VD Z h0 a1 9 li) (VR : VD Z h0 a2 3 ri) (g1 : n0 ≤ a1) (g2 : n0 ≤ a2) (n12 : a1 ≠ a2) (hp : p3.toInt = ka) (hk : ka < 3) (b4 : q4.toInt.natAbs ≤ 2 ^ 53) (b5 : q5.toInt.natAbs ≤ 2 ^ 53) (b6 : q6.toInt.natAbs ≤ 2 ^ 53) (bs : (((q4 * (p7.toInt64)) + (q5 * (p8.toInt64))) + (q6 * (p9.toInt64))).toInt.natAbs ≤ 2 ^ 53) :
    MetFree l (⟨"com/example/inexact_odds/inexactodds/reach/DenseLuSolvePinLaw", "place", "([D[DIJJJIII)V"⟩ : MethodName) (head1 (Jvm.Cond.code (⟨"com/example/inexact_odds/inexactodds/reach/DenseLuSolvePinLaw", "place", "([D[DIJJJIII)V"⟩ : MethodName) method_5_code 12 none :: ws) ({ frames := 0, cells := 0, slots := 0, locals := 0 } : Room)) (fun a U => a = #[(.ref a1), (.ref a2), (.int p3), (.long q4), (.long q5), (.long q6), (.int p7), (.int p8), (.int p9)] ∧ Z.Warmed39 U.vm ∧ U.heap = h0) (fun _ _ _ _ _ => True) (fun _ U oC U' => ∃ v L, oC = .returned v ∧ Q_rm_pl Z a1 a2 p3 q4 q5 q6 p7 p8 p9 li ri ka h0 n0 v U'.heap L ∧ FrameEnd U oC U' L ({ frames := 0, cells := 0, slots := 0, locals := 0 } : Room).cells ({ frames := 0, cells := 0, slots := 0, locals := 0 } : Room).slots) := by
  refine MetFree.of_bodySF (plainFor_of_name pn_0) hisR ?_
  intro p e s m args below meth c s₁ Bd hml0 hP hK
  obtain ⟨rfl, hZ, hh⟩ := hP
  have hx := Bd.exec
  have hby := Bd.bytes
  have hml : c.maxLocals = 12 := hml0
  have hown : s.vm.findClass "com/example/inexact_odds/inexactodds/reach/DenseLuSolvePinLaw" = some m.cls := findClass_of_methodNamed Bd.named
  have hnm := (name_of_methodNamed Bd.named Bd.method).1
  have X0 : Stand p l e ({ frames := 0, cells := 0, slots := 0, locals := 0 } : Room) s m #[(.ref a1), (.ref a2), (.int p3), (.long q4), (.long q5), (.long q6), (.int p7), (.int p8), (.int p9)] below meth c s₁ [] 0 0 := Stand.of_body Bd
  have e0 : s₁.heap = h0 := by rw [← hh, Bd.state]; rfl
  have N0 := Fr.nil n0
  have pre0 : ∀ tg, Steps p.tables e below (s₁.setTop (mkF m 0 #[vR a1, vR a2, vI p3, vJ q4, .second, vJ q5, .second, vJ q6, .second, vI p7, vI p8, vI p9] [])) tg → Steps p.tables e below (s₁.setTop (entryFrame m #[(.ref a1), (.ref a2), (.int p3), (.long q4), (.long q5), (.long q6), (.int p7), (.int p8), (.int p9)] 12)) tg := fun t k => castTop (ef_rm_pl m a1 a2 p3 q4 q5 q6 p7 p8 p9) k
  have pre00 : ∀ tg, Steps p.tables e below (s₁.setTop (mkF m 0 #[vR a1, vR a2, vI p3, vJ q4, .second, vJ q5, .second, vJ q6, .second, vI p7, vI p8, vI p9] [])) tg → Steps p.tables e below (s₁.setTop (mkF m 0 #[vR a1, vR a2, vI p3, vJ q4, .second, vJ q5, .second, vJ q6, .second, vI p7, vI p8, vI p9] [])) tg := fun _ k => k
  obtain ⟨i0, i1, i2, i3⟩ := own_iy3 hp hk
  have R8 : ∀ tg, Steps p.tables e below (s₁.setTop (mkF m 9 #[vR a1, vR a2, vI p3, vJ q4, .second, vJ q5, .second, vJ q6, .second, vI p7, vI p8, vI p9] [(.double (4616189618054758400 : UInt64)), (.double (Jvm.FP.l2d q4)), (.int ((3 : Int32) * p3)), (.ref a1)])) tg → Steps p.tables e below (s₁.setTop (mkF m 0 #[vR a1, vR a2, vI p3, vJ q4, .second, vJ q5, .second, vJ q6, .second, vI p7, vI p8, vI p9] [])) tg := by
    intro tg kt
    refine pre00 _ ?_
    show Steps p.tables e below (s₁.setTop (mkF m 0 #[vR a1, vR a2, vI p3, vJ q4, .second, vJ q5, .second, vJ q6, .second, vI p7, vI p8, vI p9] [])) _
    refine XS.aloadN X0.here hx rfl (hb hby d4_0) rfl rfl ?_
    refine XS.iconst X0.here hx rfl (hb hby d4_1) ?_
    refine XS.iloadN X0.here hx rfl (hb hby d4_2) rfl ?_
    show Steps p.tables e below (s₁.setTop (mkF m 3 #[vR a1, vR a2, vI p3, vJ q4, .second, vJ q5, .second, vJ q6, .second, vI p7, vI p8, vI p9] [(.int p3), (.int (3 : Int32)), (.ref a1)])) _
    refine XS.imul X0.here hx rfl (hb hby d4_3) rfl ?_
    refine XS.lloadN X0.here hx rfl (hb hby d4_4) rfl ?_
    show Steps p.tables e below (s₁.setTop (mkF m 5 #[vR a1, vR a2, vI p3, vJ q4, .second, vJ q5, .second, vJ q6, .second, vI p7, vI p8, vI p9] [(.long q4), (.int ((3 : Int32) * p3)), (.ref a1)])) _
    refine XS.l2dS X0.here hx rfl (hb hby d4_5) rfl rfl ?_
    show Steps p.tables e below (s₁.setTop (mkF m 6 #[vR a1, vR a2, vI p3, vJ q4, .second, vJ q5, .second, vJ q6, .second, vI p7, vI p8, vI p9] [(.double (Jvm.FP.l2d q4)), (.int ((3 : Int32) * p3)), (.ref a1)])) _
    refine X0.ldc2DoubleC hx hown (mvT hZ (hw _ (List.mem_of_getElem? (i := 16) rfl))) (g := (mkF m 6 #[vR a1, vR a2, vI p3, vJ q4, .second, vJ q5, .second, vJ q6, .second, vI p7, vI p8, vI p9] [(.double (Jvm.FP.l2d q4)), (.int ((3 : Int32) * p3)), (.ref a1)])) rfl (hb hby d4_6) _ ?_
    exact kt
  obtain ⟨d9, hv9, nn9, H9⟩ := own_qd (n := q4) b4
  have R10 : ∀ tg, Steps p.tables e below (s₁.setTop (mkF m 10 #[vR a1, vR a2, vI p3, vJ q4, .second, vJ q5, .second, vJ q6, .second, vI p7, vI p8, vI p9] [(.double d9), (.int ((3 : Int32) * p3)), (.ref a1)])) tg → Steps p.tables e below (s₁.setTop (mkF m 0 #[vR a1, vR a2, vI p3, vJ q4, .second, vJ q5, .second, vJ q6, .second, vI p7, vI p8, vI p9] [])) tg := by
    intro tg kt
    refine R8 _ ?_
    show Steps p.tables e below (s₁.setTop (mkF m 9 #[vR a1, vR a2, vI p3, vJ q4, .second, vJ q5, .second, vJ q6, .second, vI p7, vI p8, vI p9] [(.double (4616189618054758400 : UInt64)), (.double (Jvm.FP.l2d q4)), (.int ((3 : Int32) * p3)), (.ref a1)])) _
    refine XS.ddivS X0.here hx rfl (hb hby d4_9) rfl nn9 hv9 ?_
    exact kt
  clear R8
  obtain ⟨cl11, -, Ar11, hin11, -, -⟩ := VM.at (j := ((3 : Int32) * p3)) (k := (3 * ka)) i0.1 i0.2.1 i0.2.2
  obtain ⟨T12, h12, X12, e12, W12, st12⟩ := stD X0 hx hZ e0 Ar11 (j := ((3 : Int32) * p3)) hin11 (g := (mkF m 10 #[vR a1, vR a2, vI p3, vJ q4, .second, vJ q5, .second, vJ q6, .second, vI p7, vI p8, vI p9] [(.double d9), (.int ((3 : Int32) * p3)), (.ref a1)])) rfl rfl (hb hby d4_10)
  have N12 := Fr.snoc X12 N0 g1
  rw [show (((3 : Int32) * p3) : Int32).toNatClampNeg = (3 * ka) from i0.2.1] at W12
  have VM_12 : VD Z h12 a1 9 (li.set (3 * ka) q4.toInt) := VM.set W12 H9
  have VR_12 := VR.other W12 (Ne.symm n12)
  have Zs12 : n0 ≤ h12.size := Nat.le_trans Z0 (Keep.of_wr W12).1
  have Kw12 : Keep h0 h12 [a1, a2] := Keep.wr (Keep.refl h0 [a1, a2]) W12 (Or.inl (List.mem_of_getElem? (i := 0) rfl))
  have R13 : ∀ tg, Steps p.tables e below (T12.setTop (mkF m 23 #[vR a1, vR a2, vI p3, vJ q4, .second, vJ q5, .second, vJ q6, .second, vI p7, vI p8, vI p9] [(.double (4616189618054758400 : UInt64)), (.double (Jvm.FP.l2d q5)), (.int (((3 : Int32) * p3) + (1 : Int32))), (.ref a1)])) tg → Steps p.tables e below (s₁.setTop (mkF m 0 #[vR a1, vR a2, vI p3, vJ q4, .second, vJ q5, .second, vJ q6, .second, vI p7, vI p8, vI p9] [])) tg := by
    intro tg kt
    refine R10 _ ?_
    refine st12 _ ?_
    refine XS.aloadN X12.here hx rfl (hb hby d4_11) rfl rfl ?_
    refine XS.iconst X12.here hx rfl (hb hby d4_12) ?_
    show Steps p.tables e below (T12.setTop (mkF m 13 #[vR a1, vR a2, vI p3, vJ q4, .second, vJ q5, .second, vJ q6, .second, vI p7, vI p8, vI p9] [(.int (3 : Int32)), (.ref a1)])) _
    refine XS.iloadN X12.here hx rfl (hb hby d4_13) rfl ?_
    show Steps p.tables e below (T12.setTop (mkF m 14 #[vR a1, vR a2, vI p3, vJ q4, .second, vJ q5, .second, vJ q6, .second, vI p7, vI p8, vI p9] [(.int p3), (.int (3 : Int32)), (.ref a1)])) _
    refine XS.imul X12.here hx rfl (hb hby d4_14) rfl ?_
    refine XS.iconst X12.here hx rfl (hb hby d4_15) ?_
    show Steps p.tables e below (T12.setTop (mkF m 16 #[vR a1, vR a2, vI p3, vJ q4, .second, vJ q5, .second, vJ q6, .second, vI p7, vI p8, vI p9] [(.int (1 : Int32)), (.int ((3 : Int32) * p3)), (.ref a1)])) _
    refine XS.iadd X12.here hx rfl (hb hby d4_16) rfl ?_
    refine XS.lload X12.here hx rfl (hb hby d4_17) rfl ?_
    show Steps p.tables e below (T12.setTop (mkF m 19 #[vR a1, vR a2, vI p3, vJ q4, .second, vJ q5, .second, vJ q6, .second, vI p7, vI p8, vI p9] [(.long q5), (.int (((3 : Int32) * p3) + (1 : Int32))), (.ref a1)])) _
    refine XS.l2dS X12.here hx rfl (hb hby d4_19) rfl rfl ?_
    show Steps p.tables e below (T12.setTop (mkF m 20 #[vR a1, vR a2, vI p3, vJ q4, .second, vJ q5, .second, vJ q6, .second, vI p7, vI p8, vI p9] [(.double (Jvm.FP.l2d q5)), (.int (((3 : Int32) * p3) + (1 : Int32))), (.ref a1)])) _
    refine X12.ldc2DoubleC hx hown (mvT hZ (hw _ (List.mem_of_getElem? (i := 16) rfl))) (g := (mkF m 20 #[vR a1, vR a2, vI p3, vJ q4, .second, vJ q5, .second, vJ q6, .second, vI p7, vI p8, vI p9] [(.double (Jvm.FP.l2d q5)), (.int (((3 : Int32) * p3) + (1 : Int32))), (.ref a1)])) rfl (hb hby d4_20) _ ?_
    exact kt
  clear R10 st12
  obtain ⟨d14, hv14, nn14, H14⟩ := own_qd (n := q5) b5
  have R15 : ∀ tg, Steps p.tables e below (T12.setTop (mkF m 24 #[vR a1, vR a2, vI p3, vJ q4, .second, vJ q5, .second, vJ q6, .second, vI p7, vI p8, vI p9] [(.double d14), (.int (((3 : Int32) * p3) + (1 : Int32))), (.ref a1)])) tg → Steps p.tables e below (s₁.setTop (mkF m 0 #[vR a1, vR a2, vI p3, vJ q4, .second, vJ q5, .second, vJ q6, .second, vI p7, vI p8, vI p9] [])) tg := by
    intro tg kt
    refine R13 _ ?_
    show Steps p.tables e below (T12.setTop (mkF m 23 #[vR a1, vR a2, vI p3, vJ q4, .second, vJ q5, .second, vJ q6, .second, vI p7, vI p8, vI p9] [(.double (4616189618054758400 : UInt64)), (.double (Jvm.FP.l2d q5)), (.int (((3 : Int32) * p3) + (1 : Int32))), (.ref a1)])) _
    refine XS.ddivS X12.here hx rfl (hb hby d4_23) rfl nn14 hv14 ?_
    exact kt
  clear R13
  obtain ⟨cl16, -, Ar16, hin16, -, -⟩ := VM_12.at (j := (((3 : Int32) * p3) + (1 : Int32))) (k := (3 * ka + 1)) i1.1 i1.2.1 i1.2.2
  obtain ⟨T17, h17, X17, e17, W17, st17⟩ := stD X12 hx hZ e12 Ar16 (j := (((3 : Int32) * p3) + (1 : Int32))) hin16 (g := (mkF m 24 #[vR a1, vR a2, vI p3, vJ q4, .second, vJ q5, .second, vJ q6, .second, vI p7, vI p8, vI p9] [(.double d14), (.int (((3 : Int32) * p3) + (1 : Int32))), (.ref a1)])) rfl rfl (hb hby d4_24)
  have N17 := Fr.snoc X17 N12 g1
  rw [show ((((3 : Int32) * p3) + (1 : Int32)) : Int32).toNatClampNeg = (3 * ka + 1) from i1.2.1] at W17
  have VM_17 : VD Z h17 a1 9 ((li.set (3 * ka) q4.toInt).set (3 * ka + 1) q5.toInt) := VM_12.set W17 H14
  have VR_17 := VR_12.other W17 (Ne.symm n12)
  clear VR_12
  have Zs17 : n0 ≤ h17.size := Nat.le_trans Zs12 (Keep.of_wr W17).1
  have Kw17 : Keep h0 h17 [a1, a2] := Keep.wr Kw12 W17 (Or.inl (List.mem_of_getElem? (i := 0) rfl))
  have R18 : ∀ tg, Steps p.tables e below (T17.setTop (mkF m 37 #[vR a1, vR a2, vI p3, vJ q4, .second, vJ q5, .second, vJ q6, .second, vI p7, vI p8, vI p9] [(.double (4616189618054758400 : UInt64)), (.double (Jvm.FP.l2d q6)), (.int (((3 : Int32) * p3) + (2 : Int32))), (.ref a1)])) tg → Steps p.tables e below (s₁.setTop (mkF m 0 #[vR a1, vR a2, vI p3, vJ q4, .second, vJ q5, .second, vJ q6, .second, vI p7, vI p8, vI p9] [])) tg := by
    intro tg kt
    refine R15 _ ?_
    refine st17 _ ?_
    refine XS.aloadN X17.here hx rfl (hb hby d4_25) rfl rfl ?_
    refine XS.iconst X17.here hx rfl (hb hby d4_26) ?_
    show Steps p.tables e below (T17.setTop (mkF m 27 #[vR a1, vR a2, vI p3, vJ q4, .second, vJ q5, .second, vJ q6, .second, vI p7, vI p8, vI p9] [(.int (3 : Int32)), (.ref a1)])) _
    refine XS.iloadN X17.here hx rfl (hb hby d4_27) rfl ?_
    show Steps p.tables e below (T17.setTop (mkF m 28 #[vR a1, vR a2, vI p3, vJ q4, .second, vJ q5, .second, vJ q6, .second, vI p7, vI p8, vI p9] [(.int p3), (.int (3 : Int32)), (.ref a1)])) _
    refine XS.imul X17.here hx rfl (hb hby d4_28) rfl ?_
    refine XS.iconst X17.here hx rfl (hb hby d4_29) ?_
    show Steps p.tables e below (T17.setTop (mkF m 30 #[vR a1, vR a2, vI p3, vJ q4, .second, vJ q5, .second, vJ q6, .second, vI p7, vI p8, vI p9] [(.int (2 : Int32)), (.int ((3 : Int32) * p3)), (.ref a1)])) _
    refine XS.iadd X17.here hx rfl (hb hby d4_30) rfl ?_
    refine XS.lload X17.here hx rfl (hb hby d4_31) rfl ?_
    show Steps p.tables e below (T17.setTop (mkF m 33 #[vR a1, vR a2, vI p3, vJ q4, .second, vJ q5, .second, vJ q6, .second, vI p7, vI p8, vI p9] [(.long q6), (.int (((3 : Int32) * p3) + (2 : Int32))), (.ref a1)])) _
    refine XS.l2dS X17.here hx rfl (hb hby d4_33) rfl rfl ?_
    show Steps p.tables e below (T17.setTop (mkF m 34 #[vR a1, vR a2, vI p3, vJ q4, .second, vJ q5, .second, vJ q6, .second, vI p7, vI p8, vI p9] [(.double (Jvm.FP.l2d q6)), (.int (((3 : Int32) * p3) + (2 : Int32))), (.ref a1)])) _
    refine X17.ldc2DoubleC hx hown (mvT hZ (hw _ (List.mem_of_getElem? (i := 16) rfl))) (g := (mkF m 34 #[vR a1, vR a2, vI p3, vJ q4, .second, vJ q5, .second, vJ q6, .second, vI p7, vI p8, vI p9] [(.double (Jvm.FP.l2d q6)), (.int (((3 : Int32) * p3) + (2 : Int32))), (.ref a1)])) rfl (hb hby d4_34) _ ?_
    exact kt
  clear R15 st17
  obtain ⟨d19, hv19, nn19, H19⟩ := own_qd (n := q6) b6
  have R20 : ∀ tg, Steps p.tables e below (T17.setTop (mkF m 38 #[vR a1, vR a2, vI p3, vJ q4, .second, vJ q5, .second, vJ q6, .second, vI p7, vI p8, vI p9] [(.double d19), (.int (((3 : Int32) * p3) + (2 : Int32))), (.ref a1)])) tg → Steps p.tables e below (s₁.setTop (mkF m 0 #[vR a1, vR a2, vI p3, vJ q4, .second, vJ q5, .second, vJ q6, .second, vI p7, vI p8, vI p9] [])) tg := by
    intro tg kt
    refine R18 _ ?_
    show Steps p.tables e below (T17.setTop (mkF m 37 #[vR a1, vR a2, vI p3, vJ q4, .second, vJ q5, .second, vJ q6, .second, vI p7, vI p8, vI p9] [(.double (4616189618054758400 : UInt64)), (.double (Jvm.FP.l2d q6)), (.int (((3 : Int32) * p3) + (2 : Int32))), (.ref a1)])) _
    refine XS.ddivS X17.here hx rfl (hb hby d4_37) rfl nn19 hv19 ?_
    exact kt
  clear R18
  obtain ⟨cl21, -, Ar21, hin21, -, -⟩ := VM_17.at (j := (((3 : Int32) * p3) + (2 : Int32))) (k := (3 * ka + 2)) i2.1 i2.2.1 i2.2.2
  obtain ⟨T22, h22, X22, e22, W22, st22⟩ := stD X17 hx hZ e17 Ar21 (j := (((3 : Int32) * p3) + (2 : Int32))) hin21 (g := (mkF m 38 #[vR a1, vR a2, vI p3, vJ q4, .second, vJ q5, .second, vJ q6, .second, vI p7, vI p8, vI p9] [(.double d19), (.int (((3 : Int32) * p3) + (2 : Int32))), (.ref a1)])) rfl rfl (hb hby d4_38)
  have N22 := Fr.snoc X22 N17 g1
  rw [show ((((3 : Int32) * p3) + (2 : Int32)) : Int32).toNatClampNeg = (3 * ka + 2) from i2.2.1] at W22
  have VM_22 : VD Z h22 a1 9 (((li.set (3 * ka) q4.toInt).set (3 * ka + 1) q5.toInt).set (3 * ka + 2) q6.toInt) := VM_17.set W22 H19
  have VR_22 := VR_17.other W22 (Ne.symm n12)
  clear VR_17
  have Zs22 : n0 ≤ h22.size := Nat.le_trans Zs17 (Keep.of_wr W22).1
  have Kw22 : Keep h0 h22 [a1, a2] := Keep.wr Kw17 W22 (Or.inl (List.mem_of_getElem? (i := 0) rfl))
  have R23 : ∀ tg, Steps p.tables e below (T22.setTop (mkF m 64 #[vR a1, vR a2, vI p3, vJ q4, .second, vJ q5, .second, vJ q6, .second, vI p7, vI p8, vI p9] [(.double (4616189618054758400 : UInt64)), (.double (Jvm.FP.l2d (((q4 * (p7.toInt64)) + (q5 * (p8.toInt64))) + (q6 * (p9.toInt64))))), (.int p3), (.ref a2)])) tg → Steps p.tables e below (s₁.setTop (mkF m 0 #[vR a1, vR a2, vI p3, vJ q4, .second, vJ q5, .second, vJ q6, .second, vI p7, vI p8, vI p9] [])) tg := by
    intro tg kt
    refine R20 _ ?_
    refine st22 _ ?_
    refine XS.aloadN X22.here hx rfl (hb hby d4_39) rfl rfl ?_
    refine XS.iloadN X22.here hx rfl (hb hby d4_40) rfl ?_
    show Steps p.tables e below (T22.setTop (mkF m 41 #[vR a1, vR a2, vI p3, vJ q4, .second, vJ q5, .second, vJ q6, .second, vI p7, vI p8, vI p9] [(.int p3), (.ref a2)])) _
    refine XS.lloadN X22.here hx rfl (hb hby d4_41) rfl ?_
    refine XS.iload X22.here hx rfl (hb hby d4_42) rfl ?_
    show Steps p.tables e below (T22.setTop (mkF m 44 #[vR a1, vR a2, vI p3, vJ q4, .second, vJ q5, .second, vJ q6, .second, vI p7, vI p8, vI p9] [(.int p7), (.long q4), (.int p3), (.ref a2)])) _
    refine XS.i2l X22.here hx rfl (hb hby d4_44) rfl ?_
    show Steps p.tables e below (T22.setTop (mkF m 45 #[vR a1, vR a2, vI p3, vJ q4, .second, vJ q5, .second, vJ q6, .second, vI p7, vI p8, vI p9] [(.long (p7.toInt64)), (.long q4), (.int p3), (.ref a2)])) _
    refine XS.lmul X22.here hx rfl (hb hby d4_45) rfl ?_
    refine XS.lload X22.here hx rfl (hb hby d4_46) rfl ?_
    refine XS.iload X22.here hx rfl (hb hby d4_48) rfl ?_
    show Steps p.tables e below (T22.setTop (mkF m 50 #[vR a1, vR a2, vI p3, vJ q4, .second, vJ q5, .second, vJ q6, .second, vI p7, vI p8, vI p9] [(.int p8), (.long q5), (.long (q4 * (p7.toInt64))), (.int p3), (.ref a2)])) _
    refine XS.i2l X22.here hx rfl (hb hby d4_50) rfl ?_
    show Steps p.tables e below (T22.setTop (mkF m 51 #[vR a1, vR a2, vI p3, vJ q4, .second, vJ q5, .second, vJ q6, .second, vI p7, vI p8, vI p9] [(.long (p8.toInt64)), (.long q5), (.long (q4 * (p7.toInt64))), (.int p3), (.ref a2)])) _
    refine XS.lmul X22.here hx rfl (hb hby d4_51) rfl ?_
    show Steps p.tables e below (T22.setTop (mkF m 52 #[vR a1, vR a2, vI p3, vJ q4, .second, vJ q5, .second, vJ q6, .second, vI p7, vI p8, vI p9] [(.long (q5 * (p8.toInt64))), (.long (q4 * (p7.toInt64))), (.int p3), (.ref a2)])) _
    refine XS.ladd X22.here hx rfl (hb hby d4_52) rfl ?_
    refine XS.lload X22.here hx rfl (hb hby d4_53) rfl ?_
    refine XS.iload X22.here hx rfl (hb hby d4_55) rfl ?_
    show Steps p.tables e below (T22.setTop (mkF m 57 #[vR a1, vR a2, vI p3, vJ q4, .second, vJ q5, .second, vJ q6, .second, vI p7, vI p8, vI p9] [(.int p9), (.long q6), (.long ((q4 * (p7.toInt64)) + (q5 * (p8.toInt64)))), (.int p3), (.ref a2)])) _
    refine XS.i2l X22.here hx rfl (hb hby d4_57) rfl ?_
    show Steps p.tables e below (T22.setTop (mkF m 58 #[vR a1, vR a2, vI p3, vJ q4, .second, vJ q5, .second, vJ q6, .second, vI p7, vI p8, vI p9] [(.long (p9.toInt64)), (.long q6), (.long ((q4 * (p7.toInt64)) + (q5 * (p8.toInt64)))), (.int p3), (.ref a2)])) _
    refine XS.lmul X22.here hx rfl (hb hby d4_58) rfl ?_
    show Steps p.tables e below (T22.setTop (mkF m 59 #[vR a1, vR a2, vI p3, vJ q4, .second, vJ q5, .second, vJ q6, .second, vI p7, vI p8, vI p9] [(.long (q6 * (p9.toInt64))), (.long ((q4 * (p7.toInt64)) + (q5 * (p8.toInt64)))), (.int p3), (.ref a2)])) _
    refine XS.ladd X22.here hx rfl (hb hby d4_59) rfl ?_
    show Steps p.tables e below (T22.setTop (mkF m 60 #[vR a1, vR a2, vI p3, vJ q4, .second, vJ q5, .second, vJ q6, .second, vI p7, vI p8, vI p9] [(.long (((q4 * (p7.toInt64)) + (q5 * (p8.toInt64))) + (q6 * (p9.toInt64)))), (.int p3), (.ref a2)])) _
    refine XS.l2dS X22.here hx rfl (hb hby d4_60) rfl rfl ?_
    show Steps p.tables e below (T22.setTop (mkF m 61 #[vR a1, vR a2, vI p3, vJ q4, .second, vJ q5, .second, vJ q6, .second, vI p7, vI p8, vI p9] [(.double (Jvm.FP.l2d (((q4 * (p7.toInt64)) + (q5 * (p8.toInt64))) + (q6 * (p9.toInt64))))), (.int p3), (.ref a2)])) _
    refine X22.ldc2DoubleC hx hown (mvT hZ (hw _ (List.mem_of_getElem? (i := 16) rfl))) (g := (mkF m 61 #[vR a1, vR a2, vI p3, vJ q4, .second, vJ q5, .second, vJ q6, .second, vI p7, vI p8, vI p9] [(.double (Jvm.FP.l2d (((q4 * (p7.toInt64)) + (q5 * (p8.toInt64))) + (q6 * (p9.toInt64))))), (.int p3), (.ref a2)])) rfl (hb hby d4_61) _ ?_
    exact kt
  clear R20 st22
  obtain ⟨d24, hv24, nn24, H24⟩ := own_qd (n := (((q4 * (p7.toInt64)) + (q5 * (p8.toInt64))) + (q6 * (p9.toInt64)))) bs
  have R25 : ∀ tg, Steps p.tables e below (T22.setTop (mkF m 65 #[vR a1, vR a2, vI p3, vJ q4, .second, vJ q5, .second, vJ q6, .second, vI p7, vI p8, vI p9] [(.double d24), (.int p3), (.ref a2)])) tg → Steps p.tables e below (s₁.setTop (mkF m 0 #[vR a1, vR a2, vI p3, vJ q4, .second, vJ q5, .second, vJ q6, .second, vI p7, vI p8, vI p9] [])) tg := by
    intro tg kt
    refine R23 _ ?_
    show Steps p.tables e below (T22.setTop (mkF m 64 #[vR a1, vR a2, vI p3, vJ q4, .second, vJ q5, .second, vJ q6, .second, vI p7, vI p8, vI p9] [(.double (4616189618054758400 : UInt64)), (.double (Jvm.FP.l2d (((q4 * (p7.toInt64)) + (q5 * (p8.toInt64))) + (q6 * (p9.toInt64))))), (.int p3), (.ref a2)])) _
    refine XS.ddivS X22.here hx rfl (hb hby d4_64) rfl nn24 hv24 ?_
    exact kt
  clear R23
  obtain ⟨cl26, -, Ar26, hin26, -, -⟩ := VR_22.at (j := p3) (k := ka) i3.1 i3.2 hk
  obtain ⟨T27, h27, X27, e27, W27, st27⟩ := stD X22 hx hZ e22 Ar26 (j := p3) hin26 (g := (mkF m 65 #[vR a1, vR a2, vI p3, vJ q4, .second, vJ q5, .second, vJ q6, .second, vI p7, vI p8, vI p9] [(.double d24), (.int p3), (.ref a2)])) rfl rfl (hb hby d4_65)
  have N27 := Fr.snoc X27 N22 g2
  rw [show (p3 : Int32).toNatClampNeg = ka from i3.2] at W27
  have VR_27 : VD Z h27 a2 3 (ri.set ka (((q4 * (p7.toInt64)) + (q5 * (p8.toInt64))) + (q6 * (p9.toInt64))).toInt) := VR_22.set W27 H24
  have VM_27 := VM_22.other W27 n12
  clear VM_22
  have Zs27 : n0 ≤ h27.size := Nat.le_trans Zs22 (Keep.of_wr W27).1
  have Kw27 : Keep h0 h27 [a1, a2] := Keep.wr Kw22 W27 (Or.inl (List.mem_of_getElem? (i := 1) rfl))
  have R28 : ∀ tg, Steps p.tables e below (T27.setTop (mkF m 66 #[vR a1, vR a2, vI p3, vJ q4, .second, vJ q5, .second, vJ q6, .second, vI p7, vI p8, vI p9] [])) tg → Steps p.tables e below (s₁.setTop (mkF m 0 #[vR a1, vR a2, vI p3, vJ q4, .second, vJ q5, .second, vJ q6, .second, vI p7, vI p8, vI p9] [])) tg := by
    intro tg kt
    refine R25 _ ?_
    refine st27 _ ?_
    exact kt
  clear R25 st27
  obtain ⟨fs, hr, hrun, hended, hW, hsame⟩ := X27.leave (v := none) (fun _ => rfl)
  refine ⟨_, _, pre0 _ (R28 _ ?_), hrun, hended, _, _, rfl, ?_, ⟨_, rfl⟩, hW, hsame.mono (by decide) (by decide)⟩
  · exact X27.returnOut hx Bd.returns (hb hby d4_66) hr
  · show Q_rm_pl Z a1 a2 p3 q4 q5 q6 p7 p8 p9 li ri ka h0 n0 _ T27.heap _
    rw [e27]
    exact ⟨rfl, N27, Kw27, VM_27, VR_27⟩
theorem pn_1 : plainName "com/example/inexact_odds/inexactodds/reach/DenseLu" = true := by first | (simp [plainName, overriddenIn]; done) | decide +kernel
theorem d8_0 : decode prog_76_method_2_code 0 = .ok (.iconst 0, 1) := by decide +kernel
theorem d8_1 : decode prog_76_method_2_code 1 = .ok (.istore_n 3, 1) := by decide +kernel
theorem d8_2 : decode prog_76_method_2_code 2 = .ok (.iload_n 1, 1) := by decide +kernel
theorem d8_3 : decode prog_76_method_2_code 3 = .ok (.iload_n 2, 1) := by decide +kernel
theorem d8_4 : decode prog_76_method_2_code 4 = .ok (.if_icmp .eq 73, 3) := by decide +kernel
theorem d8_77 : decode prog_76_method_2_code 77 = .ok (.return_, 1) := by decide +kernel
theorem d8_7 : decode prog_76_method_2_code 7 = .ok (.iload_n 3, 1) := by decide +kernel
theorem d8_8 : decode prog_76_method_2_code 8 = .ok (.aload_n 0, 1) := by decide +kernel
theorem d8_9 : decode prog_76_method_2_code 9 = .ok (.getfield 7, 3) := by decide +kernel
theorem d8_12 : decode prog_76_method_2_code 12 = .ok (.if_icmp .ge 65, 3) := by decide +kernel
theorem d8_15 : decode prog_76_method_2_code 15 = .ok (.aload_n 0, 1) := by decide +kernel
theorem d8_16 : decode prog_76_method_2_code 16 = .ok (.getfield 13, 3) := by decide +kernel
theorem d8_19 : decode prog_76_method_2_code 19 = .ok (.iload_n 1, 1) := by decide +kernel
theorem d8_20 : decode prog_76_method_2_code 20 = .ok (.aload_n 0, 1) := by decide +kernel
theorem d8_21 : decode prog_76_method_2_code 21 = .ok (.getfield 7, 3) := by decide +kernel
theorem d8_24 : decode prog_76_method_2_code 24 = .ok (.imul, 1) := by decide +kernel
theorem d8_25 : decode prog_76_method_2_code 25 = .ok (.iload_n 3, 1) := by decide +kernel
theorem d8_26 : decode prog_76_method_2_code 26 = .ok (.iadd, 1) := by decide +kernel
theorem d8_27 : decode prog_76_method_2_code 27 = .ok (.daload, 1) := by decide +kernel
theorem d8_28 : decode prog_76_method_2_code 28 = .ok (.dstore 4, 2) := by decide +kernel
theorem d8_30 : decode prog_76_method_2_code 30 = .ok (.aload_n 0, 1) := by decide +kernel
theorem d8_31 : decode prog_76_method_2_code 31 = .ok (.getfield 13, 3) := by decide +kernel
theorem d8_34 : decode prog_76_method_2_code 34 = .ok (.iload_n 1, 1) := by decide +kernel
theorem d8_35 : decode prog_76_method_2_code 35 = .ok (.aload_n 0, 1) := by decide +kernel
theorem d8_36 : decode prog_76_method_2_code 36 = .ok (.getfield 7, 3) := by decide +kernel
theorem d8_39 : decode prog_76_method_2_code 39 = .ok (.imul, 1) := by decide +kernel
theorem d8_40 : decode prog_76_method_2_code 40 = .ok (.iload_n 3, 1) := by decide +kernel
theorem d8_41 : decode prog_76_method_2_code 41 = .ok (.iadd, 1) := by decide +kernel
theorem d8_42 : decode prog_76_method_2_code 42 = .ok (.aload_n 0, 1) := by decide +kernel
theorem d8_43 : decode prog_76_method_2_code 43 = .ok (.getfield 13, 3) := by decide +kernel
theorem d8_46 : decode prog_76_method_2_code 46 = .ok (.iload_n 2, 1) := by decide +kernel
theorem d8_47 : decode prog_76_method_2_code 47 = .ok (.aload_n 0, 1) := by decide +kernel
theorem d8_48 : decode prog_76_method_2_code 48 = .ok (.getfield 7, 3) := by decide +kernel
theorem d8_51 : decode prog_76_method_2_code 51 = .ok (.imul, 1) := by decide +kernel
theorem d8_52 : decode prog_76_method_2_code 52 = .ok (.iload_n 3, 1) := by decide +kernel
theorem d8_53 : decode prog_76_method_2_code 53 = .ok (.iadd, 1) := by decide +kernel
theorem d8_54 : decode prog_76_method_2_code 54 = .ok (.daload, 1) := by decide +kernel
theorem d8_55 : decode prog_76_method_2_code 55 = .ok (.dastore, 1) := by decide +kernel
theorem d8_56 : decode prog_76_method_2_code 56 = .ok (.aload_n 0, 1) := by decide +kernel
theorem d8_57 : decode prog_76_method_2_code 57 = .ok (.getfield 13, 3) := by decide +kernel
theorem d8_60 : decode prog_76_method_2_code 60 = .ok (.iload_n 2, 1) := by decide +kernel
theorem d8_61 : decode prog_76_method_2_code 61 = .ok (.aload_n 0, 1) := by decide +kernel
theorem d8_62 : decode prog_76_method_2_code 62 = .ok (.getfield 7, 3) := by decide +kernel
theorem d8_65 : decode prog_76_method_2_code 65 = .ok (.imul, 1) := by decide +kernel
theorem d8_66 : decode prog_76_method_2_code 66 = .ok (.iload_n 3, 1) := by decide +kernel
theorem d8_67 : decode prog_76_method_2_code 67 = .ok (.iadd, 1) := by decide +kernel
theorem d8_68 : decode prog_76_method_2_code 68 = .ok (.dload 4, 2) := by decide +kernel
theorem d8_70 : decode prog_76_method_2_code 70 = .ok (.dastore, 1) := by decide +kernel
theorem d8_71 : decode prog_76_method_2_code 71 = .ok (.iinc 3 1, 3) := by decide +kernel
theorem d8_74 : decode prog_76_method_2_code 74 = .ok (.goto (-72), 3) := by decide +kernel
theorem ef_rm_sw (m : MethodId) (a1 : Addr) (p2 : Int32) (p3 : Int32) : entryFrame m #[(.ref a1), (.int p2), (.int p3)] 6 = mkF m 0 #[vR a1, vI p2, vI p3, .unset, .unset, .unset] [] := by first | (simp [entryFrame, mkF, argsToLocals, Value.category]; done) | rfl
def Q_rm_sw (Z : State) (a1 : Addr) (p2 : Int32) (p3 : Int32) (a4 : Addr) (li : List Int) (al : Nat) (be : Nat) (h0 : Heap) (n0 : Nat) (v : Option Value) (h : Heap) (L : List Loc) : Prop := v = none ∧ Fr n0 L ∧ Keep h0 h [a4] ∧ VD Z h a4 9 (own_sr li al be)
set_option maxRecDepth 65536 in
set_option maxHeartbeats 40000000 in
theorem rm_sw (l : Launch) (Z : State) (a0 : Array Value) (hw : ∀ d ∈ tables_1, d.before a0 Z = true) (ws : List Jvm.Cond) (a1 : Addr) (p2 : Int32) (p3 : Int32) (a4 : Addr) (li : List Int) (al : Nat) (be : Nat) (h0 : Heap) (n0 : Nat) (Z0 : n0 ≤ h0.size) (Fs : Fld Z h0 a1 "com/example/inexact_odds/inexactodds/reach/DenseLu" "size" "I" (.int (3 : Int32))) (Fl : Fld Z h0 a1 "com/example/inexact_odds/inexactodds/reach/DenseLu" "lu" "[D" (.ref a4)) (VA : VD Z h0 a4 9 li) (ga : n0 ≤ a4) (na : a1 ≠ a4) (hp : p2.toInt = al) (hq : p3.toInt = be) (hal : al < 3) (hbe : be < 3) :
    MetFree l (⟨"com/example/inexact_odds/inexactodds/reach/DenseLu", "swapRows", "(II)V"⟩ : MethodName) (head1 (Jvm.Cond.code (⟨"com/example/inexact_odds/inexactodds/reach/DenseLu", "swapRows", "(II)V"⟩ : MethodName) prog_76_method_2_code 6 none :: ws) ({ frames := 0, cells := 0, slots := 0, locals := 0 } : Room)) (fun a U => a = #[(.ref a1), (.int p2), (.int p3)] ∧ Z.Warmed39 U.vm ∧ U.heap = h0) (fun _ _ _ _ _ => True) (fun _ U oC U' => ∃ v L, oC = .returned v ∧ Q_rm_sw Z a1 p2 p3 a4 li al be h0 n0 v U'.heap L ∧ FrameEnd U oC U' L ({ frames := 0, cells := 0, slots := 0, locals := 0 } : Room).cells ({ frames := 0, cells := 0, slots := 0, locals := 0 } : Room).slots) := by
  refine MetFree.of_bodySF (plainFor_of_name pn_1) hisR ?_
  intro p e s m args below meth c s₁ Bd hml0 hP hK
  obtain ⟨rfl, hZ, hh⟩ := hP
  have hx := Bd.exec
  have hby := Bd.bytes
  have hml : c.maxLocals = 6 := hml0
  have hown : s.vm.findClass "com/example/inexact_odds/inexactodds/reach/DenseLu" = some m.cls := findClass_of_methodNamed Bd.named
  have hnm := (name_of_methodNamed Bd.named Bd.method).1
  have X0 : Stand p l e ({ frames := 0, cells := 0, slots := 0, locals := 0 } : Room) s m #[(.ref a1), (.int p2), (.int p3)] below meth c s₁ [] 0 0 := Stand.of_body Bd
  have e0 : s₁.heap = h0 := by rw [← hh, Bd.state]; rfl
  have N0 := Fr.nil n0
  have pre0 : ∀ tg, Steps p.tables e below (s₁.setTop (mkF m 0 #[vR a1, vI p2, vI p3, .unset, .unset, .unset] [])) tg → Steps p.tables e below (s₁.setTop (entryFrame m #[(.ref a1), (.int p2), (.int p3)] 6)) tg := fun t k => castTop (ef_rm_sw m a1 p2 p3) k
  have pre00 : ∀ tg, Steps p.tables e below (s₁.setTop (mkF m 0 #[vR a1, vI p2, vI p3, .unset, .unset, .unset] [])) tg → Steps p.tables e below (s₁.setTop (mkF m 0 #[vR a1, vI p2, vI p3, .unset, .unset, .unset] [])) tg := fun _ k => k
  have R29 : ∀ tg, Steps p.tables e below (s₁.setTop (mkF m 4 #[vR a1, vI p2, vI p3, vI (0 : Int32), .unset, .unset] [(.int p3), (.int p2)])) tg → Steps p.tables e below (s₁.setTop (mkF m 0 #[vR a1, vI p2, vI p3, .unset, .unset, .unset] [])) tg := by
    intro tg kt
    refine pre00 _ ?_
    show Steps p.tables e below (s₁.setTop (mkF m 0 #[vR a1, vI p2, vI p3, .unset, .unset, .unset] [])) _
    refine XS.iconst X0.here hx rfl (hb hby d8_0) ?_
    show Steps p.tables e below (s₁.setTop (mkF m 1 #[vR a1, vI p2, vI p3, .unset, .unset, .unset] [(.int (0 : Int32))])) _
    refine XS.istoreN X0.here hx rfl (hb hby d8_1) rfl (l' := #[vR a1, vI p2, vI p3, vI (0 : Int32), .unset, .unset]) rfl ?_
    refine XS.iloadN X0.here hx rfl (hb hby d8_2) rfl ?_
    refine XS.iloadN X0.here hx rfl (hb hby d8_3) rfl ?_
    exact kt
  by_cases hab : p2 = p3
  · have R31 : ∀ tg, Steps p.tables e below (s₁.setTop (mkF m 77 #[vR a1, vI p2, vI p3, vI (0 : Int32), .unset, .unset] [])) tg → Steps p.tables e below (s₁.setTop (mkF m 0 #[vR a1, vI p2, vI p3, .unset, .unset, .unset] [])) tg := by
      intro tg kt
      refine R29 _ ?_
      show Steps p.tables e below (s₁.setTop (mkF m 4 #[vR a1, vI p2, vI p3, vI (0 : Int32), .unset, .unset] [(.int p3), (.int p2)])) _
      refine XS.icmpYes X0.here hx rfl (pc0 := 4) (pc' := 77) rfl (hb hby d8_4) rfl (teq (hab : p2 = p3)).1 (by decide) (by decide) ?_
      exact kt
    clear R29
    have VA_30 : VD Z h0 a4 9 (own_sr li al be) := by rw [← (own_sre hp hq hab)]; exact VA
    obtain ⟨fs, hr, hrun, hended, hW, hsame⟩ := X0.leave (v := none) (fun _ => rfl)
    refine ⟨_, _, pre0 _ (R31 _ ?_), hrun, hended, _, _, rfl, ?_, ⟨_, rfl⟩, hW, hsame.mono (by decide) (by decide)⟩
    · exact X0.returnOut hx Bd.returns (hb hby d8_77) hr
    · show Q_rm_sw Z a1 p2 p3 a4 li al be h0 n0 _ s₁.heap _
      rw [e0]
      exact ⟨rfl, N0, (Keep.refl h0 [a4]), VA_30⟩
  · have R32 : ∀ tg, Steps p.tables e below (s₁.setTop (mkF m 9 #[vR a1, vI p2, vI p3, vI (0 : Int32), .unset, .unset] [(.ref a1), (.int (0 : Int32))])) tg → Steps p.tables e below (s₁.setTop (mkF m 0 #[vR a1, vI p2, vI p3, .unset, .unset, .unset] [])) tg := by
      intro tg kt
      refine R29 _ ?_
      show Steps p.tables e below (s₁.setTop (mkF m 4 #[vR a1, vI p2, vI p3, vI (0 : Int32), .unset, .unset] [(.int p3), (.int p2)])) _
      refine XS.icmpNo X0.here hx rfl (hb hby d8_4) rfl (feq (hab : ¬ (p2 = p3))).1 ?_
      refine XS.iloadN X0.here hx rfl (hb hby d8_7) rfl ?_
      refine XS.aloadN X0.here hx rfl (hb hby d8_8) rfl rfl ?_
      exact kt
    clear R29
    obtain ⟨T33, X33, e33, st33⟩ := getF X0 hx hZ hown (host := "") (Or.inl (hw _ (List.mem_of_getElem? (i := 26) rfl))) Via.refl e0 Fs (g := (mkF m 9 #[vR a1, vI p2, vI p3, vI (0 : Int32), .unset, .unset] [(.ref a1), (.int (0 : Int32))])) rfl rfl (hb hby d8_9)
    have R34 : ∀ tg, Steps p.tables e below (T33.setTop (mkF m 15 #[vR a1, vI p2, vI p3, vI (0 : Int32), .unset, .unset] [])) tg → Steps p.tables e below (s₁.setTop (mkF m 0 #[vR a1, vI p2, vI p3, .unset, .unset, .unset] [])) tg := by
      intro tg kt
      refine R32 _ ?_
      refine st33 _ ?_
      show Steps p.tables e below (T33.setTop (mkF m 12 #[vR a1, vI p2, vI p3, vI (0 : Int32), .unset, .unset] [(.int (3 : Int32)), (.int (0 : Int32))])) _
      refine XS.icmpNo X33.here hx rfl (hb hby d8_12) rfl (tlt (by decide : (0 : Int32) < (3 : Int32))).2.1 ?_
      exact kt
    clear R32 st33
    have ia0 := own_ix3 hp hal (j := (0 : Int32)) (n := 0) rfl (by decide)
    have ib0 := own_ix3 hq hbe (j := (0 : Int32)) (n := 0) rfl (by decide)
    have R35 : ∀ tg, Steps p.tables e below (T33.setTop (mkF m 16 #[vR a1, vI p2, vI p3, vI (0 : Int32), .unset, .unset] [(.ref a1)])) tg → Steps p.tables e below (s₁.setTop (mkF m 0 #[vR a1, vI p2, vI p3, .unset, .unset, .unset] [])) tg := by
      intro tg kt
      refine R34 _ ?_
      show Steps p.tables e below (T33.setTop (mkF m 15 #[vR a1, vI p2, vI p3, vI (0 : Int32), .unset, .unset] [])) _
      refine XS.aloadN X33.here hx rfl (hb hby d8_15) rfl rfl ?_
      exact kt
    clear R34
    obtain ⟨T36, X36, e36, st36⟩ := getF X33 hx hZ hown (host := "") (Or.inl (hw _ (List.mem_of_getElem? (i := 28) rfl))) Via.refl e33 Fl (g := (mkF m 16 #[vR a1, vI p2, vI p3, vI (0 : Int32), .unset, .unset] [(.ref a1)])) rfl rfl (hb hby d8_16)
    have R37 : ∀ tg, Steps p.tables e below (T36.setTop (mkF m 21 #[vR a1, vI p2, vI p3, vI (0 : Int32), .unset, .unset] [(.ref a1), (.int p2), (.ref a4)])) tg → Steps p.tables e below (s₁.setTop (mkF m 0 #[vR a1, vI p2, vI p3, .unset, .unset, .unset] [])) tg := by
      intro tg kt
      refine R35 _ ?_
      refine st36 _ ?_
      refine XS.iloadN X36.here hx rfl (hb hby d8_19) rfl ?_
      refine XS.aloadN X36.here hx rfl (hb hby d8_20) rfl rfl ?_
      exact kt
    clear R35 st36
    obtain ⟨T38, X38, e38, st38⟩ := getF X36 hx hZ hown (host := "") (Or.inl (hw _ (List.mem_of_getElem? (i := 26) rfl))) Via.refl e36 Fs (g := (mkF m 21 #[vR a1, vI p2, vI p3, vI (0 : Int32), .unset, .unset] [(.ref a1), (.int p2), (.ref a4)])) rfl rfl (hb hby d8_21)
    have R39 : ∀ tg, Steps p.tables e below (T38.setTop (mkF m 27 #[vR a1, vI p2, vI p3, vI (0 : Int32), .unset, .unset] [(.int ((p2 * (3 : Int32)) + (0 : Int32))), (.ref a4)])) tg → Steps p.tables e below (s₁.setTop (mkF m 0 #[vR a1, vI p2, vI p3, .unset, .unset, .unset] [])) tg := by
      intro tg kt
      refine R37 _ ?_
      refine st38 _ ?_
      show Steps p.tables e below (T38.setTop (mkF m 24 #[vR a1, vI p2, vI p3, vI (0 : Int32), .unset, .unset] [(.int (3 : Int32)), (.int p2), (.ref a4)])) _
      refine XS.imul X38.here hx rfl (hb hby d8_24) rfl ?_
      refine XS.iloadN X38.here hx rfl (hb hby d8_25) rfl ?_
      show Steps p.tables e below (T38.setTop (mkF m 26 #[vR a1, vI p2, vI p3, vI (0 : Int32), .unset, .unset] [(.int (0 : Int32)), (.int (p2 * (3 : Int32))), (.ref a4)])) _
      refine XS.iadd X38.here hx rfl (hb hby d8_26) rfl ?_
      exact kt
    clear R37 st38
    obtain ⟨cl40, d40, Ar40, hin40, hat40, G40⟩ := VA.at (j := ((p2 * (3 : Int32)) + (0 : Int32))) (k := (3 * al + 0)) ia0.1 ia0.2.1 ia0.2.2
    have H40 : DR 2 (li.getD (3 * al + 0) 0) d40 := G40
    have R41 : ∀ tg, Steps p.tables e below (T38.setTop (mkF m 31 #[vR a1, vI p2, vI p3, vI (0 : Int32), vD d40, .second] [(.ref a1)])) tg → Steps p.tables e below (s₁.setTop (mkF m 0 #[vR a1, vI p2, vI p3, .unset, .unset, .unset] [])) tg := by
      intro tg kt
      refine R39 _ ?_
      show Steps p.tables e below (T38.setTop (mkF m 27 #[vR a1, vI p2, vI p3, vI (0 : Int32), .unset, .unset] [(.int ((p2 * (3 : Int32)) + (0 : Int32))), (.ref a4)])) _
      refine X38.daload hx (j := ((p2 * (3 : Int32)) + (0 : Int32))) (v := (.double d40)) (by rw [e38]; exact Ar40.1) (State.isArrayOf_alike hZ.alike Ar40.2.1) Ar40.2.2 hin40 hat40 (g := (mkF m 27 #[vR a1, vI p2, vI p3, vI (0 : Int32), .unset, .unset] [(.int ((p2 * (3 : Int32)) + (0 : Int32))), (.ref a4)])) rfl rfl (hb hby d8_27) _ ?_
      show Steps p.tables e below (T38.setTop (mkF m 28 #[vR a1, vI p2, vI p3, vI (0 : Int32), .unset, .unset] [(.double d40)])) _
      refine XS.dstore X38.here hx rfl (hb hby d8_28) rfl (l' := #[vR a1, vI p2, vI p3, vI (0 : Int32), vD d40, .second]) rfl ?_
      refine XS.aloadN X38.here hx rfl (hb hby d8_30) rfl rfl ?_
      exact kt
    clear R39
    obtain ⟨T42, X42, e42, st42⟩ := getF X38 hx hZ hown (host := "") (Or.inl (hw _ (List.mem_of_getElem? (i := 28) rfl))) Via.refl e38 Fl (g := (mkF m 31 #[vR a1, vI p2, vI p3, vI (0 : Int32), vD d40, .second] [(.ref a1)])) rfl rfl (hb hby d8_31)
    have R43 : ∀ tg, Steps p.tables e below (T42.setTop (mkF m 36 #[vR a1, vI p2, vI p3, vI (0 : Int32), vD d40, .second] [(.ref a1), (.int p2), (.ref a4)])) tg → Steps p.tables e below (s₁.setTop (mkF m 0 #[vR a1, vI p2, vI p3, .unset, .unset, .unset] [])) tg := by
      intro tg kt
      refine R41 _ ?_
      refine st42 _ ?_
      refine XS.iloadN X42.here hx rfl (hb hby d8_34) rfl ?_
      show Steps p.tables e below (T42.setTop (mkF m 35 #[vR a1, vI p2, vI p3, vI (0 : Int32), vD d40, .second] [(.int p2), (.ref a4)])) _
      refine XS.aloadN X42.here hx rfl (hb hby d8_35) rfl rfl ?_
      exact kt
    clear R41 st42
    obtain ⟨T44, X44, e44, st44⟩ := getF X42 hx hZ hown (host := "") (Or.inl (hw _ (List.mem_of_getElem? (i := 26) rfl))) Via.refl e42 Fs (g := (mkF m 36 #[vR a1, vI p2, vI p3, vI (0 : Int32), vD d40, .second] [(.ref a1), (.int p2), (.ref a4)])) rfl rfl (hb hby d8_36)
    have R45 : ∀ tg, Steps p.tables e below (T44.setTop (mkF m 43 #[vR a1, vI p2, vI p3, vI (0 : Int32), vD d40, .second] [(.ref a1), (.int ((p2 * (3 : Int32)) + (0 : Int32))), (.ref a4)])) tg → Steps p.tables e below (s₁.setTop (mkF m 0 #[vR a1, vI p2, vI p3, .unset, .unset, .unset] [])) tg := by
      intro tg kt
      refine R43 _ ?_
      refine st44 _ ?_
      show Steps p.tables e below (T44.setTop (mkF m 39 #[vR a1, vI p2, vI p3, vI (0 : Int32), vD d40, .second] [(.int (3 : Int32)), (.int p2), (.ref a4)])) _
      refine XS.imul X44.here hx rfl (hb hby d8_39) rfl ?_
      refine XS.iloadN X44.here hx rfl (hb hby d8_40) rfl ?_
      show Steps p.tables e below (T44.setTop (mkF m 41 #[vR a1, vI p2, vI p3, vI (0 : Int32), vD d40, .second] [(.int (0 : Int32)), (.int (p2 * (3 : Int32))), (.ref a4)])) _
      refine XS.iadd X44.here hx rfl (hb hby d8_41) rfl ?_
      refine XS.aloadN X44.here hx rfl (hb hby d8_42) rfl rfl ?_
      exact kt
    clear R43 st44
    obtain ⟨T46, X46, e46, st46⟩ := getF X44 hx hZ hown (host := "") (Or.inl (hw _ (List.mem_of_getElem? (i := 28) rfl))) Via.refl e44 Fl (g := (mkF m 43 #[vR a1, vI p2, vI p3, vI (0 : Int32), vD d40, .second] [(.ref a1), (.int ((p2 * (3 : Int32)) + (0 : Int32))), (.ref a4)])) rfl rfl (hb hby d8_43)
    have R47 : ∀ tg, Steps p.tables e below (T46.setTop (mkF m 48 #[vR a1, vI p2, vI p3, vI (0 : Int32), vD d40, .second] [(.ref a1), (.int p3), (.ref a4), (.int ((p2 * (3 : Int32)) + (0 : Int32))), (.ref a4)])) tg → Steps p.tables e below (s₁.setTop (mkF m 0 #[vR a1, vI p2, vI p3, .unset, .unset, .unset] [])) tg := by
      intro tg kt
      refine R45 _ ?_
      refine st46 _ ?_
      refine XS.iloadN X46.here hx rfl (hb hby d8_46) rfl ?_
      show Steps p.tables e below (T46.setTop (mkF m 47 #[vR a1, vI p2, vI p3, vI (0 : Int32), vD d40, .second] [(.int p3), (.ref a4), (.int ((p2 * (3 : Int32)) + (0 : Int32))), (.ref a4)])) _
      refine XS.aloadN X46.here hx rfl (hb hby d8_47) rfl rfl ?_
      exact kt
    clear R45 st46
    obtain ⟨T48, X48, e48, st48⟩ := getF X46 hx hZ hown (host := "") (Or.inl (hw _ (List.mem_of_getElem? (i := 26) rfl))) Via.refl e46 Fs (g := (mkF m 48 #[vR a1, vI p2, vI p3, vI (0 : Int32), vD d40, .second] [(.ref a1), (.int p3), (.ref a4), (.int ((p2 * (3 : Int32)) + (0 : Int32))), (.ref a4)])) rfl rfl (hb hby d8_48)
    have R49 : ∀ tg, Steps p.tables e below (T48.setTop (mkF m 54 #[vR a1, vI p2, vI p3, vI (0 : Int32), vD d40, .second] [(.int ((p3 * (3 : Int32)) + (0 : Int32))), (.ref a4), (.int ((p2 * (3 : Int32)) + (0 : Int32))), (.ref a4)])) tg → Steps p.tables e below (s₁.setTop (mkF m 0 #[vR a1, vI p2, vI p3, .unset, .unset, .unset] [])) tg := by
      intro tg kt
      refine R47 _ ?_
      refine st48 _ ?_
      show Steps p.tables e below (T48.setTop (mkF m 51 #[vR a1, vI p2, vI p3, vI (0 : Int32), vD d40, .second] [(.int (3 : Int32)), (.int p3), (.ref a4), (.int ((p2 * (3 : Int32)) + (0 : Int32))), (.ref a4)])) _
      refine XS.imul X48.here hx rfl (hb hby d8_51) rfl ?_
      refine XS.iloadN X48.here hx rfl (hb hby d8_52) rfl ?_
      show Steps p.tables e below (T48.setTop (mkF m 53 #[vR a1, vI p2, vI p3, vI (0 : Int32), vD d40, .second] [(.int (0 : Int32)), (.int (p3 * (3 : Int32))), (.ref a4), (.int ((p2 * (3 : Int32)) + (0 : Int32))), (.ref a4)])) _
      refine XS.iadd X48.here hx rfl (hb hby d8_53) rfl ?_
      exact kt
    clear R47 st48
    obtain ⟨cl50, d50, Ar50, hin50, hat50, G50⟩ := VA.at (j := ((p3 * (3 : Int32)) + (0 : Int32))) (k := (3 * be + 0)) ib0.1 ib0.2.1 ib0.2.2
    have H50 : DR 2 (li.getD (3 * be + 0) 0) d50 := G50
    have R51 : ∀ tg, Steps p.tables e below (T48.setTop (mkF m 55 #[vR a1, vI p2, vI p3, vI (0 : Int32), vD d40, .second] [(.double d50), (.int ((p2 * (3 : Int32)) + (0 : Int32))), (.ref a4)])) tg → Steps p.tables e below (s₁.setTop (mkF m 0 #[vR a1, vI p2, vI p3, .unset, .unset, .unset] [])) tg := by
      intro tg kt
      refine R49 _ ?_
      show Steps p.tables e below (T48.setTop (mkF m 54 #[vR a1, vI p2, vI p3, vI (0 : Int32), vD d40, .second] [(.int ((p3 * (3 : Int32)) + (0 : Int32))), (.ref a4), (.int ((p2 * (3 : Int32)) + (0 : Int32))), (.ref a4)])) _
      refine X48.daload hx (j := ((p3 * (3 : Int32)) + (0 : Int32))) (v := (.double d50)) (by rw [e48]; exact Ar50.1) (State.isArrayOf_alike hZ.alike Ar50.2.1) Ar50.2.2 hin50 hat50 (g := (mkF m 54 #[vR a1, vI p2, vI p3, vI (0 : Int32), vD d40, .second] [(.int ((p3 * (3 : Int32)) + (0 : Int32))), (.ref a4), (.int ((p2 * (3 : Int32)) + (0 : Int32))), (.ref a4)])) rfl rfl (hb hby d8_54) _ ?_
      exact kt
    clear R49
    obtain ⟨cl52, -, Ar52, hin52, -, -⟩ := VA.at (j := ((p2 * (3 : Int32)) + (0 : Int32))) (k := (3 * al + 0)) ia0.1 ia0.2.1 ia0.2.2
    obtain ⟨T53, h53, X53, e53, W53, st53⟩ := stD X48 hx hZ e48 Ar52 (j := ((p2 * (3 : Int32)) + (0 : Int32))) hin52 (g := (mkF m 55 #[vR a1, vI p2, vI p3, vI (0 : Int32), vD d40, .second] [(.double d50), (.int ((p2 * (3 : Int32)) + (0 : Int32))), (.ref a4)])) rfl rfl (hb hby d8_55)
    have N53 := Fr.snoc X53 N0 ga
    rw [show (((p2 * (3 : Int32)) + (0 : Int32)) : Int32).toNatClampNeg = (3 * al + 0) from ia0.2.1] at W53
    have VA_53 : VD Z h53 a4 9 (li.set (3 * al + 0) (li.getD (3 * be + 0) 0)) := VA.set W53 H50
    have Fs_53 := Fs.other W53 (Or.inl na)
    have Fl_53 := Fl.other W53 (Or.inl na)
    have Zs53 : n0 ≤ h53.size := Nat.le_trans Z0 (Keep.of_wr W53).1
    have Kw53 : Keep h0 h53 [a4] := Keep.wr (Keep.refl h0 [a4]) W53 (Or.inl (List.mem_of_getElem? (i := 0) rfl))
    have R54 : ∀ tg, Steps p.tables e below (T53.setTop (mkF m 57 #[vR a1, vI p2, vI p3, vI (0 : Int32), vD d40, .second] [(.ref a1)])) tg → Steps p.tables e below (s₁.setTop (mkF m 0 #[vR a1, vI p2, vI p3, .unset, .unset, .unset] [])) tg := by
      intro tg kt
      refine R51 _ ?_
      refine st53 _ ?_
      refine XS.aloadN X53.here hx rfl (hb hby d8_56) rfl rfl ?_
      exact kt
    clear R51 st53
    obtain ⟨T55, X55, e55, st55⟩ := getF X53 hx hZ hown (host := "") (Or.inl (hw _ (List.mem_of_getElem? (i := 28) rfl))) Via.refl e53 Fl_53 (g := (mkF m 57 #[vR a1, vI p2, vI p3, vI (0 : Int32), vD d40, .second] [(.ref a1)])) rfl rfl (hb hby d8_57)
    have R56 : ∀ tg, Steps p.tables e below (T55.setTop (mkF m 62 #[vR a1, vI p2, vI p3, vI (0 : Int32), vD d40, .second] [(.ref a1), (.int p3), (.ref a4)])) tg → Steps p.tables e below (s₁.setTop (mkF m 0 #[vR a1, vI p2, vI p3, .unset, .unset, .unset] [])) tg := by
      intro tg kt
      refine R54 _ ?_
      refine st55 _ ?_
      refine XS.iloadN X55.here hx rfl (hb hby d8_60) rfl ?_
      show Steps p.tables e below (T55.setTop (mkF m 61 #[vR a1, vI p2, vI p3, vI (0 : Int32), vD d40, .second] [(.int p3), (.ref a4)])) _
      refine XS.aloadN X55.here hx rfl (hb hby d8_61) rfl rfl ?_
      exact kt
    clear R54 st55
    obtain ⟨T57, X57, e57, st57⟩ := getF X55 hx hZ hown (host := "") (Or.inl (hw _ (List.mem_of_getElem? (i := 26) rfl))) Via.refl e55 Fs_53 (g := (mkF m 62 #[vR a1, vI p2, vI p3, vI (0 : Int32), vD d40, .second] [(.ref a1), (.int p3), (.ref a4)])) rfl rfl (hb hby d8_62)
    have R58 : ∀ tg, Steps p.tables e below (T57.setTop (mkF m 70 #[vR a1, vI p2, vI p3, vI (0 : Int32), vD d40, .second] [(.double d40), (.int ((p3 * (3 : Int32)) + (0 : Int32))), (.ref a4)])) tg → Steps p.tables e below (s₁.setTop (mkF m 0 #[vR a1, vI p2, vI p3, .unset, .unset, .unset] [])) tg := by
      intro tg kt
      refine R56 _ ?_
      refine st57 _ ?_
      show Steps p.tables e below (T57.setTop (mkF m 65 #[vR a1, vI p2, vI p3, vI (0 : Int32), vD d40, .second] [(.int (3 : Int32)), (.int p3), (.ref a4)])) _
      refine XS.imul X57.here hx rfl (hb hby d8_65) rfl ?_
      refine XS.iloadN X57.here hx rfl (hb hby d8_66) rfl ?_
      show Steps p.tables e below (T57.setTop (mkF m 67 #[vR a1, vI p2, vI p3, vI (0 : Int32), vD d40, .second] [(.int (0 : Int32)), (.int (p3 * (3 : Int32))), (.ref a4)])) _
      refine XS.iadd X57.here hx rfl (hb hby d8_67) rfl ?_
      show Steps p.tables e below (T57.setTop (mkF m 68 #[vR a1, vI p2, vI p3, vI (0 : Int32), vD d40, .second] [(.int ((p3 * (3 : Int32)) + (0 : Int32))), (.ref a4)])) _
      refine XS.dload X57.here hx rfl (hb hby d8_68) rfl ?_
      exact kt
    clear R56 st57
    obtain ⟨cl59, -, Ar59, hin59, -, -⟩ := VA_53.at (j := ((p3 * (3 : Int32)) + (0 : Int32))) (k := (3 * be + 0)) ib0.1 ib0.2.1 ib0.2.2
    obtain ⟨T60, h60, X60, e60, W60, st60⟩ := stD X57 hx hZ e57 Ar59 (j := ((p3 * (3 : Int32)) + (0 : Int32))) hin59 (g := (mkF m 70 #[vR a1, vI p2, vI p3, vI (0 : Int32), vD d40, .second] [(.double d40), (.int ((p3 * (3 : Int32)) + (0 : Int32))), (.ref a4)])) rfl rfl (hb hby d8_70)
    have N60 := Fr.snoc X60 N53 ga
    rw [show (((p3 * (3 : Int32)) + (0 : Int32)) : Int32).toNatClampNeg = (3 * be + 0) from ib0.2.1] at W60
    have VA_60 : VD Z h60 a4 9 (own_sx li al be 0) := VA_53.set W60 H40
    have Fs_60 := Fs_53.other W60 (Or.inl na)
    have Fl_60 := Fl_53.other W60 (Or.inl na)
    clear Fs_53 Fl_53
    have Zs60 : n0 ≤ h60.size := Nat.le_trans Zs53 (Keep.of_wr W60).1
    have Kw60 : Keep h0 h60 [a4] := Keep.wr Kw53 W60 (Or.inl (List.mem_of_getElem? (i := 0) rfl))
    have R61 : ∀ tg, Steps p.tables e below (T60.setTop (mkF m 2 #[vR a1, vI p2, vI p3, vI ((0 : Int32) + (1 : Int32)), vD d40, .second] [])) tg → Steps p.tables e below (s₁.setTop (mkF m 0 #[vR a1, vI p2, vI p3, .unset, .unset, .unset] [])) tg := by
      intro tg kt
      refine R58 _ ?_
      refine st60 _ ?_
      show Steps p.tables e below (T60.setTop (mkF m 71 #[vR a1, vI p2, vI p3, vI (0 : Int32), vD d40, .second] [])) _
      refine XS.iinc X60.here hx rfl (hb hby d8_71) rfl (l' := #[vR a1, vI p2, vI p3, vI ((0 : Int32) + (1 : Int32)), vD d40, .second]) rfl ?_
      show Steps p.tables e below (T60.setTop (mkF m 74 #[vR a1, vI p2, vI p3, vI ((0 : Int32) + (1 : Int32)), vD d40, .second] [])) _
      refine XS.goto X60.here hx rfl (pc0 := 74) (pc' := 2) rfl (hb hby d8_74) (by decide) (by decide) ?_
      exact kt
    clear R58 st60
    have R62 : ∀ tg, Steps p.tables e below (T60.setTop (mkF m 2 #[vR a1, vI p2, vI p3, vI (1 : Int32), vD d40, .second] [])) tg → Steps p.tables e below (s₁.setTop (mkF m 0 #[vR a1, vI p2, vI p3, .unset, .unset, .unset] [])) tg := R61
    have R63 : ∀ tg, Steps p.tables e below (T60.setTop (mkF m 9 #[vR a1, vI p2, vI p3, vI (1 : Int32), vD d40, .second] [(.ref a1), (.int (1 : Int32))])) tg → Steps p.tables e below (s₁.setTop (mkF m 0 #[vR a1, vI p2, vI p3, .unset, .unset, .unset] [])) tg := by
      intro tg kt
      refine R62 _ ?_
      show Steps p.tables e below (T60.setTop (mkF m 2 #[vR a1, vI p2, vI p3, vI (1 : Int32), vD d40, .second] [])) _
      refine XS.iloadN X60.here hx rfl (hb hby d8_2) rfl ?_
      refine XS.iloadN X60.here hx rfl (hb hby d8_3) rfl ?_
      show Steps p.tables e below (T60.setTop (mkF m 4 #[vR a1, vI p2, vI p3, vI (1 : Int32), vD d40, .second] [(.int p3), (.int p2)])) _
      refine XS.icmpNo X60.here hx rfl (hb hby d8_4) rfl (feq (hab : ¬ (p2 = p3))).1 ?_
      refine XS.iloadN X60.here hx rfl (hb hby d8_7) rfl ?_
      refine XS.aloadN X60.here hx rfl (hb hby d8_8) rfl rfl ?_
      exact kt
    clear R62
    obtain ⟨T64, X64, e64, st64⟩ := getF X60 hx hZ hown (host := "") (Or.inl (hw _ (List.mem_of_getElem? (i := 26) rfl))) Via.refl e60 Fs_60 (g := (mkF m 9 #[vR a1, vI p2, vI p3, vI (1 : Int32), vD d40, .second] [(.ref a1), (.int (1 : Int32))])) rfl rfl (hb hby d8_9)
    have R65 : ∀ tg, Steps p.tables e below (T64.setTop (mkF m 15 #[vR a1, vI p2, vI p3, vI (1 : Int32), vD d40, .second] [])) tg → Steps p.tables e below (s₁.setTop (mkF m 0 #[vR a1, vI p2, vI p3, .unset, .unset, .unset] [])) tg := by
      intro tg kt
      refine R63 _ ?_
      refine st64 _ ?_
      show Steps p.tables e below (T64.setTop (mkF m 12 #[vR a1, vI p2, vI p3, vI (1 : Int32), vD d40, .second] [(.int (3 : Int32)), (.int (1 : Int32))])) _
      refine XS.icmpNo X64.here hx rfl (hb hby d8_12) rfl (tlt (by decide : (1 : Int32) < (3 : Int32))).2.1 ?_
      exact kt
    clear R63 st64
    have ia1 := own_ix3 hp hal (j := (1 : Int32)) (n := 1) rfl (by decide)
    have ib1 := own_ix3 hq hbe (j := (1 : Int32)) (n := 1) rfl (by decide)
    have R66 : ∀ tg, Steps p.tables e below (T64.setTop (mkF m 16 #[vR a1, vI p2, vI p3, vI (1 : Int32), vD d40, .second] [(.ref a1)])) tg → Steps p.tables e below (s₁.setTop (mkF m 0 #[vR a1, vI p2, vI p3, .unset, .unset, .unset] [])) tg := by
      intro tg kt
      refine R65 _ ?_
      show Steps p.tables e below (T64.setTop (mkF m 15 #[vR a1, vI p2, vI p3, vI (1 : Int32), vD d40, .second] [])) _
      refine XS.aloadN X64.here hx rfl (hb hby d8_15) rfl rfl ?_
      exact kt
    clear R65
    obtain ⟨T67, X67, e67, st67⟩ := getF X64 hx hZ hown (host := "") (Or.inl (hw _ (List.mem_of_getElem? (i := 28) rfl))) Via.refl e64 Fl_60 (g := (mkF m 16 #[vR a1, vI p2, vI p3, vI (1 : Int32), vD d40, .second] [(.ref a1)])) rfl rfl (hb hby d8_16)
    have R68 : ∀ tg, Steps p.tables e below (T67.setTop (mkF m 21 #[vR a1, vI p2, vI p3, vI (1 : Int32), vD d40, .second] [(.ref a1), (.int p2), (.ref a4)])) tg → Steps p.tables e below (s₁.setTop (mkF m 0 #[vR a1, vI p2, vI p3, .unset, .unset, .unset] [])) tg := by
      intro tg kt
      refine R66 _ ?_
      refine st67 _ ?_
      refine XS.iloadN X67.here hx rfl (hb hby d8_19) rfl ?_
      refine XS.aloadN X67.here hx rfl (hb hby d8_20) rfl rfl ?_
      exact kt
    clear R66 st67
    obtain ⟨T69, X69, e69, st69⟩ := getF X67 hx hZ hown (host := "") (Or.inl (hw _ (List.mem_of_getElem? (i := 26) rfl))) Via.refl e67 Fs_60 (g := (mkF m 21 #[vR a1, vI p2, vI p3, vI (1 : Int32), vD d40, .second] [(.ref a1), (.int p2), (.ref a4)])) rfl rfl (hb hby d8_21)
    have R70 : ∀ tg, Steps p.tables e below (T69.setTop (mkF m 27 #[vR a1, vI p2, vI p3, vI (1 : Int32), vD d40, .second] [(.int ((p2 * (3 : Int32)) + (1 : Int32))), (.ref a4)])) tg → Steps p.tables e below (s₁.setTop (mkF m 0 #[vR a1, vI p2, vI p3, .unset, .unset, .unset] [])) tg := by
      intro tg kt
      refine R68 _ ?_
      refine st69 _ ?_
      show Steps p.tables e below (T69.setTop (mkF m 24 #[vR a1, vI p2, vI p3, vI (1 : Int32), vD d40, .second] [(.int (3 : Int32)), (.int p2), (.ref a4)])) _
      refine XS.imul X69.here hx rfl (hb hby d8_24) rfl ?_
      refine XS.iloadN X69.here hx rfl (hb hby d8_25) rfl ?_
      show Steps p.tables e below (T69.setTop (mkF m 26 #[vR a1, vI p2, vI p3, vI (1 : Int32), vD d40, .second] [(.int (1 : Int32)), (.int (p2 * (3 : Int32))), (.ref a4)])) _
      refine XS.iadd X69.here hx rfl (hb hby d8_26) rfl ?_
      exact kt
    clear R68 st69
    obtain ⟨cl71, d71, Ar71, hin71, hat71, G71⟩ := VA_60.at (j := ((p2 * (3 : Int32)) + (1 : Int32))) (k := (3 * al + 1)) ia1.1 ia1.2.1 ia1.2.2
    have H71 : DR 2 ((own_sx li al be 0).getD (3 * al + 1) 0) d71 := G71
    have R72 : ∀ tg, Steps p.tables e below (T69.setTop (mkF m 31 #[vR a1, vI p2, vI p3, vI (1 : Int32), vD d71, .second] [(.ref a1)])) tg → Steps p.tables e below (s₁.setTop (mkF m 0 #[vR a1, vI p2, vI p3, .unset, .unset, .unset] [])) tg := by
      intro tg kt
      refine R70 _ ?_
      show Steps p.tables e below (T69.setTop (mkF m 27 #[vR a1, vI p2, vI p3, vI (1 : Int32), vD d40, .second] [(.int ((p2 * (3 : Int32)) + (1 : Int32))), (.ref a4)])) _
      refine X69.daload hx (j := ((p2 * (3 : Int32)) + (1 : Int32))) (v := (.double d71)) (by rw [e69]; exact Ar71.1) (State.isArrayOf_alike hZ.alike Ar71.2.1) Ar71.2.2 hin71 hat71 (g := (mkF m 27 #[vR a1, vI p2, vI p3, vI (1 : Int32), vD d40, .second] [(.int ((p2 * (3 : Int32)) + (1 : Int32))), (.ref a4)])) rfl rfl (hb hby d8_27) _ ?_
      show Steps p.tables e below (T69.setTop (mkF m 28 #[vR a1, vI p2, vI p3, vI (1 : Int32), vD d40, .second] [(.double d71)])) _
      refine XS.dstore X69.here hx rfl (hb hby d8_28) rfl (l' := #[vR a1, vI p2, vI p3, vI (1 : Int32), vD d71, .second]) rfl ?_
      refine XS.aloadN X69.here hx rfl (hb hby d8_30) rfl rfl ?_
      exact kt
    clear R70
    obtain ⟨T73, X73, e73, st73⟩ := getF X69 hx hZ hown (host := "") (Or.inl (hw _ (List.mem_of_getElem? (i := 28) rfl))) Via.refl e69 Fl_60 (g := (mkF m 31 #[vR a1, vI p2, vI p3, vI (1 : Int32), vD d71, .second] [(.ref a1)])) rfl rfl (hb hby d8_31)
    have R74 : ∀ tg, Steps p.tables e below (T73.setTop (mkF m 36 #[vR a1, vI p2, vI p3, vI (1 : Int32), vD d71, .second] [(.ref a1), (.int p2), (.ref a4)])) tg → Steps p.tables e below (s₁.setTop (mkF m 0 #[vR a1, vI p2, vI p3, .unset, .unset, .unset] [])) tg := by
      intro tg kt
      refine R72 _ ?_
      refine st73 _ ?_
      refine XS.iloadN X73.here hx rfl (hb hby d8_34) rfl ?_
      show Steps p.tables e below (T73.setTop (mkF m 35 #[vR a1, vI p2, vI p3, vI (1 : Int32), vD d71, .second] [(.int p2), (.ref a4)])) _
      refine XS.aloadN X73.here hx rfl (hb hby d8_35) rfl rfl ?_
      exact kt
    clear R72 st73
    obtain ⟨T75, X75, e75, st75⟩ := getF X73 hx hZ hown (host := "") (Or.inl (hw _ (List.mem_of_getElem? (i := 26) rfl))) Via.refl e73 Fs_60 (g := (mkF m 36 #[vR a1, vI p2, vI p3, vI (1 : Int32), vD d71, .second] [(.ref a1), (.int p2), (.ref a4)])) rfl rfl (hb hby d8_36)
    have R76 : ∀ tg, Steps p.tables e below (T75.setTop (mkF m 43 #[vR a1, vI p2, vI p3, vI (1 : Int32), vD d71, .second] [(.ref a1), (.int ((p2 * (3 : Int32)) + (1 : Int32))), (.ref a4)])) tg → Steps p.tables e below (s₁.setTop (mkF m 0 #[vR a1, vI p2, vI p3, .unset, .unset, .unset] [])) tg := by
      intro tg kt
      refine R74 _ ?_
      refine st75 _ ?_
      show Steps p.tables e below (T75.setTop (mkF m 39 #[vR a1, vI p2, vI p3, vI (1 : Int32), vD d71, .second] [(.int (3 : Int32)), (.int p2), (.ref a4)])) _
      refine XS.imul X75.here hx rfl (hb hby d8_39) rfl ?_
      refine XS.iloadN X75.here hx rfl (hb hby d8_40) rfl ?_
      show Steps p.tables e below (T75.setTop (mkF m 41 #[vR a1, vI p2, vI p3, vI (1 : Int32), vD d71, .second] [(.int (1 : Int32)), (.int (p2 * (3 : Int32))), (.ref a4)])) _
      refine XS.iadd X75.here hx rfl (hb hby d8_41) rfl ?_
      refine XS.aloadN X75.here hx rfl (hb hby d8_42) rfl rfl ?_
      exact kt
    clear R74 st75
    obtain ⟨T77, X77, e77, st77⟩ := getF X75 hx hZ hown (host := "") (Or.inl (hw _ (List.mem_of_getElem? (i := 28) rfl))) Via.refl e75 Fl_60 (g := (mkF m 43 #[vR a1, vI p2, vI p3, vI (1 : Int32), vD d71, .second] [(.ref a1), (.int ((p2 * (3 : Int32)) + (1 : Int32))), (.ref a4)])) rfl rfl (hb hby d8_43)
    have R78 : ∀ tg, Steps p.tables e below (T77.setTop (mkF m 48 #[vR a1, vI p2, vI p3, vI (1 : Int32), vD d71, .second] [(.ref a1), (.int p3), (.ref a4), (.int ((p2 * (3 : Int32)) + (1 : Int32))), (.ref a4)])) tg → Steps p.tables e below (s₁.setTop (mkF m 0 #[vR a1, vI p2, vI p3, .unset, .unset, .unset] [])) tg := by
      intro tg kt
      refine R76 _ ?_
      refine st77 _ ?_
      refine XS.iloadN X77.here hx rfl (hb hby d8_46) rfl ?_
      show Steps p.tables e below (T77.setTop (mkF m 47 #[vR a1, vI p2, vI p3, vI (1 : Int32), vD d71, .second] [(.int p3), (.ref a4), (.int ((p2 * (3 : Int32)) + (1 : Int32))), (.ref a4)])) _
      refine XS.aloadN X77.here hx rfl (hb hby d8_47) rfl rfl ?_
      exact kt
    clear R76 st77
    obtain ⟨T79, X79, e79, st79⟩ := getF X77 hx hZ hown (host := "") (Or.inl (hw _ (List.mem_of_getElem? (i := 26) rfl))) Via.refl e77 Fs_60 (g := (mkF m 48 #[vR a1, vI p2, vI p3, vI (1 : Int32), vD d71, .second] [(.ref a1), (.int p3), (.ref a4), (.int ((p2 * (3 : Int32)) + (1 : Int32))), (.ref a4)])) rfl rfl (hb hby d8_48)
    have R80 : ∀ tg, Steps p.tables e below (T79.setTop (mkF m 54 #[vR a1, vI p2, vI p3, vI (1 : Int32), vD d71, .second] [(.int ((p3 * (3 : Int32)) + (1 : Int32))), (.ref a4), (.int ((p2 * (3 : Int32)) + (1 : Int32))), (.ref a4)])) tg → Steps p.tables e below (s₁.setTop (mkF m 0 #[vR a1, vI p2, vI p3, .unset, .unset, .unset] [])) tg := by
      intro tg kt
      refine R78 _ ?_
      refine st79 _ ?_
      show Steps p.tables e below (T79.setTop (mkF m 51 #[vR a1, vI p2, vI p3, vI (1 : Int32), vD d71, .second] [(.int (3 : Int32)), (.int p3), (.ref a4), (.int ((p2 * (3 : Int32)) + (1 : Int32))), (.ref a4)])) _
      refine XS.imul X79.here hx rfl (hb hby d8_51) rfl ?_
      refine XS.iloadN X79.here hx rfl (hb hby d8_52) rfl ?_
      show Steps p.tables e below (T79.setTop (mkF m 53 #[vR a1, vI p2, vI p3, vI (1 : Int32), vD d71, .second] [(.int (1 : Int32)), (.int (p3 * (3 : Int32))), (.ref a4), (.int ((p2 * (3 : Int32)) + (1 : Int32))), (.ref a4)])) _
      refine XS.iadd X79.here hx rfl (hb hby d8_53) rfl ?_
      exact kt
    clear R78 st79
    obtain ⟨cl81, d81, Ar81, hin81, hat81, G81⟩ := VA_60.at (j := ((p3 * (3 : Int32)) + (1 : Int32))) (k := (3 * be + 1)) ib1.1 ib1.2.1 ib1.2.2
    have H81 : DR 2 ((own_sx li al be 0).getD (3 * be + 1) 0) d81 := G81
    have R82 : ∀ tg, Steps p.tables e below (T79.setTop (mkF m 55 #[vR a1, vI p2, vI p3, vI (1 : Int32), vD d71, .second] [(.double d81), (.int ((p2 * (3 : Int32)) + (1 : Int32))), (.ref a4)])) tg → Steps p.tables e below (s₁.setTop (mkF m 0 #[vR a1, vI p2, vI p3, .unset, .unset, .unset] [])) tg := by
      intro tg kt
      refine R80 _ ?_
      show Steps p.tables e below (T79.setTop (mkF m 54 #[vR a1, vI p2, vI p3, vI (1 : Int32), vD d71, .second] [(.int ((p3 * (3 : Int32)) + (1 : Int32))), (.ref a4), (.int ((p2 * (3 : Int32)) + (1 : Int32))), (.ref a4)])) _
      refine X79.daload hx (j := ((p3 * (3 : Int32)) + (1 : Int32))) (v := (.double d81)) (by rw [e79]; exact Ar81.1) (State.isArrayOf_alike hZ.alike Ar81.2.1) Ar81.2.2 hin81 hat81 (g := (mkF m 54 #[vR a1, vI p2, vI p3, vI (1 : Int32), vD d71, .second] [(.int ((p3 * (3 : Int32)) + (1 : Int32))), (.ref a4), (.int ((p2 * (3 : Int32)) + (1 : Int32))), (.ref a4)])) rfl rfl (hb hby d8_54) _ ?_
      exact kt
    clear R80
    obtain ⟨cl83, -, Ar83, hin83, -, -⟩ := VA_60.at (j := ((p2 * (3 : Int32)) + (1 : Int32))) (k := (3 * al + 1)) ia1.1 ia1.2.1 ia1.2.2
    obtain ⟨T84, h84, X84, e84, W84, st84⟩ := stD X79 hx hZ e79 Ar83 (j := ((p2 * (3 : Int32)) + (1 : Int32))) hin83 (g := (mkF m 55 #[vR a1, vI p2, vI p3, vI (1 : Int32), vD d71, .second] [(.double d81), (.int ((p2 * (3 : Int32)) + (1 : Int32))), (.ref a4)])) rfl rfl (hb hby d8_55)
    have N84 := Fr.snoc X84 N60 ga
    rw [show (((p2 * (3 : Int32)) + (1 : Int32)) : Int32).toNatClampNeg = (3 * al + 1) from ia1.2.1] at W84
    have VA_84 : VD Z h84 a4 9 ((own_sx li al be 0).set (3 * al + 1) ((own_sx li al be 0).getD (3 * be + 1) 0)) := VA_60.set W84 H81
    have Fs_84 := Fs_60.other W84 (Or.inl na)
    have Fl_84 := Fl_60.other W84 (Or.inl na)
    clear Fs_60 Fl_60
    have Zs84 : n0 ≤ h84.size := Nat.le_trans Zs60 (Keep.of_wr W84).1
    have Kw84 : Keep h0 h84 [a4] := Keep.wr Kw60 W84 (Or.inl (List.mem_of_getElem? (i := 0) rfl))
    have R85 : ∀ tg, Steps p.tables e below (T84.setTop (mkF m 57 #[vR a1, vI p2, vI p3, vI (1 : Int32), vD d71, .second] [(.ref a1)])) tg → Steps p.tables e below (s₁.setTop (mkF m 0 #[vR a1, vI p2, vI p3, .unset, .unset, .unset] [])) tg := by
      intro tg kt
      refine R82 _ ?_
      refine st84 _ ?_
      refine XS.aloadN X84.here hx rfl (hb hby d8_56) rfl rfl ?_
      exact kt
    clear R82 st84
    obtain ⟨T86, X86, e86, st86⟩ := getF X84 hx hZ hown (host := "") (Or.inl (hw _ (List.mem_of_getElem? (i := 28) rfl))) Via.refl e84 Fl_84 (g := (mkF m 57 #[vR a1, vI p2, vI p3, vI (1 : Int32), vD d71, .second] [(.ref a1)])) rfl rfl (hb hby d8_57)
    have R87 : ∀ tg, Steps p.tables e below (T86.setTop (mkF m 62 #[vR a1, vI p2, vI p3, vI (1 : Int32), vD d71, .second] [(.ref a1), (.int p3), (.ref a4)])) tg → Steps p.tables e below (s₁.setTop (mkF m 0 #[vR a1, vI p2, vI p3, .unset, .unset, .unset] [])) tg := by
      intro tg kt
      refine R85 _ ?_
      refine st86 _ ?_
      refine XS.iloadN X86.here hx rfl (hb hby d8_60) rfl ?_
      show Steps p.tables e below (T86.setTop (mkF m 61 #[vR a1, vI p2, vI p3, vI (1 : Int32), vD d71, .second] [(.int p3), (.ref a4)])) _
      refine XS.aloadN X86.here hx rfl (hb hby d8_61) rfl rfl ?_
      exact kt
    clear R85 st86
    obtain ⟨T88, X88, e88, st88⟩ := getF X86 hx hZ hown (host := "") (Or.inl (hw _ (List.mem_of_getElem? (i := 26) rfl))) Via.refl e86 Fs_84 (g := (mkF m 62 #[vR a1, vI p2, vI p3, vI (1 : Int32), vD d71, .second] [(.ref a1), (.int p3), (.ref a4)])) rfl rfl (hb hby d8_62)
    have R89 : ∀ tg, Steps p.tables e below (T88.setTop (mkF m 70 #[vR a1, vI p2, vI p3, vI (1 : Int32), vD d71, .second] [(.double d71), (.int ((p3 * (3 : Int32)) + (1 : Int32))), (.ref a4)])) tg → Steps p.tables e below (s₁.setTop (mkF m 0 #[vR a1, vI p2, vI p3, .unset, .unset, .unset] [])) tg := by
      intro tg kt
      refine R87 _ ?_
      refine st88 _ ?_
      show Steps p.tables e below (T88.setTop (mkF m 65 #[vR a1, vI p2, vI p3, vI (1 : Int32), vD d71, .second] [(.int (3 : Int32)), (.int p3), (.ref a4)])) _
      refine XS.imul X88.here hx rfl (hb hby d8_65) rfl ?_
      refine XS.iloadN X88.here hx rfl (hb hby d8_66) rfl ?_
      show Steps p.tables e below (T88.setTop (mkF m 67 #[vR a1, vI p2, vI p3, vI (1 : Int32), vD d71, .second] [(.int (1 : Int32)), (.int (p3 * (3 : Int32))), (.ref a4)])) _
      refine XS.iadd X88.here hx rfl (hb hby d8_67) rfl ?_
      show Steps p.tables e below (T88.setTop (mkF m 68 #[vR a1, vI p2, vI p3, vI (1 : Int32), vD d71, .second] [(.int ((p3 * (3 : Int32)) + (1 : Int32))), (.ref a4)])) _
      refine XS.dload X88.here hx rfl (hb hby d8_68) rfl ?_
      exact kt
    clear R87 st88
    obtain ⟨cl90, -, Ar90, hin90, -, -⟩ := VA_84.at (j := ((p3 * (3 : Int32)) + (1 : Int32))) (k := (3 * be + 1)) ib1.1 ib1.2.1 ib1.2.2
    obtain ⟨T91, h91, X91, e91, W91, st91⟩ := stD X88 hx hZ e88 Ar90 (j := ((p3 * (3 : Int32)) + (1 : Int32))) hin90 (g := (mkF m 70 #[vR a1, vI p2, vI p3, vI (1 : Int32), vD d71, .second] [(.double d71), (.int ((p3 * (3 : Int32)) + (1 : Int32))), (.ref a4)])) rfl rfl (hb hby d8_70)
    have N91 := Fr.snoc X91 N84 ga
    rw [show (((p3 * (3 : Int32)) + (1 : Int32)) : Int32).toNatClampNeg = (3 * be + 1) from ib1.2.1] at W91
    have VA_91 : VD Z h91 a4 9 (own_sx (own_sx li al be 0) al be 1) := VA_84.set W91 H71
    have Fs_91 := Fs_84.other W91 (Or.inl na)
    have Fl_91 := Fl_84.other W91 (Or.inl na)
    clear Fs_84 Fl_84
    have Zs91 : n0 ≤ h91.size := Nat.le_trans Zs84 (Keep.of_wr W91).1
    have Kw91 : Keep h0 h91 [a4] := Keep.wr Kw84 W91 (Or.inl (List.mem_of_getElem? (i := 0) rfl))
    have R92 : ∀ tg, Steps p.tables e below (T91.setTop (mkF m 2 #[vR a1, vI p2, vI p3, vI ((1 : Int32) + (1 : Int32)), vD d71, .second] [])) tg → Steps p.tables e below (s₁.setTop (mkF m 0 #[vR a1, vI p2, vI p3, .unset, .unset, .unset] [])) tg := by
      intro tg kt
      refine R89 _ ?_
      refine st91 _ ?_
      show Steps p.tables e below (T91.setTop (mkF m 71 #[vR a1, vI p2, vI p3, vI (1 : Int32), vD d71, .second] [])) _
      refine XS.iinc X91.here hx rfl (hb hby d8_71) rfl (l' := #[vR a1, vI p2, vI p3, vI ((1 : Int32) + (1 : Int32)), vD d71, .second]) rfl ?_
      show Steps p.tables e below (T91.setTop (mkF m 74 #[vR a1, vI p2, vI p3, vI ((1 : Int32) + (1 : Int32)), vD d71, .second] [])) _
      refine XS.goto X91.here hx rfl (pc0 := 74) (pc' := 2) rfl (hb hby d8_74) (by decide) (by decide) ?_
      exact kt
    clear R89 st91
    have R93 : ∀ tg, Steps p.tables e below (T91.setTop (mkF m 2 #[vR a1, vI p2, vI p3, vI (2 : Int32), vD d71, .second] [])) tg → Steps p.tables e below (s₁.setTop (mkF m 0 #[vR a1, vI p2, vI p3, .unset, .unset, .unset] [])) tg := R92
    have R94 : ∀ tg, Steps p.tables e below (T91.setTop (mkF m 9 #[vR a1, vI p2, vI p3, vI (2 : Int32), vD d71, .second] [(.ref a1), (.int (2 : Int32))])) tg → Steps p.tables e below (s₁.setTop (mkF m 0 #[vR a1, vI p2, vI p3, .unset, .unset, .unset] [])) tg := by
      intro tg kt
      refine R93 _ ?_
      show Steps p.tables e below (T91.setTop (mkF m 2 #[vR a1, vI p2, vI p3, vI (2 : Int32), vD d71, .second] [])) _
      refine XS.iloadN X91.here hx rfl (hb hby d8_2) rfl ?_
      refine XS.iloadN X91.here hx rfl (hb hby d8_3) rfl ?_
      show Steps p.tables e below (T91.setTop (mkF m 4 #[vR a1, vI p2, vI p3, vI (2 : Int32), vD d71, .second] [(.int p3), (.int p2)])) _
      refine XS.icmpNo X91.here hx rfl (hb hby d8_4) rfl (feq (hab : ¬ (p2 = p3))).1 ?_
      refine XS.iloadN X91.here hx rfl (hb hby d8_7) rfl ?_
      refine XS.aloadN X91.here hx rfl (hb hby d8_8) rfl rfl ?_
      exact kt
    clear R93
    obtain ⟨T95, X95, e95, st95⟩ := getF X91 hx hZ hown (host := "") (Or.inl (hw _ (List.mem_of_getElem? (i := 26) rfl))) Via.refl e91 Fs_91 (g := (mkF m 9 #[vR a1, vI p2, vI p3, vI (2 : Int32), vD d71, .second] [(.ref a1), (.int (2 : Int32))])) rfl rfl (hb hby d8_9)
    have R96 : ∀ tg, Steps p.tables e below (T95.setTop (mkF m 15 #[vR a1, vI p2, vI p3, vI (2 : Int32), vD d71, .second] [])) tg → Steps p.tables e below (s₁.setTop (mkF m 0 #[vR a1, vI p2, vI p3, .unset, .unset, .unset] [])) tg := by
      intro tg kt
      refine R94 _ ?_
      refine st95 _ ?_
      show Steps p.tables e below (T95.setTop (mkF m 12 #[vR a1, vI p2, vI p3, vI (2 : Int32), vD d71, .second] [(.int (3 : Int32)), (.int (2 : Int32))])) _
      refine XS.icmpNo X95.here hx rfl (hb hby d8_12) rfl (tlt (by decide : (2 : Int32) < (3 : Int32))).2.1 ?_
      exact kt
    clear R94 st95
    have ia2 := own_ix3 hp hal (j := (2 : Int32)) (n := 2) rfl (by decide)
    have ib2 := own_ix3 hq hbe (j := (2 : Int32)) (n := 2) rfl (by decide)
    have R97 : ∀ tg, Steps p.tables e below (T95.setTop (mkF m 16 #[vR a1, vI p2, vI p3, vI (2 : Int32), vD d71, .second] [(.ref a1)])) tg → Steps p.tables e below (s₁.setTop (mkF m 0 #[vR a1, vI p2, vI p3, .unset, .unset, .unset] [])) tg := by
      intro tg kt
      refine R96 _ ?_
      show Steps p.tables e below (T95.setTop (mkF m 15 #[vR a1, vI p2, vI p3, vI (2 : Int32), vD d71, .second] [])) _
      refine XS.aloadN X95.here hx rfl (hb hby d8_15) rfl rfl ?_
      exact kt
    clear R96
    obtain ⟨T98, X98, e98, st98⟩ := getF X95 hx hZ hown (host := "") (Or.inl (hw _ (List.mem_of_getElem? (i := 28) rfl))) Via.refl e95 Fl_91 (g := (mkF m 16 #[vR a1, vI p2, vI p3, vI (2 : Int32), vD d71, .second] [(.ref a1)])) rfl rfl (hb hby d8_16)
    have R99 : ∀ tg, Steps p.tables e below (T98.setTop (mkF m 21 #[vR a1, vI p2, vI p3, vI (2 : Int32), vD d71, .second] [(.ref a1), (.int p2), (.ref a4)])) tg → Steps p.tables e below (s₁.setTop (mkF m 0 #[vR a1, vI p2, vI p3, .unset, .unset, .unset] [])) tg := by
      intro tg kt
      refine R97 _ ?_
      refine st98 _ ?_
      refine XS.iloadN X98.here hx rfl (hb hby d8_19) rfl ?_
      refine XS.aloadN X98.here hx rfl (hb hby d8_20) rfl rfl ?_
      exact kt
    clear R97 st98
    obtain ⟨T100, X100, e100, st100⟩ := getF X98 hx hZ hown (host := "") (Or.inl (hw _ (List.mem_of_getElem? (i := 26) rfl))) Via.refl e98 Fs_91 (g := (mkF m 21 #[vR a1, vI p2, vI p3, vI (2 : Int32), vD d71, .second] [(.ref a1), (.int p2), (.ref a4)])) rfl rfl (hb hby d8_21)
    have R101 : ∀ tg, Steps p.tables e below (T100.setTop (mkF m 27 #[vR a1, vI p2, vI p3, vI (2 : Int32), vD d71, .second] [(.int ((p2 * (3 : Int32)) + (2 : Int32))), (.ref a4)])) tg → Steps p.tables e below (s₁.setTop (mkF m 0 #[vR a1, vI p2, vI p3, .unset, .unset, .unset] [])) tg := by
      intro tg kt
      refine R99 _ ?_
      refine st100 _ ?_
      show Steps p.tables e below (T100.setTop (mkF m 24 #[vR a1, vI p2, vI p3, vI (2 : Int32), vD d71, .second] [(.int (3 : Int32)), (.int p2), (.ref a4)])) _
      refine XS.imul X100.here hx rfl (hb hby d8_24) rfl ?_
      refine XS.iloadN X100.here hx rfl (hb hby d8_25) rfl ?_
      show Steps p.tables e below (T100.setTop (mkF m 26 #[vR a1, vI p2, vI p3, vI (2 : Int32), vD d71, .second] [(.int (2 : Int32)), (.int (p2 * (3 : Int32))), (.ref a4)])) _
      refine XS.iadd X100.here hx rfl (hb hby d8_26) rfl ?_
      exact kt
    clear R99 st100
    obtain ⟨cl102, d102, Ar102, hin102, hat102, G102⟩ := VA_91.at (j := ((p2 * (3 : Int32)) + (2 : Int32))) (k := (3 * al + 2)) ia2.1 ia2.2.1 ia2.2.2
    have H102 : DR 2 ((own_sx (own_sx li al be 0) al be 1).getD (3 * al + 2) 0) d102 := G102
    have R103 : ∀ tg, Steps p.tables e below (T100.setTop (mkF m 31 #[vR a1, vI p2, vI p3, vI (2 : Int32), vD d102, .second] [(.ref a1)])) tg → Steps p.tables e below (s₁.setTop (mkF m 0 #[vR a1, vI p2, vI p3, .unset, .unset, .unset] [])) tg := by
      intro tg kt
      refine R101 _ ?_
      show Steps p.tables e below (T100.setTop (mkF m 27 #[vR a1, vI p2, vI p3, vI (2 : Int32), vD d71, .second] [(.int ((p2 * (3 : Int32)) + (2 : Int32))), (.ref a4)])) _
      refine X100.daload hx (j := ((p2 * (3 : Int32)) + (2 : Int32))) (v := (.double d102)) (by rw [e100]; exact Ar102.1) (State.isArrayOf_alike hZ.alike Ar102.2.1) Ar102.2.2 hin102 hat102 (g := (mkF m 27 #[vR a1, vI p2, vI p3, vI (2 : Int32), vD d71, .second] [(.int ((p2 * (3 : Int32)) + (2 : Int32))), (.ref a4)])) rfl rfl (hb hby d8_27) _ ?_
      show Steps p.tables e below (T100.setTop (mkF m 28 #[vR a1, vI p2, vI p3, vI (2 : Int32), vD d71, .second] [(.double d102)])) _
      refine XS.dstore X100.here hx rfl (hb hby d8_28) rfl (l' := #[vR a1, vI p2, vI p3, vI (2 : Int32), vD d102, .second]) rfl ?_
      refine XS.aloadN X100.here hx rfl (hb hby d8_30) rfl rfl ?_
      exact kt
    clear R101
    obtain ⟨T104, X104, e104, st104⟩ := getF X100 hx hZ hown (host := "") (Or.inl (hw _ (List.mem_of_getElem? (i := 28) rfl))) Via.refl e100 Fl_91 (g := (mkF m 31 #[vR a1, vI p2, vI p3, vI (2 : Int32), vD d102, .second] [(.ref a1)])) rfl rfl (hb hby d8_31)
    have R105 : ∀ tg, Steps p.tables e below (T104.setTop (mkF m 36 #[vR a1, vI p2, vI p3, vI (2 : Int32), vD d102, .second] [(.ref a1), (.int p2), (.ref a4)])) tg → Steps p.tables e below (s₁.setTop (mkF m 0 #[vR a1, vI p2, vI p3, .unset, .unset, .unset] [])) tg := by
      intro tg kt
      refine R103 _ ?_
      refine st104 _ ?_
      refine XS.iloadN X104.here hx rfl (hb hby d8_34) rfl ?_
      show Steps p.tables e below (T104.setTop (mkF m 35 #[vR a1, vI p2, vI p3, vI (2 : Int32), vD d102, .second] [(.int p2), (.ref a4)])) _
      refine XS.aloadN X104.here hx rfl (hb hby d8_35) rfl rfl ?_
      exact kt
    clear R103 st104
    obtain ⟨T106, X106, e106, st106⟩ := getF X104 hx hZ hown (host := "") (Or.inl (hw _ (List.mem_of_getElem? (i := 26) rfl))) Via.refl e104 Fs_91 (g := (mkF m 36 #[vR a1, vI p2, vI p3, vI (2 : Int32), vD d102, .second] [(.ref a1), (.int p2), (.ref a4)])) rfl rfl (hb hby d8_36)
    have R107 : ∀ tg, Steps p.tables e below (T106.setTop (mkF m 43 #[vR a1, vI p2, vI p3, vI (2 : Int32), vD d102, .second] [(.ref a1), (.int ((p2 * (3 : Int32)) + (2 : Int32))), (.ref a4)])) tg → Steps p.tables e below (s₁.setTop (mkF m 0 #[vR a1, vI p2, vI p3, .unset, .unset, .unset] [])) tg := by
      intro tg kt
      refine R105 _ ?_
      refine st106 _ ?_
      show Steps p.tables e below (T106.setTop (mkF m 39 #[vR a1, vI p2, vI p3, vI (2 : Int32), vD d102, .second] [(.int (3 : Int32)), (.int p2), (.ref a4)])) _
      refine XS.imul X106.here hx rfl (hb hby d8_39) rfl ?_
      refine XS.iloadN X106.here hx rfl (hb hby d8_40) rfl ?_
      show Steps p.tables e below (T106.setTop (mkF m 41 #[vR a1, vI p2, vI p3, vI (2 : Int32), vD d102, .second] [(.int (2 : Int32)), (.int (p2 * (3 : Int32))), (.ref a4)])) _
      refine XS.iadd X106.here hx rfl (hb hby d8_41) rfl ?_
      refine XS.aloadN X106.here hx rfl (hb hby d8_42) rfl rfl ?_
      exact kt
    clear R105 st106
    obtain ⟨T108, X108, e108, st108⟩ := getF X106 hx hZ hown (host := "") (Or.inl (hw _ (List.mem_of_getElem? (i := 28) rfl))) Via.refl e106 Fl_91 (g := (mkF m 43 #[vR a1, vI p2, vI p3, vI (2 : Int32), vD d102, .second] [(.ref a1), (.int ((p2 * (3 : Int32)) + (2 : Int32))), (.ref a4)])) rfl rfl (hb hby d8_43)
    have R109 : ∀ tg, Steps p.tables e below (T108.setTop (mkF m 48 #[vR a1, vI p2, vI p3, vI (2 : Int32), vD d102, .second] [(.ref a1), (.int p3), (.ref a4), (.int ((p2 * (3 : Int32)) + (2 : Int32))), (.ref a4)])) tg → Steps p.tables e below (s₁.setTop (mkF m 0 #[vR a1, vI p2, vI p3, .unset, .unset, .unset] [])) tg := by
      intro tg kt
      refine R107 _ ?_
      refine st108 _ ?_
      refine XS.iloadN X108.here hx rfl (hb hby d8_46) rfl ?_
      show Steps p.tables e below (T108.setTop (mkF m 47 #[vR a1, vI p2, vI p3, vI (2 : Int32), vD d102, .second] [(.int p3), (.ref a4), (.int ((p2 * (3 : Int32)) + (2 : Int32))), (.ref a4)])) _
      refine XS.aloadN X108.here hx rfl (hb hby d8_47) rfl rfl ?_
      exact kt
    clear R107 st108
    obtain ⟨T110, X110, e110, st110⟩ := getF X108 hx hZ hown (host := "") (Or.inl (hw _ (List.mem_of_getElem? (i := 26) rfl))) Via.refl e108 Fs_91 (g := (mkF m 48 #[vR a1, vI p2, vI p3, vI (2 : Int32), vD d102, .second] [(.ref a1), (.int p3), (.ref a4), (.int ((p2 * (3 : Int32)) + (2 : Int32))), (.ref a4)])) rfl rfl (hb hby d8_48)
    have R111 : ∀ tg, Steps p.tables e below (T110.setTop (mkF m 54 #[vR a1, vI p2, vI p3, vI (2 : Int32), vD d102, .second] [(.int ((p3 * (3 : Int32)) + (2 : Int32))), (.ref a4), (.int ((p2 * (3 : Int32)) + (2 : Int32))), (.ref a4)])) tg → Steps p.tables e below (s₁.setTop (mkF m 0 #[vR a1, vI p2, vI p3, .unset, .unset, .unset] [])) tg := by
      intro tg kt
      refine R109 _ ?_
      refine st110 _ ?_
      show Steps p.tables e below (T110.setTop (mkF m 51 #[vR a1, vI p2, vI p3, vI (2 : Int32), vD d102, .second] [(.int (3 : Int32)), (.int p3), (.ref a4), (.int ((p2 * (3 : Int32)) + (2 : Int32))), (.ref a4)])) _
      refine XS.imul X110.here hx rfl (hb hby d8_51) rfl ?_
      refine XS.iloadN X110.here hx rfl (hb hby d8_52) rfl ?_
      show Steps p.tables e below (T110.setTop (mkF m 53 #[vR a1, vI p2, vI p3, vI (2 : Int32), vD d102, .second] [(.int (2 : Int32)), (.int (p3 * (3 : Int32))), (.ref a4), (.int ((p2 * (3 : Int32)) + (2 : Int32))), (.ref a4)])) _
      refine XS.iadd X110.here hx rfl (hb hby d8_53) rfl ?_
      exact kt
    clear R109 st110
    obtain ⟨cl112, d112, Ar112, hin112, hat112, G112⟩ := VA_91.at (j := ((p3 * (3 : Int32)) + (2 : Int32))) (k := (3 * be + 2)) ib2.1 ib2.2.1 ib2.2.2
    have H112 : DR 2 ((own_sx (own_sx li al be 0) al be 1).getD (3 * be + 2) 0) d112 := G112
    have R113 : ∀ tg, Steps p.tables e below (T110.setTop (mkF m 55 #[vR a1, vI p2, vI p3, vI (2 : Int32), vD d102, .second] [(.double d112), (.int ((p2 * (3 : Int32)) + (2 : Int32))), (.ref a4)])) tg → Steps p.tables e below (s₁.setTop (mkF m 0 #[vR a1, vI p2, vI p3, .unset, .unset, .unset] [])) tg := by
      intro tg kt
      refine R111 _ ?_
      show Steps p.tables e below (T110.setTop (mkF m 54 #[vR a1, vI p2, vI p3, vI (2 : Int32), vD d102, .second] [(.int ((p3 * (3 : Int32)) + (2 : Int32))), (.ref a4), (.int ((p2 * (3 : Int32)) + (2 : Int32))), (.ref a4)])) _
      refine X110.daload hx (j := ((p3 * (3 : Int32)) + (2 : Int32))) (v := (.double d112)) (by rw [e110]; exact Ar112.1) (State.isArrayOf_alike hZ.alike Ar112.2.1) Ar112.2.2 hin112 hat112 (g := (mkF m 54 #[vR a1, vI p2, vI p3, vI (2 : Int32), vD d102, .second] [(.int ((p3 * (3 : Int32)) + (2 : Int32))), (.ref a4), (.int ((p2 * (3 : Int32)) + (2 : Int32))), (.ref a4)])) rfl rfl (hb hby d8_54) _ ?_
      exact kt
    clear R111
    obtain ⟨cl114, -, Ar114, hin114, -, -⟩ := VA_91.at (j := ((p2 * (3 : Int32)) + (2 : Int32))) (k := (3 * al + 2)) ia2.1 ia2.2.1 ia2.2.2
    obtain ⟨T115, h115, X115, e115, W115, st115⟩ := stD X110 hx hZ e110 Ar114 (j := ((p2 * (3 : Int32)) + (2 : Int32))) hin114 (g := (mkF m 55 #[vR a1, vI p2, vI p3, vI (2 : Int32), vD d102, .second] [(.double d112), (.int ((p2 * (3 : Int32)) + (2 : Int32))), (.ref a4)])) rfl rfl (hb hby d8_55)
    have N115 := Fr.snoc X115 N91 ga
    rw [show (((p2 * (3 : Int32)) + (2 : Int32)) : Int32).toNatClampNeg = (3 * al + 2) from ia2.2.1] at W115
    have VA_115 : VD Z h115 a4 9 ((own_sx (own_sx li al be 0) al be 1).set (3 * al + 2) ((own_sx (own_sx li al be 0) al be 1).getD (3 * be + 2) 0)) := VA_91.set W115 H112
    have Fs_115 := Fs_91.other W115 (Or.inl na)
    have Fl_115 := Fl_91.other W115 (Or.inl na)
    clear Fs_91 Fl_91
    have Zs115 : n0 ≤ h115.size := Nat.le_trans Zs91 (Keep.of_wr W115).1
    have Kw115 : Keep h0 h115 [a4] := Keep.wr Kw91 W115 (Or.inl (List.mem_of_getElem? (i := 0) rfl))
    have R116 : ∀ tg, Steps p.tables e below (T115.setTop (mkF m 57 #[vR a1, vI p2, vI p3, vI (2 : Int32), vD d102, .second] [(.ref a1)])) tg → Steps p.tables e below (s₁.setTop (mkF m 0 #[vR a1, vI p2, vI p3, .unset, .unset, .unset] [])) tg := by
      intro tg kt
      refine R113 _ ?_
      refine st115 _ ?_
      refine XS.aloadN X115.here hx rfl (hb hby d8_56) rfl rfl ?_
      exact kt
    clear R113 st115
    obtain ⟨T117, X117, e117, st117⟩ := getF X115 hx hZ hown (host := "") (Or.inl (hw _ (List.mem_of_getElem? (i := 28) rfl))) Via.refl e115 Fl_115 (g := (mkF m 57 #[vR a1, vI p2, vI p3, vI (2 : Int32), vD d102, .second] [(.ref a1)])) rfl rfl (hb hby d8_57)
    have R118 : ∀ tg, Steps p.tables e below (T117.setTop (mkF m 62 #[vR a1, vI p2, vI p3, vI (2 : Int32), vD d102, .second] [(.ref a1), (.int p3), (.ref a4)])) tg → Steps p.tables e below (s₁.setTop (mkF m 0 #[vR a1, vI p2, vI p3, .unset, .unset, .unset] [])) tg := by
      intro tg kt
      refine R116 _ ?_
      refine st117 _ ?_
      refine XS.iloadN X117.here hx rfl (hb hby d8_60) rfl ?_
      show Steps p.tables e below (T117.setTop (mkF m 61 #[vR a1, vI p2, vI p3, vI (2 : Int32), vD d102, .second] [(.int p3), (.ref a4)])) _
      refine XS.aloadN X117.here hx rfl (hb hby d8_61) rfl rfl ?_
      exact kt
    clear R116 st117
    obtain ⟨T119, X119, e119, st119⟩ := getF X117 hx hZ hown (host := "") (Or.inl (hw _ (List.mem_of_getElem? (i := 26) rfl))) Via.refl e117 Fs_115 (g := (mkF m 62 #[vR a1, vI p2, vI p3, vI (2 : Int32), vD d102, .second] [(.ref a1), (.int p3), (.ref a4)])) rfl rfl (hb hby d8_62)
    have R120 : ∀ tg, Steps p.tables e below (T119.setTop (mkF m 70 #[vR a1, vI p2, vI p3, vI (2 : Int32), vD d102, .second] [(.double d102), (.int ((p3 * (3 : Int32)) + (2 : Int32))), (.ref a4)])) tg → Steps p.tables e below (s₁.setTop (mkF m 0 #[vR a1, vI p2, vI p3, .unset, .unset, .unset] [])) tg := by
      intro tg kt
      refine R118 _ ?_
      refine st119 _ ?_
      show Steps p.tables e below (T119.setTop (mkF m 65 #[vR a1, vI p2, vI p3, vI (2 : Int32), vD d102, .second] [(.int (3 : Int32)), (.int p3), (.ref a4)])) _
      refine XS.imul X119.here hx rfl (hb hby d8_65) rfl ?_
      refine XS.iloadN X119.here hx rfl (hb hby d8_66) rfl ?_
      show Steps p.tables e below (T119.setTop (mkF m 67 #[vR a1, vI p2, vI p3, vI (2 : Int32), vD d102, .second] [(.int (2 : Int32)), (.int (p3 * (3 : Int32))), (.ref a4)])) _
      refine XS.iadd X119.here hx rfl (hb hby d8_67) rfl ?_
      show Steps p.tables e below (T119.setTop (mkF m 68 #[vR a1, vI p2, vI p3, vI (2 : Int32), vD d102, .second] [(.int ((p3 * (3 : Int32)) + (2 : Int32))), (.ref a4)])) _
      refine XS.dload X119.here hx rfl (hb hby d8_68) rfl ?_
      exact kt
    clear R118 st119
    obtain ⟨cl121, -, Ar121, hin121, -, -⟩ := VA_115.at (j := ((p3 * (3 : Int32)) + (2 : Int32))) (k := (3 * be + 2)) ib2.1 ib2.2.1 ib2.2.2
    obtain ⟨T122, h122, X122, e122, W122, st122⟩ := stD X119 hx hZ e119 Ar121 (j := ((p3 * (3 : Int32)) + (2 : Int32))) hin121 (g := (mkF m 70 #[vR a1, vI p2, vI p3, vI (2 : Int32), vD d102, .second] [(.double d102), (.int ((p3 * (3 : Int32)) + (2 : Int32))), (.ref a4)])) rfl rfl (hb hby d8_70)
    have N122 := Fr.snoc X122 N115 ga
    rw [show (((p3 * (3 : Int32)) + (2 : Int32)) : Int32).toNatClampNeg = (3 * be + 2) from ib2.2.1] at W122
    have VA_122 : VD Z h122 a4 9 (own_sx (own_sx (own_sx li al be 0) al be 1) al be 2) := VA_115.set W122 H102
    have Fs_122 := Fs_115.other W122 (Or.inl na)
    have Fl_122 := Fl_115.other W122 (Or.inl na)
    clear Fs_115 Fl_115
    have Zs122 : n0 ≤ h122.size := Nat.le_trans Zs115 (Keep.of_wr W122).1
    have Kw122 : Keep h0 h122 [a4] := Keep.wr Kw115 W122 (Or.inl (List.mem_of_getElem? (i := 0) rfl))
    have R123 : ∀ tg, Steps p.tables e below (T122.setTop (mkF m 2 #[vR a1, vI p2, vI p3, vI ((2 : Int32) + (1 : Int32)), vD d102, .second] [])) tg → Steps p.tables e below (s₁.setTop (mkF m 0 #[vR a1, vI p2, vI p3, .unset, .unset, .unset] [])) tg := by
      intro tg kt
      refine R120 _ ?_
      refine st122 _ ?_
      show Steps p.tables e below (T122.setTop (mkF m 71 #[vR a1, vI p2, vI p3, vI (2 : Int32), vD d102, .second] [])) _
      refine XS.iinc X122.here hx rfl (hb hby d8_71) rfl (l' := #[vR a1, vI p2, vI p3, vI ((2 : Int32) + (1 : Int32)), vD d102, .second]) rfl ?_
      show Steps p.tables e below (T122.setTop (mkF m 74 #[vR a1, vI p2, vI p3, vI ((2 : Int32) + (1 : Int32)), vD d102, .second] [])) _
      refine XS.goto X122.here hx rfl (pc0 := 74) (pc' := 2) rfl (hb hby d8_74) (by decide) (by decide) ?_
      exact kt
    clear R120 st122
    have R124 : ∀ tg, Steps p.tables e below (T122.setTop (mkF m 2 #[vR a1, vI p2, vI p3, vI (3 : Int32), vD d102, .second] [])) tg → Steps p.tables e below (s₁.setTop (mkF m 0 #[vR a1, vI p2, vI p3, .unset, .unset, .unset] [])) tg := R123
    have R125 : ∀ tg, Steps p.tables e below (T122.setTop (mkF m 9 #[vR a1, vI p2, vI p3, vI (3 : Int32), vD d102, .second] [(.ref a1), (.int (3 : Int32))])) tg → Steps p.tables e below (s₁.setTop (mkF m 0 #[vR a1, vI p2, vI p3, .unset, .unset, .unset] [])) tg := by
      intro tg kt
      refine R124 _ ?_
      show Steps p.tables e below (T122.setTop (mkF m 2 #[vR a1, vI p2, vI p3, vI (3 : Int32), vD d102, .second] [])) _
      refine XS.iloadN X122.here hx rfl (hb hby d8_2) rfl ?_
      refine XS.iloadN X122.here hx rfl (hb hby d8_3) rfl ?_
      show Steps p.tables e below (T122.setTop (mkF m 4 #[vR a1, vI p2, vI p3, vI (3 : Int32), vD d102, .second] [(.int p3), (.int p2)])) _
      refine XS.icmpNo X122.here hx rfl (hb hby d8_4) rfl (feq (hab : ¬ (p2 = p3))).1 ?_
      refine XS.iloadN X122.here hx rfl (hb hby d8_7) rfl ?_
      refine XS.aloadN X122.here hx rfl (hb hby d8_8) rfl rfl ?_
      exact kt
    clear R124
    obtain ⟨T126, X126, e126, st126⟩ := getF X122 hx hZ hown (host := "") (Or.inl (hw _ (List.mem_of_getElem? (i := 26) rfl))) Via.refl e122 Fs_122 (g := (mkF m 9 #[vR a1, vI p2, vI p3, vI (3 : Int32), vD d102, .second] [(.ref a1), (.int (3 : Int32))])) rfl rfl (hb hby d8_9)
    have R128 : ∀ tg, Steps p.tables e below (T126.setTop (mkF m 77 #[vR a1, vI p2, vI p3, vI (3 : Int32), vD d102, .second] [])) tg → Steps p.tables e below (s₁.setTop (mkF m 0 #[vR a1, vI p2, vI p3, .unset, .unset, .unset] [])) tg := by
      intro tg kt
      refine R125 _ ?_
      refine st126 _ ?_
      show Steps p.tables e below (T126.setTop (mkF m 12 #[vR a1, vI p2, vI p3, vI (3 : Int32), vD d102, .second] [(.int (3 : Int32)), (.int (3 : Int32))])) _
      refine XS.icmpYes X126.here hx rfl (pc0 := 12) (pc' := 77) rfl (hb hby d8_12) rfl (flt (by decide : ¬ ((3 : Int32) < (3 : Int32)))).2.1 (by decide) (by decide) ?_
      exact kt
    clear R125 st126
    have VA_127 : VD Z h122 a4 9 (own_sr li al be) := by rw [← (own_srn hp hq hab)]; exact VA_122
    obtain ⟨fs, hr, hrun, hended, hW, hsame⟩ := X126.leave (v := none) (fun _ => rfl)
    refine ⟨_, _, pre0 _ (R128 _ ?_), hrun, hended, _, _, rfl, ?_, ⟨_, rfl⟩, hW, hsame.mono (by decide) (by decide)⟩
    · exact X126.returnOut hx Bd.returns (hb hby d8_77) hr
    · show Q_rm_sw Z a1 p2 p3 a4 li al be h0 n0 _ T126.heap _
      rw [e126]
      exact ⟨rfl, N122, Kw122, VA_127⟩
theorem d5_23 : decode prog_76_method_1_code 23 = .ok (.iload_n 3, 1) := by decide +kernel
theorem d5_24 : decode prog_76_method_1_code 24 = .ok (.iload_n 1, 1) := by decide +kernel
theorem d5_25 : decode prog_76_method_1_code 25 = .ok (.if_icmp .ge 191, 3) := by decide +kernel
theorem d5_28 : decode prog_76_method_1_code 28 = .ok (.iload_n 3, 1) := by decide +kernel
theorem d5_29 : decode prog_76_method_1_code 29 = .ok (.istore 4, 2) := by decide +kernel
theorem d5_31 : decode prog_76_method_1_code 31 = .ok (.iload_n 3, 1) := by decide +kernel
theorem d5_32 : decode prog_76_method_1_code 32 = .ok (.iconst 1, 1) := by decide +kernel
theorem d5_33 : decode prog_76_method_1_code 33 = .ok (.iadd, 1) := by decide +kernel
theorem d5_34 : decode prog_76_method_1_code 34 = .ok (.istore 5, 2) := by decide +kernel
theorem d5_36 : decode prog_76_method_1_code 36 = .ok (.iload 5, 2) := by decide +kernel
theorem d5_38 : decode prog_76_method_1_code 38 = .ok (.iload_n 1, 1) := by decide +kernel
theorem d5_39 : decode prog_76_method_1_code 39 = .ok (.if_icmp .ge 45, 3) := by decide +kernel
theorem d5_42 : decode prog_76_method_1_code 42 = .ok (.aload_n 0, 1) := by decide +kernel
theorem d5_43 : decode prog_76_method_1_code 43 = .ok (.getfield 13, 3) := by decide +kernel
theorem d5_46 : decode prog_76_method_1_code 46 = .ok (.iload 5, 2) := by decide +kernel
theorem d5_48 : decode prog_76_method_1_code 48 = .ok (.iload_n 1, 1) := by decide +kernel
theorem d5_49 : decode prog_76_method_1_code 49 = .ok (.imul, 1) := by decide +kernel
theorem d5_50 : decode prog_76_method_1_code 50 = .ok (.iload_n 3, 1) := by decide +kernel
theorem d5_51 : decode prog_76_method_1_code 51 = .ok (.iadd, 1) := by decide +kernel
theorem d5_52 : decode prog_76_method_1_code 52 = .ok (.daload, 1) := by decide +kernel
theorem pd_1 : parseMethodDescriptor "(D)D" = some ⟨[.double], some .double⟩ := by decide +kernel
theorem d5_53 : decode prog_76_method_1_code 53 = .ok (.invokestatic 21, 3) := by decide +kernel
theorem d5_56 : decode prog_76_method_1_code 56 = .ok (.aload_n 0, 1) := by decide +kernel
theorem d5_57 : decode prog_76_method_1_code 57 = .ok (.getfield 13, 3) := by decide +kernel
theorem d5_60 : decode prog_76_method_1_code 60 = .ok (.iload 4, 2) := by decide +kernel
theorem d5_62 : decode prog_76_method_1_code 62 = .ok (.iload_n 1, 1) := by decide +kernel
theorem d5_63 : decode prog_76_method_1_code 63 = .ok (.imul, 1) := by decide +kernel
theorem d5_64 : decode prog_76_method_1_code 64 = .ok (.iload_n 3, 1) := by decide +kernel
theorem d5_65 : decode prog_76_method_1_code 65 = .ok (.iadd, 1) := by decide +kernel
theorem d5_66 : decode prog_76_method_1_code 66 = .ok (.daload, 1) := by decide +kernel
theorem d5_67 : decode prog_76_method_1_code 67 = .ok (.invokestatic 21, 3) := by decide +kernel
theorem d5_70 : decode prog_76_method_1_code 70 = .ok (.dcmp .l, 1) := by decide +kernel
theorem d5_71 : decode prog_76_method_1_code 71 = .ok (.ifCond .le 7, 3) := by decide +kernel
theorem d5_78 : decode prog_76_method_1_code 78 = .ok (.iinc 5 1, 3) := by decide +kernel
theorem d5_81 : decode prog_76_method_1_code 81 = .ok (.goto (-45), 3) := by decide +kernel
theorem d5_74 : decode prog_76_method_1_code 74 = .ok (.iload 5, 2) := by decide +kernel
theorem d5_76 : decode prog_76_method_1_code 76 = .ok (.istore 4, 2) := by decide +kernel
set_option maxRecDepth 65536 in
set_option maxHeartbeats 40000000 in
theorem lp_p0 {p : Program} {l : Launch} {e : Env} {s : State} {m : MethodId} {args : Array Value} {below : List Frame} {meth : Method} {c : Code} {Z : State} {a0 : Array Value} {n0 : Nat} {T0 : State} {locs : List Loc} {h0 : Heap} (a1 : Addr) (a2 : Addr) (x0 : Int) (x1 : Int) (x2 : Int) (x3 : Int) (x4 : Int) (x5 : Int) (x6 : Int) (x7 : Int) (x8 : Int) (ka : Nat) (X0 : Stand p l e ({ frames := 1, cells := 1, slots := 3, locals := 24 } : Room) s m args below meth c T0 locs 1 3) (hx : p.tables.exec = Jvm.exec) (hZ : Z.Warmed39 s.vm) (hw : ∀ d ∈ tables_1, d.before a0 Z = true) (hby : c.code = prog_76_method_1_code) (hml : c.maxLocals = 11) (hown : s.vm.findClass "com/example/inexact_odds/inexactodds/reach/DenseLu" = some m.cls) (e0 : T0.heap = h0) (N0 : Fr n0 locs) (Fl : Fld Z h0 a1 "com/example/inexact_odds/inexactodds/reach/DenseLu" "lu" "[D" (.ref a2)) (VA : VD Z h0 a2 9 [x0, x1, x2, x3, x4, x5, x6, x7, x8]) (hP : own_P0 ka x0 x3 x6) :
    ∃ (T' : State), Stand p l e ({ frames := 1, cells := 1, slots := 3, locals := 24 } : Room) s m args below meth c T' locs 1 3 ∧ T'.heap = h0 ∧ ∀ tg, Steps p.tables e below (T'.setTop (mkF m 84 #[vR a1, vI (3 : Int32), vR a2, vI (0 : Int32), vI (Int32.ofNat ka), vI (3 : Int32), .unset, .unset, .unset, .unset, .unset] [])) tg → Steps p.tables e below (T0.setTop (mkF m 23 #[vR a1, vI (3 : Int32), vR a2, vI (0 : Int32), .unset, .unset, .unset, .unset, .unset, .unset, .unset] [])) tg := by
  have R129 : ∀ tg, Steps p.tables e below (T0.setTop (mkF m 36 #[vR a1, vI (3 : Int32), vR a2, vI (0 : Int32), vI (0 : Int32), vI ((0 : Int32) + (1 : Int32)), .unset, .unset, .unset, .unset, .unset] [])) tg → Steps p.tables e below (T0.setTop (mkF m 23 #[vR a1, vI (3 : Int32), vR a2, vI (0 : Int32), .unset, .unset, .unset, .unset, .unset, .unset, .unset] [])) tg := by
    intro tg kt
    refine (fun (t : State) (k : Steps p.tables e below (T0.setTop (mkF m 23 #[vR a1, vI (3 : Int32), vR a2, vI (0 : Int32), .unset, .unset, .unset, .unset, .unset, .unset, .unset] [])) t) => k) _ ?_
    show Steps p.tables e below (T0.setTop (mkF m 23 #[vR a1, vI (3 : Int32), vR a2, vI (0 : Int32), .unset, .unset, .unset, .unset, .unset, .unset, .unset] [])) _
    refine XS.iloadN X0.here hx rfl (hb hby d5_23) rfl ?_
    refine XS.iloadN X0.here hx rfl (hb hby d5_24) rfl ?_
    show Steps p.tables e below (T0.setTop (mkF m 25 #[vR a1, vI (3 : Int32), vR a2, vI (0 : Int32), .unset, .unset, .unset, .unset, .unset, .unset, .unset] [(.int (3 : Int32)), (.int (0 : Int32))])) _
    refine XS.icmpNo X0.here hx rfl (hb hby d5_25) rfl (tlt (by decide : (0 : Int32) < (3 : Int32))).2.1 ?_
    refine XS.iloadN X0.here hx rfl (hb hby d5_28) rfl ?_
    show Steps p.tables e below (T0.setTop (mkF m 29 #[vR a1, vI (3 : Int32), vR a2, vI (0 : Int32), .unset, .unset, .unset, .unset, .unset, .unset, .unset] [(.int (0 : Int32))])) _
    refine XS.istore X0.here hx rfl (hb hby d5_29) rfl (l' := #[vR a1, vI (3 : Int32), vR a2, vI (0 : Int32), vI (0 : Int32), .unset, .unset, .unset, .unset, .unset, .unset]) rfl ?_
    refine XS.iloadN X0.here hx rfl (hb hby d5_31) rfl ?_
    refine XS.iconst X0.here hx rfl (hb hby d5_32) ?_
    show Steps p.tables e below (T0.setTop (mkF m 33 #[vR a1, vI (3 : Int32), vR a2, vI (0 : Int32), vI (0 : Int32), .unset, .unset, .unset, .unset, .unset, .unset] [(.int (1 : Int32)), (.int (0 : Int32))])) _
    refine XS.iadd X0.here hx rfl (hb hby d5_33) rfl ?_
    show Steps p.tables e below (T0.setTop (mkF m 34 #[vR a1, vI (3 : Int32), vR a2, vI (0 : Int32), vI (0 : Int32), .unset, .unset, .unset, .unset, .unset, .unset] [(.int ((0 : Int32) + (1 : Int32)))])) _
    refine XS.istore X0.here hx rfl (hb hby d5_34) rfl (l' := #[vR a1, vI (3 : Int32), vR a2, vI (0 : Int32), vI (0 : Int32), vI ((0 : Int32) + (1 : Int32)), .unset, .unset, .unset, .unset, .unset]) rfl ?_
    exact kt
  have R130 : ∀ tg, Steps p.tables e below (T0.setTop (mkF m 36 #[vR a1, vI (3 : Int32), vR a2, vI (0 : Int32), vI (0 : Int32), vI (1 : Int32), .unset, .unset, .unset, .unset, .unset] [])) tg → Steps p.tables e below (T0.setTop (mkF m 23 #[vR a1, vI (3 : Int32), vR a2, vI (0 : Int32), .unset, .unset, .unset, .unset, .unset, .unset, .unset] [])) tg := R129
  rcases hP with ⟨rfl, h1, h2⟩ | ⟨rfl, h1, h2⟩ | ⟨rfl, h1, h2⟩
  · have R131 : ∀ tg, Steps p.tables e below (T0.setTop (mkF m 43 #[vR a1, vI (3 : Int32), vR a2, vI (0 : Int32), vI (0 : Int32), vI (1 : Int32), .unset, .unset, .unset, .unset, .unset] [(.ref a1)])) tg → Steps p.tables e below (T0.setTop (mkF m 23 #[vR a1, vI (3 : Int32), vR a2, vI (0 : Int32), .unset, .unset, .unset, .unset, .unset, .unset, .unset] [])) tg := by
      intro tg kt
      refine R130 _ ?_
      show Steps p.tables e below (T0.setTop (mkF m 36 #[vR a1, vI (3 : Int32), vR a2, vI (0 : Int32), vI (0 : Int32), vI (1 : Int32), .unset, .unset, .unset, .unset, .unset] [])) _
      refine XS.iload X0.here hx rfl (hb hby d5_36) rfl ?_
      refine XS.iloadN X0.here hx rfl (hb hby d5_38) rfl ?_
      show Steps p.tables e below (T0.setTop (mkF m 39 #[vR a1, vI (3 : Int32), vR a2, vI (0 : Int32), vI (0 : Int32), vI (1 : Int32), .unset, .unset, .unset, .unset, .unset] [(.int (3 : Int32)), (.int (1 : Int32))])) _
      refine XS.icmpNo X0.here hx rfl (hb hby d5_39) rfl (tlt (by decide : (1 : Int32) < (3 : Int32))).2.1 ?_
      refine XS.aloadN X0.here hx rfl (hb hby d5_42) rfl rfl ?_
      exact kt
    clear R130
    obtain ⟨T132, X132, e132, st132⟩ := getF X0 hx hZ hown (host := "") (Or.inl (hw _ (List.mem_of_getElem? (i := 28) rfl))) Via.refl e0 Fl (g := (mkF m 43 #[vR a1, vI (3 : Int32), vR a2, vI (0 : Int32), vI (0 : Int32), vI (1 : Int32), .unset, .unset, .unset, .unset, .unset] [(.ref a1)])) rfl rfl (hb hby d5_43)
    have R133 : ∀ tg, Steps p.tables e below (T132.setTop (mkF m 52 #[vR a1, vI (3 : Int32), vR a2, vI (0 : Int32), vI (0 : Int32), vI (1 : Int32), .unset, .unset, .unset, .unset, .unset] [(.int (((1 : Int32) * (3 : Int32)) + (0 : Int32))), (.ref a2)])) tg → Steps p.tables e below (T0.setTop (mkF m 23 #[vR a1, vI (3 : Int32), vR a2, vI (0 : Int32), .unset, .unset, .unset, .unset, .unset, .unset, .unset] [])) tg := by
      intro tg kt
      refine R131 _ ?_
      refine st132 _ ?_
      refine XS.iload X132.here hx rfl (hb hby d5_46) rfl ?_
      show Steps p.tables e below (T132.setTop (mkF m 48 #[vR a1, vI (3 : Int32), vR a2, vI (0 : Int32), vI (0 : Int32), vI (1 : Int32), .unset, .unset, .unset, .unset, .unset] [(.int (1 : Int32)), (.ref a2)])) _
      refine XS.iloadN X132.here hx rfl (hb hby d5_48) rfl ?_
      show Steps p.tables e below (T132.setTop (mkF m 49 #[vR a1, vI (3 : Int32), vR a2, vI (0 : Int32), vI (0 : Int32), vI (1 : Int32), .unset, .unset, .unset, .unset, .unset] [(.int (3 : Int32)), (.int (1 : Int32)), (.ref a2)])) _
      refine XS.imul X132.here hx rfl (hb hby d5_49) rfl ?_
      refine XS.iloadN X132.here hx rfl (hb hby d5_50) rfl ?_
      show Steps p.tables e below (T132.setTop (mkF m 51 #[vR a1, vI (3 : Int32), vR a2, vI (0 : Int32), vI (0 : Int32), vI (1 : Int32), .unset, .unset, .unset, .unset, .unset] [(.int (0 : Int32)), (.int ((1 : Int32) * (3 : Int32))), (.ref a2)])) _
      refine XS.iadd X132.here hx rfl (hb hby d5_51) rfl ?_
      exact kt
    clear R131 st132
    obtain ⟨cl134, d134, Ar134, hin134, hat134, G134⟩ := VA.at (j := (((1 : Int32) * (3 : Int32)) + (0 : Int32))) (k := 3) (by decide) (by decide) (by decide)
    have H134 : DR 2 x3 d134 := G134
    have R135 : ∀ tg, Steps p.tables e below (T132.setTop (mkF m 53 #[vR a1, vI (3 : Int32), vR a2, vI (0 : Int32), vI (0 : Int32), vI (1 : Int32), .unset, .unset, .unset, .unset, .unset] [(.double d134)])) tg → Steps p.tables e below (T0.setTop (mkF m 23 #[vR a1, vI (3 : Int32), vR a2, vI (0 : Int32), .unset, .unset, .unset, .unset, .unset, .unset, .unset] [])) tg := by
      intro tg kt
      refine R133 _ ?_
      show Steps p.tables e below (T132.setTop (mkF m 52 #[vR a1, vI (3 : Int32), vR a2, vI (0 : Int32), vI (0 : Int32), vI (1 : Int32), .unset, .unset, .unset, .unset, .unset] [(.int (((1 : Int32) * (3 : Int32)) + (0 : Int32))), (.ref a2)])) _
      refine X132.daload hx (j := (((1 : Int32) * (3 : Int32)) + (0 : Int32))) (v := (.double d134)) (by rw [e132]; exact Ar134.1) (State.isArrayOf_alike hZ.alike Ar134.2.1) Ar134.2.2 hin134 hat134 (g := (mkF m 52 #[vR a1, vI (3 : Int32), vR a2, vI (0 : Int32), vI (0 : Int32), vI (1 : Int32), .unset, .unset, .unset, .unset, .unset] [(.int (((1 : Int32) * (3 : Int32)) + (0 : Int32))), (.ref a2)])) rfl rfl (hb hby d5_52) _ ?_
      exact kt
    clear R133
    obtain ⟨d136, hv136, H136⟩ : ∃ v, (d134 &&& 0x7fffffffffffffff) = v ∧ DR 2 ((x3).natAbs : Int) v := ⟨_, rfl, H134.abs⟩
    obtain ⟨T136, X136, e136, st136⟩ := natS X132 hx hZ (y := (⟨"java/lang/Math", "abs", "(D)D"⟩ : MethodName)) hown (hw _ (List.mem_of_getElem? (i := 33) rfl)) (hw _ (List.mem_of_getElem? (i := 34) rfl)) (hw _ (List.mem_of_getElem? (i := 35) rfl)) (hw _ (List.mem_of_getElem? (i := 36) rfl)) (by decide) e132 (W := 0) (fun hc => Jvm.Free.Fl.Abs.absD_pays (W := 0) d134 hc (by decide) (by decide)) (g := (mkF m 53 #[vR a1, vI (3 : Int32), vR a2, vI (0 : Int32), vI (0 : Int32), vI (1 : Int32), .unset, .unset, .unset, .unset, .unset] [(.double d134)])) rfl (by rw [hml]; rfl) (argsL := [(.double d134)]) (rest := []) (lenOf pd_1 rfl) rfl (by show 2 * 0 + _ ≤ _; exact Nat.le_of_eq rfl) (hb hby d5_53) (by decide) (by decide) ⟨rfl, H134.nn⟩ (congrArg Value.double hv136)
    have R137 : ∀ tg, Steps p.tables e below (T136.setTop (mkF m 57 #[vR a1, vI (3 : Int32), vR a2, vI (0 : Int32), vI (0 : Int32), vI (1 : Int32), .unset, .unset, .unset, .unset, .unset] [(.ref a1), (.double d136)])) tg → Steps p.tables e below (T0.setTop (mkF m 23 #[vR a1, vI (3 : Int32), vR a2, vI (0 : Int32), .unset, .unset, .unset, .unset, .unset, .unset, .unset] [])) tg := by
      intro tg kt
      refine R135 _ ?_
      refine st136 _ ?_
      refine XS.aloadN X136.here hx rfl (hb hby d5_56) rfl rfl ?_
      exact kt
    clear R135 st136
    obtain ⟨T138, X138, e138, st138⟩ := getF X136 hx hZ hown (host := "") (Or.inl (hw _ (List.mem_of_getElem? (i := 28) rfl))) Via.refl e136 Fl (g := (mkF m 57 #[vR a1, vI (3 : Int32), vR a2, vI (0 : Int32), vI (0 : Int32), vI (1 : Int32), .unset, .unset, .unset, .unset, .unset] [(.ref a1), (.double d136)])) rfl rfl (hb hby d5_57)
    have R139 : ∀ tg, Steps p.tables e below (T138.setTop (mkF m 66 #[vR a1, vI (3 : Int32), vR a2, vI (0 : Int32), vI (0 : Int32), vI (1 : Int32), .unset, .unset, .unset, .unset, .unset] [(.int (((0 : Int32) * (3 : Int32)) + (0 : Int32))), (.ref a2), (.double d136)])) tg → Steps p.tables e below (T0.setTop (mkF m 23 #[vR a1, vI (3 : Int32), vR a2, vI (0 : Int32), .unset, .unset, .unset, .unset, .unset, .unset, .unset] [])) tg := by
      intro tg kt
      refine R137 _ ?_
      refine st138 _ ?_
      refine XS.iload X138.here hx rfl (hb hby d5_60) rfl ?_
      show Steps p.tables e below (T138.setTop (mkF m 62 #[vR a1, vI (3 : Int32), vR a2, vI (0 : Int32), vI (0 : Int32), vI (1 : Int32), .unset, .unset, .unset, .unset, .unset] [(.int (0 : Int32)), (.ref a2), (.double d136)])) _
      refine XS.iloadN X138.here hx rfl (hb hby d5_62) rfl ?_
      show Steps p.tables e below (T138.setTop (mkF m 63 #[vR a1, vI (3 : Int32), vR a2, vI (0 : Int32), vI (0 : Int32), vI (1 : Int32), .unset, .unset, .unset, .unset, .unset] [(.int (3 : Int32)), (.int (0 : Int32)), (.ref a2), (.double d136)])) _
      refine XS.imul X138.here hx rfl (hb hby d5_63) rfl ?_
      refine XS.iloadN X138.here hx rfl (hb hby d5_64) rfl ?_
      show Steps p.tables e below (T138.setTop (mkF m 65 #[vR a1, vI (3 : Int32), vR a2, vI (0 : Int32), vI (0 : Int32), vI (1 : Int32), .unset, .unset, .unset, .unset, .unset] [(.int (0 : Int32)), (.int ((0 : Int32) * (3 : Int32))), (.ref a2), (.double d136)])) _
      refine XS.iadd X138.here hx rfl (hb hby d5_65) rfl ?_
      exact kt
    clear R137 st138
    obtain ⟨cl140, d140, Ar140, hin140, hat140, G140⟩ := VA.at (j := (((0 : Int32) * (3 : Int32)) + (0 : Int32))) (k := 0) (by decide) (by decide) (by decide)
    have H140 : DR 2 x0 d140 := G140
    have R141 : ∀ tg, Steps p.tables e below (T138.setTop (mkF m 67 #[vR a1, vI (3 : Int32), vR a2, vI (0 : Int32), vI (0 : Int32), vI (1 : Int32), .unset, .unset, .unset, .unset, .unset] [(.double d140), (.double d136)])) tg → Steps p.tables e below (T0.setTop (mkF m 23 #[vR a1, vI (3 : Int32), vR a2, vI (0 : Int32), .unset, .unset, .unset, .unset, .unset, .unset, .unset] [])) tg := by
      intro tg kt
      refine R139 _ ?_
      show Steps p.tables e below (T138.setTop (mkF m 66 #[vR a1, vI (3 : Int32), vR a2, vI (0 : Int32), vI (0 : Int32), vI (1 : Int32), .unset, .unset, .unset, .unset, .unset] [(.int (((0 : Int32) * (3 : Int32)) + (0 : Int32))), (.ref a2), (.double d136)])) _
      refine X138.daload hx (j := (((0 : Int32) * (3 : Int32)) + (0 : Int32))) (v := (.double d140)) (by rw [e138]; exact Ar140.1) (State.isArrayOf_alike hZ.alike Ar140.2.1) Ar140.2.2 hin140 hat140 (g := (mkF m 66 #[vR a1, vI (3 : Int32), vR a2, vI (0 : Int32), vI (0 : Int32), vI (1 : Int32), .unset, .unset, .unset, .unset, .unset] [(.int (((0 : Int32) * (3 : Int32)) + (0 : Int32))), (.ref a2), (.double d136)])) rfl rfl (hb hby d5_66) _ ?_
      exact kt
    clear R139
    obtain ⟨d142, hv142, H142⟩ : ∃ v, (d140 &&& 0x7fffffffffffffff) = v ∧ DR 2 ((x0).natAbs : Int) v := ⟨_, rfl, H140.abs⟩
    obtain ⟨T142, X142, e142, st142⟩ := natS X138 hx hZ (y := (⟨"java/lang/Math", "abs", "(D)D"⟩ : MethodName)) hown (hw _ (List.mem_of_getElem? (i := 33) rfl)) (hw _ (List.mem_of_getElem? (i := 34) rfl)) (hw _ (List.mem_of_getElem? (i := 35) rfl)) (hw _ (List.mem_of_getElem? (i := 36) rfl)) (by decide) e138 (W := 2) (fun hc => Jvm.Free.Fl.Abs.absD_pays (W := 2) d140 hc (by decide) (by decide)) (g := (mkF m 67 #[vR a1, vI (3 : Int32), vR a2, vI (0 : Int32), vI (0 : Int32), vI (1 : Int32), .unset, .unset, .unset, .unset, .unset] [(.double d140), (.double d136)])) rfl (by rw [hml]; rfl) (argsL := [(.double d140)]) (rest := [(.double d136)]) (lenOf pd_1 rfl) rfl (by show 2 * 0 + _ ≤ _; exact Nat.le_of_eq rfl) (hb hby d5_67) (by decide) (by decide) ⟨rfl, H140.nn⟩ (congrArg Value.double hv142)
    have R143 : ∀ tg, Steps p.tables e below (T142.setTop (mkF m 70 #[vR a1, vI (3 : Int32), vR a2, vI (0 : Int32), vI (0 : Int32), vI (1 : Int32), .unset, .unset, .unset, .unset, .unset] [(.double d142), (.double d136)])) tg → Steps p.tables e below (T0.setTop (mkF m 23 #[vR a1, vI (3 : Int32), vR a2, vI (0 : Int32), .unset, .unset, .unset, .unset, .unset, .unset, .unset] [])) tg := by
      intro tg kt
      refine R141 _ ?_
      refine st142 _ ?_
      exact kt
    clear R141 st142
    have R144 : ∀ tg, Steps p.tables e below (T142.setTop (mkF m 36 #[vR a1, vI (3 : Int32), vR a2, vI (0 : Int32), vI (0 : Int32), vI ((1 : Int32) + (1 : Int32)), .unset, .unset, .unset, .unset, .unset] [])) tg → Steps p.tables e below (T0.setTop (mkF m 23 #[vR a1, vI (3 : Int32), vR a2, vI (0 : Int32), .unset, .unset, .unset, .unset, .unset, .unset, .unset] [])) tg := by
      intro tg kt
      refine R143 _ ?_
      show Steps p.tables e below (T142.setTop (mkF m 70 #[vR a1, vI (3 : Int32), vR a2, vI (0 : Int32), vI (0 : Int32), vI (1 : Int32), .unset, .unset, .unset, .unset, .unset] [(.double d142), (.double d136)])) _
      refine XS.dcmpS X142.here hx rfl (hb hby d5_70) rfl (own_cvl H136 H142 _) ?_
      show Steps p.tables e below (T142.setTop (mkF m 71 #[vR a1, vI (3 : Int32), vR a2, vI (0 : Int32), vI (0 : Int32), vI (1 : Int32), .unset, .unset, .unset, .unset, .unset] [(.int (own_cv ((x3).natAbs : Int) ((x0).natAbs : Int)))])) _
      refine XS.ifYes X142.here hx rfl (pc0 := 71) (pc' := 78) rfl (hb hby d5_71) rfl ((if0 _ _).trans (flt (own_ng0 h1 : ¬ ((0 : Int32) < (own_cv ((x3).natAbs : Int) ((x0).natAbs : Int))))).2.2.2) (by decide) (by decide) ?_
      show Steps p.tables e below (T142.setTop (mkF m 78 #[vR a1, vI (3 : Int32), vR a2, vI (0 : Int32), vI (0 : Int32), vI (1 : Int32), .unset, .unset, .unset, .unset, .unset] [])) _
      refine XS.iinc X142.here hx rfl (hb hby d5_78) rfl (l' := #[vR a1, vI (3 : Int32), vR a2, vI (0 : Int32), vI (0 : Int32), vI ((1 : Int32) + (1 : Int32)), .unset, .unset, .unset, .unset, .unset]) rfl ?_
      show Steps p.tables e below (T142.setTop (mkF m 81 #[vR a1, vI (3 : Int32), vR a2, vI (0 : Int32), vI (0 : Int32), vI ((1 : Int32) + (1 : Int32)), .unset, .unset, .unset, .unset, .unset] [])) _
      refine XS.goto X142.here hx rfl (pc0 := 81) (pc' := 36) rfl (hb hby d5_81) (by decide) (by decide) ?_
      exact kt
    clear R143
    have R145 : ∀ tg, Steps p.tables e below (T142.setTop (mkF m 36 #[vR a1, vI (3 : Int32), vR a2, vI (0 : Int32), vI (0 : Int32), vI (2 : Int32), .unset, .unset, .unset, .unset, .unset] [])) tg → Steps p.tables e below (T0.setTop (mkF m 23 #[vR a1, vI (3 : Int32), vR a2, vI (0 : Int32), .unset, .unset, .unset, .unset, .unset, .unset, .unset] [])) tg := R144
    have R146 : ∀ tg, Steps p.tables e below (T142.setTop (mkF m 43 #[vR a1, vI (3 : Int32), vR a2, vI (0 : Int32), vI (0 : Int32), vI (2 : Int32), .unset, .unset, .unset, .unset, .unset] [(.ref a1)])) tg → Steps p.tables e below (T0.setTop (mkF m 23 #[vR a1, vI (3 : Int32), vR a2, vI (0 : Int32), .unset, .unset, .unset, .unset, .unset, .unset, .unset] [])) tg := by
      intro tg kt
      refine R145 _ ?_
      show Steps p.tables e below (T142.setTop (mkF m 36 #[vR a1, vI (3 : Int32), vR a2, vI (0 : Int32), vI (0 : Int32), vI (2 : Int32), .unset, .unset, .unset, .unset, .unset] [])) _
      refine XS.iload X142.here hx rfl (hb hby d5_36) rfl ?_
      refine XS.iloadN X142.here hx rfl (hb hby d5_38) rfl ?_
      show Steps p.tables e below (T142.setTop (mkF m 39 #[vR a1, vI (3 : Int32), vR a2, vI (0 : Int32), vI (0 : Int32), vI (2 : Int32), .unset, .unset, .unset, .unset, .unset] [(.int (3 : Int32)), (.int (2 : Int32))])) _
      refine XS.icmpNo X142.here hx rfl (hb hby d5_39) rfl (tlt (by decide : (2 : Int32) < (3 : Int32))).2.1 ?_
      refine XS.aloadN X142.here hx rfl (hb hby d5_42) rfl rfl ?_
      exact kt
    clear R145
    obtain ⟨T147, X147, e147, st147⟩ := getF X142 hx hZ hown (host := "") (Or.inl (hw _ (List.mem_of_getElem? (i := 28) rfl))) Via.refl e142 Fl (g := (mkF m 43 #[vR a1, vI (3 : Int32), vR a2, vI (0 : Int32), vI (0 : Int32), vI (2 : Int32), .unset, .unset, .unset, .unset, .unset] [(.ref a1)])) rfl rfl (hb hby d5_43)
    have R148 : ∀ tg, Steps p.tables e below (T147.setTop (mkF m 52 #[vR a1, vI (3 : Int32), vR a2, vI (0 : Int32), vI (0 : Int32), vI (2 : Int32), .unset, .unset, .unset, .unset, .unset] [(.int (((2 : Int32) * (3 : Int32)) + (0 : Int32))), (.ref a2)])) tg → Steps p.tables e below (T0.setTop (mkF m 23 #[vR a1, vI (3 : Int32), vR a2, vI (0 : Int32), .unset, .unset, .unset, .unset, .unset, .unset, .unset] [])) tg := by
      intro tg kt
      refine R146 _ ?_
      refine st147 _ ?_
      refine XS.iload X147.here hx rfl (hb hby d5_46) rfl ?_
      show Steps p.tables e below (T147.setTop (mkF m 48 #[vR a1, vI (3 : Int32), vR a2, vI (0 : Int32), vI (0 : Int32), vI (2 : Int32), .unset, .unset, .unset, .unset, .unset] [(.int (2 : Int32)), (.ref a2)])) _
      refine XS.iloadN X147.here hx rfl (hb hby d5_48) rfl ?_
      show Steps p.tables e below (T147.setTop (mkF m 49 #[vR a1, vI (3 : Int32), vR a2, vI (0 : Int32), vI (0 : Int32), vI (2 : Int32), .unset, .unset, .unset, .unset, .unset] [(.int (3 : Int32)), (.int (2 : Int32)), (.ref a2)])) _
      refine XS.imul X147.here hx rfl (hb hby d5_49) rfl ?_
      refine XS.iloadN X147.here hx rfl (hb hby d5_50) rfl ?_
      show Steps p.tables e below (T147.setTop (mkF m 51 #[vR a1, vI (3 : Int32), vR a2, vI (0 : Int32), vI (0 : Int32), vI (2 : Int32), .unset, .unset, .unset, .unset, .unset] [(.int (0 : Int32)), (.int ((2 : Int32) * (3 : Int32))), (.ref a2)])) _
      refine XS.iadd X147.here hx rfl (hb hby d5_51) rfl ?_
      exact kt
    clear R146 st147
    obtain ⟨cl149, d149, Ar149, hin149, hat149, G149⟩ := VA.at (j := (((2 : Int32) * (3 : Int32)) + (0 : Int32))) (k := 6) (by decide) (by decide) (by decide)
    have H149 : DR 2 x6 d149 := G149
    have R150 : ∀ tg, Steps p.tables e below (T147.setTop (mkF m 53 #[vR a1, vI (3 : Int32), vR a2, vI (0 : Int32), vI (0 : Int32), vI (2 : Int32), .unset, .unset, .unset, .unset, .unset] [(.double d149)])) tg → Steps p.tables e below (T0.setTop (mkF m 23 #[vR a1, vI (3 : Int32), vR a2, vI (0 : Int32), .unset, .unset, .unset, .unset, .unset, .unset, .unset] [])) tg := by
      intro tg kt
      refine R148 _ ?_
      show Steps p.tables e below (T147.setTop (mkF m 52 #[vR a1, vI (3 : Int32), vR a2, vI (0 : Int32), vI (0 : Int32), vI (2 : Int32), .unset, .unset, .unset, .unset, .unset] [(.int (((2 : Int32) * (3 : Int32)) + (0 : Int32))), (.ref a2)])) _
      refine X147.daload hx (j := (((2 : Int32) * (3 : Int32)) + (0 : Int32))) (v := (.double d149)) (by rw [e147]; exact Ar149.1) (State.isArrayOf_alike hZ.alike Ar149.2.1) Ar149.2.2 hin149 hat149 (g := (mkF m 52 #[vR a1, vI (3 : Int32), vR a2, vI (0 : Int32), vI (0 : Int32), vI (2 : Int32), .unset, .unset, .unset, .unset, .unset] [(.int (((2 : Int32) * (3 : Int32)) + (0 : Int32))), (.ref a2)])) rfl rfl (hb hby d5_52) _ ?_
      exact kt
    clear R148
    obtain ⟨d151, hv151, H151⟩ : ∃ v, (d149 &&& 0x7fffffffffffffff) = v ∧ DR 2 ((x6).natAbs : Int) v := ⟨_, rfl, H149.abs⟩
    obtain ⟨T151, X151, e151, st151⟩ := natS X147 hx hZ (y := (⟨"java/lang/Math", "abs", "(D)D"⟩ : MethodName)) hown (hw _ (List.mem_of_getElem? (i := 33) rfl)) (hw _ (List.mem_of_getElem? (i := 34) rfl)) (hw _ (List.mem_of_getElem? (i := 35) rfl)) (hw _ (List.mem_of_getElem? (i := 36) rfl)) (by decide) e147 (W := 0) (fun hc => Jvm.Free.Fl.Abs.absD_pays (W := 0) d149 hc (by decide) (by decide)) (g := (mkF m 53 #[vR a1, vI (3 : Int32), vR a2, vI (0 : Int32), vI (0 : Int32), vI (2 : Int32), .unset, .unset, .unset, .unset, .unset] [(.double d149)])) rfl (by rw [hml]; rfl) (argsL := [(.double d149)]) (rest := []) (lenOf pd_1 rfl) rfl (by show 2 * 0 + _ ≤ _; exact Nat.le_of_eq rfl) (hb hby d5_53) (by decide) (by decide) ⟨rfl, H149.nn⟩ (congrArg Value.double hv151)
    have R152 : ∀ tg, Steps p.tables e below (T151.setTop (mkF m 57 #[vR a1, vI (3 : Int32), vR a2, vI (0 : Int32), vI (0 : Int32), vI (2 : Int32), .unset, .unset, .unset, .unset, .unset] [(.ref a1), (.double d151)])) tg → Steps p.tables e below (T0.setTop (mkF m 23 #[vR a1, vI (3 : Int32), vR a2, vI (0 : Int32), .unset, .unset, .unset, .unset, .unset, .unset, .unset] [])) tg := by
      intro tg kt
      refine R150 _ ?_
      refine st151 _ ?_
      refine XS.aloadN X151.here hx rfl (hb hby d5_56) rfl rfl ?_
      exact kt
    clear R150 st151
    obtain ⟨T153, X153, e153, st153⟩ := getF X151 hx hZ hown (host := "") (Or.inl (hw _ (List.mem_of_getElem? (i := 28) rfl))) Via.refl e151 Fl (g := (mkF m 57 #[vR a1, vI (3 : Int32), vR a2, vI (0 : Int32), vI (0 : Int32), vI (2 : Int32), .unset, .unset, .unset, .unset, .unset] [(.ref a1), (.double d151)])) rfl rfl (hb hby d5_57)
    have R154 : ∀ tg, Steps p.tables e below (T153.setTop (mkF m 66 #[vR a1, vI (3 : Int32), vR a2, vI (0 : Int32), vI (0 : Int32), vI (2 : Int32), .unset, .unset, .unset, .unset, .unset] [(.int (((0 : Int32) * (3 : Int32)) + (0 : Int32))), (.ref a2), (.double d151)])) tg → Steps p.tables e below (T0.setTop (mkF m 23 #[vR a1, vI (3 : Int32), vR a2, vI (0 : Int32), .unset, .unset, .unset, .unset, .unset, .unset, .unset] [])) tg := by
      intro tg kt
      refine R152 _ ?_
      refine st153 _ ?_
      refine XS.iload X153.here hx rfl (hb hby d5_60) rfl ?_
      show Steps p.tables e below (T153.setTop (mkF m 62 #[vR a1, vI (3 : Int32), vR a2, vI (0 : Int32), vI (0 : Int32), vI (2 : Int32), .unset, .unset, .unset, .unset, .unset] [(.int (0 : Int32)), (.ref a2), (.double d151)])) _
      refine XS.iloadN X153.here hx rfl (hb hby d5_62) rfl ?_
      show Steps p.tables e below (T153.setTop (mkF m 63 #[vR a1, vI (3 : Int32), vR a2, vI (0 : Int32), vI (0 : Int32), vI (2 : Int32), .unset, .unset, .unset, .unset, .unset] [(.int (3 : Int32)), (.int (0 : Int32)), (.ref a2), (.double d151)])) _
      refine XS.imul X153.here hx rfl (hb hby d5_63) rfl ?_
      refine XS.iloadN X153.here hx rfl (hb hby d5_64) rfl ?_
      show Steps p.tables e below (T153.setTop (mkF m 65 #[vR a1, vI (3 : Int32), vR a2, vI (0 : Int32), vI (0 : Int32), vI (2 : Int32), .unset, .unset, .unset, .unset, .unset] [(.int (0 : Int32)), (.int ((0 : Int32) * (3 : Int32))), (.ref a2), (.double d151)])) _
      refine XS.iadd X153.here hx rfl (hb hby d5_65) rfl ?_
      exact kt
    clear R152 st153
    obtain ⟨cl155, d155, Ar155, hin155, hat155, G155⟩ := VA.at (j := (((0 : Int32) * (3 : Int32)) + (0 : Int32))) (k := 0) (by decide) (by decide) (by decide)
    have H155 : DR 2 x0 d155 := G155
    have R156 : ∀ tg, Steps p.tables e below (T153.setTop (mkF m 67 #[vR a1, vI (3 : Int32), vR a2, vI (0 : Int32), vI (0 : Int32), vI (2 : Int32), .unset, .unset, .unset, .unset, .unset] [(.double d155), (.double d151)])) tg → Steps p.tables e below (T0.setTop (mkF m 23 #[vR a1, vI (3 : Int32), vR a2, vI (0 : Int32), .unset, .unset, .unset, .unset, .unset, .unset, .unset] [])) tg := by
      intro tg kt
      refine R154 _ ?_
      show Steps p.tables e below (T153.setTop (mkF m 66 #[vR a1, vI (3 : Int32), vR a2, vI (0 : Int32), vI (0 : Int32), vI (2 : Int32), .unset, .unset, .unset, .unset, .unset] [(.int (((0 : Int32) * (3 : Int32)) + (0 : Int32))), (.ref a2), (.double d151)])) _
      refine X153.daload hx (j := (((0 : Int32) * (3 : Int32)) + (0 : Int32))) (v := (.double d155)) (by rw [e153]; exact Ar155.1) (State.isArrayOf_alike hZ.alike Ar155.2.1) Ar155.2.2 hin155 hat155 (g := (mkF m 66 #[vR a1, vI (3 : Int32), vR a2, vI (0 : Int32), vI (0 : Int32), vI (2 : Int32), .unset, .unset, .unset, .unset, .unset] [(.int (((0 : Int32) * (3 : Int32)) + (0 : Int32))), (.ref a2), (.double d151)])) rfl rfl (hb hby d5_66) _ ?_
      exact kt
    clear R154
    obtain ⟨d157, hv157, H157⟩ : ∃ v, (d155 &&& 0x7fffffffffffffff) = v ∧ DR 2 ((x0).natAbs : Int) v := ⟨_, rfl, H155.abs⟩
    obtain ⟨T157, X157, e157, st157⟩ := natS X153 hx hZ (y := (⟨"java/lang/Math", "abs", "(D)D"⟩ : MethodName)) hown (hw _ (List.mem_of_getElem? (i := 33) rfl)) (hw _ (List.mem_of_getElem? (i := 34) rfl)) (hw _ (List.mem_of_getElem? (i := 35) rfl)) (hw _ (List.mem_of_getElem? (i := 36) rfl)) (by decide) e153 (W := 2) (fun hc => Jvm.Free.Fl.Abs.absD_pays (W := 2) d155 hc (by decide) (by decide)) (g := (mkF m 67 #[vR a1, vI (3 : Int32), vR a2, vI (0 : Int32), vI (0 : Int32), vI (2 : Int32), .unset, .unset, .unset, .unset, .unset] [(.double d155), (.double d151)])) rfl (by rw [hml]; rfl) (argsL := [(.double d155)]) (rest := [(.double d151)]) (lenOf pd_1 rfl) rfl (by show 2 * 0 + _ ≤ _; exact Nat.le_of_eq rfl) (hb hby d5_67) (by decide) (by decide) ⟨rfl, H155.nn⟩ (congrArg Value.double hv157)
    have R158 : ∀ tg, Steps p.tables e below (T157.setTop (mkF m 70 #[vR a1, vI (3 : Int32), vR a2, vI (0 : Int32), vI (0 : Int32), vI (2 : Int32), .unset, .unset, .unset, .unset, .unset] [(.double d157), (.double d151)])) tg → Steps p.tables e below (T0.setTop (mkF m 23 #[vR a1, vI (3 : Int32), vR a2, vI (0 : Int32), .unset, .unset, .unset, .unset, .unset, .unset, .unset] [])) tg := by
      intro tg kt
      refine R156 _ ?_
      refine st157 _ ?_
      exact kt
    clear R156 st157
    have R159 : ∀ tg, Steps p.tables e below (T157.setTop (mkF m 36 #[vR a1, vI (3 : Int32), vR a2, vI (0 : Int32), vI (0 : Int32), vI ((2 : Int32) + (1 : Int32)), .unset, .unset, .unset, .unset, .unset] [])) tg → Steps p.tables e below (T0.setTop (mkF m 23 #[vR a1, vI (3 : Int32), vR a2, vI (0 : Int32), .unset, .unset, .unset, .unset, .unset, .unset, .unset] [])) tg := by
      intro tg kt
      refine R158 _ ?_
      show Steps p.tables e below (T157.setTop (mkF m 70 #[vR a1, vI (3 : Int32), vR a2, vI (0 : Int32), vI (0 : Int32), vI (2 : Int32), .unset, .unset, .unset, .unset, .unset] [(.double d157), (.double d151)])) _
      refine XS.dcmpS X157.here hx rfl (hb hby d5_70) rfl (own_cvl H151 H157 _) ?_
      show Steps p.tables e below (T157.setTop (mkF m 71 #[vR a1, vI (3 : Int32), vR a2, vI (0 : Int32), vI (0 : Int32), vI (2 : Int32), .unset, .unset, .unset, .unset, .unset] [(.int (own_cv ((x6).natAbs : Int) ((x0).natAbs : Int)))])) _
      refine XS.ifYes X157.here hx rfl (pc0 := 71) (pc' := 78) rfl (hb hby d5_71) rfl ((if0 _ _).trans (flt (own_ng0 h2 : ¬ ((0 : Int32) < (own_cv ((x6).natAbs : Int) ((x0).natAbs : Int))))).2.2.2) (by decide) (by decide) ?_
      show Steps p.tables e below (T157.setTop (mkF m 78 #[vR a1, vI (3 : Int32), vR a2, vI (0 : Int32), vI (0 : Int32), vI (2 : Int32), .unset, .unset, .unset, .unset, .unset] [])) _
      refine XS.iinc X157.here hx rfl (hb hby d5_78) rfl (l' := #[vR a1, vI (3 : Int32), vR a2, vI (0 : Int32), vI (0 : Int32), vI ((2 : Int32) + (1 : Int32)), .unset, .unset, .unset, .unset, .unset]) rfl ?_
      show Steps p.tables e below (T157.setTop (mkF m 81 #[vR a1, vI (3 : Int32), vR a2, vI (0 : Int32), vI (0 : Int32), vI ((2 : Int32) + (1 : Int32)), .unset, .unset, .unset, .unset, .unset] [])) _
      refine XS.goto X157.here hx rfl (pc0 := 81) (pc' := 36) rfl (hb hby d5_81) (by decide) (by decide) ?_
      exact kt
    clear R158
    have R160 : ∀ tg, Steps p.tables e below (T157.setTop (mkF m 36 #[vR a1, vI (3 : Int32), vR a2, vI (0 : Int32), vI (0 : Int32), vI (3 : Int32), .unset, .unset, .unset, .unset, .unset] [])) tg → Steps p.tables e below (T0.setTop (mkF m 23 #[vR a1, vI (3 : Int32), vR a2, vI (0 : Int32), .unset, .unset, .unset, .unset, .unset, .unset, .unset] [])) tg := R159
    have R161 : ∀ tg, Steps p.tables e below (T157.setTop (mkF m 84 #[vR a1, vI (3 : Int32), vR a2, vI (0 : Int32), vI (0 : Int32), vI (3 : Int32), .unset, .unset, .unset, .unset, .unset] [])) tg → Steps p.tables e below (T0.setTop (mkF m 23 #[vR a1, vI (3 : Int32), vR a2, vI (0 : Int32), .unset, .unset, .unset, .unset, .unset, .unset, .unset] [])) tg := by
      intro tg kt
      refine R160 _ ?_
      show Steps p.tables e below (T157.setTop (mkF m 36 #[vR a1, vI (3 : Int32), vR a2, vI (0 : Int32), vI (0 : Int32), vI (3 : Int32), .unset, .unset, .unset, .unset, .unset] [])) _
      refine XS.iload X157.here hx rfl (hb hby d5_36) rfl ?_
      refine XS.iloadN X157.here hx rfl (hb hby d5_38) rfl ?_
      show Steps p.tables e below (T157.setTop (mkF m 39 #[vR a1, vI (3 : Int32), vR a2, vI (0 : Int32), vI (0 : Int32), vI (3 : Int32), .unset, .unset, .unset, .unset, .unset] [(.int (3 : Int32)), (.int (3 : Int32))])) _
      refine XS.icmpYes X157.here hx rfl (pc0 := 39) (pc' := 84) rfl (hb hby d5_39) rfl (flt (by decide : ¬ ((3 : Int32) < (3 : Int32)))).2.1 (by decide) (by decide) ?_
      exact kt
    clear R160
    have R162 : ∀ tg, Steps p.tables e below (T157.setTop (mkF m 84 #[vR a1, vI (3 : Int32), vR a2, vI (Int32.ofNat 0), vI (Int32.ofNat 0), vI (3 : Int32), .unset, .unset, .unset, .unset, .unset] [])) tg → Steps p.tables e below (T0.setTop (mkF m 23 #[vR a1, vI (3 : Int32), vR a2, vI (0 : Int32), .unset, .unset, .unset, .unset, .unset, .unset, .unset] [])) tg := R161
    exact ⟨_, X157, e157, R162⟩
  · have R163 : ∀ tg, Steps p.tables e below (T0.setTop (mkF m 43 #[vR a1, vI (3 : Int32), vR a2, vI (0 : Int32), vI (0 : Int32), vI (1 : Int32), .unset, .unset, .unset, .unset, .unset] [(.ref a1)])) tg → Steps p.tables e below (T0.setTop (mkF m 23 #[vR a1, vI (3 : Int32), vR a2, vI (0 : Int32), .unset, .unset, .unset, .unset, .unset, .unset, .unset] [])) tg := by
      intro tg kt
      refine R130 _ ?_
      show Steps p.tables e below (T0.setTop (mkF m 36 #[vR a1, vI (3 : Int32), vR a2, vI (0 : Int32), vI (0 : Int32), vI (1 : Int32), .unset, .unset, .unset, .unset, .unset] [])) _
      refine XS.iload X0.here hx rfl (hb hby d5_36) rfl ?_
      refine XS.iloadN X0.here hx rfl (hb hby d5_38) rfl ?_
      show Steps p.tables e below (T0.setTop (mkF m 39 #[vR a1, vI (3 : Int32), vR a2, vI (0 : Int32), vI (0 : Int32), vI (1 : Int32), .unset, .unset, .unset, .unset, .unset] [(.int (3 : Int32)), (.int (1 : Int32))])) _
      refine XS.icmpNo X0.here hx rfl (hb hby d5_39) rfl (tlt (by decide : (1 : Int32) < (3 : Int32))).2.1 ?_
      refine XS.aloadN X0.here hx rfl (hb hby d5_42) rfl rfl ?_
      exact kt
    clear R130
    obtain ⟨T164, X164, e164, st164⟩ := getF X0 hx hZ hown (host := "") (Or.inl (hw _ (List.mem_of_getElem? (i := 28) rfl))) Via.refl e0 Fl (g := (mkF m 43 #[vR a1, vI (3 : Int32), vR a2, vI (0 : Int32), vI (0 : Int32), vI (1 : Int32), .unset, .unset, .unset, .unset, .unset] [(.ref a1)])) rfl rfl (hb hby d5_43)
    have R165 : ∀ tg, Steps p.tables e below (T164.setTop (mkF m 52 #[vR a1, vI (3 : Int32), vR a2, vI (0 : Int32), vI (0 : Int32), vI (1 : Int32), .unset, .unset, .unset, .unset, .unset] [(.int (((1 : Int32) * (3 : Int32)) + (0 : Int32))), (.ref a2)])) tg → Steps p.tables e below (T0.setTop (mkF m 23 #[vR a1, vI (3 : Int32), vR a2, vI (0 : Int32), .unset, .unset, .unset, .unset, .unset, .unset, .unset] [])) tg := by
      intro tg kt
      refine R163 _ ?_
      refine st164 _ ?_
      refine XS.iload X164.here hx rfl (hb hby d5_46) rfl ?_
      show Steps p.tables e below (T164.setTop (mkF m 48 #[vR a1, vI (3 : Int32), vR a2, vI (0 : Int32), vI (0 : Int32), vI (1 : Int32), .unset, .unset, .unset, .unset, .unset] [(.int (1 : Int32)), (.ref a2)])) _
      refine XS.iloadN X164.here hx rfl (hb hby d5_48) rfl ?_
      show Steps p.tables e below (T164.setTop (mkF m 49 #[vR a1, vI (3 : Int32), vR a2, vI (0 : Int32), vI (0 : Int32), vI (1 : Int32), .unset, .unset, .unset, .unset, .unset] [(.int (3 : Int32)), (.int (1 : Int32)), (.ref a2)])) _
      refine XS.imul X164.here hx rfl (hb hby d5_49) rfl ?_
      refine XS.iloadN X164.here hx rfl (hb hby d5_50) rfl ?_
      show Steps p.tables e below (T164.setTop (mkF m 51 #[vR a1, vI (3 : Int32), vR a2, vI (0 : Int32), vI (0 : Int32), vI (1 : Int32), .unset, .unset, .unset, .unset, .unset] [(.int (0 : Int32)), (.int ((1 : Int32) * (3 : Int32))), (.ref a2)])) _
      refine XS.iadd X164.here hx rfl (hb hby d5_51) rfl ?_
      exact kt
    clear R163 st164
    obtain ⟨cl166, d166, Ar166, hin166, hat166, G166⟩ := VA.at (j := (((1 : Int32) * (3 : Int32)) + (0 : Int32))) (k := 3) (by decide) (by decide) (by decide)
    have H166 : DR 2 x3 d166 := G166
    have R167 : ∀ tg, Steps p.tables e below (T164.setTop (mkF m 53 #[vR a1, vI (3 : Int32), vR a2, vI (0 : Int32), vI (0 : Int32), vI (1 : Int32), .unset, .unset, .unset, .unset, .unset] [(.double d166)])) tg → Steps p.tables e below (T0.setTop (mkF m 23 #[vR a1, vI (3 : Int32), vR a2, vI (0 : Int32), .unset, .unset, .unset, .unset, .unset, .unset, .unset] [])) tg := by
      intro tg kt
      refine R165 _ ?_
      show Steps p.tables e below (T164.setTop (mkF m 52 #[vR a1, vI (3 : Int32), vR a2, vI (0 : Int32), vI (0 : Int32), vI (1 : Int32), .unset, .unset, .unset, .unset, .unset] [(.int (((1 : Int32) * (3 : Int32)) + (0 : Int32))), (.ref a2)])) _
      refine X164.daload hx (j := (((1 : Int32) * (3 : Int32)) + (0 : Int32))) (v := (.double d166)) (by rw [e164]; exact Ar166.1) (State.isArrayOf_alike hZ.alike Ar166.2.1) Ar166.2.2 hin166 hat166 (g := (mkF m 52 #[vR a1, vI (3 : Int32), vR a2, vI (0 : Int32), vI (0 : Int32), vI (1 : Int32), .unset, .unset, .unset, .unset, .unset] [(.int (((1 : Int32) * (3 : Int32)) + (0 : Int32))), (.ref a2)])) rfl rfl (hb hby d5_52) _ ?_
      exact kt
    clear R165
    obtain ⟨d168, hv168, H168⟩ : ∃ v, (d166 &&& 0x7fffffffffffffff) = v ∧ DR 2 ((x3).natAbs : Int) v := ⟨_, rfl, H166.abs⟩
    obtain ⟨T168, X168, e168, st168⟩ := natS X164 hx hZ (y := (⟨"java/lang/Math", "abs", "(D)D"⟩ : MethodName)) hown (hw _ (List.mem_of_getElem? (i := 33) rfl)) (hw _ (List.mem_of_getElem? (i := 34) rfl)) (hw _ (List.mem_of_getElem? (i := 35) rfl)) (hw _ (List.mem_of_getElem? (i := 36) rfl)) (by decide) e164 (W := 0) (fun hc => Jvm.Free.Fl.Abs.absD_pays (W := 0) d166 hc (by decide) (by decide)) (g := (mkF m 53 #[vR a1, vI (3 : Int32), vR a2, vI (0 : Int32), vI (0 : Int32), vI (1 : Int32), .unset, .unset, .unset, .unset, .unset] [(.double d166)])) rfl (by rw [hml]; rfl) (argsL := [(.double d166)]) (rest := []) (lenOf pd_1 rfl) rfl (by show 2 * 0 + _ ≤ _; exact Nat.le_of_eq rfl) (hb hby d5_53) (by decide) (by decide) ⟨rfl, H166.nn⟩ (congrArg Value.double hv168)
    have R169 : ∀ tg, Steps p.tables e below (T168.setTop (mkF m 57 #[vR a1, vI (3 : Int32), vR a2, vI (0 : Int32), vI (0 : Int32), vI (1 : Int32), .unset, .unset, .unset, .unset, .unset] [(.ref a1), (.double d168)])) tg → Steps p.tables e below (T0.setTop (mkF m 23 #[vR a1, vI (3 : Int32), vR a2, vI (0 : Int32), .unset, .unset, .unset, .unset, .unset, .unset, .unset] [])) tg := by
      intro tg kt
      refine R167 _ ?_
      refine st168 _ ?_
      refine XS.aloadN X168.here hx rfl (hb hby d5_56) rfl rfl ?_
      exact kt
    clear R167 st168
    obtain ⟨T170, X170, e170, st170⟩ := getF X168 hx hZ hown (host := "") (Or.inl (hw _ (List.mem_of_getElem? (i := 28) rfl))) Via.refl e168 Fl (g := (mkF m 57 #[vR a1, vI (3 : Int32), vR a2, vI (0 : Int32), vI (0 : Int32), vI (1 : Int32), .unset, .unset, .unset, .unset, .unset] [(.ref a1), (.double d168)])) rfl rfl (hb hby d5_57)
    have R171 : ∀ tg, Steps p.tables e below (T170.setTop (mkF m 66 #[vR a1, vI (3 : Int32), vR a2, vI (0 : Int32), vI (0 : Int32), vI (1 : Int32), .unset, .unset, .unset, .unset, .unset] [(.int (((0 : Int32) * (3 : Int32)) + (0 : Int32))), (.ref a2), (.double d168)])) tg → Steps p.tables e below (T0.setTop (mkF m 23 #[vR a1, vI (3 : Int32), vR a2, vI (0 : Int32), .unset, .unset, .unset, .unset, .unset, .unset, .unset] [])) tg := by
      intro tg kt
      refine R169 _ ?_
      refine st170 _ ?_
      refine XS.iload X170.here hx rfl (hb hby d5_60) rfl ?_
      show Steps p.tables e below (T170.setTop (mkF m 62 #[vR a1, vI (3 : Int32), vR a2, vI (0 : Int32), vI (0 : Int32), vI (1 : Int32), .unset, .unset, .unset, .unset, .unset] [(.int (0 : Int32)), (.ref a2), (.double d168)])) _
      refine XS.iloadN X170.here hx rfl (hb hby d5_62) rfl ?_
      show Steps p.tables e below (T170.setTop (mkF m 63 #[vR a1, vI (3 : Int32), vR a2, vI (0 : Int32), vI (0 : Int32), vI (1 : Int32), .unset, .unset, .unset, .unset, .unset] [(.int (3 : Int32)), (.int (0 : Int32)), (.ref a2), (.double d168)])) _
      refine XS.imul X170.here hx rfl (hb hby d5_63) rfl ?_
      refine XS.iloadN X170.here hx rfl (hb hby d5_64) rfl ?_
      show Steps p.tables e below (T170.setTop (mkF m 65 #[vR a1, vI (3 : Int32), vR a2, vI (0 : Int32), vI (0 : Int32), vI (1 : Int32), .unset, .unset, .unset, .unset, .unset] [(.int (0 : Int32)), (.int ((0 : Int32) * (3 : Int32))), (.ref a2), (.double d168)])) _
      refine XS.iadd X170.here hx rfl (hb hby d5_65) rfl ?_
      exact kt
    clear R169 st170
    obtain ⟨cl172, d172, Ar172, hin172, hat172, G172⟩ := VA.at (j := (((0 : Int32) * (3 : Int32)) + (0 : Int32))) (k := 0) (by decide) (by decide) (by decide)
    have H172 : DR 2 x0 d172 := G172
    have R173 : ∀ tg, Steps p.tables e below (T170.setTop (mkF m 67 #[vR a1, vI (3 : Int32), vR a2, vI (0 : Int32), vI (0 : Int32), vI (1 : Int32), .unset, .unset, .unset, .unset, .unset] [(.double d172), (.double d168)])) tg → Steps p.tables e below (T0.setTop (mkF m 23 #[vR a1, vI (3 : Int32), vR a2, vI (0 : Int32), .unset, .unset, .unset, .unset, .unset, .unset, .unset] [])) tg := by
      intro tg kt
      refine R171 _ ?_
      show Steps p.tables e below (T170.setTop (mkF m 66 #[vR a1, vI (3 : Int32), vR a2, vI (0 : Int32), vI (0 : Int32), vI (1 : Int32), .unset, .unset, .unset, .unset, .unset] [(.int (((0 : Int32) * (3 : Int32)) + (0 : Int32))), (.ref a2), (.double d168)])) _
      refine X170.daload hx (j := (((0 : Int32) * (3 : Int32)) + (0 : Int32))) (v := (.double d172)) (by rw [e170]; exact Ar172.1) (State.isArrayOf_alike hZ.alike Ar172.2.1) Ar172.2.2 hin172 hat172 (g := (mkF m 66 #[vR a1, vI (3 : Int32), vR a2, vI (0 : Int32), vI (0 : Int32), vI (1 : Int32), .unset, .unset, .unset, .unset, .unset] [(.int (((0 : Int32) * (3 : Int32)) + (0 : Int32))), (.ref a2), (.double d168)])) rfl rfl (hb hby d5_66) _ ?_
      exact kt
    clear R171
    obtain ⟨d174, hv174, H174⟩ : ∃ v, (d172 &&& 0x7fffffffffffffff) = v ∧ DR 2 ((x0).natAbs : Int) v := ⟨_, rfl, H172.abs⟩
    obtain ⟨T174, X174, e174, st174⟩ := natS X170 hx hZ (y := (⟨"java/lang/Math", "abs", "(D)D"⟩ : MethodName)) hown (hw _ (List.mem_of_getElem? (i := 33) rfl)) (hw _ (List.mem_of_getElem? (i := 34) rfl)) (hw _ (List.mem_of_getElem? (i := 35) rfl)) (hw _ (List.mem_of_getElem? (i := 36) rfl)) (by decide) e170 (W := 2) (fun hc => Jvm.Free.Fl.Abs.absD_pays (W := 2) d172 hc (by decide) (by decide)) (g := (mkF m 67 #[vR a1, vI (3 : Int32), vR a2, vI (0 : Int32), vI (0 : Int32), vI (1 : Int32), .unset, .unset, .unset, .unset, .unset] [(.double d172), (.double d168)])) rfl (by rw [hml]; rfl) (argsL := [(.double d172)]) (rest := [(.double d168)]) (lenOf pd_1 rfl) rfl (by show 2 * 0 + _ ≤ _; exact Nat.le_of_eq rfl) (hb hby d5_67) (by decide) (by decide) ⟨rfl, H172.nn⟩ (congrArg Value.double hv174)
    have R175 : ∀ tg, Steps p.tables e below (T174.setTop (mkF m 70 #[vR a1, vI (3 : Int32), vR a2, vI (0 : Int32), vI (0 : Int32), vI (1 : Int32), .unset, .unset, .unset, .unset, .unset] [(.double d174), (.double d168)])) tg → Steps p.tables e below (T0.setTop (mkF m 23 #[vR a1, vI (3 : Int32), vR a2, vI (0 : Int32), .unset, .unset, .unset, .unset, .unset, .unset, .unset] [])) tg := by
      intro tg kt
      refine R173 _ ?_
      refine st174 _ ?_
      exact kt
    clear R173 st174
    have R176 : ∀ tg, Steps p.tables e below (T174.setTop (mkF m 36 #[vR a1, vI (3 : Int32), vR a2, vI (0 : Int32), vI (1 : Int32), vI ((1 : Int32) + (1 : Int32)), .unset, .unset, .unset, .unset, .unset] [])) tg → Steps p.tables e below (T0.setTop (mkF m 23 #[vR a1, vI (3 : Int32), vR a2, vI (0 : Int32), .unset, .unset, .unset, .unset, .unset, .unset, .unset] [])) tg := by
      intro tg kt
      refine R175 _ ?_
      show Steps p.tables e below (T174.setTop (mkF m 70 #[vR a1, vI (3 : Int32), vR a2, vI (0 : Int32), vI (0 : Int32), vI (1 : Int32), .unset, .unset, .unset, .unset, .unset] [(.double d174), (.double d168)])) _
      refine XS.dcmpS X174.here hx rfl (hb hby d5_70) rfl (own_cvl H168 H174 _) ?_
      show Steps p.tables e below (T174.setTop (mkF m 71 #[vR a1, vI (3 : Int32), vR a2, vI (0 : Int32), vI (0 : Int32), vI (1 : Int32), .unset, .unset, .unset, .unset, .unset] [(.int (own_cv ((x3).natAbs : Int) ((x0).natAbs : Int)))])) _
      refine XS.ifNo X174.here hx rfl (hb hby d5_71) rfl ((if0 _ _).trans (tlt (own_gt0 h1 : (0 : Int32) < (own_cv ((x3).natAbs : Int) ((x0).natAbs : Int)))).2.2.2) ?_
      refine XS.iload X174.here hx rfl (hb hby d5_74) rfl ?_
      show Steps p.tables e below (T174.setTop (mkF m 76 #[vR a1, vI (3 : Int32), vR a2, vI (0 : Int32), vI (0 : Int32), vI (1 : Int32), .unset, .unset, .unset, .unset, .unset] [(.int (1 : Int32))])) _
      refine XS.istore X174.here hx rfl (hb hby d5_76) rfl (l' := #[vR a1, vI (3 : Int32), vR a2, vI (0 : Int32), vI (1 : Int32), vI (1 : Int32), .unset, .unset, .unset, .unset, .unset]) rfl ?_
      show Steps p.tables e below (T174.setTop (mkF m 78 #[vR a1, vI (3 : Int32), vR a2, vI (0 : Int32), vI (1 : Int32), vI (1 : Int32), .unset, .unset, .unset, .unset, .unset] [])) _
      refine XS.iinc X174.here hx rfl (hb hby d5_78) rfl (l' := #[vR a1, vI (3 : Int32), vR a2, vI (0 : Int32), vI (1 : Int32), vI ((1 : Int32) + (1 : Int32)), .unset, .unset, .unset, .unset, .unset]) rfl ?_
      show Steps p.tables e below (T174.setTop (mkF m 81 #[vR a1, vI (3 : Int32), vR a2, vI (0 : Int32), vI (1 : Int32), vI ((1 : Int32) + (1 : Int32)), .unset, .unset, .unset, .unset, .unset] [])) _
      refine XS.goto X174.here hx rfl (pc0 := 81) (pc' := 36) rfl (hb hby d5_81) (by decide) (by decide) ?_
      exact kt
    clear R175
    have R177 : ∀ tg, Steps p.tables e below (T174.setTop (mkF m 36 #[vR a1, vI (3 : Int32), vR a2, vI (0 : Int32), vI (1 : Int32), vI (2 : Int32), .unset, .unset, .unset, .unset, .unset] [])) tg → Steps p.tables e below (T0.setTop (mkF m 23 #[vR a1, vI (3 : Int32), vR a2, vI (0 : Int32), .unset, .unset, .unset, .unset, .unset, .unset, .unset] [])) tg := R176
    have R178 : ∀ tg, Steps p.tables e below (T174.setTop (mkF m 43 #[vR a1, vI (3 : Int32), vR a2, vI (0 : Int32), vI (1 : Int32), vI (2 : Int32), .unset, .unset, .unset, .unset, .unset] [(.ref a1)])) tg → Steps p.tables e below (T0.setTop (mkF m 23 #[vR a1, vI (3 : Int32), vR a2, vI (0 : Int32), .unset, .unset, .unset, .unset, .unset, .unset, .unset] [])) tg := by
      intro tg kt
      refine R177 _ ?_
      show Steps p.tables e below (T174.setTop (mkF m 36 #[vR a1, vI (3 : Int32), vR a2, vI (0 : Int32), vI (1 : Int32), vI (2 : Int32), .unset, .unset, .unset, .unset, .unset] [])) _
      refine XS.iload X174.here hx rfl (hb hby d5_36) rfl ?_
      refine XS.iloadN X174.here hx rfl (hb hby d5_38) rfl ?_
      show Steps p.tables e below (T174.setTop (mkF m 39 #[vR a1, vI (3 : Int32), vR a2, vI (0 : Int32), vI (1 : Int32), vI (2 : Int32), .unset, .unset, .unset, .unset, .unset] [(.int (3 : Int32)), (.int (2 : Int32))])) _
      refine XS.icmpNo X174.here hx rfl (hb hby d5_39) rfl (tlt (by decide : (2 : Int32) < (3 : Int32))).2.1 ?_
      refine XS.aloadN X174.here hx rfl (hb hby d5_42) rfl rfl ?_
      exact kt
    clear R177
    obtain ⟨T179, X179, e179, st179⟩ := getF X174 hx hZ hown (host := "") (Or.inl (hw _ (List.mem_of_getElem? (i := 28) rfl))) Via.refl e174 Fl (g := (mkF m 43 #[vR a1, vI (3 : Int32), vR a2, vI (0 : Int32), vI (1 : Int32), vI (2 : Int32), .unset, .unset, .unset, .unset, .unset] [(.ref a1)])) rfl rfl (hb hby d5_43)
    have R180 : ∀ tg, Steps p.tables e below (T179.setTop (mkF m 52 #[vR a1, vI (3 : Int32), vR a2, vI (0 : Int32), vI (1 : Int32), vI (2 : Int32), .unset, .unset, .unset, .unset, .unset] [(.int (((2 : Int32) * (3 : Int32)) + (0 : Int32))), (.ref a2)])) tg → Steps p.tables e below (T0.setTop (mkF m 23 #[vR a1, vI (3 : Int32), vR a2, vI (0 : Int32), .unset, .unset, .unset, .unset, .unset, .unset, .unset] [])) tg := by
      intro tg kt
      refine R178 _ ?_
      refine st179 _ ?_
      refine XS.iload X179.here hx rfl (hb hby d5_46) rfl ?_
      show Steps p.tables e below (T179.setTop (mkF m 48 #[vR a1, vI (3 : Int32), vR a2, vI (0 : Int32), vI (1 : Int32), vI (2 : Int32), .unset, .unset, .unset, .unset, .unset] [(.int (2 : Int32)), (.ref a2)])) _
      refine XS.iloadN X179.here hx rfl (hb hby d5_48) rfl ?_
      show Steps p.tables e below (T179.setTop (mkF m 49 #[vR a1, vI (3 : Int32), vR a2, vI (0 : Int32), vI (1 : Int32), vI (2 : Int32), .unset, .unset, .unset, .unset, .unset] [(.int (3 : Int32)), (.int (2 : Int32)), (.ref a2)])) _
      refine XS.imul X179.here hx rfl (hb hby d5_49) rfl ?_
      refine XS.iloadN X179.here hx rfl (hb hby d5_50) rfl ?_
      show Steps p.tables e below (T179.setTop (mkF m 51 #[vR a1, vI (3 : Int32), vR a2, vI (0 : Int32), vI (1 : Int32), vI (2 : Int32), .unset, .unset, .unset, .unset, .unset] [(.int (0 : Int32)), (.int ((2 : Int32) * (3 : Int32))), (.ref a2)])) _
      refine XS.iadd X179.here hx rfl (hb hby d5_51) rfl ?_
      exact kt
    clear R178 st179
    obtain ⟨cl181, d181, Ar181, hin181, hat181, G181⟩ := VA.at (j := (((2 : Int32) * (3 : Int32)) + (0 : Int32))) (k := 6) (by decide) (by decide) (by decide)
    have H181 : DR 2 x6 d181 := G181
    have R182 : ∀ tg, Steps p.tables e below (T179.setTop (mkF m 53 #[vR a1, vI (3 : Int32), vR a2, vI (0 : Int32), vI (1 : Int32), vI (2 : Int32), .unset, .unset, .unset, .unset, .unset] [(.double d181)])) tg → Steps p.tables e below (T0.setTop (mkF m 23 #[vR a1, vI (3 : Int32), vR a2, vI (0 : Int32), .unset, .unset, .unset, .unset, .unset, .unset, .unset] [])) tg := by
      intro tg kt
      refine R180 _ ?_
      show Steps p.tables e below (T179.setTop (mkF m 52 #[vR a1, vI (3 : Int32), vR a2, vI (0 : Int32), vI (1 : Int32), vI (2 : Int32), .unset, .unset, .unset, .unset, .unset] [(.int (((2 : Int32) * (3 : Int32)) + (0 : Int32))), (.ref a2)])) _
      refine X179.daload hx (j := (((2 : Int32) * (3 : Int32)) + (0 : Int32))) (v := (.double d181)) (by rw [e179]; exact Ar181.1) (State.isArrayOf_alike hZ.alike Ar181.2.1) Ar181.2.2 hin181 hat181 (g := (mkF m 52 #[vR a1, vI (3 : Int32), vR a2, vI (0 : Int32), vI (1 : Int32), vI (2 : Int32), .unset, .unset, .unset, .unset, .unset] [(.int (((2 : Int32) * (3 : Int32)) + (0 : Int32))), (.ref a2)])) rfl rfl (hb hby d5_52) _ ?_
      exact kt
    clear R180
    obtain ⟨d183, hv183, H183⟩ : ∃ v, (d181 &&& 0x7fffffffffffffff) = v ∧ DR 2 ((x6).natAbs : Int) v := ⟨_, rfl, H181.abs⟩
    obtain ⟨T183, X183, e183, st183⟩ := natS X179 hx hZ (y := (⟨"java/lang/Math", "abs", "(D)D"⟩ : MethodName)) hown (hw _ (List.mem_of_getElem? (i := 33) rfl)) (hw _ (List.mem_of_getElem? (i := 34) rfl)) (hw _ (List.mem_of_getElem? (i := 35) rfl)) (hw _ (List.mem_of_getElem? (i := 36) rfl)) (by decide) e179 (W := 0) (fun hc => Jvm.Free.Fl.Abs.absD_pays (W := 0) d181 hc (by decide) (by decide)) (g := (mkF m 53 #[vR a1, vI (3 : Int32), vR a2, vI (0 : Int32), vI (1 : Int32), vI (2 : Int32), .unset, .unset, .unset, .unset, .unset] [(.double d181)])) rfl (by rw [hml]; rfl) (argsL := [(.double d181)]) (rest := []) (lenOf pd_1 rfl) rfl (by show 2 * 0 + _ ≤ _; exact Nat.le_of_eq rfl) (hb hby d5_53) (by decide) (by decide) ⟨rfl, H181.nn⟩ (congrArg Value.double hv183)
    have R184 : ∀ tg, Steps p.tables e below (T183.setTop (mkF m 57 #[vR a1, vI (3 : Int32), vR a2, vI (0 : Int32), vI (1 : Int32), vI (2 : Int32), .unset, .unset, .unset, .unset, .unset] [(.ref a1), (.double d183)])) tg → Steps p.tables e below (T0.setTop (mkF m 23 #[vR a1, vI (3 : Int32), vR a2, vI (0 : Int32), .unset, .unset, .unset, .unset, .unset, .unset, .unset] [])) tg := by
      intro tg kt
      refine R182 _ ?_
      refine st183 _ ?_
      refine XS.aloadN X183.here hx rfl (hb hby d5_56) rfl rfl ?_
      exact kt
    clear R182 st183
    obtain ⟨T185, X185, e185, st185⟩ := getF X183 hx hZ hown (host := "") (Or.inl (hw _ (List.mem_of_getElem? (i := 28) rfl))) Via.refl e183 Fl (g := (mkF m 57 #[vR a1, vI (3 : Int32), vR a2, vI (0 : Int32), vI (1 : Int32), vI (2 : Int32), .unset, .unset, .unset, .unset, .unset] [(.ref a1), (.double d183)])) rfl rfl (hb hby d5_57)
    have R186 : ∀ tg, Steps p.tables e below (T185.setTop (mkF m 66 #[vR a1, vI (3 : Int32), vR a2, vI (0 : Int32), vI (1 : Int32), vI (2 : Int32), .unset, .unset, .unset, .unset, .unset] [(.int (((1 : Int32) * (3 : Int32)) + (0 : Int32))), (.ref a2), (.double d183)])) tg → Steps p.tables e below (T0.setTop (mkF m 23 #[vR a1, vI (3 : Int32), vR a2, vI (0 : Int32), .unset, .unset, .unset, .unset, .unset, .unset, .unset] [])) tg := by
      intro tg kt
      refine R184 _ ?_
      refine st185 _ ?_
      refine XS.iload X185.here hx rfl (hb hby d5_60) rfl ?_
      show Steps p.tables e below (T185.setTop (mkF m 62 #[vR a1, vI (3 : Int32), vR a2, vI (0 : Int32), vI (1 : Int32), vI (2 : Int32), .unset, .unset, .unset, .unset, .unset] [(.int (1 : Int32)), (.ref a2), (.double d183)])) _
      refine XS.iloadN X185.here hx rfl (hb hby d5_62) rfl ?_
      show Steps p.tables e below (T185.setTop (mkF m 63 #[vR a1, vI (3 : Int32), vR a2, vI (0 : Int32), vI (1 : Int32), vI (2 : Int32), .unset, .unset, .unset, .unset, .unset] [(.int (3 : Int32)), (.int (1 : Int32)), (.ref a2), (.double d183)])) _
      refine XS.imul X185.here hx rfl (hb hby d5_63) rfl ?_
      refine XS.iloadN X185.here hx rfl (hb hby d5_64) rfl ?_
      show Steps p.tables e below (T185.setTop (mkF m 65 #[vR a1, vI (3 : Int32), vR a2, vI (0 : Int32), vI (1 : Int32), vI (2 : Int32), .unset, .unset, .unset, .unset, .unset] [(.int (0 : Int32)), (.int ((1 : Int32) * (3 : Int32))), (.ref a2), (.double d183)])) _
      refine XS.iadd X185.here hx rfl (hb hby d5_65) rfl ?_
      exact kt
    clear R184 st185
    obtain ⟨cl187, d187, Ar187, hin187, hat187, G187⟩ := VA.at (j := (((1 : Int32) * (3 : Int32)) + (0 : Int32))) (k := 3) (by decide) (by decide) (by decide)
    have H187 : DR 2 x3 d187 := G187
    have R188 : ∀ tg, Steps p.tables e below (T185.setTop (mkF m 67 #[vR a1, vI (3 : Int32), vR a2, vI (0 : Int32), vI (1 : Int32), vI (2 : Int32), .unset, .unset, .unset, .unset, .unset] [(.double d187), (.double d183)])) tg → Steps p.tables e below (T0.setTop (mkF m 23 #[vR a1, vI (3 : Int32), vR a2, vI (0 : Int32), .unset, .unset, .unset, .unset, .unset, .unset, .unset] [])) tg := by
      intro tg kt
      refine R186 _ ?_
      show Steps p.tables e below (T185.setTop (mkF m 66 #[vR a1, vI (3 : Int32), vR a2, vI (0 : Int32), vI (1 : Int32), vI (2 : Int32), .unset, .unset, .unset, .unset, .unset] [(.int (((1 : Int32) * (3 : Int32)) + (0 : Int32))), (.ref a2), (.double d183)])) _
      refine X185.daload hx (j := (((1 : Int32) * (3 : Int32)) + (0 : Int32))) (v := (.double d187)) (by rw [e185]; exact Ar187.1) (State.isArrayOf_alike hZ.alike Ar187.2.1) Ar187.2.2 hin187 hat187 (g := (mkF m 66 #[vR a1, vI (3 : Int32), vR a2, vI (0 : Int32), vI (1 : Int32), vI (2 : Int32), .unset, .unset, .unset, .unset, .unset] [(.int (((1 : Int32) * (3 : Int32)) + (0 : Int32))), (.ref a2), (.double d183)])) rfl rfl (hb hby d5_66) _ ?_
      exact kt
    clear R186
    obtain ⟨d189, hv189, H189⟩ : ∃ v, (d187 &&& 0x7fffffffffffffff) = v ∧ DR 2 ((x3).natAbs : Int) v := ⟨_, rfl, H187.abs⟩
    obtain ⟨T189, X189, e189, st189⟩ := natS X185 hx hZ (y := (⟨"java/lang/Math", "abs", "(D)D"⟩ : MethodName)) hown (hw _ (List.mem_of_getElem? (i := 33) rfl)) (hw _ (List.mem_of_getElem? (i := 34) rfl)) (hw _ (List.mem_of_getElem? (i := 35) rfl)) (hw _ (List.mem_of_getElem? (i := 36) rfl)) (by decide) e185 (W := 2) (fun hc => Jvm.Free.Fl.Abs.absD_pays (W := 2) d187 hc (by decide) (by decide)) (g := (mkF m 67 #[vR a1, vI (3 : Int32), vR a2, vI (0 : Int32), vI (1 : Int32), vI (2 : Int32), .unset, .unset, .unset, .unset, .unset] [(.double d187), (.double d183)])) rfl (by rw [hml]; rfl) (argsL := [(.double d187)]) (rest := [(.double d183)]) (lenOf pd_1 rfl) rfl (by show 2 * 0 + _ ≤ _; exact Nat.le_of_eq rfl) (hb hby d5_67) (by decide) (by decide) ⟨rfl, H187.nn⟩ (congrArg Value.double hv189)
    have R190 : ∀ tg, Steps p.tables e below (T189.setTop (mkF m 70 #[vR a1, vI (3 : Int32), vR a2, vI (0 : Int32), vI (1 : Int32), vI (2 : Int32), .unset, .unset, .unset, .unset, .unset] [(.double d189), (.double d183)])) tg → Steps p.tables e below (T0.setTop (mkF m 23 #[vR a1, vI (3 : Int32), vR a2, vI (0 : Int32), .unset, .unset, .unset, .unset, .unset, .unset, .unset] [])) tg := by
      intro tg kt
      refine R188 _ ?_
      refine st189 _ ?_
      exact kt
    clear R188 st189
    have R191 : ∀ tg, Steps p.tables e below (T189.setTop (mkF m 36 #[vR a1, vI (3 : Int32), vR a2, vI (0 : Int32), vI (1 : Int32), vI ((2 : Int32) + (1 : Int32)), .unset, .unset, .unset, .unset, .unset] [])) tg → Steps p.tables e below (T0.setTop (mkF m 23 #[vR a1, vI (3 : Int32), vR a2, vI (0 : Int32), .unset, .unset, .unset, .unset, .unset, .unset, .unset] [])) tg := by
      intro tg kt
      refine R190 _ ?_
      show Steps p.tables e below (T189.setTop (mkF m 70 #[vR a1, vI (3 : Int32), vR a2, vI (0 : Int32), vI (1 : Int32), vI (2 : Int32), .unset, .unset, .unset, .unset, .unset] [(.double d189), (.double d183)])) _
      refine XS.dcmpS X189.here hx rfl (hb hby d5_70) rfl (own_cvl H183 H189 _) ?_
      show Steps p.tables e below (T189.setTop (mkF m 71 #[vR a1, vI (3 : Int32), vR a2, vI (0 : Int32), vI (1 : Int32), vI (2 : Int32), .unset, .unset, .unset, .unset, .unset] [(.int (own_cv ((x6).natAbs : Int) ((x3).natAbs : Int)))])) _
      refine XS.ifYes X189.here hx rfl (pc0 := 71) (pc' := 78) rfl (hb hby d5_71) rfl ((if0 _ _).trans (flt (own_ng0 h2 : ¬ ((0 : Int32) < (own_cv ((x6).natAbs : Int) ((x3).natAbs : Int))))).2.2.2) (by decide) (by decide) ?_
      show Steps p.tables e below (T189.setTop (mkF m 78 #[vR a1, vI (3 : Int32), vR a2, vI (0 : Int32), vI (1 : Int32), vI (2 : Int32), .unset, .unset, .unset, .unset, .unset] [])) _
      refine XS.iinc X189.here hx rfl (hb hby d5_78) rfl (l' := #[vR a1, vI (3 : Int32), vR a2, vI (0 : Int32), vI (1 : Int32), vI ((2 : Int32) + (1 : Int32)), .unset, .unset, .unset, .unset, .unset]) rfl ?_
      show Steps p.tables e below (T189.setTop (mkF m 81 #[vR a1, vI (3 : Int32), vR a2, vI (0 : Int32), vI (1 : Int32), vI ((2 : Int32) + (1 : Int32)), .unset, .unset, .unset, .unset, .unset] [])) _
      refine XS.goto X189.here hx rfl (pc0 := 81) (pc' := 36) rfl (hb hby d5_81) (by decide) (by decide) ?_
      exact kt
    clear R190
    have R192 : ∀ tg, Steps p.tables e below (T189.setTop (mkF m 36 #[vR a1, vI (3 : Int32), vR a2, vI (0 : Int32), vI (1 : Int32), vI (3 : Int32), .unset, .unset, .unset, .unset, .unset] [])) tg → Steps p.tables e below (T0.setTop (mkF m 23 #[vR a1, vI (3 : Int32), vR a2, vI (0 : Int32), .unset, .unset, .unset, .unset, .unset, .unset, .unset] [])) tg := R191
    have R193 : ∀ tg, Steps p.tables e below (T189.setTop (mkF m 84 #[vR a1, vI (3 : Int32), vR a2, vI (0 : Int32), vI (1 : Int32), vI (3 : Int32), .unset, .unset, .unset, .unset, .unset] [])) tg → Steps p.tables e below (T0.setTop (mkF m 23 #[vR a1, vI (3 : Int32), vR a2, vI (0 : Int32), .unset, .unset, .unset, .unset, .unset, .unset, .unset] [])) tg := by
      intro tg kt
      refine R192 _ ?_
      show Steps p.tables e below (T189.setTop (mkF m 36 #[vR a1, vI (3 : Int32), vR a2, vI (0 : Int32), vI (1 : Int32), vI (3 : Int32), .unset, .unset, .unset, .unset, .unset] [])) _
      refine XS.iload X189.here hx rfl (hb hby d5_36) rfl ?_
      refine XS.iloadN X189.here hx rfl (hb hby d5_38) rfl ?_
      show Steps p.tables e below (T189.setTop (mkF m 39 #[vR a1, vI (3 : Int32), vR a2, vI (0 : Int32), vI (1 : Int32), vI (3 : Int32), .unset, .unset, .unset, .unset, .unset] [(.int (3 : Int32)), (.int (3 : Int32))])) _
      refine XS.icmpYes X189.here hx rfl (pc0 := 39) (pc' := 84) rfl (hb hby d5_39) rfl (flt (by decide : ¬ ((3 : Int32) < (3 : Int32)))).2.1 (by decide) (by decide) ?_
      exact kt
    clear R192
    have R194 : ∀ tg, Steps p.tables e below (T189.setTop (mkF m 84 #[vR a1, vI (3 : Int32), vR a2, vI (0 : Int32), vI (Int32.ofNat 1), vI (3 : Int32), .unset, .unset, .unset, .unset, .unset] [])) tg → Steps p.tables e below (T0.setTop (mkF m 23 #[vR a1, vI (3 : Int32), vR a2, vI (0 : Int32), .unset, .unset, .unset, .unset, .unset, .unset, .unset] [])) tg := R193
    exact ⟨_, X189, e189, R194⟩
  · have R195 : ∀ tg, Steps p.tables e below (T0.setTop (mkF m 43 #[vR a1, vI (3 : Int32), vR a2, vI (0 : Int32), vI (0 : Int32), vI (1 : Int32), .unset, .unset, .unset, .unset, .unset] [(.ref a1)])) tg → Steps p.tables e below (T0.setTop (mkF m 23 #[vR a1, vI (3 : Int32), vR a2, vI (0 : Int32), .unset, .unset, .unset, .unset, .unset, .unset, .unset] [])) tg := by
      intro tg kt
      refine R130 _ ?_
      show Steps p.tables e below (T0.setTop (mkF m 36 #[vR a1, vI (3 : Int32), vR a2, vI (0 : Int32), vI (0 : Int32), vI (1 : Int32), .unset, .unset, .unset, .unset, .unset] [])) _
      refine XS.iload X0.here hx rfl (hb hby d5_36) rfl ?_
      refine XS.iloadN X0.here hx rfl (hb hby d5_38) rfl ?_
      show Steps p.tables e below (T0.setTop (mkF m 39 #[vR a1, vI (3 : Int32), vR a2, vI (0 : Int32), vI (0 : Int32), vI (1 : Int32), .unset, .unset, .unset, .unset, .unset] [(.int (3 : Int32)), (.int (1 : Int32))])) _
      refine XS.icmpNo X0.here hx rfl (hb hby d5_39) rfl (tlt (by decide : (1 : Int32) < (3 : Int32))).2.1 ?_
      refine XS.aloadN X0.here hx rfl (hb hby d5_42) rfl rfl ?_
      exact kt
    clear R130
    obtain ⟨T196, X196, e196, st196⟩ := getF X0 hx hZ hown (host := "") (Or.inl (hw _ (List.mem_of_getElem? (i := 28) rfl))) Via.refl e0 Fl (g := (mkF m 43 #[vR a1, vI (3 : Int32), vR a2, vI (0 : Int32), vI (0 : Int32), vI (1 : Int32), .unset, .unset, .unset, .unset, .unset] [(.ref a1)])) rfl rfl (hb hby d5_43)
    have R197 : ∀ tg, Steps p.tables e below (T196.setTop (mkF m 52 #[vR a1, vI (3 : Int32), vR a2, vI (0 : Int32), vI (0 : Int32), vI (1 : Int32), .unset, .unset, .unset, .unset, .unset] [(.int (((1 : Int32) * (3 : Int32)) + (0 : Int32))), (.ref a2)])) tg → Steps p.tables e below (T0.setTop (mkF m 23 #[vR a1, vI (3 : Int32), vR a2, vI (0 : Int32), .unset, .unset, .unset, .unset, .unset, .unset, .unset] [])) tg := by
      intro tg kt
      refine R195 _ ?_
      refine st196 _ ?_
      refine XS.iload X196.here hx rfl (hb hby d5_46) rfl ?_
      show Steps p.tables e below (T196.setTop (mkF m 48 #[vR a1, vI (3 : Int32), vR a2, vI (0 : Int32), vI (0 : Int32), vI (1 : Int32), .unset, .unset, .unset, .unset, .unset] [(.int (1 : Int32)), (.ref a2)])) _
      refine XS.iloadN X196.here hx rfl (hb hby d5_48) rfl ?_
      show Steps p.tables e below (T196.setTop (mkF m 49 #[vR a1, vI (3 : Int32), vR a2, vI (0 : Int32), vI (0 : Int32), vI (1 : Int32), .unset, .unset, .unset, .unset, .unset] [(.int (3 : Int32)), (.int (1 : Int32)), (.ref a2)])) _
      refine XS.imul X196.here hx rfl (hb hby d5_49) rfl ?_
      refine XS.iloadN X196.here hx rfl (hb hby d5_50) rfl ?_
      show Steps p.tables e below (T196.setTop (mkF m 51 #[vR a1, vI (3 : Int32), vR a2, vI (0 : Int32), vI (0 : Int32), vI (1 : Int32), .unset, .unset, .unset, .unset, .unset] [(.int (0 : Int32)), (.int ((1 : Int32) * (3 : Int32))), (.ref a2)])) _
      refine XS.iadd X196.here hx rfl (hb hby d5_51) rfl ?_
      exact kt
    clear R195 st196
    obtain ⟨cl198, d198, Ar198, hin198, hat198, G198⟩ := VA.at (j := (((1 : Int32) * (3 : Int32)) + (0 : Int32))) (k := 3) (by decide) (by decide) (by decide)
    have H198 : DR 2 x3 d198 := G198
    have R199 : ∀ tg, Steps p.tables e below (T196.setTop (mkF m 53 #[vR a1, vI (3 : Int32), vR a2, vI (0 : Int32), vI (0 : Int32), vI (1 : Int32), .unset, .unset, .unset, .unset, .unset] [(.double d198)])) tg → Steps p.tables e below (T0.setTop (mkF m 23 #[vR a1, vI (3 : Int32), vR a2, vI (0 : Int32), .unset, .unset, .unset, .unset, .unset, .unset, .unset] [])) tg := by
      intro tg kt
      refine R197 _ ?_
      show Steps p.tables e below (T196.setTop (mkF m 52 #[vR a1, vI (3 : Int32), vR a2, vI (0 : Int32), vI (0 : Int32), vI (1 : Int32), .unset, .unset, .unset, .unset, .unset] [(.int (((1 : Int32) * (3 : Int32)) + (0 : Int32))), (.ref a2)])) _
      refine X196.daload hx (j := (((1 : Int32) * (3 : Int32)) + (0 : Int32))) (v := (.double d198)) (by rw [e196]; exact Ar198.1) (State.isArrayOf_alike hZ.alike Ar198.2.1) Ar198.2.2 hin198 hat198 (g := (mkF m 52 #[vR a1, vI (3 : Int32), vR a2, vI (0 : Int32), vI (0 : Int32), vI (1 : Int32), .unset, .unset, .unset, .unset, .unset] [(.int (((1 : Int32) * (3 : Int32)) + (0 : Int32))), (.ref a2)])) rfl rfl (hb hby d5_52) _ ?_
      exact kt
    clear R197
    obtain ⟨d200, hv200, H200⟩ : ∃ v, (d198 &&& 0x7fffffffffffffff) = v ∧ DR 2 ((x3).natAbs : Int) v := ⟨_, rfl, H198.abs⟩
    obtain ⟨T200, X200, e200, st200⟩ := natS X196 hx hZ (y := (⟨"java/lang/Math", "abs", "(D)D"⟩ : MethodName)) hown (hw _ (List.mem_of_getElem? (i := 33) rfl)) (hw _ (List.mem_of_getElem? (i := 34) rfl)) (hw _ (List.mem_of_getElem? (i := 35) rfl)) (hw _ (List.mem_of_getElem? (i := 36) rfl)) (by decide) e196 (W := 0) (fun hc => Jvm.Free.Fl.Abs.absD_pays (W := 0) d198 hc (by decide) (by decide)) (g := (mkF m 53 #[vR a1, vI (3 : Int32), vR a2, vI (0 : Int32), vI (0 : Int32), vI (1 : Int32), .unset, .unset, .unset, .unset, .unset] [(.double d198)])) rfl (by rw [hml]; rfl) (argsL := [(.double d198)]) (rest := []) (lenOf pd_1 rfl) rfl (by show 2 * 0 + _ ≤ _; exact Nat.le_of_eq rfl) (hb hby d5_53) (by decide) (by decide) ⟨rfl, H198.nn⟩ (congrArg Value.double hv200)
    have R201 : ∀ tg, Steps p.tables e below (T200.setTop (mkF m 57 #[vR a1, vI (3 : Int32), vR a2, vI (0 : Int32), vI (0 : Int32), vI (1 : Int32), .unset, .unset, .unset, .unset, .unset] [(.ref a1), (.double d200)])) tg → Steps p.tables e below (T0.setTop (mkF m 23 #[vR a1, vI (3 : Int32), vR a2, vI (0 : Int32), .unset, .unset, .unset, .unset, .unset, .unset, .unset] [])) tg := by
      intro tg kt
      refine R199 _ ?_
      refine st200 _ ?_
      refine XS.aloadN X200.here hx rfl (hb hby d5_56) rfl rfl ?_
      exact kt
    clear R199 st200
    obtain ⟨T202, X202, e202, st202⟩ := getF X200 hx hZ hown (host := "") (Or.inl (hw _ (List.mem_of_getElem? (i := 28) rfl))) Via.refl e200 Fl (g := (mkF m 57 #[vR a1, vI (3 : Int32), vR a2, vI (0 : Int32), vI (0 : Int32), vI (1 : Int32), .unset, .unset, .unset, .unset, .unset] [(.ref a1), (.double d200)])) rfl rfl (hb hby d5_57)
    have R203 : ∀ tg, Steps p.tables e below (T202.setTop (mkF m 66 #[vR a1, vI (3 : Int32), vR a2, vI (0 : Int32), vI (0 : Int32), vI (1 : Int32), .unset, .unset, .unset, .unset, .unset] [(.int (((0 : Int32) * (3 : Int32)) + (0 : Int32))), (.ref a2), (.double d200)])) tg → Steps p.tables e below (T0.setTop (mkF m 23 #[vR a1, vI (3 : Int32), vR a2, vI (0 : Int32), .unset, .unset, .unset, .unset, .unset, .unset, .unset] [])) tg := by
      intro tg kt
      refine R201 _ ?_
      refine st202 _ ?_
      refine XS.iload X202.here hx rfl (hb hby d5_60) rfl ?_
      show Steps p.tables e below (T202.setTop (mkF m 62 #[vR a1, vI (3 : Int32), vR a2, vI (0 : Int32), vI (0 : Int32), vI (1 : Int32), .unset, .unset, .unset, .unset, .unset] [(.int (0 : Int32)), (.ref a2), (.double d200)])) _
      refine XS.iloadN X202.here hx rfl (hb hby d5_62) rfl ?_
      show Steps p.tables e below (T202.setTop (mkF m 63 #[vR a1, vI (3 : Int32), vR a2, vI (0 : Int32), vI (0 : Int32), vI (1 : Int32), .unset, .unset, .unset, .unset, .unset] [(.int (3 : Int32)), (.int (0 : Int32)), (.ref a2), (.double d200)])) _
      refine XS.imul X202.here hx rfl (hb hby d5_63) rfl ?_
      refine XS.iloadN X202.here hx rfl (hb hby d5_64) rfl ?_
      show Steps p.tables e below (T202.setTop (mkF m 65 #[vR a1, vI (3 : Int32), vR a2, vI (0 : Int32), vI (0 : Int32), vI (1 : Int32), .unset, .unset, .unset, .unset, .unset] [(.int (0 : Int32)), (.int ((0 : Int32) * (3 : Int32))), (.ref a2), (.double d200)])) _
      refine XS.iadd X202.here hx rfl (hb hby d5_65) rfl ?_
      exact kt
    clear R201 st202
    obtain ⟨cl204, d204, Ar204, hin204, hat204, G204⟩ := VA.at (j := (((0 : Int32) * (3 : Int32)) + (0 : Int32))) (k := 0) (by decide) (by decide) (by decide)
    have H204 : DR 2 x0 d204 := G204
    have R205 : ∀ tg, Steps p.tables e below (T202.setTop (mkF m 67 #[vR a1, vI (3 : Int32), vR a2, vI (0 : Int32), vI (0 : Int32), vI (1 : Int32), .unset, .unset, .unset, .unset, .unset] [(.double d204), (.double d200)])) tg → Steps p.tables e below (T0.setTop (mkF m 23 #[vR a1, vI (3 : Int32), vR a2, vI (0 : Int32), .unset, .unset, .unset, .unset, .unset, .unset, .unset] [])) tg := by
      intro tg kt
      refine R203 _ ?_
      show Steps p.tables e below (T202.setTop (mkF m 66 #[vR a1, vI (3 : Int32), vR a2, vI (0 : Int32), vI (0 : Int32), vI (1 : Int32), .unset, .unset, .unset, .unset, .unset] [(.int (((0 : Int32) * (3 : Int32)) + (0 : Int32))), (.ref a2), (.double d200)])) _
      refine X202.daload hx (j := (((0 : Int32) * (3 : Int32)) + (0 : Int32))) (v := (.double d204)) (by rw [e202]; exact Ar204.1) (State.isArrayOf_alike hZ.alike Ar204.2.1) Ar204.2.2 hin204 hat204 (g := (mkF m 66 #[vR a1, vI (3 : Int32), vR a2, vI (0 : Int32), vI (0 : Int32), vI (1 : Int32), .unset, .unset, .unset, .unset, .unset] [(.int (((0 : Int32) * (3 : Int32)) + (0 : Int32))), (.ref a2), (.double d200)])) rfl rfl (hb hby d5_66) _ ?_
      exact kt
    clear R203
    obtain ⟨d206, hv206, H206⟩ : ∃ v, (d204 &&& 0x7fffffffffffffff) = v ∧ DR 2 ((x0).natAbs : Int) v := ⟨_, rfl, H204.abs⟩
    obtain ⟨T206, X206, e206, st206⟩ := natS X202 hx hZ (y := (⟨"java/lang/Math", "abs", "(D)D"⟩ : MethodName)) hown (hw _ (List.mem_of_getElem? (i := 33) rfl)) (hw _ (List.mem_of_getElem? (i := 34) rfl)) (hw _ (List.mem_of_getElem? (i := 35) rfl)) (hw _ (List.mem_of_getElem? (i := 36) rfl)) (by decide) e202 (W := 2) (fun hc => Jvm.Free.Fl.Abs.absD_pays (W := 2) d204 hc (by decide) (by decide)) (g := (mkF m 67 #[vR a1, vI (3 : Int32), vR a2, vI (0 : Int32), vI (0 : Int32), vI (1 : Int32), .unset, .unset, .unset, .unset, .unset] [(.double d204), (.double d200)])) rfl (by rw [hml]; rfl) (argsL := [(.double d204)]) (rest := [(.double d200)]) (lenOf pd_1 rfl) rfl (by show 2 * 0 + _ ≤ _; exact Nat.le_of_eq rfl) (hb hby d5_67) (by decide) (by decide) ⟨rfl, H204.nn⟩ (congrArg Value.double hv206)
    have R207 : ∀ tg, Steps p.tables e below (T206.setTop (mkF m 70 #[vR a1, vI (3 : Int32), vR a2, vI (0 : Int32), vI (0 : Int32), vI (1 : Int32), .unset, .unset, .unset, .unset, .unset] [(.double d206), (.double d200)])) tg → Steps p.tables e below (T0.setTop (mkF m 23 #[vR a1, vI (3 : Int32), vR a2, vI (0 : Int32), .unset, .unset, .unset, .unset, .unset, .unset, .unset] [])) tg := by
      intro tg kt
      refine R205 _ ?_
      refine st206 _ ?_
      exact kt
    clear R205 st206
    have R208 : ∀ tg, Steps p.tables e below (T206.setTop (mkF m 71 #[vR a1, vI (3 : Int32), vR a2, vI (0 : Int32), vI (0 : Int32), vI (1 : Int32), .unset, .unset, .unset, .unset, .unset] [(.int (own_cv ((x3).natAbs : Int) ((x0).natAbs : Int)))])) tg → Steps p.tables e below (T0.setTop (mkF m 23 #[vR a1, vI (3 : Int32), vR a2, vI (0 : Int32), .unset, .unset, .unset, .unset, .unset, .unset, .unset] [])) tg := by
      intro tg kt
      refine R207 _ ?_
      show Steps p.tables e below (T206.setTop (mkF m 70 #[vR a1, vI (3 : Int32), vR a2, vI (0 : Int32), vI (0 : Int32), vI (1 : Int32), .unset, .unset, .unset, .unset, .unset] [(.double d206), (.double d200)])) _
      refine XS.dcmpS X206.here hx rfl (hb hby d5_70) rfl (own_cvl H200 H206 _) ?_
      exact kt
    clear R207
    by_cases hc : (0 : Int32) < (own_cv ((x3).natAbs : Int) ((x0).natAbs : Int))
    · have R209 : ∀ tg, Steps p.tables e below (T206.setTop (mkF m 36 #[vR a1, vI (3 : Int32), vR a2, vI (0 : Int32), vI (1 : Int32), vI ((1 : Int32) + (1 : Int32)), .unset, .unset, .unset, .unset, .unset] [])) tg → Steps p.tables e below (T0.setTop (mkF m 23 #[vR a1, vI (3 : Int32), vR a2, vI (0 : Int32), .unset, .unset, .unset, .unset, .unset, .unset, .unset] [])) tg := by
        intro tg kt
        refine R208 _ ?_
        show Steps p.tables e below (T206.setTop (mkF m 71 #[vR a1, vI (3 : Int32), vR a2, vI (0 : Int32), vI (0 : Int32), vI (1 : Int32), .unset, .unset, .unset, .unset, .unset] [(.int (own_cv ((x3).natAbs : Int) ((x0).natAbs : Int)))])) _
        refine XS.ifNo X206.here hx rfl (hb hby d5_71) rfl ((if0 _ _).trans (tlt (hc : (0 : Int32) < (own_cv ((x3).natAbs : Int) ((x0).natAbs : Int)))).2.2.2) ?_
        refine XS.iload X206.here hx rfl (hb hby d5_74) rfl ?_
        show Steps p.tables e below (T206.setTop (mkF m 76 #[vR a1, vI (3 : Int32), vR a2, vI (0 : Int32), vI (0 : Int32), vI (1 : Int32), .unset, .unset, .unset, .unset, .unset] [(.int (1 : Int32))])) _
        refine XS.istore X206.here hx rfl (hb hby d5_76) rfl (l' := #[vR a1, vI (3 : Int32), vR a2, vI (0 : Int32), vI (1 : Int32), vI (1 : Int32), .unset, .unset, .unset, .unset, .unset]) rfl ?_
        show Steps p.tables e below (T206.setTop (mkF m 78 #[vR a1, vI (3 : Int32), vR a2, vI (0 : Int32), vI (1 : Int32), vI (1 : Int32), .unset, .unset, .unset, .unset, .unset] [])) _
        refine XS.iinc X206.here hx rfl (hb hby d5_78) rfl (l' := #[vR a1, vI (3 : Int32), vR a2, vI (0 : Int32), vI (1 : Int32), vI ((1 : Int32) + (1 : Int32)), .unset, .unset, .unset, .unset, .unset]) rfl ?_
        show Steps p.tables e below (T206.setTop (mkF m 81 #[vR a1, vI (3 : Int32), vR a2, vI (0 : Int32), vI (1 : Int32), vI ((1 : Int32) + (1 : Int32)), .unset, .unset, .unset, .unset, .unset] [])) _
        refine XS.goto X206.here hx rfl (pc0 := 81) (pc' := 36) rfl (hb hby d5_81) (by decide) (by decide) ?_
        exact kt
      clear R208
      have R210 : ∀ tg, Steps p.tables e below (T206.setTop (mkF m 36 #[vR a1, vI (3 : Int32), vR a2, vI (0 : Int32), vI (1 : Int32), vI (2 : Int32), .unset, .unset, .unset, .unset, .unset] [])) tg → Steps p.tables e below (T0.setTop (mkF m 23 #[vR a1, vI (3 : Int32), vR a2, vI (0 : Int32), .unset, .unset, .unset, .unset, .unset, .unset, .unset] [])) tg := R209
      have R211 : ∀ tg, Steps p.tables e below (T206.setTop (mkF m 43 #[vR a1, vI (3 : Int32), vR a2, vI (0 : Int32), vI (1 : Int32), vI (2 : Int32), .unset, .unset, .unset, .unset, .unset] [(.ref a1)])) tg → Steps p.tables e below (T0.setTop (mkF m 23 #[vR a1, vI (3 : Int32), vR a2, vI (0 : Int32), .unset, .unset, .unset, .unset, .unset, .unset, .unset] [])) tg := by
        intro tg kt
        refine R210 _ ?_
        show Steps p.tables e below (T206.setTop (mkF m 36 #[vR a1, vI (3 : Int32), vR a2, vI (0 : Int32), vI (1 : Int32), vI (2 : Int32), .unset, .unset, .unset, .unset, .unset] [])) _
        refine XS.iload X206.here hx rfl (hb hby d5_36) rfl ?_
        refine XS.iloadN X206.here hx rfl (hb hby d5_38) rfl ?_
        show Steps p.tables e below (T206.setTop (mkF m 39 #[vR a1, vI (3 : Int32), vR a2, vI (0 : Int32), vI (1 : Int32), vI (2 : Int32), .unset, .unset, .unset, .unset, .unset] [(.int (3 : Int32)), (.int (2 : Int32))])) _
        refine XS.icmpNo X206.here hx rfl (hb hby d5_39) rfl (tlt (by decide : (2 : Int32) < (3 : Int32))).2.1 ?_
        refine XS.aloadN X206.here hx rfl (hb hby d5_42) rfl rfl ?_
        exact kt
      clear R210
      obtain ⟨T212, X212, e212, st212⟩ := getF X206 hx hZ hown (host := "") (Or.inl (hw _ (List.mem_of_getElem? (i := 28) rfl))) Via.refl e206 Fl (g := (mkF m 43 #[vR a1, vI (3 : Int32), vR a2, vI (0 : Int32), vI (1 : Int32), vI (2 : Int32), .unset, .unset, .unset, .unset, .unset] [(.ref a1)])) rfl rfl (hb hby d5_43)
      have R213 : ∀ tg, Steps p.tables e below (T212.setTop (mkF m 52 #[vR a1, vI (3 : Int32), vR a2, vI (0 : Int32), vI (1 : Int32), vI (2 : Int32), .unset, .unset, .unset, .unset, .unset] [(.int (((2 : Int32) * (3 : Int32)) + (0 : Int32))), (.ref a2)])) tg → Steps p.tables e below (T0.setTop (mkF m 23 #[vR a1, vI (3 : Int32), vR a2, vI (0 : Int32), .unset, .unset, .unset, .unset, .unset, .unset, .unset] [])) tg := by
        intro tg kt
        refine R211 _ ?_
        refine st212 _ ?_
        refine XS.iload X212.here hx rfl (hb hby d5_46) rfl ?_
        show Steps p.tables e below (T212.setTop (mkF m 48 #[vR a1, vI (3 : Int32), vR a2, vI (0 : Int32), vI (1 : Int32), vI (2 : Int32), .unset, .unset, .unset, .unset, .unset] [(.int (2 : Int32)), (.ref a2)])) _
        refine XS.iloadN X212.here hx rfl (hb hby d5_48) rfl ?_
        show Steps p.tables e below (T212.setTop (mkF m 49 #[vR a1, vI (3 : Int32), vR a2, vI (0 : Int32), vI (1 : Int32), vI (2 : Int32), .unset, .unset, .unset, .unset, .unset] [(.int (3 : Int32)), (.int (2 : Int32)), (.ref a2)])) _
        refine XS.imul X212.here hx rfl (hb hby d5_49) rfl ?_
        refine XS.iloadN X212.here hx rfl (hb hby d5_50) rfl ?_
        show Steps p.tables e below (T212.setTop (mkF m 51 #[vR a1, vI (3 : Int32), vR a2, vI (0 : Int32), vI (1 : Int32), vI (2 : Int32), .unset, .unset, .unset, .unset, .unset] [(.int (0 : Int32)), (.int ((2 : Int32) * (3 : Int32))), (.ref a2)])) _
        refine XS.iadd X212.here hx rfl (hb hby d5_51) rfl ?_
        exact kt
      clear R211 st212
      obtain ⟨cl214, d214, Ar214, hin214, hat214, G214⟩ := VA.at (j := (((2 : Int32) * (3 : Int32)) + (0 : Int32))) (k := 6) (by decide) (by decide) (by decide)
      have H214 : DR 2 x6 d214 := G214
      have R215 : ∀ tg, Steps p.tables e below (T212.setTop (mkF m 53 #[vR a1, vI (3 : Int32), vR a2, vI (0 : Int32), vI (1 : Int32), vI (2 : Int32), .unset, .unset, .unset, .unset, .unset] [(.double d214)])) tg → Steps p.tables e below (T0.setTop (mkF m 23 #[vR a1, vI (3 : Int32), vR a2, vI (0 : Int32), .unset, .unset, .unset, .unset, .unset, .unset, .unset] [])) tg := by
        intro tg kt
        refine R213 _ ?_
        show Steps p.tables e below (T212.setTop (mkF m 52 #[vR a1, vI (3 : Int32), vR a2, vI (0 : Int32), vI (1 : Int32), vI (2 : Int32), .unset, .unset, .unset, .unset, .unset] [(.int (((2 : Int32) * (3 : Int32)) + (0 : Int32))), (.ref a2)])) _
        refine X212.daload hx (j := (((2 : Int32) * (3 : Int32)) + (0 : Int32))) (v := (.double d214)) (by rw [e212]; exact Ar214.1) (State.isArrayOf_alike hZ.alike Ar214.2.1) Ar214.2.2 hin214 hat214 (g := (mkF m 52 #[vR a1, vI (3 : Int32), vR a2, vI (0 : Int32), vI (1 : Int32), vI (2 : Int32), .unset, .unset, .unset, .unset, .unset] [(.int (((2 : Int32) * (3 : Int32)) + (0 : Int32))), (.ref a2)])) rfl rfl (hb hby d5_52) _ ?_
        exact kt
      clear R213
      obtain ⟨d216, hv216, H216⟩ : ∃ v, (d214 &&& 0x7fffffffffffffff) = v ∧ DR 2 ((x6).natAbs : Int) v := ⟨_, rfl, H214.abs⟩
      obtain ⟨T216, X216, e216, st216⟩ := natS X212 hx hZ (y := (⟨"java/lang/Math", "abs", "(D)D"⟩ : MethodName)) hown (hw _ (List.mem_of_getElem? (i := 33) rfl)) (hw _ (List.mem_of_getElem? (i := 34) rfl)) (hw _ (List.mem_of_getElem? (i := 35) rfl)) (hw _ (List.mem_of_getElem? (i := 36) rfl)) (by decide) e212 (W := 0) (fun hc => Jvm.Free.Fl.Abs.absD_pays (W := 0) d214 hc (by decide) (by decide)) (g := (mkF m 53 #[vR a1, vI (3 : Int32), vR a2, vI (0 : Int32), vI (1 : Int32), vI (2 : Int32), .unset, .unset, .unset, .unset, .unset] [(.double d214)])) rfl (by rw [hml]; rfl) (argsL := [(.double d214)]) (rest := []) (lenOf pd_1 rfl) rfl (by show 2 * 0 + _ ≤ _; exact Nat.le_of_eq rfl) (hb hby d5_53) (by decide) (by decide) ⟨rfl, H214.nn⟩ (congrArg Value.double hv216)
      have R217 : ∀ tg, Steps p.tables e below (T216.setTop (mkF m 57 #[vR a1, vI (3 : Int32), vR a2, vI (0 : Int32), vI (1 : Int32), vI (2 : Int32), .unset, .unset, .unset, .unset, .unset] [(.ref a1), (.double d216)])) tg → Steps p.tables e below (T0.setTop (mkF m 23 #[vR a1, vI (3 : Int32), vR a2, vI (0 : Int32), .unset, .unset, .unset, .unset, .unset, .unset, .unset] [])) tg := by
        intro tg kt
        refine R215 _ ?_
        refine st216 _ ?_
        refine XS.aloadN X216.here hx rfl (hb hby d5_56) rfl rfl ?_
        exact kt
      clear R215 st216
      obtain ⟨T218, X218, e218, st218⟩ := getF X216 hx hZ hown (host := "") (Or.inl (hw _ (List.mem_of_getElem? (i := 28) rfl))) Via.refl e216 Fl (g := (mkF m 57 #[vR a1, vI (3 : Int32), vR a2, vI (0 : Int32), vI (1 : Int32), vI (2 : Int32), .unset, .unset, .unset, .unset, .unset] [(.ref a1), (.double d216)])) rfl rfl (hb hby d5_57)
      have R219 : ∀ tg, Steps p.tables e below (T218.setTop (mkF m 66 #[vR a1, vI (3 : Int32), vR a2, vI (0 : Int32), vI (1 : Int32), vI (2 : Int32), .unset, .unset, .unset, .unset, .unset] [(.int (((1 : Int32) * (3 : Int32)) + (0 : Int32))), (.ref a2), (.double d216)])) tg → Steps p.tables e below (T0.setTop (mkF m 23 #[vR a1, vI (3 : Int32), vR a2, vI (0 : Int32), .unset, .unset, .unset, .unset, .unset, .unset, .unset] [])) tg := by
        intro tg kt
        refine R217 _ ?_
        refine st218 _ ?_
        refine XS.iload X218.here hx rfl (hb hby d5_60) rfl ?_
        show Steps p.tables e below (T218.setTop (mkF m 62 #[vR a1, vI (3 : Int32), vR a2, vI (0 : Int32), vI (1 : Int32), vI (2 : Int32), .unset, .unset, .unset, .unset, .unset] [(.int (1 : Int32)), (.ref a2), (.double d216)])) _
        refine XS.iloadN X218.here hx rfl (hb hby d5_62) rfl ?_
        show Steps p.tables e below (T218.setTop (mkF m 63 #[vR a1, vI (3 : Int32), vR a2, vI (0 : Int32), vI (1 : Int32), vI (2 : Int32), .unset, .unset, .unset, .unset, .unset] [(.int (3 : Int32)), (.int (1 : Int32)), (.ref a2), (.double d216)])) _
        refine XS.imul X218.here hx rfl (hb hby d5_63) rfl ?_
        refine XS.iloadN X218.here hx rfl (hb hby d5_64) rfl ?_
        show Steps p.tables e below (T218.setTop (mkF m 65 #[vR a1, vI (3 : Int32), vR a2, vI (0 : Int32), vI (1 : Int32), vI (2 : Int32), .unset, .unset, .unset, .unset, .unset] [(.int (0 : Int32)), (.int ((1 : Int32) * (3 : Int32))), (.ref a2), (.double d216)])) _
        refine XS.iadd X218.here hx rfl (hb hby d5_65) rfl ?_
        exact kt
      clear R217 st218
      obtain ⟨cl220, d220, Ar220, hin220, hat220, G220⟩ := VA.at (j := (((1 : Int32) * (3 : Int32)) + (0 : Int32))) (k := 3) (by decide) (by decide) (by decide)
      have H220 : DR 2 x3 d220 := G220
      have R221 : ∀ tg, Steps p.tables e below (T218.setTop (mkF m 67 #[vR a1, vI (3 : Int32), vR a2, vI (0 : Int32), vI (1 : Int32), vI (2 : Int32), .unset, .unset, .unset, .unset, .unset] [(.double d220), (.double d216)])) tg → Steps p.tables e below (T0.setTop (mkF m 23 #[vR a1, vI (3 : Int32), vR a2, vI (0 : Int32), .unset, .unset, .unset, .unset, .unset, .unset, .unset] [])) tg := by
        intro tg kt
        refine R219 _ ?_
        show Steps p.tables e below (T218.setTop (mkF m 66 #[vR a1, vI (3 : Int32), vR a2, vI (0 : Int32), vI (1 : Int32), vI (2 : Int32), .unset, .unset, .unset, .unset, .unset] [(.int (((1 : Int32) * (3 : Int32)) + (0 : Int32))), (.ref a2), (.double d216)])) _
        refine X218.daload hx (j := (((1 : Int32) * (3 : Int32)) + (0 : Int32))) (v := (.double d220)) (by rw [e218]; exact Ar220.1) (State.isArrayOf_alike hZ.alike Ar220.2.1) Ar220.2.2 hin220 hat220 (g := (mkF m 66 #[vR a1, vI (3 : Int32), vR a2, vI (0 : Int32), vI (1 : Int32), vI (2 : Int32), .unset, .unset, .unset, .unset, .unset] [(.int (((1 : Int32) * (3 : Int32)) + (0 : Int32))), (.ref a2), (.double d216)])) rfl rfl (hb hby d5_66) _ ?_
        exact kt
      clear R219
      obtain ⟨d222, hv222, H222⟩ : ∃ v, (d220 &&& 0x7fffffffffffffff) = v ∧ DR 2 ((x3).natAbs : Int) v := ⟨_, rfl, H220.abs⟩
      obtain ⟨T222, X222, e222, st222⟩ := natS X218 hx hZ (y := (⟨"java/lang/Math", "abs", "(D)D"⟩ : MethodName)) hown (hw _ (List.mem_of_getElem? (i := 33) rfl)) (hw _ (List.mem_of_getElem? (i := 34) rfl)) (hw _ (List.mem_of_getElem? (i := 35) rfl)) (hw _ (List.mem_of_getElem? (i := 36) rfl)) (by decide) e218 (W := 2) (fun hc => Jvm.Free.Fl.Abs.absD_pays (W := 2) d220 hc (by decide) (by decide)) (g := (mkF m 67 #[vR a1, vI (3 : Int32), vR a2, vI (0 : Int32), vI (1 : Int32), vI (2 : Int32), .unset, .unset, .unset, .unset, .unset] [(.double d220), (.double d216)])) rfl (by rw [hml]; rfl) (argsL := [(.double d220)]) (rest := [(.double d216)]) (lenOf pd_1 rfl) rfl (by show 2 * 0 + _ ≤ _; exact Nat.le_of_eq rfl) (hb hby d5_67) (by decide) (by decide) ⟨rfl, H220.nn⟩ (congrArg Value.double hv222)
      have R223 : ∀ tg, Steps p.tables e below (T222.setTop (mkF m 70 #[vR a1, vI (3 : Int32), vR a2, vI (0 : Int32), vI (1 : Int32), vI (2 : Int32), .unset, .unset, .unset, .unset, .unset] [(.double d222), (.double d216)])) tg → Steps p.tables e below (T0.setTop (mkF m 23 #[vR a1, vI (3 : Int32), vR a2, vI (0 : Int32), .unset, .unset, .unset, .unset, .unset, .unset, .unset] [])) tg := by
        intro tg kt
        refine R221 _ ?_
        refine st222 _ ?_
        exact kt
      clear R221 st222
      have R224 : ∀ tg, Steps p.tables e below (T222.setTop (mkF m 36 #[vR a1, vI (3 : Int32), vR a2, vI (0 : Int32), vI (2 : Int32), vI ((2 : Int32) + (1 : Int32)), .unset, .unset, .unset, .unset, .unset] [])) tg → Steps p.tables e below (T0.setTop (mkF m 23 #[vR a1, vI (3 : Int32), vR a2, vI (0 : Int32), .unset, .unset, .unset, .unset, .unset, .unset, .unset] [])) tg := by
        intro tg kt
        refine R223 _ ?_
        show Steps p.tables e below (T222.setTop (mkF m 70 #[vR a1, vI (3 : Int32), vR a2, vI (0 : Int32), vI (1 : Int32), vI (2 : Int32), .unset, .unset, .unset, .unset, .unset] [(.double d222), (.double d216)])) _
        refine XS.dcmpS X222.here hx rfl (hb hby d5_70) rfl (own_cvl H216 H222 _) ?_
        show Steps p.tables e below (T222.setTop (mkF m 71 #[vR a1, vI (3 : Int32), vR a2, vI (0 : Int32), vI (1 : Int32), vI (2 : Int32), .unset, .unset, .unset, .unset, .unset] [(.int (own_cv ((x6).natAbs : Int) ((x3).natAbs : Int)))])) _
        refine XS.ifNo X222.here hx rfl (hb hby d5_71) rfl ((if0 _ _).trans (tlt (own_gt0 h2 : (0 : Int32) < (own_cv ((x6).natAbs : Int) ((x3).natAbs : Int)))).2.2.2) ?_
        refine XS.iload X222.here hx rfl (hb hby d5_74) rfl ?_
        show Steps p.tables e below (T222.setTop (mkF m 76 #[vR a1, vI (3 : Int32), vR a2, vI (0 : Int32), vI (1 : Int32), vI (2 : Int32), .unset, .unset, .unset, .unset, .unset] [(.int (2 : Int32))])) _
        refine XS.istore X222.here hx rfl (hb hby d5_76) rfl (l' := #[vR a1, vI (3 : Int32), vR a2, vI (0 : Int32), vI (2 : Int32), vI (2 : Int32), .unset, .unset, .unset, .unset, .unset]) rfl ?_
        show Steps p.tables e below (T222.setTop (mkF m 78 #[vR a1, vI (3 : Int32), vR a2, vI (0 : Int32), vI (2 : Int32), vI (2 : Int32), .unset, .unset, .unset, .unset, .unset] [])) _
        refine XS.iinc X222.here hx rfl (hb hby d5_78) rfl (l' := #[vR a1, vI (3 : Int32), vR a2, vI (0 : Int32), vI (2 : Int32), vI ((2 : Int32) + (1 : Int32)), .unset, .unset, .unset, .unset, .unset]) rfl ?_
        show Steps p.tables e below (T222.setTop (mkF m 81 #[vR a1, vI (3 : Int32), vR a2, vI (0 : Int32), vI (2 : Int32), vI ((2 : Int32) + (1 : Int32)), .unset, .unset, .unset, .unset, .unset] [])) _
        refine XS.goto X222.here hx rfl (pc0 := 81) (pc' := 36) rfl (hb hby d5_81) (by decide) (by decide) ?_
        exact kt
      clear R223
      have R225 : ∀ tg, Steps p.tables e below (T222.setTop (mkF m 36 #[vR a1, vI (3 : Int32), vR a2, vI (0 : Int32), vI (2 : Int32), vI (3 : Int32), .unset, .unset, .unset, .unset, .unset] [])) tg → Steps p.tables e below (T0.setTop (mkF m 23 #[vR a1, vI (3 : Int32), vR a2, vI (0 : Int32), .unset, .unset, .unset, .unset, .unset, .unset, .unset] [])) tg := R224
      have R226 : ∀ tg, Steps p.tables e below (T222.setTop (mkF m 84 #[vR a1, vI (3 : Int32), vR a2, vI (0 : Int32), vI (2 : Int32), vI (3 : Int32), .unset, .unset, .unset, .unset, .unset] [])) tg → Steps p.tables e below (T0.setTop (mkF m 23 #[vR a1, vI (3 : Int32), vR a2, vI (0 : Int32), .unset, .unset, .unset, .unset, .unset, .unset, .unset] [])) tg := by
        intro tg kt
        refine R225 _ ?_
        show Steps p.tables e below (T222.setTop (mkF m 36 #[vR a1, vI (3 : Int32), vR a2, vI (0 : Int32), vI (2 : Int32), vI (3 : Int32), .unset, .unset, .unset, .unset, .unset] [])) _
        refine XS.iload X222.here hx rfl (hb hby d5_36) rfl ?_
        refine XS.iloadN X222.here hx rfl (hb hby d5_38) rfl ?_
        show Steps p.tables e below (T222.setTop (mkF m 39 #[vR a1, vI (3 : Int32), vR a2, vI (0 : Int32), vI (2 : Int32), vI (3 : Int32), .unset, .unset, .unset, .unset, .unset] [(.int (3 : Int32)), (.int (3 : Int32))])) _
        refine XS.icmpYes X222.here hx rfl (pc0 := 39) (pc' := 84) rfl (hb hby d5_39) rfl (flt (by decide : ¬ ((3 : Int32) < (3 : Int32)))).2.1 (by decide) (by decide) ?_
        exact kt
      clear R225
      have R227 : ∀ tg, Steps p.tables e below (T222.setTop (mkF m 84 #[vR a1, vI (3 : Int32), vR a2, vI (0 : Int32), vI (Int32.ofNat 2), vI (3 : Int32), .unset, .unset, .unset, .unset, .unset] [])) tg → Steps p.tables e below (T0.setTop (mkF m 23 #[vR a1, vI (3 : Int32), vR a2, vI (0 : Int32), .unset, .unset, .unset, .unset, .unset, .unset, .unset] [])) tg := R226
      exact ⟨_, X222, e222, R227⟩
    · have R228 : ∀ tg, Steps p.tables e below (T206.setTop (mkF m 36 #[vR a1, vI (3 : Int32), vR a2, vI (0 : Int32), vI (0 : Int32), vI ((1 : Int32) + (1 : Int32)), .unset, .unset, .unset, .unset, .unset] [])) tg → Steps p.tables e below (T0.setTop (mkF m 23 #[vR a1, vI (3 : Int32), vR a2, vI (0 : Int32), .unset, .unset, .unset, .unset, .unset, .unset, .unset] [])) tg := by
        intro tg kt
        refine R208 _ ?_
        show Steps p.tables e below (T206.setTop (mkF m 71 #[vR a1, vI (3 : Int32), vR a2, vI (0 : Int32), vI (0 : Int32), vI (1 : Int32), .unset, .unset, .unset, .unset, .unset] [(.int (own_cv ((x3).natAbs : Int) ((x0).natAbs : Int)))])) _
        refine XS.ifYes X206.here hx rfl (pc0 := 71) (pc' := 78) rfl (hb hby d5_71) rfl ((if0 _ _).trans (flt (hc : ¬ ((0 : Int32) < (own_cv ((x3).natAbs : Int) ((x0).natAbs : Int))))).2.2.2) (by decide) (by decide) ?_
        show Steps p.tables e below (T206.setTop (mkF m 78 #[vR a1, vI (3 : Int32), vR a2, vI (0 : Int32), vI (0 : Int32), vI (1 : Int32), .unset, .unset, .unset, .unset, .unset] [])) _
        refine XS.iinc X206.here hx rfl (hb hby d5_78) rfl (l' := #[vR a1, vI (3 : Int32), vR a2, vI (0 : Int32), vI (0 : Int32), vI ((1 : Int32) + (1 : Int32)), .unset, .unset, .unset, .unset, .unset]) rfl ?_
        show Steps p.tables e below (T206.setTop (mkF m 81 #[vR a1, vI (3 : Int32), vR a2, vI (0 : Int32), vI (0 : Int32), vI ((1 : Int32) + (1 : Int32)), .unset, .unset, .unset, .unset, .unset] [])) _
        refine XS.goto X206.here hx rfl (pc0 := 81) (pc' := 36) rfl (hb hby d5_81) (by decide) (by decide) ?_
        exact kt
      clear R208
      have R229 : ∀ tg, Steps p.tables e below (T206.setTop (mkF m 36 #[vR a1, vI (3 : Int32), vR a2, vI (0 : Int32), vI (0 : Int32), vI (2 : Int32), .unset, .unset, .unset, .unset, .unset] [])) tg → Steps p.tables e below (T0.setTop (mkF m 23 #[vR a1, vI (3 : Int32), vR a2, vI (0 : Int32), .unset, .unset, .unset, .unset, .unset, .unset, .unset] [])) tg := R228
      have R230 : ∀ tg, Steps p.tables e below (T206.setTop (mkF m 43 #[vR a1, vI (3 : Int32), vR a2, vI (0 : Int32), vI (0 : Int32), vI (2 : Int32), .unset, .unset, .unset, .unset, .unset] [(.ref a1)])) tg → Steps p.tables e below (T0.setTop (mkF m 23 #[vR a1, vI (3 : Int32), vR a2, vI (0 : Int32), .unset, .unset, .unset, .unset, .unset, .unset, .unset] [])) tg := by
        intro tg kt
        refine R229 _ ?_
        show Steps p.tables e below (T206.setTop (mkF m 36 #[vR a1, vI (3 : Int32), vR a2, vI (0 : Int32), vI (0 : Int32), vI (2 : Int32), .unset, .unset, .unset, .unset, .unset] [])) _
        refine XS.iload X206.here hx rfl (hb hby d5_36) rfl ?_
        refine XS.iloadN X206.here hx rfl (hb hby d5_38) rfl ?_
        show Steps p.tables e below (T206.setTop (mkF m 39 #[vR a1, vI (3 : Int32), vR a2, vI (0 : Int32), vI (0 : Int32), vI (2 : Int32), .unset, .unset, .unset, .unset, .unset] [(.int (3 : Int32)), (.int (2 : Int32))])) _
        refine XS.icmpNo X206.here hx rfl (hb hby d5_39) rfl (tlt (by decide : (2 : Int32) < (3 : Int32))).2.1 ?_
        refine XS.aloadN X206.here hx rfl (hb hby d5_42) rfl rfl ?_
        exact kt
      clear R229
      obtain ⟨T231, X231, e231, st231⟩ := getF X206 hx hZ hown (host := "") (Or.inl (hw _ (List.mem_of_getElem? (i := 28) rfl))) Via.refl e206 Fl (g := (mkF m 43 #[vR a1, vI (3 : Int32), vR a2, vI (0 : Int32), vI (0 : Int32), vI (2 : Int32), .unset, .unset, .unset, .unset, .unset] [(.ref a1)])) rfl rfl (hb hby d5_43)
      have R232 : ∀ tg, Steps p.tables e below (T231.setTop (mkF m 52 #[vR a1, vI (3 : Int32), vR a2, vI (0 : Int32), vI (0 : Int32), vI (2 : Int32), .unset, .unset, .unset, .unset, .unset] [(.int (((2 : Int32) * (3 : Int32)) + (0 : Int32))), (.ref a2)])) tg → Steps p.tables e below (T0.setTop (mkF m 23 #[vR a1, vI (3 : Int32), vR a2, vI (0 : Int32), .unset, .unset, .unset, .unset, .unset, .unset, .unset] [])) tg := by
        intro tg kt
        refine R230 _ ?_
        refine st231 _ ?_
        refine XS.iload X231.here hx rfl (hb hby d5_46) rfl ?_
        show Steps p.tables e below (T231.setTop (mkF m 48 #[vR a1, vI (3 : Int32), vR a2, vI (0 : Int32), vI (0 : Int32), vI (2 : Int32), .unset, .unset, .unset, .unset, .unset] [(.int (2 : Int32)), (.ref a2)])) _
        refine XS.iloadN X231.here hx rfl (hb hby d5_48) rfl ?_
        show Steps p.tables e below (T231.setTop (mkF m 49 #[vR a1, vI (3 : Int32), vR a2, vI (0 : Int32), vI (0 : Int32), vI (2 : Int32), .unset, .unset, .unset, .unset, .unset] [(.int (3 : Int32)), (.int (2 : Int32)), (.ref a2)])) _
        refine XS.imul X231.here hx rfl (hb hby d5_49) rfl ?_
        refine XS.iloadN X231.here hx rfl (hb hby d5_50) rfl ?_
        show Steps p.tables e below (T231.setTop (mkF m 51 #[vR a1, vI (3 : Int32), vR a2, vI (0 : Int32), vI (0 : Int32), vI (2 : Int32), .unset, .unset, .unset, .unset, .unset] [(.int (0 : Int32)), (.int ((2 : Int32) * (3 : Int32))), (.ref a2)])) _
        refine XS.iadd X231.here hx rfl (hb hby d5_51) rfl ?_
        exact kt
      clear R230 st231
      obtain ⟨cl233, d233, Ar233, hin233, hat233, G233⟩ := VA.at (j := (((2 : Int32) * (3 : Int32)) + (0 : Int32))) (k := 6) (by decide) (by decide) (by decide)
      have H233 : DR 2 x6 d233 := G233
      have R234 : ∀ tg, Steps p.tables e below (T231.setTop (mkF m 53 #[vR a1, vI (3 : Int32), vR a2, vI (0 : Int32), vI (0 : Int32), vI (2 : Int32), .unset, .unset, .unset, .unset, .unset] [(.double d233)])) tg → Steps p.tables e below (T0.setTop (mkF m 23 #[vR a1, vI (3 : Int32), vR a2, vI (0 : Int32), .unset, .unset, .unset, .unset, .unset, .unset, .unset] [])) tg := by
        intro tg kt
        refine R232 _ ?_
        show Steps p.tables e below (T231.setTop (mkF m 52 #[vR a1, vI (3 : Int32), vR a2, vI (0 : Int32), vI (0 : Int32), vI (2 : Int32), .unset, .unset, .unset, .unset, .unset] [(.int (((2 : Int32) * (3 : Int32)) + (0 : Int32))), (.ref a2)])) _
        refine X231.daload hx (j := (((2 : Int32) * (3 : Int32)) + (0 : Int32))) (v := (.double d233)) (by rw [e231]; exact Ar233.1) (State.isArrayOf_alike hZ.alike Ar233.2.1) Ar233.2.2 hin233 hat233 (g := (mkF m 52 #[vR a1, vI (3 : Int32), vR a2, vI (0 : Int32), vI (0 : Int32), vI (2 : Int32), .unset, .unset, .unset, .unset, .unset] [(.int (((2 : Int32) * (3 : Int32)) + (0 : Int32))), (.ref a2)])) rfl rfl (hb hby d5_52) _ ?_
        exact kt
      clear R232
      obtain ⟨d235, hv235, H235⟩ : ∃ v, (d233 &&& 0x7fffffffffffffff) = v ∧ DR 2 ((x6).natAbs : Int) v := ⟨_, rfl, H233.abs⟩
      obtain ⟨T235, X235, e235, st235⟩ := natS X231 hx hZ (y := (⟨"java/lang/Math", "abs", "(D)D"⟩ : MethodName)) hown (hw _ (List.mem_of_getElem? (i := 33) rfl)) (hw _ (List.mem_of_getElem? (i := 34) rfl)) (hw _ (List.mem_of_getElem? (i := 35) rfl)) (hw _ (List.mem_of_getElem? (i := 36) rfl)) (by decide) e231 (W := 0) (fun hc => Jvm.Free.Fl.Abs.absD_pays (W := 0) d233 hc (by decide) (by decide)) (g := (mkF m 53 #[vR a1, vI (3 : Int32), vR a2, vI (0 : Int32), vI (0 : Int32), vI (2 : Int32), .unset, .unset, .unset, .unset, .unset] [(.double d233)])) rfl (by rw [hml]; rfl) (argsL := [(.double d233)]) (rest := []) (lenOf pd_1 rfl) rfl (by show 2 * 0 + _ ≤ _; exact Nat.le_of_eq rfl) (hb hby d5_53) (by decide) (by decide) ⟨rfl, H233.nn⟩ (congrArg Value.double hv235)
      have R236 : ∀ tg, Steps p.tables e below (T235.setTop (mkF m 57 #[vR a1, vI (3 : Int32), vR a2, vI (0 : Int32), vI (0 : Int32), vI (2 : Int32), .unset, .unset, .unset, .unset, .unset] [(.ref a1), (.double d235)])) tg → Steps p.tables e below (T0.setTop (mkF m 23 #[vR a1, vI (3 : Int32), vR a2, vI (0 : Int32), .unset, .unset, .unset, .unset, .unset, .unset, .unset] [])) tg := by
        intro tg kt
        refine R234 _ ?_
        refine st235 _ ?_
        refine XS.aloadN X235.here hx rfl (hb hby d5_56) rfl rfl ?_
        exact kt
      clear R234 st235
      obtain ⟨T237, X237, e237, st237⟩ := getF X235 hx hZ hown (host := "") (Or.inl (hw _ (List.mem_of_getElem? (i := 28) rfl))) Via.refl e235 Fl (g := (mkF m 57 #[vR a1, vI (3 : Int32), vR a2, vI (0 : Int32), vI (0 : Int32), vI (2 : Int32), .unset, .unset, .unset, .unset, .unset] [(.ref a1), (.double d235)])) rfl rfl (hb hby d5_57)
      have R238 : ∀ tg, Steps p.tables e below (T237.setTop (mkF m 66 #[vR a1, vI (3 : Int32), vR a2, vI (0 : Int32), vI (0 : Int32), vI (2 : Int32), .unset, .unset, .unset, .unset, .unset] [(.int (((0 : Int32) * (3 : Int32)) + (0 : Int32))), (.ref a2), (.double d235)])) tg → Steps p.tables e below (T0.setTop (mkF m 23 #[vR a1, vI (3 : Int32), vR a2, vI (0 : Int32), .unset, .unset, .unset, .unset, .unset, .unset, .unset] [])) tg := by
        intro tg kt
        refine R236 _ ?_
        refine st237 _ ?_
        refine XS.iload X237.here hx rfl (hb hby d5_60) rfl ?_
        show Steps p.tables e below (T237.setTop (mkF m 62 #[vR a1, vI (3 : Int32), vR a2, vI (0 : Int32), vI (0 : Int32), vI (2 : Int32), .unset, .unset, .unset, .unset, .unset] [(.int (0 : Int32)), (.ref a2), (.double d235)])) _
        refine XS.iloadN X237.here hx rfl (hb hby d5_62) rfl ?_
        show Steps p.tables e below (T237.setTop (mkF m 63 #[vR a1, vI (3 : Int32), vR a2, vI (0 : Int32), vI (0 : Int32), vI (2 : Int32), .unset, .unset, .unset, .unset, .unset] [(.int (3 : Int32)), (.int (0 : Int32)), (.ref a2), (.double d235)])) _
        refine XS.imul X237.here hx rfl (hb hby d5_63) rfl ?_
        refine XS.iloadN X237.here hx rfl (hb hby d5_64) rfl ?_
        show Steps p.tables e below (T237.setTop (mkF m 65 #[vR a1, vI (3 : Int32), vR a2, vI (0 : Int32), vI (0 : Int32), vI (2 : Int32), .unset, .unset, .unset, .unset, .unset] [(.int (0 : Int32)), (.int ((0 : Int32) * (3 : Int32))), (.ref a2), (.double d235)])) _
        refine XS.iadd X237.here hx rfl (hb hby d5_65) rfl ?_
        exact kt
      clear R236 st237
      obtain ⟨cl239, d239, Ar239, hin239, hat239, G239⟩ := VA.at (j := (((0 : Int32) * (3 : Int32)) + (0 : Int32))) (k := 0) (by decide) (by decide) (by decide)
      have H239 : DR 2 x0 d239 := G239
      have R240 : ∀ tg, Steps p.tables e below (T237.setTop (mkF m 67 #[vR a1, vI (3 : Int32), vR a2, vI (0 : Int32), vI (0 : Int32), vI (2 : Int32), .unset, .unset, .unset, .unset, .unset] [(.double d239), (.double d235)])) tg → Steps p.tables e below (T0.setTop (mkF m 23 #[vR a1, vI (3 : Int32), vR a2, vI (0 : Int32), .unset, .unset, .unset, .unset, .unset, .unset, .unset] [])) tg := by
        intro tg kt
        refine R238 _ ?_
        show Steps p.tables e below (T237.setTop (mkF m 66 #[vR a1, vI (3 : Int32), vR a2, vI (0 : Int32), vI (0 : Int32), vI (2 : Int32), .unset, .unset, .unset, .unset, .unset] [(.int (((0 : Int32) * (3 : Int32)) + (0 : Int32))), (.ref a2), (.double d235)])) _
        refine X237.daload hx (j := (((0 : Int32) * (3 : Int32)) + (0 : Int32))) (v := (.double d239)) (by rw [e237]; exact Ar239.1) (State.isArrayOf_alike hZ.alike Ar239.2.1) Ar239.2.2 hin239 hat239 (g := (mkF m 66 #[vR a1, vI (3 : Int32), vR a2, vI (0 : Int32), vI (0 : Int32), vI (2 : Int32), .unset, .unset, .unset, .unset, .unset] [(.int (((0 : Int32) * (3 : Int32)) + (0 : Int32))), (.ref a2), (.double d235)])) rfl rfl (hb hby d5_66) _ ?_
        exact kt
      clear R238
      obtain ⟨d241, hv241, H241⟩ : ∃ v, (d239 &&& 0x7fffffffffffffff) = v ∧ DR 2 ((x0).natAbs : Int) v := ⟨_, rfl, H239.abs⟩
      obtain ⟨T241, X241, e241, st241⟩ := natS X237 hx hZ (y := (⟨"java/lang/Math", "abs", "(D)D"⟩ : MethodName)) hown (hw _ (List.mem_of_getElem? (i := 33) rfl)) (hw _ (List.mem_of_getElem? (i := 34) rfl)) (hw _ (List.mem_of_getElem? (i := 35) rfl)) (hw _ (List.mem_of_getElem? (i := 36) rfl)) (by decide) e237 (W := 2) (fun hc => Jvm.Free.Fl.Abs.absD_pays (W := 2) d239 hc (by decide) (by decide)) (g := (mkF m 67 #[vR a1, vI (3 : Int32), vR a2, vI (0 : Int32), vI (0 : Int32), vI (2 : Int32), .unset, .unset, .unset, .unset, .unset] [(.double d239), (.double d235)])) rfl (by rw [hml]; rfl) (argsL := [(.double d239)]) (rest := [(.double d235)]) (lenOf pd_1 rfl) rfl (by show 2 * 0 + _ ≤ _; exact Nat.le_of_eq rfl) (hb hby d5_67) (by decide) (by decide) ⟨rfl, H239.nn⟩ (congrArg Value.double hv241)
      have R242 : ∀ tg, Steps p.tables e below (T241.setTop (mkF m 70 #[vR a1, vI (3 : Int32), vR a2, vI (0 : Int32), vI (0 : Int32), vI (2 : Int32), .unset, .unset, .unset, .unset, .unset] [(.double d241), (.double d235)])) tg → Steps p.tables e below (T0.setTop (mkF m 23 #[vR a1, vI (3 : Int32), vR a2, vI (0 : Int32), .unset, .unset, .unset, .unset, .unset, .unset, .unset] [])) tg := by
        intro tg kt
        refine R240 _ ?_
        refine st241 _ ?_
        exact kt
      clear R240 st241
      have R243 : ∀ tg, Steps p.tables e below (T241.setTop (mkF m 36 #[vR a1, vI (3 : Int32), vR a2, vI (0 : Int32), vI (2 : Int32), vI ((2 : Int32) + (1 : Int32)), .unset, .unset, .unset, .unset, .unset] [])) tg → Steps p.tables e below (T0.setTop (mkF m 23 #[vR a1, vI (3 : Int32), vR a2, vI (0 : Int32), .unset, .unset, .unset, .unset, .unset, .unset, .unset] [])) tg := by
        intro tg kt
        refine R242 _ ?_
        show Steps p.tables e below (T241.setTop (mkF m 70 #[vR a1, vI (3 : Int32), vR a2, vI (0 : Int32), vI (0 : Int32), vI (2 : Int32), .unset, .unset, .unset, .unset, .unset] [(.double d241), (.double d235)])) _
        refine XS.dcmpS X241.here hx rfl (hb hby d5_70) rfl (own_cvl H235 H241 _) ?_
        show Steps p.tables e below (T241.setTop (mkF m 71 #[vR a1, vI (3 : Int32), vR a2, vI (0 : Int32), vI (0 : Int32), vI (2 : Int32), .unset, .unset, .unset, .unset, .unset] [(.int (own_cv ((x6).natAbs : Int) ((x0).natAbs : Int)))])) _
        refine XS.ifNo X241.here hx rfl (hb hby d5_71) rfl ((if0 _ _).trans (tlt (own_gt0 h1 : (0 : Int32) < (own_cv ((x6).natAbs : Int) ((x0).natAbs : Int)))).2.2.2) ?_
        refine XS.iload X241.here hx rfl (hb hby d5_74) rfl ?_
        show Steps p.tables e below (T241.setTop (mkF m 76 #[vR a1, vI (3 : Int32), vR a2, vI (0 : Int32), vI (0 : Int32), vI (2 : Int32), .unset, .unset, .unset, .unset, .unset] [(.int (2 : Int32))])) _
        refine XS.istore X241.here hx rfl (hb hby d5_76) rfl (l' := #[vR a1, vI (3 : Int32), vR a2, vI (0 : Int32), vI (2 : Int32), vI (2 : Int32), .unset, .unset, .unset, .unset, .unset]) rfl ?_
        show Steps p.tables e below (T241.setTop (mkF m 78 #[vR a1, vI (3 : Int32), vR a2, vI (0 : Int32), vI (2 : Int32), vI (2 : Int32), .unset, .unset, .unset, .unset, .unset] [])) _
        refine XS.iinc X241.here hx rfl (hb hby d5_78) rfl (l' := #[vR a1, vI (3 : Int32), vR a2, vI (0 : Int32), vI (2 : Int32), vI ((2 : Int32) + (1 : Int32)), .unset, .unset, .unset, .unset, .unset]) rfl ?_
        show Steps p.tables e below (T241.setTop (mkF m 81 #[vR a1, vI (3 : Int32), vR a2, vI (0 : Int32), vI (2 : Int32), vI ((2 : Int32) + (1 : Int32)), .unset, .unset, .unset, .unset, .unset] [])) _
        refine XS.goto X241.here hx rfl (pc0 := 81) (pc' := 36) rfl (hb hby d5_81) (by decide) (by decide) ?_
        exact kt
      clear R242
      have R244 : ∀ tg, Steps p.tables e below (T241.setTop (mkF m 36 #[vR a1, vI (3 : Int32), vR a2, vI (0 : Int32), vI (2 : Int32), vI (3 : Int32), .unset, .unset, .unset, .unset, .unset] [])) tg → Steps p.tables e below (T0.setTop (mkF m 23 #[vR a1, vI (3 : Int32), vR a2, vI (0 : Int32), .unset, .unset, .unset, .unset, .unset, .unset, .unset] [])) tg := R243
      have R245 : ∀ tg, Steps p.tables e below (T241.setTop (mkF m 84 #[vR a1, vI (3 : Int32), vR a2, vI (0 : Int32), vI (2 : Int32), vI (3 : Int32), .unset, .unset, .unset, .unset, .unset] [])) tg → Steps p.tables e below (T0.setTop (mkF m 23 #[vR a1, vI (3 : Int32), vR a2, vI (0 : Int32), .unset, .unset, .unset, .unset, .unset, .unset, .unset] [])) tg := by
        intro tg kt
        refine R244 _ ?_
        show Steps p.tables e below (T241.setTop (mkF m 36 #[vR a1, vI (3 : Int32), vR a2, vI (0 : Int32), vI (2 : Int32), vI (3 : Int32), .unset, .unset, .unset, .unset, .unset] [])) _
        refine XS.iload X241.here hx rfl (hb hby d5_36) rfl ?_
        refine XS.iloadN X241.here hx rfl (hb hby d5_38) rfl ?_
        show Steps p.tables e below (T241.setTop (mkF m 39 #[vR a1, vI (3 : Int32), vR a2, vI (0 : Int32), vI (2 : Int32), vI (3 : Int32), .unset, .unset, .unset, .unset, .unset] [(.int (3 : Int32)), (.int (3 : Int32))])) _
        refine XS.icmpYes X241.here hx rfl (pc0 := 39) (pc' := 84) rfl (hb hby d5_39) rfl (flt (by decide : ¬ ((3 : Int32) < (3 : Int32)))).2.1 (by decide) (by decide) ?_
        exact kt
      clear R244
      have R246 : ∀ tg, Steps p.tables e below (T241.setTop (mkF m 84 #[vR a1, vI (3 : Int32), vR a2, vI (0 : Int32), vI (Int32.ofNat 2), vI (3 : Int32), .unset, .unset, .unset, .unset, .unset] [])) tg → Steps p.tables e below (T0.setTop (mkF m 23 #[vR a1, vI (3 : Int32), vR a2, vI (0 : Int32), .unset, .unset, .unset, .unset, .unset, .unset, .unset] [])) tg := R245
      exact ⟨_, X241, e241, R246⟩
set_option maxRecDepth 65536 in
set_option maxHeartbeats 40000000 in
theorem lp_p1 {p : Program} {l : Launch} {e : Env} {s : State} {m : MethodId} {args : Array Value} {below : List Frame} {meth : Method} {c : Code} {Z : State} {a0 : Array Value} {n0 : Nat} {T0 : State} {locs : List Loc} {h0 : Heap} (a1 : Addr) (a2 : Addr) (x0 : Int) (x1 : Int) (x2 : Int) (x3 : Int) (x4 : Int) (x5 : Int) (x6 : Int) (x7 : Int) (x8 : Int) (ka : Nat) (pp : Int32) (dg : UInt64) (s7 : Slot) (s8 : Slot) (s9 : Slot) (s10 : Slot) (X0 : Stand p l e ({ frames := 1, cells := 1, slots := 3, locals := 24 } : Room) s m args below meth c T0 locs 1 3) (hx : p.tables.exec = Jvm.exec) (hZ : Z.Warmed39 s.vm) (hw : ∀ d ∈ tables_1, d.before a0 Z = true) (hby : c.code = prog_76_method_1_code) (hml : c.maxLocals = 11) (hown : s.vm.findClass "com/example/inexact_odds/inexactodds/reach/DenseLu" = some m.cls) (e0 : T0.heap = h0) (N0 : Fr n0 locs) (Fl : Fld Z h0 a1 "com/example/inexact_odds/inexactodds/reach/DenseLu" "lu" "[D" (.ref a2)) (VA : VD Z h0 a2 9 [x0, x1, x2, x3, x4, x5, x6, x7, x8]) (hP : own_P1 ka x4 x7) :
    ∃ (T' : State), Stand p l e ({ frames := 1, cells := 1, slots := 3, locals := 24 } : Room) s m args below meth c T' locs 1 3 ∧ T'.heap = h0 ∧ ∀ tg, Steps p.tables e below (T'.setTop (mkF m 84 #[vR a1, vI (3 : Int32), vR a2, vI (1 : Int32), vI (Int32.ofNat ka), vI (3 : Int32), .unset, s7, s8, s9, s10] [])) tg → Steps p.tables e below (T0.setTop (mkF m 23 #[vR a1, vI (3 : Int32), vR a2, vI (1 : Int32), vI pp, vD dg, .second, s7, s8, s9, s10] [])) tg := by
  have R247 : ∀ tg, Steps p.tables e below (T0.setTop (mkF m 36 #[vR a1, vI (3 : Int32), vR a2, vI (1 : Int32), vI (1 : Int32), vI ((1 : Int32) + (1 : Int32)), .unset, s7, s8, s9, s10] [])) tg → Steps p.tables e below (T0.setTop (mkF m 23 #[vR a1, vI (3 : Int32), vR a2, vI (1 : Int32), vI pp, vD dg, .second, s7, s8, s9, s10] [])) tg := by
    intro tg kt
    refine (fun (t : State) (k : Steps p.tables e below (T0.setTop (mkF m 23 #[vR a1, vI (3 : Int32), vR a2, vI (1 : Int32), vI pp, vD dg, .second, s7, s8, s9, s10] [])) t) => k) _ ?_
    show Steps p.tables e below (T0.setTop (mkF m 23 #[vR a1, vI (3 : Int32), vR a2, vI (1 : Int32), vI pp, vD dg, .second, s7, s8, s9, s10] [])) _
    refine XS.iloadN X0.here hx rfl (hb hby d5_23) rfl ?_
    refine XS.iloadN X0.here hx rfl (hb hby d5_24) rfl ?_
    show Steps p.tables e below (T0.setTop (mkF m 25 #[vR a1, vI (3 : Int32), vR a2, vI (1 : Int32), vI pp, vD dg, .second, s7, s8, s9, s10] [(.int (3 : Int32)), (.int (1 : Int32))])) _
    refine XS.icmpNo X0.here hx rfl (hb hby d5_25) rfl (tlt (by decide : (1 : Int32) < (3 : Int32))).2.1 ?_
    refine XS.iloadN X0.here hx rfl (hb hby d5_28) rfl ?_
    show Steps p.tables e below (T0.setTop (mkF m 29 #[vR a1, vI (3 : Int32), vR a2, vI (1 : Int32), vI pp, vD dg, .second, s7, s8, s9, s10] [(.int (1 : Int32))])) _
    refine XS.istore X0.here hx rfl (hb hby d5_29) rfl (l' := #[vR a1, vI (3 : Int32), vR a2, vI (1 : Int32), vI (1 : Int32), vD dg, .second, s7, s8, s9, s10]) rfl ?_
    refine XS.iloadN X0.here hx rfl (hb hby d5_31) rfl ?_
    refine XS.iconst X0.here hx rfl (hb hby d5_32) ?_
    show Steps p.tables e below (T0.setTop (mkF m 33 #[vR a1, vI (3 : Int32), vR a2, vI (1 : Int32), vI (1 : Int32), vD dg, .second, s7, s8, s9, s10] [(.int (1 : Int32)), (.int (1 : Int32))])) _
    refine XS.iadd X0.here hx rfl (hb hby d5_33) rfl ?_
    show Steps p.tables e below (T0.setTop (mkF m 34 #[vR a1, vI (3 : Int32), vR a2, vI (1 : Int32), vI (1 : Int32), vD dg, .second, s7, s8, s9, s10] [(.int ((1 : Int32) + (1 : Int32)))])) _
    refine XS.istore X0.here hx rfl (hb hby d5_34) rfl (l' := #[vR a1, vI (3 : Int32), vR a2, vI (1 : Int32), vI (1 : Int32), vI ((1 : Int32) + (1 : Int32)), .unset, s7, s8, s9, s10]) rfl ?_
    exact kt
  have R248 : ∀ tg, Steps p.tables e below (T0.setTop (mkF m 36 #[vR a1, vI (3 : Int32), vR a2, vI (1 : Int32), vI (1 : Int32), vI (2 : Int32), .unset, s7, s8, s9, s10] [])) tg → Steps p.tables e below (T0.setTop (mkF m 23 #[vR a1, vI (3 : Int32), vR a2, vI (1 : Int32), vI pp, vD dg, .second, s7, s8, s9, s10] [])) tg := R247
  rcases hP with ⟨rfl, h1⟩ | ⟨rfl, h1⟩
  · have R249 : ∀ tg, Steps p.tables e below (T0.setTop (mkF m 43 #[vR a1, vI (3 : Int32), vR a2, vI (1 : Int32), vI (1 : Int32), vI (2 : Int32), .unset, s7, s8, s9, s10] [(.ref a1)])) tg → Steps p.tables e below (T0.setTop (mkF m 23 #[vR a1, vI (3 : Int32), vR a2, vI (1 : Int32), vI pp, vD dg, .second, s7, s8, s9, s10] [])) tg := by
      intro tg kt
      refine R248 _ ?_
      show Steps p.tables e below (T0.setTop (mkF m 36 #[vR a1, vI (3 : Int32), vR a2, vI (1 : Int32), vI (1 : Int32), vI (2 : Int32), .unset, s7, s8, s9, s10] [])) _
      refine XS.iload X0.here hx rfl (hb hby d5_36) rfl ?_
      refine XS.iloadN X0.here hx rfl (hb hby d5_38) rfl ?_
      show Steps p.tables e below (T0.setTop (mkF m 39 #[vR a1, vI (3 : Int32), vR a2, vI (1 : Int32), vI (1 : Int32), vI (2 : Int32), .unset, s7, s8, s9, s10] [(.int (3 : Int32)), (.int (2 : Int32))])) _
      refine XS.icmpNo X0.here hx rfl (hb hby d5_39) rfl (tlt (by decide : (2 : Int32) < (3 : Int32))).2.1 ?_
      refine XS.aloadN X0.here hx rfl (hb hby d5_42) rfl rfl ?_
      exact kt
    clear R248
    obtain ⟨T250, X250, e250, st250⟩ := getF X0 hx hZ hown (host := "") (Or.inl (hw _ (List.mem_of_getElem? (i := 28) rfl))) Via.refl e0 Fl (g := (mkF m 43 #[vR a1, vI (3 : Int32), vR a2, vI (1 : Int32), vI (1 : Int32), vI (2 : Int32), .unset, s7, s8, s9, s10] [(.ref a1)])) rfl rfl (hb hby d5_43)
    have R251 : ∀ tg, Steps p.tables e below (T250.setTop (mkF m 52 #[vR a1, vI (3 : Int32), vR a2, vI (1 : Int32), vI (1 : Int32), vI (2 : Int32), .unset, s7, s8, s9, s10] [(.int (((2 : Int32) * (3 : Int32)) + (1 : Int32))), (.ref a2)])) tg → Steps p.tables e below (T0.setTop (mkF m 23 #[vR a1, vI (3 : Int32), vR a2, vI (1 : Int32), vI pp, vD dg, .second, s7, s8, s9, s10] [])) tg := by
      intro tg kt
      refine R249 _ ?_
      refine st250 _ ?_
      refine XS.iload X250.here hx rfl (hb hby d5_46) rfl ?_
      show Steps p.tables e below (T250.setTop (mkF m 48 #[vR a1, vI (3 : Int32), vR a2, vI (1 : Int32), vI (1 : Int32), vI (2 : Int32), .unset, s7, s8, s9, s10] [(.int (2 : Int32)), (.ref a2)])) _
      refine XS.iloadN X250.here hx rfl (hb hby d5_48) rfl ?_
      show Steps p.tables e below (T250.setTop (mkF m 49 #[vR a1, vI (3 : Int32), vR a2, vI (1 : Int32), vI (1 : Int32), vI (2 : Int32), .unset, s7, s8, s9, s10] [(.int (3 : Int32)), (.int (2 : Int32)), (.ref a2)])) _
      refine XS.imul X250.here hx rfl (hb hby d5_49) rfl ?_
      refine XS.iloadN X250.here hx rfl (hb hby d5_50) rfl ?_
      show Steps p.tables e below (T250.setTop (mkF m 51 #[vR a1, vI (3 : Int32), vR a2, vI (1 : Int32), vI (1 : Int32), vI (2 : Int32), .unset, s7, s8, s9, s10] [(.int (1 : Int32)), (.int ((2 : Int32) * (3 : Int32))), (.ref a2)])) _
      refine XS.iadd X250.here hx rfl (hb hby d5_51) rfl ?_
      exact kt
    clear R249 st250
    obtain ⟨cl252, d252, Ar252, hin252, hat252, G252⟩ := VA.at (j := (((2 : Int32) * (3 : Int32)) + (1 : Int32))) (k := 7) (by decide) (by decide) (by decide)
    have H252 : DR 2 x7 d252 := G252
    have R253 : ∀ tg, Steps p.tables e below (T250.setTop (mkF m 53 #[vR a1, vI (3 : Int32), vR a2, vI (1 : Int32), vI (1 : Int32), vI (2 : Int32), .unset, s7, s8, s9, s10] [(.double d252)])) tg → Steps p.tables e below (T0.setTop (mkF m 23 #[vR a1, vI (3 : Int32), vR a2, vI (1 : Int32), vI pp, vD dg, .second, s7, s8, s9, s10] [])) tg := by
      intro tg kt
      refine R251 _ ?_
      show Steps p.tables e below (T250.setTop (mkF m 52 #[vR a1, vI (3 : Int32), vR a2, vI (1 : Int32), vI (1 : Int32), vI (2 : Int32), .unset, s7, s8, s9, s10] [(.int (((2 : Int32) * (3 : Int32)) + (1 : Int32))), (.ref a2)])) _
      refine X250.daload hx (j := (((2 : Int32) * (3 : Int32)) + (1 : Int32))) (v := (.double d252)) (by rw [e250]; exact Ar252.1) (State.isArrayOf_alike hZ.alike Ar252.2.1) Ar252.2.2 hin252 hat252 (g := (mkF m 52 #[vR a1, vI (3 : Int32), vR a2, vI (1 : Int32), vI (1 : Int32), vI (2 : Int32), .unset, s7, s8, s9, s10] [(.int (((2 : Int32) * (3 : Int32)) + (1 : Int32))), (.ref a2)])) rfl rfl (hb hby d5_52) _ ?_
      exact kt
    clear R251
    obtain ⟨d254, hv254, H254⟩ : ∃ v, (d252 &&& 0x7fffffffffffffff) = v ∧ DR 2 ((x7).natAbs : Int) v := ⟨_, rfl, H252.abs⟩
    obtain ⟨T254, X254, e254, st254⟩ := natS X250 hx hZ (y := (⟨"java/lang/Math", "abs", "(D)D"⟩ : MethodName)) hown (hw _ (List.mem_of_getElem? (i := 33) rfl)) (hw _ (List.mem_of_getElem? (i := 34) rfl)) (hw _ (List.mem_of_getElem? (i := 35) rfl)) (hw _ (List.mem_of_getElem? (i := 36) rfl)) (by decide) e250 (W := 0) (fun hc => Jvm.Free.Fl.Abs.absD_pays (W := 0) d252 hc (by decide) (by decide)) (g := (mkF m 53 #[vR a1, vI (3 : Int32), vR a2, vI (1 : Int32), vI (1 : Int32), vI (2 : Int32), .unset, s7, s8, s9, s10] [(.double d252)])) rfl (by rw [hml]; rfl) (argsL := [(.double d252)]) (rest := []) (lenOf pd_1 rfl) rfl (by show 2 * 0 + _ ≤ _; exact Nat.le_of_eq rfl) (hb hby d5_53) (by decide) (by decide) ⟨rfl, H252.nn⟩ (congrArg Value.double hv254)
    have R255 : ∀ tg, Steps p.tables e below (T254.setTop (mkF m 57 #[vR a1, vI (3 : Int32), vR a2, vI (1 : Int32), vI (1 : Int32), vI (2 : Int32), .unset, s7, s8, s9, s10] [(.ref a1), (.double d254)])) tg → Steps p.tables e below (T0.setTop (mkF m 23 #[vR a1, vI (3 : Int32), vR a2, vI (1 : Int32), vI pp, vD dg, .second, s7, s8, s9, s10] [])) tg := by
      intro tg kt
      refine R253 _ ?_
      refine st254 _ ?_
      refine XS.aloadN X254.here hx rfl (hb hby d5_56) rfl rfl ?_
      exact kt
    clear R253 st254
    obtain ⟨T256, X256, e256, st256⟩ := getF X254 hx hZ hown (host := "") (Or.inl (hw _ (List.mem_of_getElem? (i := 28) rfl))) Via.refl e254 Fl (g := (mkF m 57 #[vR a1, vI (3 : Int32), vR a2, vI (1 : Int32), vI (1 : Int32), vI (2 : Int32), .unset, s7, s8, s9, s10] [(.ref a1), (.double d254)])) rfl rfl (hb hby d5_57)
    have R257 : ∀ tg, Steps p.tables e below (T256.setTop (mkF m 66 #[vR a1, vI (3 : Int32), vR a2, vI (1 : Int32), vI (1 : Int32), vI (2 : Int32), .unset, s7, s8, s9, s10] [(.int (((1 : Int32) * (3 : Int32)) + (1 : Int32))), (.ref a2), (.double d254)])) tg → Steps p.tables e below (T0.setTop (mkF m 23 #[vR a1, vI (3 : Int32), vR a2, vI (1 : Int32), vI pp, vD dg, .second, s7, s8, s9, s10] [])) tg := by
      intro tg kt
      refine R255 _ ?_
      refine st256 _ ?_
      refine XS.iload X256.here hx rfl (hb hby d5_60) rfl ?_
      show Steps p.tables e below (T256.setTop (mkF m 62 #[vR a1, vI (3 : Int32), vR a2, vI (1 : Int32), vI (1 : Int32), vI (2 : Int32), .unset, s7, s8, s9, s10] [(.int (1 : Int32)), (.ref a2), (.double d254)])) _
      refine XS.iloadN X256.here hx rfl (hb hby d5_62) rfl ?_
      show Steps p.tables e below (T256.setTop (mkF m 63 #[vR a1, vI (3 : Int32), vR a2, vI (1 : Int32), vI (1 : Int32), vI (2 : Int32), .unset, s7, s8, s9, s10] [(.int (3 : Int32)), (.int (1 : Int32)), (.ref a2), (.double d254)])) _
      refine XS.imul X256.here hx rfl (hb hby d5_63) rfl ?_
      refine XS.iloadN X256.here hx rfl (hb hby d5_64) rfl ?_
      show Steps p.tables e below (T256.setTop (mkF m 65 #[vR a1, vI (3 : Int32), vR a2, vI (1 : Int32), vI (1 : Int32), vI (2 : Int32), .unset, s7, s8, s9, s10] [(.int (1 : Int32)), (.int ((1 : Int32) * (3 : Int32))), (.ref a2), (.double d254)])) _
      refine XS.iadd X256.here hx rfl (hb hby d5_65) rfl ?_
      exact kt
    clear R255 st256
    obtain ⟨cl258, d258, Ar258, hin258, hat258, G258⟩ := VA.at (j := (((1 : Int32) * (3 : Int32)) + (1 : Int32))) (k := 4) (by decide) (by decide) (by decide)
    have H258 : DR 2 x4 d258 := G258
    have R259 : ∀ tg, Steps p.tables e below (T256.setTop (mkF m 67 #[vR a1, vI (3 : Int32), vR a2, vI (1 : Int32), vI (1 : Int32), vI (2 : Int32), .unset, s7, s8, s9, s10] [(.double d258), (.double d254)])) tg → Steps p.tables e below (T0.setTop (mkF m 23 #[vR a1, vI (3 : Int32), vR a2, vI (1 : Int32), vI pp, vD dg, .second, s7, s8, s9, s10] [])) tg := by
      intro tg kt
      refine R257 _ ?_
      show Steps p.tables e below (T256.setTop (mkF m 66 #[vR a1, vI (3 : Int32), vR a2, vI (1 : Int32), vI (1 : Int32), vI (2 : Int32), .unset, s7, s8, s9, s10] [(.int (((1 : Int32) * (3 : Int32)) + (1 : Int32))), (.ref a2), (.double d254)])) _
      refine X256.daload hx (j := (((1 : Int32) * (3 : Int32)) + (1 : Int32))) (v := (.double d258)) (by rw [e256]; exact Ar258.1) (State.isArrayOf_alike hZ.alike Ar258.2.1) Ar258.2.2 hin258 hat258 (g := (mkF m 66 #[vR a1, vI (3 : Int32), vR a2, vI (1 : Int32), vI (1 : Int32), vI (2 : Int32), .unset, s7, s8, s9, s10] [(.int (((1 : Int32) * (3 : Int32)) + (1 : Int32))), (.ref a2), (.double d254)])) rfl rfl (hb hby d5_66) _ ?_
      exact kt
    clear R257
    obtain ⟨d260, hv260, H260⟩ : ∃ v, (d258 &&& 0x7fffffffffffffff) = v ∧ DR 2 ((x4).natAbs : Int) v := ⟨_, rfl, H258.abs⟩
    obtain ⟨T260, X260, e260, st260⟩ := natS X256 hx hZ (y := (⟨"java/lang/Math", "abs", "(D)D"⟩ : MethodName)) hown (hw _ (List.mem_of_getElem? (i := 33) rfl)) (hw _ (List.mem_of_getElem? (i := 34) rfl)) (hw _ (List.mem_of_getElem? (i := 35) rfl)) (hw _ (List.mem_of_getElem? (i := 36) rfl)) (by decide) e256 (W := 2) (fun hc => Jvm.Free.Fl.Abs.absD_pays (W := 2) d258 hc (by decide) (by decide)) (g := (mkF m 67 #[vR a1, vI (3 : Int32), vR a2, vI (1 : Int32), vI (1 : Int32), vI (2 : Int32), .unset, s7, s8, s9, s10] [(.double d258), (.double d254)])) rfl (by rw [hml]; rfl) (argsL := [(.double d258)]) (rest := [(.double d254)]) (lenOf pd_1 rfl) rfl (by show 2 * 0 + _ ≤ _; exact Nat.le_of_eq rfl) (hb hby d5_67) (by decide) (by decide) ⟨rfl, H258.nn⟩ (congrArg Value.double hv260)
    have R261 : ∀ tg, Steps p.tables e below (T260.setTop (mkF m 70 #[vR a1, vI (3 : Int32), vR a2, vI (1 : Int32), vI (1 : Int32), vI (2 : Int32), .unset, s7, s8, s9, s10] [(.double d260), (.double d254)])) tg → Steps p.tables e below (T0.setTop (mkF m 23 #[vR a1, vI (3 : Int32), vR a2, vI (1 : Int32), vI pp, vD dg, .second, s7, s8, s9, s10] [])) tg := by
      intro tg kt
      refine R259 _ ?_
      refine st260 _ ?_
      exact kt
    clear R259 st260
    have R262 : ∀ tg, Steps p.tables e below (T260.setTop (mkF m 36 #[vR a1, vI (3 : Int32), vR a2, vI (1 : Int32), vI (1 : Int32), vI ((2 : Int32) + (1 : Int32)), .unset, s7, s8, s9, s10] [])) tg → Steps p.tables e below (T0.setTop (mkF m 23 #[vR a1, vI (3 : Int32), vR a2, vI (1 : Int32), vI pp, vD dg, .second, s7, s8, s9, s10] [])) tg := by
      intro tg kt
      refine R261 _ ?_
      show Steps p.tables e below (T260.setTop (mkF m 70 #[vR a1, vI (3 : Int32), vR a2, vI (1 : Int32), vI (1 : Int32), vI (2 : Int32), .unset, s7, s8, s9, s10] [(.double d260), (.double d254)])) _
      refine XS.dcmpS X260.here hx rfl (hb hby d5_70) rfl (own_cvl H254 H260 _) ?_
      show Steps p.tables e below (T260.setTop (mkF m 71 #[vR a1, vI (3 : Int32), vR a2, vI (1 : Int32), vI (1 : Int32), vI (2 : Int32), .unset, s7, s8, s9, s10] [(.int (own_cv ((x7).natAbs : Int) ((x4).natAbs : Int)))])) _
      refine XS.ifYes X260.here hx rfl (pc0 := 71) (pc' := 78) rfl (hb hby d5_71) rfl ((if0 _ _).trans (flt (own_ng0 h1 : ¬ ((0 : Int32) < (own_cv ((x7).natAbs : Int) ((x4).natAbs : Int))))).2.2.2) (by decide) (by decide) ?_
      show Steps p.tables e below (T260.setTop (mkF m 78 #[vR a1, vI (3 : Int32), vR a2, vI (1 : Int32), vI (1 : Int32), vI (2 : Int32), .unset, s7, s8, s9, s10] [])) _
      refine XS.iinc X260.here hx rfl (hb hby d5_78) rfl (l' := #[vR a1, vI (3 : Int32), vR a2, vI (1 : Int32), vI (1 : Int32), vI ((2 : Int32) + (1 : Int32)), .unset, s7, s8, s9, s10]) rfl ?_
      show Steps p.tables e below (T260.setTop (mkF m 81 #[vR a1, vI (3 : Int32), vR a2, vI (1 : Int32), vI (1 : Int32), vI ((2 : Int32) + (1 : Int32)), .unset, s7, s8, s9, s10] [])) _
      refine XS.goto X260.here hx rfl (pc0 := 81) (pc' := 36) rfl (hb hby d5_81) (by decide) (by decide) ?_
      exact kt
    clear R261
    have R263 : ∀ tg, Steps p.tables e below (T260.setTop (mkF m 36 #[vR a1, vI (3 : Int32), vR a2, vI (1 : Int32), vI (1 : Int32), vI (3 : Int32), .unset, s7, s8, s9, s10] [])) tg → Steps p.tables e below (T0.setTop (mkF m 23 #[vR a1, vI (3 : Int32), vR a2, vI (1 : Int32), vI pp, vD dg, .second, s7, s8, s9, s10] [])) tg := R262
    have R264 : ∀ tg, Steps p.tables e below (T260.setTop (mkF m 84 #[vR a1, vI (3 : Int32), vR a2, vI (1 : Int32), vI (1 : Int32), vI (3 : Int32), .unset, s7, s8, s9, s10] [])) tg → Steps p.tables e below (T0.setTop (mkF m 23 #[vR a1, vI (3 : Int32), vR a2, vI (1 : Int32), vI pp, vD dg, .second, s7, s8, s9, s10] [])) tg := by
      intro tg kt
      refine R263 _ ?_
      show Steps p.tables e below (T260.setTop (mkF m 36 #[vR a1, vI (3 : Int32), vR a2, vI (1 : Int32), vI (1 : Int32), vI (3 : Int32), .unset, s7, s8, s9, s10] [])) _
      refine XS.iload X260.here hx rfl (hb hby d5_36) rfl ?_
      refine XS.iloadN X260.here hx rfl (hb hby d5_38) rfl ?_
      show Steps p.tables e below (T260.setTop (mkF m 39 #[vR a1, vI (3 : Int32), vR a2, vI (1 : Int32), vI (1 : Int32), vI (3 : Int32), .unset, s7, s8, s9, s10] [(.int (3 : Int32)), (.int (3 : Int32))])) _
      refine XS.icmpYes X260.here hx rfl (pc0 := 39) (pc' := 84) rfl (hb hby d5_39) rfl (flt (by decide : ¬ ((3 : Int32) < (3 : Int32)))).2.1 (by decide) (by decide) ?_
      exact kt
    clear R263
    have R265 : ∀ tg, Steps p.tables e below (T260.setTop (mkF m 84 #[vR a1, vI (3 : Int32), vR a2, vI (Int32.ofNat 1), vI (Int32.ofNat 1), vI (3 : Int32), .unset, s7, s8, s9, s10] [])) tg → Steps p.tables e below (T0.setTop (mkF m 23 #[vR a1, vI (3 : Int32), vR a2, vI (1 : Int32), vI pp, vD dg, .second, s7, s8, s9, s10] [])) tg := R264
    exact ⟨_, X260, e260, R265⟩
  · have R266 : ∀ tg, Steps p.tables e below (T0.setTop (mkF m 43 #[vR a1, vI (3 : Int32), vR a2, vI (1 : Int32), vI (1 : Int32), vI (2 : Int32), .unset, s7, s8, s9, s10] [(.ref a1)])) tg → Steps p.tables e below (T0.setTop (mkF m 23 #[vR a1, vI (3 : Int32), vR a2, vI (1 : Int32), vI pp, vD dg, .second, s7, s8, s9, s10] [])) tg := by
      intro tg kt
      refine R248 _ ?_
      show Steps p.tables e below (T0.setTop (mkF m 36 #[vR a1, vI (3 : Int32), vR a2, vI (1 : Int32), vI (1 : Int32), vI (2 : Int32), .unset, s7, s8, s9, s10] [])) _
      refine XS.iload X0.here hx rfl (hb hby d5_36) rfl ?_
      refine XS.iloadN X0.here hx rfl (hb hby d5_38) rfl ?_
      show Steps p.tables e below (T0.setTop (mkF m 39 #[vR a1, vI (3 : Int32), vR a2, vI (1 : Int32), vI (1 : Int32), vI (2 : Int32), .unset, s7, s8, s9, s10] [(.int (3 : Int32)), (.int (2 : Int32))])) _
      refine XS.icmpNo X0.here hx rfl (hb hby d5_39) rfl (tlt (by decide : (2 : Int32) < (3 : Int32))).2.1 ?_
      refine XS.aloadN X0.here hx rfl (hb hby d5_42) rfl rfl ?_
      exact kt
    clear R248
    obtain ⟨T267, X267, e267, st267⟩ := getF X0 hx hZ hown (host := "") (Or.inl (hw _ (List.mem_of_getElem? (i := 28) rfl))) Via.refl e0 Fl (g := (mkF m 43 #[vR a1, vI (3 : Int32), vR a2, vI (1 : Int32), vI (1 : Int32), vI (2 : Int32), .unset, s7, s8, s9, s10] [(.ref a1)])) rfl rfl (hb hby d5_43)
    have R268 : ∀ tg, Steps p.tables e below (T267.setTop (mkF m 52 #[vR a1, vI (3 : Int32), vR a2, vI (1 : Int32), vI (1 : Int32), vI (2 : Int32), .unset, s7, s8, s9, s10] [(.int (((2 : Int32) * (3 : Int32)) + (1 : Int32))), (.ref a2)])) tg → Steps p.tables e below (T0.setTop (mkF m 23 #[vR a1, vI (3 : Int32), vR a2, vI (1 : Int32), vI pp, vD dg, .second, s7, s8, s9, s10] [])) tg := by
      intro tg kt
      refine R266 _ ?_
      refine st267 _ ?_
      refine XS.iload X267.here hx rfl (hb hby d5_46) rfl ?_
      show Steps p.tables e below (T267.setTop (mkF m 48 #[vR a1, vI (3 : Int32), vR a2, vI (1 : Int32), vI (1 : Int32), vI (2 : Int32), .unset, s7, s8, s9, s10] [(.int (2 : Int32)), (.ref a2)])) _
      refine XS.iloadN X267.here hx rfl (hb hby d5_48) rfl ?_
      show Steps p.tables e below (T267.setTop (mkF m 49 #[vR a1, vI (3 : Int32), vR a2, vI (1 : Int32), vI (1 : Int32), vI (2 : Int32), .unset, s7, s8, s9, s10] [(.int (3 : Int32)), (.int (2 : Int32)), (.ref a2)])) _
      refine XS.imul X267.here hx rfl (hb hby d5_49) rfl ?_
      refine XS.iloadN X267.here hx rfl (hb hby d5_50) rfl ?_
      show Steps p.tables e below (T267.setTop (mkF m 51 #[vR a1, vI (3 : Int32), vR a2, vI (1 : Int32), vI (1 : Int32), vI (2 : Int32), .unset, s7, s8, s9, s10] [(.int (1 : Int32)), (.int ((2 : Int32) * (3 : Int32))), (.ref a2)])) _
      refine XS.iadd X267.here hx rfl (hb hby d5_51) rfl ?_
      exact kt
    clear R266 st267
    obtain ⟨cl269, d269, Ar269, hin269, hat269, G269⟩ := VA.at (j := (((2 : Int32) * (3 : Int32)) + (1 : Int32))) (k := 7) (by decide) (by decide) (by decide)
    have H269 : DR 2 x7 d269 := G269
    have R270 : ∀ tg, Steps p.tables e below (T267.setTop (mkF m 53 #[vR a1, vI (3 : Int32), vR a2, vI (1 : Int32), vI (1 : Int32), vI (2 : Int32), .unset, s7, s8, s9, s10] [(.double d269)])) tg → Steps p.tables e below (T0.setTop (mkF m 23 #[vR a1, vI (3 : Int32), vR a2, vI (1 : Int32), vI pp, vD dg, .second, s7, s8, s9, s10] [])) tg := by
      intro tg kt
      refine R268 _ ?_
      show Steps p.tables e below (T267.setTop (mkF m 52 #[vR a1, vI (3 : Int32), vR a2, vI (1 : Int32), vI (1 : Int32), vI (2 : Int32), .unset, s7, s8, s9, s10] [(.int (((2 : Int32) * (3 : Int32)) + (1 : Int32))), (.ref a2)])) _
      refine X267.daload hx (j := (((2 : Int32) * (3 : Int32)) + (1 : Int32))) (v := (.double d269)) (by rw [e267]; exact Ar269.1) (State.isArrayOf_alike hZ.alike Ar269.2.1) Ar269.2.2 hin269 hat269 (g := (mkF m 52 #[vR a1, vI (3 : Int32), vR a2, vI (1 : Int32), vI (1 : Int32), vI (2 : Int32), .unset, s7, s8, s9, s10] [(.int (((2 : Int32) * (3 : Int32)) + (1 : Int32))), (.ref a2)])) rfl rfl (hb hby d5_52) _ ?_
      exact kt
    clear R268
    obtain ⟨d271, hv271, H271⟩ : ∃ v, (d269 &&& 0x7fffffffffffffff) = v ∧ DR 2 ((x7).natAbs : Int) v := ⟨_, rfl, H269.abs⟩
    obtain ⟨T271, X271, e271, st271⟩ := natS X267 hx hZ (y := (⟨"java/lang/Math", "abs", "(D)D"⟩ : MethodName)) hown (hw _ (List.mem_of_getElem? (i := 33) rfl)) (hw _ (List.mem_of_getElem? (i := 34) rfl)) (hw _ (List.mem_of_getElem? (i := 35) rfl)) (hw _ (List.mem_of_getElem? (i := 36) rfl)) (by decide) e267 (W := 0) (fun hc => Jvm.Free.Fl.Abs.absD_pays (W := 0) d269 hc (by decide) (by decide)) (g := (mkF m 53 #[vR a1, vI (3 : Int32), vR a2, vI (1 : Int32), vI (1 : Int32), vI (2 : Int32), .unset, s7, s8, s9, s10] [(.double d269)])) rfl (by rw [hml]; rfl) (argsL := [(.double d269)]) (rest := []) (lenOf pd_1 rfl) rfl (by show 2 * 0 + _ ≤ _; exact Nat.le_of_eq rfl) (hb hby d5_53) (by decide) (by decide) ⟨rfl, H269.nn⟩ (congrArg Value.double hv271)
    have R272 : ∀ tg, Steps p.tables e below (T271.setTop (mkF m 57 #[vR a1, vI (3 : Int32), vR a2, vI (1 : Int32), vI (1 : Int32), vI (2 : Int32), .unset, s7, s8, s9, s10] [(.ref a1), (.double d271)])) tg → Steps p.tables e below (T0.setTop (mkF m 23 #[vR a1, vI (3 : Int32), vR a2, vI (1 : Int32), vI pp, vD dg, .second, s7, s8, s9, s10] [])) tg := by
      intro tg kt
      refine R270 _ ?_
      refine st271 _ ?_
      refine XS.aloadN X271.here hx rfl (hb hby d5_56) rfl rfl ?_
      exact kt
    clear R270 st271
    obtain ⟨T273, X273, e273, st273⟩ := getF X271 hx hZ hown (host := "") (Or.inl (hw _ (List.mem_of_getElem? (i := 28) rfl))) Via.refl e271 Fl (g := (mkF m 57 #[vR a1, vI (3 : Int32), vR a2, vI (1 : Int32), vI (1 : Int32), vI (2 : Int32), .unset, s7, s8, s9, s10] [(.ref a1), (.double d271)])) rfl rfl (hb hby d5_57)
    have R274 : ∀ tg, Steps p.tables e below (T273.setTop (mkF m 66 #[vR a1, vI (3 : Int32), vR a2, vI (1 : Int32), vI (1 : Int32), vI (2 : Int32), .unset, s7, s8, s9, s10] [(.int (((1 : Int32) * (3 : Int32)) + (1 : Int32))), (.ref a2), (.double d271)])) tg → Steps p.tables e below (T0.setTop (mkF m 23 #[vR a1, vI (3 : Int32), vR a2, vI (1 : Int32), vI pp, vD dg, .second, s7, s8, s9, s10] [])) tg := by
      intro tg kt
      refine R272 _ ?_
      refine st273 _ ?_
      refine XS.iload X273.here hx rfl (hb hby d5_60) rfl ?_
      show Steps p.tables e below (T273.setTop (mkF m 62 #[vR a1, vI (3 : Int32), vR a2, vI (1 : Int32), vI (1 : Int32), vI (2 : Int32), .unset, s7, s8, s9, s10] [(.int (1 : Int32)), (.ref a2), (.double d271)])) _
      refine XS.iloadN X273.here hx rfl (hb hby d5_62) rfl ?_
      show Steps p.tables e below (T273.setTop (mkF m 63 #[vR a1, vI (3 : Int32), vR a2, vI (1 : Int32), vI (1 : Int32), vI (2 : Int32), .unset, s7, s8, s9, s10] [(.int (3 : Int32)), (.int (1 : Int32)), (.ref a2), (.double d271)])) _
      refine XS.imul X273.here hx rfl (hb hby d5_63) rfl ?_
      refine XS.iloadN X273.here hx rfl (hb hby d5_64) rfl ?_
      show Steps p.tables e below (T273.setTop (mkF m 65 #[vR a1, vI (3 : Int32), vR a2, vI (1 : Int32), vI (1 : Int32), vI (2 : Int32), .unset, s7, s8, s9, s10] [(.int (1 : Int32)), (.int ((1 : Int32) * (3 : Int32))), (.ref a2), (.double d271)])) _
      refine XS.iadd X273.here hx rfl (hb hby d5_65) rfl ?_
      exact kt
    clear R272 st273
    obtain ⟨cl275, d275, Ar275, hin275, hat275, G275⟩ := VA.at (j := (((1 : Int32) * (3 : Int32)) + (1 : Int32))) (k := 4) (by decide) (by decide) (by decide)
    have H275 : DR 2 x4 d275 := G275
    have R276 : ∀ tg, Steps p.tables e below (T273.setTop (mkF m 67 #[vR a1, vI (3 : Int32), vR a2, vI (1 : Int32), vI (1 : Int32), vI (2 : Int32), .unset, s7, s8, s9, s10] [(.double d275), (.double d271)])) tg → Steps p.tables e below (T0.setTop (mkF m 23 #[vR a1, vI (3 : Int32), vR a2, vI (1 : Int32), vI pp, vD dg, .second, s7, s8, s9, s10] [])) tg := by
      intro tg kt
      refine R274 _ ?_
      show Steps p.tables e below (T273.setTop (mkF m 66 #[vR a1, vI (3 : Int32), vR a2, vI (1 : Int32), vI (1 : Int32), vI (2 : Int32), .unset, s7, s8, s9, s10] [(.int (((1 : Int32) * (3 : Int32)) + (1 : Int32))), (.ref a2), (.double d271)])) _
      refine X273.daload hx (j := (((1 : Int32) * (3 : Int32)) + (1 : Int32))) (v := (.double d275)) (by rw [e273]; exact Ar275.1) (State.isArrayOf_alike hZ.alike Ar275.2.1) Ar275.2.2 hin275 hat275 (g := (mkF m 66 #[vR a1, vI (3 : Int32), vR a2, vI (1 : Int32), vI (1 : Int32), vI (2 : Int32), .unset, s7, s8, s9, s10] [(.int (((1 : Int32) * (3 : Int32)) + (1 : Int32))), (.ref a2), (.double d271)])) rfl rfl (hb hby d5_66) _ ?_
      exact kt
    clear R274
    obtain ⟨d277, hv277, H277⟩ : ∃ v, (d275 &&& 0x7fffffffffffffff) = v ∧ DR 2 ((x4).natAbs : Int) v := ⟨_, rfl, H275.abs⟩
    obtain ⟨T277, X277, e277, st277⟩ := natS X273 hx hZ (y := (⟨"java/lang/Math", "abs", "(D)D"⟩ : MethodName)) hown (hw _ (List.mem_of_getElem? (i := 33) rfl)) (hw _ (List.mem_of_getElem? (i := 34) rfl)) (hw _ (List.mem_of_getElem? (i := 35) rfl)) (hw _ (List.mem_of_getElem? (i := 36) rfl)) (by decide) e273 (W := 2) (fun hc => Jvm.Free.Fl.Abs.absD_pays (W := 2) d275 hc (by decide) (by decide)) (g := (mkF m 67 #[vR a1, vI (3 : Int32), vR a2, vI (1 : Int32), vI (1 : Int32), vI (2 : Int32), .unset, s7, s8, s9, s10] [(.double d275), (.double d271)])) rfl (by rw [hml]; rfl) (argsL := [(.double d275)]) (rest := [(.double d271)]) (lenOf pd_1 rfl) rfl (by show 2 * 0 + _ ≤ _; exact Nat.le_of_eq rfl) (hb hby d5_67) (by decide) (by decide) ⟨rfl, H275.nn⟩ (congrArg Value.double hv277)
    have R278 : ∀ tg, Steps p.tables e below (T277.setTop (mkF m 70 #[vR a1, vI (3 : Int32), vR a2, vI (1 : Int32), vI (1 : Int32), vI (2 : Int32), .unset, s7, s8, s9, s10] [(.double d277), (.double d271)])) tg → Steps p.tables e below (T0.setTop (mkF m 23 #[vR a1, vI (3 : Int32), vR a2, vI (1 : Int32), vI pp, vD dg, .second, s7, s8, s9, s10] [])) tg := by
      intro tg kt
      refine R276 _ ?_
      refine st277 _ ?_
      exact kt
    clear R276 st277
    have R279 : ∀ tg, Steps p.tables e below (T277.setTop (mkF m 36 #[vR a1, vI (3 : Int32), vR a2, vI (1 : Int32), vI (2 : Int32), vI ((2 : Int32) + (1 : Int32)), .unset, s7, s8, s9, s10] [])) tg → Steps p.tables e below (T0.setTop (mkF m 23 #[vR a1, vI (3 : Int32), vR a2, vI (1 : Int32), vI pp, vD dg, .second, s7, s8, s9, s10] [])) tg := by
      intro tg kt
      refine R278 _ ?_
      show Steps p.tables e below (T277.setTop (mkF m 70 #[vR a1, vI (3 : Int32), vR a2, vI (1 : Int32), vI (1 : Int32), vI (2 : Int32), .unset, s7, s8, s9, s10] [(.double d277), (.double d271)])) _
      refine XS.dcmpS X277.here hx rfl (hb hby d5_70) rfl (own_cvl H271 H277 _) ?_
      show Steps p.tables e below (T277.setTop (mkF m 71 #[vR a1, vI (3 : Int32), vR a2, vI (1 : Int32), vI (1 : Int32), vI (2 : Int32), .unset, s7, s8, s9, s10] [(.int (own_cv ((x7).natAbs : Int) ((x4).natAbs : Int)))])) _
      refine XS.ifNo X277.here hx rfl (hb hby d5_71) rfl ((if0 _ _).trans (tlt (own_gt0 h1 : (0 : Int32) < (own_cv ((x7).natAbs : Int) ((x4).natAbs : Int)))).2.2.2) ?_
      refine XS.iload X277.here hx rfl (hb hby d5_74) rfl ?_
      show Steps p.tables e below (T277.setTop (mkF m 76 #[vR a1, vI (3 : Int32), vR a2, vI (1 : Int32), vI (1 : Int32), vI (2 : Int32), .unset, s7, s8, s9, s10] [(.int (2 : Int32))])) _
      refine XS.istore X277.here hx rfl (hb hby d5_76) rfl (l' := #[vR a1, vI (3 : Int32), vR a2, vI (1 : Int32), vI (2 : Int32), vI (2 : Int32), .unset, s7, s8, s9, s10]) rfl ?_
      show Steps p.tables e below (T277.setTop (mkF m 78 #[vR a1, vI (3 : Int32), vR a2, vI (1 : Int32), vI (2 : Int32), vI (2 : Int32), .unset, s7, s8, s9, s10] [])) _
      refine XS.iinc X277.here hx rfl (hb hby d5_78) rfl (l' := #[vR a1, vI (3 : Int32), vR a2, vI (1 : Int32), vI (2 : Int32), vI ((2 : Int32) + (1 : Int32)), .unset, s7, s8, s9, s10]) rfl ?_
      show Steps p.tables e below (T277.setTop (mkF m 81 #[vR a1, vI (3 : Int32), vR a2, vI (1 : Int32), vI (2 : Int32), vI ((2 : Int32) + (1 : Int32)), .unset, s7, s8, s9, s10] [])) _
      refine XS.goto X277.here hx rfl (pc0 := 81) (pc' := 36) rfl (hb hby d5_81) (by decide) (by decide) ?_
      exact kt
    clear R278
    have R280 : ∀ tg, Steps p.tables e below (T277.setTop (mkF m 36 #[vR a1, vI (3 : Int32), vR a2, vI (1 : Int32), vI (2 : Int32), vI (3 : Int32), .unset, s7, s8, s9, s10] [])) tg → Steps p.tables e below (T0.setTop (mkF m 23 #[vR a1, vI (3 : Int32), vR a2, vI (1 : Int32), vI pp, vD dg, .second, s7, s8, s9, s10] [])) tg := R279
    have R281 : ∀ tg, Steps p.tables e below (T277.setTop (mkF m 84 #[vR a1, vI (3 : Int32), vR a2, vI (1 : Int32), vI (2 : Int32), vI (3 : Int32), .unset, s7, s8, s9, s10] [])) tg → Steps p.tables e below (T0.setTop (mkF m 23 #[vR a1, vI (3 : Int32), vR a2, vI (1 : Int32), vI pp, vD dg, .second, s7, s8, s9, s10] [])) tg := by
      intro tg kt
      refine R280 _ ?_
      show Steps p.tables e below (T277.setTop (mkF m 36 #[vR a1, vI (3 : Int32), vR a2, vI (1 : Int32), vI (2 : Int32), vI (3 : Int32), .unset, s7, s8, s9, s10] [])) _
      refine XS.iload X277.here hx rfl (hb hby d5_36) rfl ?_
      refine XS.iloadN X277.here hx rfl (hb hby d5_38) rfl ?_
      show Steps p.tables e below (T277.setTop (mkF m 39 #[vR a1, vI (3 : Int32), vR a2, vI (1 : Int32), vI (2 : Int32), vI (3 : Int32), .unset, s7, s8, s9, s10] [(.int (3 : Int32)), (.int (3 : Int32))])) _
      refine XS.icmpYes X277.here hx rfl (pc0 := 39) (pc' := 84) rfl (hb hby d5_39) rfl (flt (by decide : ¬ ((3 : Int32) < (3 : Int32)))).2.1 (by decide) (by decide) ?_
      exact kt
    clear R280
    have R282 : ∀ tg, Steps p.tables e below (T277.setTop (mkF m 84 #[vR a1, vI (3 : Int32), vR a2, vI (1 : Int32), vI (Int32.ofNat 2), vI (3 : Int32), .unset, s7, s8, s9, s10] [])) tg → Steps p.tables e below (T0.setTop (mkF m 23 #[vR a1, vI (3 : Int32), vR a2, vI (1 : Int32), vI pp, vD dg, .second, s7, s8, s9, s10] [])) tg := R281
    exact ⟨_, X277, e277, R282⟩
theorem d5_116 : decode prog_76_method_1_code 116 = .ok (.iload 7, 2) := by decide +kernel
theorem d5_118 : decode prog_76_method_1_code 118 = .ok (.iload_n 1, 1) := by decide +kernel
theorem d5_119 : decode prog_76_method_1_code 119 = .ok (.if_icmp .ge 91, 3) := by decide +kernel
theorem d5_122 : decode prog_76_method_1_code 122 = .ok (.aload_n 0, 1) := by decide +kernel
theorem d5_123 : decode prog_76_method_1_code 123 = .ok (.getfield 13, 3) := by decide +kernel
theorem d5_126 : decode prog_76_method_1_code 126 = .ok (.iload 7, 2) := by decide +kernel
theorem d5_128 : decode prog_76_method_1_code 128 = .ok (.iload_n 1, 1) := by decide +kernel
theorem d5_129 : decode prog_76_method_1_code 129 = .ok (.imul, 1) := by decide +kernel
theorem d5_130 : decode prog_76_method_1_code 130 = .ok (.iload_n 3, 1) := by decide +kernel
theorem d5_131 : decode prog_76_method_1_code 131 = .ok (.iadd, 1) := by decide +kernel
theorem d5_132 : decode prog_76_method_1_code 132 = .ok (.daload, 1) := by decide +kernel
theorem d5_133 : decode prog_76_method_1_code 133 = .ok (.dload 5, 2) := by decide +kernel
theorem d5_135 : decode prog_76_method_1_code 135 = .ok (.ddiv, 1) := by decide +kernel
theorem d5_136 : decode prog_76_method_1_code 136 = .ok (.dstore 8, 2) := by decide +kernel
theorem d5_138 : decode prog_76_method_1_code 138 = .ok (.aload_n 0, 1) := by decide +kernel
theorem d5_139 : decode prog_76_method_1_code 139 = .ok (.getfield 13, 3) := by decide +kernel
theorem d5_142 : decode prog_76_method_1_code 142 = .ok (.iload 7, 2) := by decide +kernel
theorem d5_144 : decode prog_76_method_1_code 144 = .ok (.iload_n 1, 1) := by decide +kernel
theorem d5_145 : decode prog_76_method_1_code 145 = .ok (.imul, 1) := by decide +kernel
theorem d5_146 : decode prog_76_method_1_code 146 = .ok (.iload_n 3, 1) := by decide +kernel
theorem d5_147 : decode prog_76_method_1_code 147 = .ok (.iadd, 1) := by decide +kernel
theorem d5_148 : decode prog_76_method_1_code 148 = .ok (.dload 8, 2) := by decide +kernel
theorem d5_150 : decode prog_76_method_1_code 150 = .ok (.dastore, 1) := by decide +kernel
theorem d5_151 : decode prog_76_method_1_code 151 = .ok (.dload 8, 2) := by decide +kernel
theorem d5_153 : decode prog_76_method_1_code 153 = .ok (.dconst 0, 1) := by decide +kernel
theorem d5_154 : decode prog_76_method_1_code 154 = .ok (.dcmp .l, 1) := by decide +kernel
theorem d5_155 : decode prog_76_method_1_code 155 = .ok (.ifCond .eq 49, 3) := by decide +kernel
theorem d5_204 : decode prog_76_method_1_code 204 = .ok (.iinc 7 1, 3) := by decide +kernel
theorem d5_207 : decode prog_76_method_1_code 207 = .ok (.goto (-91), 3) := by decide +kernel
theorem d5_158 : decode prog_76_method_1_code 158 = .ok (.iload_n 3, 1) := by decide +kernel
theorem d5_159 : decode prog_76_method_1_code 159 = .ok (.iconst 1, 1) := by decide +kernel
theorem d5_160 : decode prog_76_method_1_code 160 = .ok (.iadd, 1) := by decide +kernel
theorem d5_161 : decode prog_76_method_1_code 161 = .ok (.istore 10, 2) := by decide +kernel
theorem d5_163 : decode prog_76_method_1_code 163 = .ok (.iload 10, 2) := by decide +kernel
theorem d5_165 : decode prog_76_method_1_code 165 = .ok (.iload_n 1, 1) := by decide +kernel
theorem d5_166 : decode prog_76_method_1_code 166 = .ok (.if_icmp .ge 38, 3) := by decide +kernel
theorem d5_169 : decode prog_76_method_1_code 169 = .ok (.aload_n 0, 1) := by decide +kernel
theorem d5_170 : decode prog_76_method_1_code 170 = .ok (.getfield 13, 3) := by decide +kernel
theorem d5_173 : decode prog_76_method_1_code 173 = .ok (.iload 7, 2) := by decide +kernel
theorem d5_175 : decode prog_76_method_1_code 175 = .ok (.iload_n 1, 1) := by decide +kernel
theorem d5_176 : decode prog_76_method_1_code 176 = .ok (.imul, 1) := by decide +kernel
theorem d5_177 : decode prog_76_method_1_code 177 = .ok (.iload 10, 2) := by decide +kernel
theorem d5_179 : decode prog_76_method_1_code 179 = .ok (.iadd, 1) := by decide +kernel
theorem d5_180 : decode prog_76_method_1_code 180 = .ok (.dup2, 1) := by decide +kernel
theorem d5_181 : decode prog_76_method_1_code 181 = .ok (.daload, 1) := by decide +kernel
theorem d5_182 : decode prog_76_method_1_code 182 = .ok (.dload 8, 2) := by decide +kernel
theorem d5_184 : decode prog_76_method_1_code 184 = .ok (.aload_n 0, 1) := by decide +kernel
theorem d5_185 : decode prog_76_method_1_code 185 = .ok (.getfield 13, 3) := by decide +kernel
theorem d5_188 : decode prog_76_method_1_code 188 = .ok (.iload_n 3, 1) := by decide +kernel
theorem d5_189 : decode prog_76_method_1_code 189 = .ok (.iload_n 1, 1) := by decide +kernel
theorem d5_190 : decode prog_76_method_1_code 190 = .ok (.imul, 1) := by decide +kernel
theorem d5_191 : decode prog_76_method_1_code 191 = .ok (.iload 10, 2) := by decide +kernel
theorem d5_193 : decode prog_76_method_1_code 193 = .ok (.iadd, 1) := by decide +kernel
theorem d5_194 : decode prog_76_method_1_code 194 = .ok (.daload, 1) := by decide +kernel
theorem d5_195 : decode prog_76_method_1_code 195 = .ok (.dmul, 1) := by decide +kernel
theorem d5_196 : decode prog_76_method_1_code 196 = .ok (.dsub, 1) := by decide +kernel
theorem d5_197 : decode prog_76_method_1_code 197 = .ok (.dastore, 1) := by decide +kernel
theorem d5_198 : decode prog_76_method_1_code 198 = .ok (.iinc 10 1, 3) := by decide +kernel
theorem d5_201 : decode prog_76_method_1_code 201 = .ok (.goto (-38), 3) := by decide +kernel
set_option maxRecDepth 65536 in
set_option maxHeartbeats 40000000 in
theorem lp_e01 {p : Program} {l : Launch} {e : Env} {s : State} {m : MethodId} {args : Array Value} {below : List Frame} {meth : Method} {c : Code} {Z : State} {a0 : Array Value} {n0 : Nat} {T0 : State} {locs : List Loc} {h0 : Heap} (a1 : Addr) (a2 : Addr) (x0 : Int) (x1 : Int) (x2 : Int) (x3 : Int) (x4 : Int) (x5 : Int) (x6 : Int) (x7 : Int) (x8 : Int) (ff : Int) (t1 : Int) (t2 : Int) (dg : UInt64) (s4 : Slot) (s8 : Slot) (s9 : Slot) (s10 : Slot) (X0 : Stand p l e ({ frames := 1, cells := 1, slots := 3, locals := 24 } : Room) s m args below meth c T0 locs 1 3) (hx : p.tables.exec = Jvm.exec) (hZ : Z.Warmed39 s.vm) (hw : ∀ d ∈ tables_1, d.before a0 Z = true) (hby : c.code = prog_76_method_1_code) (hml : c.maxLocals = 11) (hown : s.vm.findClass "com/example/inexact_odds/inexactodds/reach/DenseLu" = some m.cls) (e0 : T0.heap = h0) (N0 : Fr n0 locs) (Z0 : n0 ≤ h0.size) (Fl : Fld Z h0 a1 "com/example/inexact_odds/inexactodds/reach/DenseLu" "lu" "[D" (.ref a2)) (VA : VD Z h0 a2 9 [x0, x1, x2, x3, x4, x5, x6, x7, x8]) (ga : n0 ≤ a2) (na : a1 ≠ a2) (hdg : DR 2 x0 dg) (hs : own_OK s8 s9 s10) (hD : own_D1 x3 x0 ff) (hM1 : own_M1 ff x1 x4 t1) (hM2 : own_M1 ff x2 x5 t2) :
    ∃ (T' : State) (h' : Heap) (L' : List Loc) (s8' s10' : Slot), Stand p l e ({ frames := 1, cells := 1, slots := 3, locals := 24 } : Room) s m args below meth c T' L' 1 3 ∧ T'.heap = h' ∧ Fr n0 L' ∧ n0 ≤ h'.size ∧ Keep h0 h' [a2] ∧ VD Z h' a2 9 [x0, x1, x2, ff, t1, t2, x6, x7, x8] ∧ own_OK s8' .second s10' ∧ ∀ tg, Steps p.tables e below (T'.setTop (mkF m 116 #[vR a1, vI (3 : Int32), vR a2, vI (0 : Int32), s4, vD dg, .second, vI (2 : Int32), s8', .second, s10'] [])) tg → Steps p.tables e below (T0.setTop (mkF m 116 #[vR a1, vI (3 : Int32), vR a2, vI (0 : Int32), s4, vD dg, .second, vI (1 : Int32), s8, s9, s10] [])) tg := by
  have R283 : ∀ tg, Steps p.tables e below (T0.setTop (mkF m 123 #[vR a1, vI (3 : Int32), vR a2, vI (0 : Int32), s4, vD dg, .second, vI (1 : Int32), s8, s9, s10] [(.ref a1)])) tg → Steps p.tables e below (T0.setTop (mkF m 116 #[vR a1, vI (3 : Int32), vR a2, vI (0 : Int32), s4, vD dg, .second, vI (1 : Int32), s8, s9, s10] [])) tg := by
    intro tg kt
    refine (fun (t : State) (k : Steps p.tables e below (T0.setTop (mkF m 116 #[vR a1, vI (3 : Int32), vR a2, vI (0 : Int32), s4, vD dg, .second, vI (1 : Int32), s8, s9, s10] [])) t) => k) _ ?_
    show Steps p.tables e below (T0.setTop (mkF m 116 #[vR a1, vI (3 : Int32), vR a2, vI (0 : Int32), s4, vD dg, .second, vI (1 : Int32), s8, s9, s10] [])) _
    refine XS.iload X0.here hx rfl (hb hby d5_116) rfl ?_
    refine XS.iloadN X0.here hx rfl (hb hby d5_118) rfl ?_
    show Steps p.tables e below (T0.setTop (mkF m 119 #[vR a1, vI (3 : Int32), vR a2, vI (0 : Int32), s4, vD dg, .second, vI (1 : Int32), s8, s9, s10] [(.int (3 : Int32)), (.int (1 : Int32))])) _
    refine XS.icmpNo X0.here hx rfl (hb hby d5_119) rfl (tlt (by decide : (1 : Int32) < (3 : Int32))).2.1 ?_
    refine XS.aloadN X0.here hx rfl (hb hby d5_122) rfl rfl ?_
    exact kt
  obtain ⟨T284, X284, e284, st284⟩ := getF X0 hx hZ hown (host := "") (Or.inl (hw _ (List.mem_of_getElem? (i := 28) rfl))) Via.refl e0 Fl (g := (mkF m 123 #[vR a1, vI (3 : Int32), vR a2, vI (0 : Int32), s4, vD dg, .second, vI (1 : Int32), s8, s9, s10] [(.ref a1)])) rfl rfl (hb hby d5_123)
  have R285 : ∀ tg, Steps p.tables e below (T284.setTop (mkF m 132 #[vR a1, vI (3 : Int32), vR a2, vI (0 : Int32), s4, vD dg, .second, vI (1 : Int32), s8, s9, s10] [(.int (((1 : Int32) * (3 : Int32)) + (0 : Int32))), (.ref a2)])) tg → Steps p.tables e below (T0.setTop (mkF m 116 #[vR a1, vI (3 : Int32), vR a2, vI (0 : Int32), s4, vD dg, .second, vI (1 : Int32), s8, s9, s10] [])) tg := by
    intro tg kt
    refine R283 _ ?_
    refine st284 _ ?_
    refine XS.iload X284.here hx rfl (hb hby d5_126) rfl ?_
    show Steps p.tables e below (T284.setTop (mkF m 128 #[vR a1, vI (3 : Int32), vR a2, vI (0 : Int32), s4, vD dg, .second, vI (1 : Int32), s8, s9, s10] [(.int (1 : Int32)), (.ref a2)])) _
    refine XS.iloadN X284.here hx rfl (hb hby d5_128) rfl ?_
    show Steps p.tables e below (T284.setTop (mkF m 129 #[vR a1, vI (3 : Int32), vR a2, vI (0 : Int32), s4, vD dg, .second, vI (1 : Int32), s8, s9, s10] [(.int (3 : Int32)), (.int (1 : Int32)), (.ref a2)])) _
    refine XS.imul X284.here hx rfl (hb hby d5_129) rfl ?_
    refine XS.iloadN X284.here hx rfl (hb hby d5_130) rfl ?_
    show Steps p.tables e below (T284.setTop (mkF m 131 #[vR a1, vI (3 : Int32), vR a2, vI (0 : Int32), s4, vD dg, .second, vI (1 : Int32), s8, s9, s10] [(.int (0 : Int32)), (.int ((1 : Int32) * (3 : Int32))), (.ref a2)])) _
    refine XS.iadd X284.here hx rfl (hb hby d5_131) rfl ?_
    exact kt
  clear R283 st284
  obtain ⟨cl286, d286, Ar286, hin286, hat286, G286⟩ := VA.at (j := (((1 : Int32) * (3 : Int32)) + (0 : Int32))) (k := 3) (by decide) (by decide) (by decide)
  have H286 : DR 2 x3 d286 := G286
  have R287 : ∀ tg, Steps p.tables e below (T284.setTop (mkF m 135 #[vR a1, vI (3 : Int32), vR a2, vI (0 : Int32), s4, vD dg, .second, vI (1 : Int32), s8, s9, s10] [(.double dg), (.double d286)])) tg → Steps p.tables e below (T0.setTop (mkF m 116 #[vR a1, vI (3 : Int32), vR a2, vI (0 : Int32), s4, vD dg, .second, vI (1 : Int32), s8, s9, s10] [])) tg := by
    intro tg kt
    refine R285 _ ?_
    show Steps p.tables e below (T284.setTop (mkF m 132 #[vR a1, vI (3 : Int32), vR a2, vI (0 : Int32), s4, vD dg, .second, vI (1 : Int32), s8, s9, s10] [(.int (((1 : Int32) * (3 : Int32)) + (0 : Int32))), (.ref a2)])) _
    refine X284.daload hx (j := (((1 : Int32) * (3 : Int32)) + (0 : Int32))) (v := (.double d286)) (by rw [e284]; exact Ar286.1) (State.isArrayOf_alike hZ.alike Ar286.2.1) Ar286.2.2 hin286 hat286 (g := (mkF m 132 #[vR a1, vI (3 : Int32), vR a2, vI (0 : Int32), s4, vD dg, .second, vI (1 : Int32), s8, s9, s10] [(.int (((1 : Int32) * (3 : Int32)) + (0 : Int32))), (.ref a2)])) rfl rfl (hb hby d5_132) _ ?_
    show Steps p.tables e below (T284.setTop (mkF m 133 #[vR a1, vI (3 : Int32), vR a2, vI (0 : Int32), s4, vD dg, .second, vI (1 : Int32), s8, s9, s10] [(.double d286)])) _
    refine XS.dload X284.here hx rfl (hb hby d5_133) rfl ?_
    exact kt
  clear R285
  obtain ⟨d288, hv288, nn288, H288⟩ := own_dv (c := ff) H286 hdg hD.1 hD.2.1 hD.2.2
  have R289 : ∀ tg, Steps p.tables e below (T284.setTop (mkF m 139 #[vR a1, vI (3 : Int32), vR a2, vI (0 : Int32), s4, vD dg, .second, vI (1 : Int32), vD d288, .second, s10] [(.ref a1)])) tg → Steps p.tables e below (T0.setTop (mkF m 116 #[vR a1, vI (3 : Int32), vR a2, vI (0 : Int32), s4, vD dg, .second, vI (1 : Int32), s8, s9, s10] [])) tg := by
    intro tg kt
    refine R287 _ ?_
    show Steps p.tables e below (T284.setTop (mkF m 135 #[vR a1, vI (3 : Int32), vR a2, vI (0 : Int32), s4, vD dg, .second, vI (1 : Int32), s8, s9, s10] [(.double dg), (.double d286)])) _
    refine XS.ddivS X284.here hx rfl (hb hby d5_135) rfl nn288 hv288 ?_
    show Steps p.tables e below (T284.setTop (mkF m 136 #[vR a1, vI (3 : Int32), vR a2, vI (0 : Int32), s4, vD dg, .second, vI (1 : Int32), s8, s9, s10] [(.double d288)])) _
    refine XS.dstore X284.here hx rfl (hb hby d5_136) rfl (l' := #[vR a1, vI (3 : Int32), vR a2, vI (0 : Int32), s4, vD dg, .second, vI (1 : Int32), vD d288, .second, s10]) (own_st8 hs) ?_
    refine XS.aloadN X284.here hx rfl (hb hby d5_138) rfl rfl ?_
    exact kt
  clear R287
  obtain ⟨T290, X290, e290, st290⟩ := getF X284 hx hZ hown (host := "") (Or.inl (hw _ (List.mem_of_getElem? (i := 28) rfl))) Via.refl e284 Fl (g := (mkF m 139 #[vR a1, vI (3 : Int32), vR a2, vI (0 : Int32), s4, vD dg, .second, vI (1 : Int32), vD d288, .second, s10] [(.ref a1)])) rfl rfl (hb hby d5_139)
  have R291 : ∀ tg, Steps p.tables e below (T290.setTop (mkF m 150 #[vR a1, vI (3 : Int32), vR a2, vI (0 : Int32), s4, vD dg, .second, vI (1 : Int32), vD d288, .second, s10] [(.double d288), (.int (((1 : Int32) * (3 : Int32)) + (0 : Int32))), (.ref a2)])) tg → Steps p.tables e below (T0.setTop (mkF m 116 #[vR a1, vI (3 : Int32), vR a2, vI (0 : Int32), s4, vD dg, .second, vI (1 : Int32), s8, s9, s10] [])) tg := by
    intro tg kt
    refine R289 _ ?_
    refine st290 _ ?_
    refine XS.iload X290.here hx rfl (hb hby d5_142) rfl ?_
    show Steps p.tables e below (T290.setTop (mkF m 144 #[vR a1, vI (3 : Int32), vR a2, vI (0 : Int32), s4, vD dg, .second, vI (1 : Int32), vD d288, .second, s10] [(.int (1 : Int32)), (.ref a2)])) _
    refine XS.iloadN X290.here hx rfl (hb hby d5_144) rfl ?_
    show Steps p.tables e below (T290.setTop (mkF m 145 #[vR a1, vI (3 : Int32), vR a2, vI (0 : Int32), s4, vD dg, .second, vI (1 : Int32), vD d288, .second, s10] [(.int (3 : Int32)), (.int (1 : Int32)), (.ref a2)])) _
    refine XS.imul X290.here hx rfl (hb hby d5_145) rfl ?_
    refine XS.iloadN X290.here hx rfl (hb hby d5_146) rfl ?_
    show Steps p.tables e below (T290.setTop (mkF m 147 #[vR a1, vI (3 : Int32), vR a2, vI (0 : Int32), s4, vD dg, .second, vI (1 : Int32), vD d288, .second, s10] [(.int (0 : Int32)), (.int ((1 : Int32) * (3 : Int32))), (.ref a2)])) _
    refine XS.iadd X290.here hx rfl (hb hby d5_147) rfl ?_
    show Steps p.tables e below (T290.setTop (mkF m 148 #[vR a1, vI (3 : Int32), vR a2, vI (0 : Int32), s4, vD dg, .second, vI (1 : Int32), vD d288, .second, s10] [(.int (((1 : Int32) * (3 : Int32)) + (0 : Int32))), (.ref a2)])) _
    refine XS.dload X290.here hx rfl (hb hby d5_148) rfl ?_
    exact kt
  clear R289 st290
  obtain ⟨cl292, -, Ar292, hin292, -, -⟩ := VA.at (j := (((1 : Int32) * (3 : Int32)) + (0 : Int32))) (k := 3) (by decide) (by decide) (by decide)
  obtain ⟨T293, h293, X293, e293, W293, st293⟩ := stD X290 hx hZ e290 Ar292 (j := (((1 : Int32) * (3 : Int32)) + (0 : Int32))) hin292 (g := (mkF m 150 #[vR a1, vI (3 : Int32), vR a2, vI (0 : Int32), s4, vD dg, .second, vI (1 : Int32), vD d288, .second, s10] [(.double d288), (.int (((1 : Int32) * (3 : Int32)) + (0 : Int32))), (.ref a2)])) rfl rfl (hb hby d5_150)
  have N293 := Fr.snoc X293 N0 ga
  rw [show ((((1 : Int32) * (3 : Int32)) + (0 : Int32)) : Int32).toNatClampNeg = 3 from (by decide)] at W293
  have VA_293 : VD Z h293 a2 9 [x0, x1, x2, ff, x4, x5, x6, x7, x8] := VA.set W293 H288
  have Fl_293 := Fl.other W293 (Or.inl na)
  have Zs293 : n0 ≤ h293.size := Nat.le_trans Z0 (Keep.of_wr W293).1
  have Kw293 : Keep h0 h293 [a2] := Keep.wr (Keep.refl h0 [a2]) W293 (Or.inl (List.mem_of_getElem? (i := 0) rfl))
  have R294 : ∀ tg, Steps p.tables e below (T293.setTop (mkF m 154 #[vR a1, vI (3 : Int32), vR a2, vI (0 : Int32), s4, vD dg, .second, vI (1 : Int32), vD d288, .second, s10] [(.double (0 : UInt64)), (.double d288)])) tg → Steps p.tables e below (T0.setTop (mkF m 116 #[vR a1, vI (3 : Int32), vR a2, vI (0 : Int32), s4, vD dg, .second, vI (1 : Int32), s8, s9, s10] [])) tg := by
    intro tg kt
    refine R291 _ ?_
    refine st293 _ ?_
    show Steps p.tables e below (T293.setTop (mkF m 151 #[vR a1, vI (3 : Int32), vR a2, vI (0 : Int32), s4, vD dg, .second, vI (1 : Int32), vD d288, .second, s10] [])) _
    refine XS.dload X293.here hx rfl (hb hby d5_151) rfl ?_
    show Steps p.tables e below (T293.setTop (mkF m 153 #[vR a1, vI (3 : Int32), vR a2, vI (0 : Int32), s4, vD dg, .second, vI (1 : Int32), vD d288, .second, s10] [(.double d288)])) _
    refine XS.dconst0 X293.here hx rfl (hb hby d5_153) rfl ?_
    exact kt
  clear R291 st293
  have R295 : ∀ tg, Steps p.tables e below (T293.setTop (mkF m 155 #[vR a1, vI (3 : Int32), vR a2, vI (0 : Int32), s4, vD dg, .second, vI (1 : Int32), vD d288, .second, s10] [(.int (own_cv ff (0 : Int)))])) tg → Steps p.tables e below (T0.setTop (mkF m 116 #[vR a1, vI (3 : Int32), vR a2, vI (0 : Int32), s4, vD dg, .second, vI (1 : Int32), s8, s9, s10] [])) tg := by
    intro tg kt
    refine R294 _ ?_
    show Steps p.tables e below (T293.setTop (mkF m 154 #[vR a1, vI (3 : Int32), vR a2, vI (0 : Int32), s4, vD dg, .second, vI (1 : Int32), vD d288, .second, s10] [(.double (0 : UInt64)), (.double d288)])) _
    refine XS.dcmpS X293.here hx rfl (hb hby d5_154) rfl (own_cvl H288 own_dr0 _) ?_
    exact kt
  clear R294
  by_cases hf : (own_cv ff (0 : Int)) = (0 : Int32)
  · have R296 : ∀ tg, Steps p.tables e below (T293.setTop (mkF m 204 #[vR a1, vI (3 : Int32), vR a2, vI (0 : Int32), s4, vD dg, .second, vI (1 : Int32), vD d288, .second, s10] [])) tg → Steps p.tables e below (T0.setTop (mkF m 116 #[vR a1, vI (3 : Int32), vR a2, vI (0 : Int32), s4, vD dg, .second, vI (1 : Int32), s8, s9, s10] [])) tg := by
      intro tg kt
      refine R295 _ ?_
      show Steps p.tables e below (T293.setTop (mkF m 155 #[vR a1, vI (3 : Int32), vR a2, vI (0 : Int32), s4, vD dg, .second, vI (1 : Int32), vD d288, .second, s10] [(.int (own_cv ff (0 : Int)))])) _
      refine XS.ifYes X293.here hx rfl (pc0 := 155) (pc' := 204) rfl (hb hby d5_155) rfl ((if0 _ _).trans (teq (hf : (own_cv ff (0 : Int)) = (0 : Int32))).1) (by decide) (by decide) ?_
      exact kt
    clear R295
    have hz := own_cv0 hf
    have VA_297 : VD Z h293 a2 9 [x0, x1, x2, ff, t1, t2, x6, x7, x8] := by rw [← own_M0 hM1 hz, ← own_M0 hM2 hz]; exact VA_293
    have R298 : ∀ tg, Steps p.tables e below (T293.setTop (mkF m 116 #[vR a1, vI (3 : Int32), vR a2, vI (0 : Int32), s4, vD dg, .second, vI ((1 : Int32) + (1 : Int32)), vD d288, .second, s10] [])) tg → Steps p.tables e below (T0.setTop (mkF m 116 #[vR a1, vI (3 : Int32), vR a2, vI (0 : Int32), s4, vD dg, .second, vI (1 : Int32), s8, s9, s10] [])) tg := by
      intro tg kt
      refine R296 _ ?_
      show Steps p.tables e below (T293.setTop (mkF m 204 #[vR a1, vI (3 : Int32), vR a2, vI (0 : Int32), s4, vD dg, .second, vI (1 : Int32), vD d288, .second, s10] [])) _
      refine XS.iinc X293.here hx rfl (hb hby d5_204) rfl (l' := #[vR a1, vI (3 : Int32), vR a2, vI (0 : Int32), s4, vD dg, .second, vI ((1 : Int32) + (1 : Int32)), vD d288, .second, s10]) rfl ?_
      show Steps p.tables e below (T293.setTop (mkF m 207 #[vR a1, vI (3 : Int32), vR a2, vI (0 : Int32), s4, vD dg, .second, vI ((1 : Int32) + (1 : Int32)), vD d288, .second, s10] [])) _
      refine XS.goto X293.here hx rfl (pc0 := 207) (pc' := 116) rfl (hb hby d5_207) (by decide) (by decide) ?_
      exact kt
    clear R296
    have R299 : ∀ tg, Steps p.tables e below (T293.setTop (mkF m 116 #[vR a1, vI (3 : Int32), vR a2, vI (0 : Int32), s4, vD dg, .second, vI (2 : Int32), vD d288, .second, s10] [])) tg → Steps p.tables e below (T0.setTop (mkF m 116 #[vR a1, vI (3 : Int32), vR a2, vI (0 : Int32), s4, vD dg, .second, vI (1 : Int32), s8, s9, s10] [])) tg := R298
    exact ⟨_, _, _, _, _, X293, e293, N293, Zs293, Kw293, VA_297, (own_ok8 hs), R299⟩
  · have R300 : ∀ tg, Steps p.tables e below (T293.setTop (mkF m 163 #[vR a1, vI (3 : Int32), vR a2, vI (0 : Int32), s4, vD dg, .second, vI (1 : Int32), vD d288, .second, vI ((0 : Int32) + (1 : Int32))] [])) tg → Steps p.tables e below (T0.setTop (mkF m 116 #[vR a1, vI (3 : Int32), vR a2, vI (0 : Int32), s4, vD dg, .second, vI (1 : Int32), s8, s9, s10] [])) tg := by
      intro tg kt
      refine R295 _ ?_
      show Steps p.tables e below (T293.setTop (mkF m 155 #[vR a1, vI (3 : Int32), vR a2, vI (0 : Int32), s4, vD dg, .second, vI (1 : Int32), vD d288, .second, s10] [(.int (own_cv ff (0 : Int)))])) _
      refine XS.ifNo X293.here hx rfl (hb hby d5_155) rfl ((if0 _ _).trans (feq (hf : ¬ ((own_cv ff (0 : Int)) = (0 : Int32)))).1) ?_
      refine XS.iloadN X293.here hx rfl (hb hby d5_158) rfl ?_
      refine XS.iconst X293.here hx rfl (hb hby d5_159) ?_
      show Steps p.tables e below (T293.setTop (mkF m 160 #[vR a1, vI (3 : Int32), vR a2, vI (0 : Int32), s4, vD dg, .second, vI (1 : Int32), vD d288, .second, s10] [(.int (1 : Int32)), (.int (0 : Int32))])) _
      refine XS.iadd X293.here hx rfl (hb hby d5_160) rfl ?_
      show Steps p.tables e below (T293.setTop (mkF m 161 #[vR a1, vI (3 : Int32), vR a2, vI (0 : Int32), s4, vD dg, .second, vI (1 : Int32), vD d288, .second, s10] [(.int ((0 : Int32) + (1 : Int32)))])) _
      refine XS.istore X293.here hx rfl (hb hby d5_161) rfl (l' := #[vR a1, vI (3 : Int32), vR a2, vI (0 : Int32), s4, vD dg, .second, vI (1 : Int32), vD d288, .second, vI ((0 : Int32) + (1 : Int32))]) (own_st10 hs) ?_
      exact kt
    clear R295
    have R301 : ∀ tg, Steps p.tables e below (T293.setTop (mkF m 163 #[vR a1, vI (3 : Int32), vR a2, vI (0 : Int32), s4, vD dg, .second, vI (1 : Int32), vD d288, .second, vI (1 : Int32)] [])) tg → Steps p.tables e below (T0.setTop (mkF m 116 #[vR a1, vI (3 : Int32), vR a2, vI (0 : Int32), s4, vD dg, .second, vI (1 : Int32), s8, s9, s10] [])) tg := R300
    have R302 : ∀ tg, Steps p.tables e below (T293.setTop (mkF m 170 #[vR a1, vI (3 : Int32), vR a2, vI (0 : Int32), s4, vD dg, .second, vI (1 : Int32), vD d288, .second, vI (1 : Int32)] [(.ref a1)])) tg → Steps p.tables e below (T0.setTop (mkF m 116 #[vR a1, vI (3 : Int32), vR a2, vI (0 : Int32), s4, vD dg, .second, vI (1 : Int32), s8, s9, s10] [])) tg := by
      intro tg kt
      refine R301 _ ?_
      show Steps p.tables e below (T293.setTop (mkF m 163 #[vR a1, vI (3 : Int32), vR a2, vI (0 : Int32), s4, vD dg, .second, vI (1 : Int32), vD d288, .second, vI (1 : Int32)] [])) _
      refine XS.iload X293.here hx rfl (hb hby d5_163) rfl ?_
      refine XS.iloadN X293.here hx rfl (hb hby d5_165) rfl ?_
      show Steps p.tables e below (T293.setTop (mkF m 166 #[vR a1, vI (3 : Int32), vR a2, vI (0 : Int32), s4, vD dg, .second, vI (1 : Int32), vD d288, .second, vI (1 : Int32)] [(.int (3 : Int32)), (.int (1 : Int32))])) _
      refine XS.icmpNo X293.here hx rfl (hb hby d5_166) rfl (tlt (by decide : (1 : Int32) < (3 : Int32))).2.1 ?_
      refine XS.aloadN X293.here hx rfl (hb hby d5_169) rfl rfl ?_
      exact kt
    clear R301
    obtain ⟨T303, X303, e303, st303⟩ := getF X293 hx hZ hown (host := "") (Or.inl (hw _ (List.mem_of_getElem? (i := 28) rfl))) Via.refl e293 Fl_293 (g := (mkF m 170 #[vR a1, vI (3 : Int32), vR a2, vI (0 : Int32), s4, vD dg, .second, vI (1 : Int32), vD d288, .second, vI (1 : Int32)] [(.ref a1)])) rfl rfl (hb hby d5_170)
    have R304 : ∀ tg, Steps p.tables e below (T303.setTop (mkF m 181 #[vR a1, vI (3 : Int32), vR a2, vI (0 : Int32), s4, vD dg, .second, vI (1 : Int32), vD d288, .second, vI (1 : Int32)] [(.int (((1 : Int32) * (3 : Int32)) + (1 : Int32))), (.ref a2), (.int (((1 : Int32) * (3 : Int32)) + (1 : Int32))), (.ref a2)])) tg → Steps p.tables e below (T0.setTop (mkF m 116 #[vR a1, vI (3 : Int32), vR a2, vI (0 : Int32), s4, vD dg, .second, vI (1 : Int32), s8, s9, s10] [])) tg := by
      intro tg kt
      refine R302 _ ?_
      refine st303 _ ?_
      refine XS.iload X303.here hx rfl (hb hby d5_173) rfl ?_
      show Steps p.tables e below (T303.setTop (mkF m 175 #[vR a1, vI (3 : Int32), vR a2, vI (0 : Int32), s4, vD dg, .second, vI (1 : Int32), vD d288, .second, vI (1 : Int32)] [(.int (1 : Int32)), (.ref a2)])) _
      refine XS.iloadN X303.here hx rfl (hb hby d5_175) rfl ?_
      show Steps p.tables e below (T303.setTop (mkF m 176 #[vR a1, vI (3 : Int32), vR a2, vI (0 : Int32), s4, vD dg, .second, vI (1 : Int32), vD d288, .second, vI (1 : Int32)] [(.int (3 : Int32)), (.int (1 : Int32)), (.ref a2)])) _
      refine XS.imul X303.here hx rfl (hb hby d5_176) rfl ?_
      refine XS.iload X303.here hx rfl (hb hby d5_177) rfl ?_
      show Steps p.tables e below (T303.setTop (mkF m 179 #[vR a1, vI (3 : Int32), vR a2, vI (0 : Int32), s4, vD dg, .second, vI (1 : Int32), vD d288, .second, vI (1 : Int32)] [(.int (1 : Int32)), (.int ((1 : Int32) * (3 : Int32))), (.ref a2)])) _
      refine XS.iadd X303.here hx rfl (hb hby d5_179) rfl ?_
      show Steps p.tables e below (T303.setTop (mkF m 180 #[vR a1, vI (3 : Int32), vR a2, vI (0 : Int32), s4, vD dg, .second, vI (1 : Int32), vD d288, .second, vI (1 : Int32)] [(.int (((1 : Int32) * (3 : Int32)) + (1 : Int32))), (.ref a2)])) _
      jvm_step X303.here [X303.here.top, hx, (hb hby d5_180), Value.category]
      exact kt
    clear R302 st303
    obtain ⟨cl305, d305, Ar305, hin305, hat305, G305⟩ := VA_293.at (j := (((1 : Int32) * (3 : Int32)) + (1 : Int32))) (k := 4) (by decide) (by decide) (by decide)
    have H305 : DR 2 x4 d305 := G305
    have R306 : ∀ tg, Steps p.tables e below (T303.setTop (mkF m 185 #[vR a1, vI (3 : Int32), vR a2, vI (0 : Int32), s4, vD dg, .second, vI (1 : Int32), vD d288, .second, vI (1 : Int32)] [(.ref a1), (.double d288), (.double d305), (.int (((1 : Int32) * (3 : Int32)) + (1 : Int32))), (.ref a2)])) tg → Steps p.tables e below (T0.setTop (mkF m 116 #[vR a1, vI (3 : Int32), vR a2, vI (0 : Int32), s4, vD dg, .second, vI (1 : Int32), s8, s9, s10] [])) tg := by
      intro tg kt
      refine R304 _ ?_
      show Steps p.tables e below (T303.setTop (mkF m 181 #[vR a1, vI (3 : Int32), vR a2, vI (0 : Int32), s4, vD dg, .second, vI (1 : Int32), vD d288, .second, vI (1 : Int32)] [(.int (((1 : Int32) * (3 : Int32)) + (1 : Int32))), (.ref a2), (.int (((1 : Int32) * (3 : Int32)) + (1 : Int32))), (.ref a2)])) _
      refine X303.daload hx (j := (((1 : Int32) * (3 : Int32)) + (1 : Int32))) (v := (.double d305)) (by rw [e303]; exact Ar305.1) (State.isArrayOf_alike hZ.alike Ar305.2.1) Ar305.2.2 hin305 hat305 (g := (mkF m 181 #[vR a1, vI (3 : Int32), vR a2, vI (0 : Int32), s4, vD dg, .second, vI (1 : Int32), vD d288, .second, vI (1 : Int32)] [(.int (((1 : Int32) * (3 : Int32)) + (1 : Int32))), (.ref a2), (.int (((1 : Int32) * (3 : Int32)) + (1 : Int32))), (.ref a2)])) rfl rfl (hb hby d5_181) _ ?_
      show Steps p.tables e below (T303.setTop (mkF m 182 #[vR a1, vI (3 : Int32), vR a2, vI (0 : Int32), s4, vD dg, .second, vI (1 : Int32), vD d288, .second, vI (1 : Int32)] [(.double d305), (.int (((1 : Int32) * (3 : Int32)) + (1 : Int32))), (.ref a2)])) _
      refine XS.dload X303.here hx rfl (hb hby d5_182) rfl ?_
      refine XS.aloadN X303.here hx rfl (hb hby d5_184) rfl rfl ?_
      exact kt
    clear R304
    obtain ⟨T307, X307, e307, st307⟩ := getF X303 hx hZ hown (host := "") (Or.inl (hw _ (List.mem_of_getElem? (i := 28) rfl))) Via.refl e303 Fl_293 (g := (mkF m 185 #[vR a1, vI (3 : Int32), vR a2, vI (0 : Int32), s4, vD dg, .second, vI (1 : Int32), vD d288, .second, vI (1 : Int32)] [(.ref a1), (.double d288), (.double d305), (.int (((1 : Int32) * (3 : Int32)) + (1 : Int32))), (.ref a2)])) rfl rfl (hb hby d5_185)
    have R308 : ∀ tg, Steps p.tables e below (T307.setTop (mkF m 194 #[vR a1, vI (3 : Int32), vR a2, vI (0 : Int32), s4, vD dg, .second, vI (1 : Int32), vD d288, .second, vI (1 : Int32)] [(.int (((0 : Int32) * (3 : Int32)) + (1 : Int32))), (.ref a2), (.double d288), (.double d305), (.int (((1 : Int32) * (3 : Int32)) + (1 : Int32))), (.ref a2)])) tg → Steps p.tables e below (T0.setTop (mkF m 116 #[vR a1, vI (3 : Int32), vR a2, vI (0 : Int32), s4, vD dg, .second, vI (1 : Int32), s8, s9, s10] [])) tg := by
      intro tg kt
      refine R306 _ ?_
      refine st307 _ ?_
      refine XS.iloadN X307.here hx rfl (hb hby d5_188) rfl ?_
      show Steps p.tables e below (T307.setTop (mkF m 189 #[vR a1, vI (3 : Int32), vR a2, vI (0 : Int32), s4, vD dg, .second, vI (1 : Int32), vD d288, .second, vI (1 : Int32)] [(.int (0 : Int32)), (.ref a2), (.double d288), (.double d305), (.int (((1 : Int32) * (3 : Int32)) + (1 : Int32))), (.ref a2)])) _
      refine XS.iloadN X307.here hx rfl (hb hby d5_189) rfl ?_
      show Steps p.tables e below (T307.setTop (mkF m 190 #[vR a1, vI (3 : Int32), vR a2, vI (0 : Int32), s4, vD dg, .second, vI (1 : Int32), vD d288, .second, vI (1 : Int32)] [(.int (3 : Int32)), (.int (0 : Int32)), (.ref a2), (.double d288), (.double d305), (.int (((1 : Int32) * (3 : Int32)) + (1 : Int32))), (.ref a2)])) _
      refine XS.imul X307.here hx rfl (hb hby d5_190) rfl ?_
      refine XS.iload X307.here hx rfl (hb hby d5_191) rfl ?_
      show Steps p.tables e below (T307.setTop (mkF m 193 #[vR a1, vI (3 : Int32), vR a2, vI (0 : Int32), s4, vD dg, .second, vI (1 : Int32), vD d288, .second, vI (1 : Int32)] [(.int (1 : Int32)), (.int ((0 : Int32) * (3 : Int32))), (.ref a2), (.double d288), (.double d305), (.int (((1 : Int32) * (3 : Int32)) + (1 : Int32))), (.ref a2)])) _
      refine XS.iadd X307.here hx rfl (hb hby d5_193) rfl ?_
      exact kt
    clear R306 st307
    obtain ⟨cl309, d309, Ar309, hin309, hat309, G309⟩ := VA_293.at (j := (((0 : Int32) * (3 : Int32)) + (1 : Int32))) (k := 1) (by decide) (by decide) (by decide)
    have H309 : DR 2 x1 d309 := G309
    have R310 : ∀ tg, Steps p.tables e below (T307.setTop (mkF m 195 #[vR a1, vI (3 : Int32), vR a2, vI (0 : Int32), s4, vD dg, .second, vI (1 : Int32), vD d288, .second, vI (1 : Int32)] [(.double d309), (.double d288), (.double d305), (.int (((1 : Int32) * (3 : Int32)) + (1 : Int32))), (.ref a2)])) tg → Steps p.tables e below (T0.setTop (mkF m 116 #[vR a1, vI (3 : Int32), vR a2, vI (0 : Int32), s4, vD dg, .second, vI (1 : Int32), s8, s9, s10] [])) tg := by
      intro tg kt
      refine R308 _ ?_
      show Steps p.tables e below (T307.setTop (mkF m 194 #[vR a1, vI (3 : Int32), vR a2, vI (0 : Int32), s4, vD dg, .second, vI (1 : Int32), vD d288, .second, vI (1 : Int32)] [(.int (((0 : Int32) * (3 : Int32)) + (1 : Int32))), (.ref a2), (.double d288), (.double d305), (.int (((1 : Int32) * (3 : Int32)) + (1 : Int32))), (.ref a2)])) _
      refine X307.daload hx (j := (((0 : Int32) * (3 : Int32)) + (1 : Int32))) (v := (.double d309)) (by rw [e307]; exact Ar309.1) (State.isArrayOf_alike hZ.alike Ar309.2.1) Ar309.2.2 hin309 hat309 (g := (mkF m 194 #[vR a1, vI (3 : Int32), vR a2, vI (0 : Int32), s4, vD dg, .second, vI (1 : Int32), vD d288, .second, vI (1 : Int32)] [(.int (((0 : Int32) * (3 : Int32)) + (1 : Int32))), (.ref a2), (.double d288), (.double d305), (.int (((1 : Int32) * (3 : Int32)) + (1 : Int32))), (.ref a2)])) rfl rfl (hb hby d5_194) _ ?_
      exact kt
    clear R308
    obtain ⟨nm311, d311, hv311, nn311, H311⟩ := own_ms (t := t1) H305 H288 H309 hM1.1 hM1.2.1 hM1.2.2
    have R312 : ∀ tg, Steps p.tables e below (T307.setTop (mkF m 197 #[vR a1, vI (3 : Int32), vR a2, vI (0 : Int32), s4, vD dg, .second, vI (1 : Int32), vD d288, .second, vI (1 : Int32)] [(.double d311), (.int (((1 : Int32) * (3 : Int32)) + (1 : Int32))), (.ref a2)])) tg → Steps p.tables e below (T0.setTop (mkF m 116 #[vR a1, vI (3 : Int32), vR a2, vI (0 : Int32), s4, vD dg, .second, vI (1 : Int32), s8, s9, s10] [])) tg := by
      intro tg kt
      refine R310 _ ?_
      show Steps p.tables e below (T307.setTop (mkF m 195 #[vR a1, vI (3 : Int32), vR a2, vI (0 : Int32), s4, vD dg, .second, vI (1 : Int32), vD d288, .second, vI (1 : Int32)] [(.double d309), (.double d288), (.double d305), (.int (((1 : Int32) * (3 : Int32)) + (1 : Int32))), (.ref a2)])) _
      refine XS.dmulS X307.here hx rfl (hb hby d5_195) rfl nm311 rfl ?_
      show Steps p.tables e below (T307.setTop (mkF m 196 #[vR a1, vI (3 : Int32), vR a2, vI (0 : Int32), s4, vD dg, .second, vI (1 : Int32), vD d288, .second, vI (1 : Int32)] [(.double (Jvm.FP.dmul d288 d309)), (.double d305), (.int (((1 : Int32) * (3 : Int32)) + (1 : Int32))), (.ref a2)])) _
      refine XS.dsubS X307.here hx rfl (hb hby d5_196) rfl nn311 hv311 ?_
      exact kt
    clear R310
    obtain ⟨cl313, -, Ar313, hin313, -, -⟩ := VA_293.at (j := (((1 : Int32) * (3 : Int32)) + (1 : Int32))) (k := 4) (by decide) (by decide) (by decide)
    obtain ⟨T314, h314, X314, e314, W314, st314⟩ := stD X307 hx hZ e307 Ar313 (j := (((1 : Int32) * (3 : Int32)) + (1 : Int32))) hin313 (g := (mkF m 197 #[vR a1, vI (3 : Int32), vR a2, vI (0 : Int32), s4, vD dg, .second, vI (1 : Int32), vD d288, .second, vI (1 : Int32)] [(.double d311), (.int (((1 : Int32) * (3 : Int32)) + (1 : Int32))), (.ref a2)])) rfl rfl (hb hby d5_197)
    have N314 := Fr.snoc X314 N293 ga
    rw [show ((((1 : Int32) * (3 : Int32)) + (1 : Int32)) : Int32).toNatClampNeg = 4 from (by decide)] at W314
    have VA_314 : VD Z h314 a2 9 [x0, x1, x2, ff, t1, x5, x6, x7, x8] := VA_293.set W314 H311
    have Fl_314 := Fl_293.other W314 (Or.inl na)
    clear Fl_293
    have Zs314 : n0 ≤ h314.size := Nat.le_trans Zs293 (Keep.of_wr W314).1
    have Kw314 : Keep h0 h314 [a2] := Keep.wr Kw293 W314 (Or.inl (List.mem_of_getElem? (i := 0) rfl))
    have R315 : ∀ tg, Steps p.tables e below (T314.setTop (mkF m 163 #[vR a1, vI (3 : Int32), vR a2, vI (0 : Int32), s4, vD dg, .second, vI (1 : Int32), vD d288, .second, vI ((1 : Int32) + (1 : Int32))] [])) tg → Steps p.tables e below (T0.setTop (mkF m 116 #[vR a1, vI (3 : Int32), vR a2, vI (0 : Int32), s4, vD dg, .second, vI (1 : Int32), s8, s9, s10] [])) tg := by
      intro tg kt
      refine R312 _ ?_
      refine st314 _ ?_
      show Steps p.tables e below (T314.setTop (mkF m 198 #[vR a1, vI (3 : Int32), vR a2, vI (0 : Int32), s4, vD dg, .second, vI (1 : Int32), vD d288, .second, vI (1 : Int32)] [])) _
      refine XS.iinc X314.here hx rfl (hb hby d5_198) rfl (l' := #[vR a1, vI (3 : Int32), vR a2, vI (0 : Int32), s4, vD dg, .second, vI (1 : Int32), vD d288, .second, vI ((1 : Int32) + (1 : Int32))]) rfl ?_
      show Steps p.tables e below (T314.setTop (mkF m 201 #[vR a1, vI (3 : Int32), vR a2, vI (0 : Int32), s4, vD dg, .second, vI (1 : Int32), vD d288, .second, vI ((1 : Int32) + (1 : Int32))] [])) _
      refine XS.goto X314.here hx rfl (pc0 := 201) (pc' := 163) rfl (hb hby d5_201) (by decide) (by decide) ?_
      exact kt
    clear R312 st314
    have R316 : ∀ tg, Steps p.tables e below (T314.setTop (mkF m 163 #[vR a1, vI (3 : Int32), vR a2, vI (0 : Int32), s4, vD dg, .second, vI (1 : Int32), vD d288, .second, vI (2 : Int32)] [])) tg → Steps p.tables e below (T0.setTop (mkF m 116 #[vR a1, vI (3 : Int32), vR a2, vI (0 : Int32), s4, vD dg, .second, vI (1 : Int32), s8, s9, s10] [])) tg := R315
    have R317 : ∀ tg, Steps p.tables e below (T314.setTop (mkF m 170 #[vR a1, vI (3 : Int32), vR a2, vI (0 : Int32), s4, vD dg, .second, vI (1 : Int32), vD d288, .second, vI (2 : Int32)] [(.ref a1)])) tg → Steps p.tables e below (T0.setTop (mkF m 116 #[vR a1, vI (3 : Int32), vR a2, vI (0 : Int32), s4, vD dg, .second, vI (1 : Int32), s8, s9, s10] [])) tg := by
      intro tg kt
      refine R316 _ ?_
      show Steps p.tables e below (T314.setTop (mkF m 163 #[vR a1, vI (3 : Int32), vR a2, vI (0 : Int32), s4, vD dg, .second, vI (1 : Int32), vD d288, .second, vI (2 : Int32)] [])) _
      refine XS.iload X314.here hx rfl (hb hby d5_163) rfl ?_
      refine XS.iloadN X314.here hx rfl (hb hby d5_165) rfl ?_
      show Steps p.tables e below (T314.setTop (mkF m 166 #[vR a1, vI (3 : Int32), vR a2, vI (0 : Int32), s4, vD dg, .second, vI (1 : Int32), vD d288, .second, vI (2 : Int32)] [(.int (3 : Int32)), (.int (2 : Int32))])) _
      refine XS.icmpNo X314.here hx rfl (hb hby d5_166) rfl (tlt (by decide : (2 : Int32) < (3 : Int32))).2.1 ?_
      refine XS.aloadN X314.here hx rfl (hb hby d5_169) rfl rfl ?_
      exact kt
    clear R316
    obtain ⟨T318, X318, e318, st318⟩ := getF X314 hx hZ hown (host := "") (Or.inl (hw _ (List.mem_of_getElem? (i := 28) rfl))) Via.refl e314 Fl_314 (g := (mkF m 170 #[vR a1, vI (3 : Int32), vR a2, vI (0 : Int32), s4, vD dg, .second, vI (1 : Int32), vD d288, .second, vI (2 : Int32)] [(.ref a1)])) rfl rfl (hb hby d5_170)
    have R319 : ∀ tg, Steps p.tables e below (T318.setTop (mkF m 181 #[vR a1, vI (3 : Int32), vR a2, vI (0 : Int32), s4, vD dg, .second, vI (1 : Int32), vD d288, .second, vI (2 : Int32)] [(.int (((1 : Int32) * (3 : Int32)) + (2 : Int32))), (.ref a2), (.int (((1 : Int32) * (3 : Int32)) + (2 : Int32))), (.ref a2)])) tg → Steps p.tables e below (T0.setTop (mkF m 116 #[vR a1, vI (3 : Int32), vR a2, vI (0 : Int32), s4, vD dg, .second, vI (1 : Int32), s8, s9, s10] [])) tg := by
      intro tg kt
      refine R317 _ ?_
      refine st318 _ ?_
      refine XS.iload X318.here hx rfl (hb hby d5_173) rfl ?_
      show Steps p.tables e below (T318.setTop (mkF m 175 #[vR a1, vI (3 : Int32), vR a2, vI (0 : Int32), s4, vD dg, .second, vI (1 : Int32), vD d288, .second, vI (2 : Int32)] [(.int (1 : Int32)), (.ref a2)])) _
      refine XS.iloadN X318.here hx rfl (hb hby d5_175) rfl ?_
      show Steps p.tables e below (T318.setTop (mkF m 176 #[vR a1, vI (3 : Int32), vR a2, vI (0 : Int32), s4, vD dg, .second, vI (1 : Int32), vD d288, .second, vI (2 : Int32)] [(.int (3 : Int32)), (.int (1 : Int32)), (.ref a2)])) _
      refine XS.imul X318.here hx rfl (hb hby d5_176) rfl ?_
      refine XS.iload X318.here hx rfl (hb hby d5_177) rfl ?_
      show Steps p.tables e below (T318.setTop (mkF m 179 #[vR a1, vI (3 : Int32), vR a2, vI (0 : Int32), s4, vD dg, .second, vI (1 : Int32), vD d288, .second, vI (2 : Int32)] [(.int (2 : Int32)), (.int ((1 : Int32) * (3 : Int32))), (.ref a2)])) _
      refine XS.iadd X318.here hx rfl (hb hby d5_179) rfl ?_
      show Steps p.tables e below (T318.setTop (mkF m 180 #[vR a1, vI (3 : Int32), vR a2, vI (0 : Int32), s4, vD dg, .second, vI (1 : Int32), vD d288, .second, vI (2 : Int32)] [(.int (((1 : Int32) * (3 : Int32)) + (2 : Int32))), (.ref a2)])) _
      jvm_step X318.here [X318.here.top, hx, (hb hby d5_180), Value.category]
      exact kt
    clear R317 st318
    obtain ⟨cl320, d320, Ar320, hin320, hat320, G320⟩ := VA_314.at (j := (((1 : Int32) * (3 : Int32)) + (2 : Int32))) (k := 5) (by decide) (by decide) (by decide)
    have H320 : DR 2 x5 d320 := G320
    have R321 : ∀ tg, Steps p.tables e below (T318.setTop (mkF m 185 #[vR a1, vI (3 : Int32), vR a2, vI (0 : Int32), s4, vD dg, .second, vI (1 : Int32), vD d288, .second, vI (2 : Int32)] [(.ref a1), (.double d288), (.double d320), (.int (((1 : Int32) * (3 : Int32)) + (2 : Int32))), (.ref a2)])) tg → Steps p.tables e below (T0.setTop (mkF m 116 #[vR a1, vI (3 : Int32), vR a2, vI (0 : Int32), s4, vD dg, .second, vI (1 : Int32), s8, s9, s10] [])) tg := by
      intro tg kt
      refine R319 _ ?_
      show Steps p.tables e below (T318.setTop (mkF m 181 #[vR a1, vI (3 : Int32), vR a2, vI (0 : Int32), s4, vD dg, .second, vI (1 : Int32), vD d288, .second, vI (2 : Int32)] [(.int (((1 : Int32) * (3 : Int32)) + (2 : Int32))), (.ref a2), (.int (((1 : Int32) * (3 : Int32)) + (2 : Int32))), (.ref a2)])) _
      refine X318.daload hx (j := (((1 : Int32) * (3 : Int32)) + (2 : Int32))) (v := (.double d320)) (by rw [e318]; exact Ar320.1) (State.isArrayOf_alike hZ.alike Ar320.2.1) Ar320.2.2 hin320 hat320 (g := (mkF m 181 #[vR a1, vI (3 : Int32), vR a2, vI (0 : Int32), s4, vD dg, .second, vI (1 : Int32), vD d288, .second, vI (2 : Int32)] [(.int (((1 : Int32) * (3 : Int32)) + (2 : Int32))), (.ref a2), (.int (((1 : Int32) * (3 : Int32)) + (2 : Int32))), (.ref a2)])) rfl rfl (hb hby d5_181) _ ?_
      show Steps p.tables e below (T318.setTop (mkF m 182 #[vR a1, vI (3 : Int32), vR a2, vI (0 : Int32), s4, vD dg, .second, vI (1 : Int32), vD d288, .second, vI (2 : Int32)] [(.double d320), (.int (((1 : Int32) * (3 : Int32)) + (2 : Int32))), (.ref a2)])) _
      refine XS.dload X318.here hx rfl (hb hby d5_182) rfl ?_
      refine XS.aloadN X318.here hx rfl (hb hby d5_184) rfl rfl ?_
      exact kt
    clear R319
    obtain ⟨T322, X322, e322, st322⟩ := getF X318 hx hZ hown (host := "") (Or.inl (hw _ (List.mem_of_getElem? (i := 28) rfl))) Via.refl e318 Fl_314 (g := (mkF m 185 #[vR a1, vI (3 : Int32), vR a2, vI (0 : Int32), s4, vD dg, .second, vI (1 : Int32), vD d288, .second, vI (2 : Int32)] [(.ref a1), (.double d288), (.double d320), (.int (((1 : Int32) * (3 : Int32)) + (2 : Int32))), (.ref a2)])) rfl rfl (hb hby d5_185)
    have R323 : ∀ tg, Steps p.tables e below (T322.setTop (mkF m 194 #[vR a1, vI (3 : Int32), vR a2, vI (0 : Int32), s4, vD dg, .second, vI (1 : Int32), vD d288, .second, vI (2 : Int32)] [(.int (((0 : Int32) * (3 : Int32)) + (2 : Int32))), (.ref a2), (.double d288), (.double d320), (.int (((1 : Int32) * (3 : Int32)) + (2 : Int32))), (.ref a2)])) tg → Steps p.tables e below (T0.setTop (mkF m 116 #[vR a1, vI (3 : Int32), vR a2, vI (0 : Int32), s4, vD dg, .second, vI (1 : Int32), s8, s9, s10] [])) tg := by
      intro tg kt
      refine R321 _ ?_
      refine st322 _ ?_
      refine XS.iloadN X322.here hx rfl (hb hby d5_188) rfl ?_
      show Steps p.tables e below (T322.setTop (mkF m 189 #[vR a1, vI (3 : Int32), vR a2, vI (0 : Int32), s4, vD dg, .second, vI (1 : Int32), vD d288, .second, vI (2 : Int32)] [(.int (0 : Int32)), (.ref a2), (.double d288), (.double d320), (.int (((1 : Int32) * (3 : Int32)) + (2 : Int32))), (.ref a2)])) _
      refine XS.iloadN X322.here hx rfl (hb hby d5_189) rfl ?_
      show Steps p.tables e below (T322.setTop (mkF m 190 #[vR a1, vI (3 : Int32), vR a2, vI (0 : Int32), s4, vD dg, .second, vI (1 : Int32), vD d288, .second, vI (2 : Int32)] [(.int (3 : Int32)), (.int (0 : Int32)), (.ref a2), (.double d288), (.double d320), (.int (((1 : Int32) * (3 : Int32)) + (2 : Int32))), (.ref a2)])) _
      refine XS.imul X322.here hx rfl (hb hby d5_190) rfl ?_
      refine XS.iload X322.here hx rfl (hb hby d5_191) rfl ?_
      show Steps p.tables e below (T322.setTop (mkF m 193 #[vR a1, vI (3 : Int32), vR a2, vI (0 : Int32), s4, vD dg, .second, vI (1 : Int32), vD d288, .second, vI (2 : Int32)] [(.int (2 : Int32)), (.int ((0 : Int32) * (3 : Int32))), (.ref a2), (.double d288), (.double d320), (.int (((1 : Int32) * (3 : Int32)) + (2 : Int32))), (.ref a2)])) _
      refine XS.iadd X322.here hx rfl (hb hby d5_193) rfl ?_
      exact kt
    clear R321 st322
    obtain ⟨cl324, d324, Ar324, hin324, hat324, G324⟩ := VA_314.at (j := (((0 : Int32) * (3 : Int32)) + (2 : Int32))) (k := 2) (by decide) (by decide) (by decide)
    have H324 : DR 2 x2 d324 := G324
    have R325 : ∀ tg, Steps p.tables e below (T322.setTop (mkF m 195 #[vR a1, vI (3 : Int32), vR a2, vI (0 : Int32), s4, vD dg, .second, vI (1 : Int32), vD d288, .second, vI (2 : Int32)] [(.double d324), (.double d288), (.double d320), (.int (((1 : Int32) * (3 : Int32)) + (2 : Int32))), (.ref a2)])) tg → Steps p.tables e below (T0.setTop (mkF m 116 #[vR a1, vI (3 : Int32), vR a2, vI (0 : Int32), s4, vD dg, .second, vI (1 : Int32), s8, s9, s10] [])) tg := by
      intro tg kt
      refine R323 _ ?_
      show Steps p.tables e below (T322.setTop (mkF m 194 #[vR a1, vI (3 : Int32), vR a2, vI (0 : Int32), s4, vD dg, .second, vI (1 : Int32), vD d288, .second, vI (2 : Int32)] [(.int (((0 : Int32) * (3 : Int32)) + (2 : Int32))), (.ref a2), (.double d288), (.double d320), (.int (((1 : Int32) * (3 : Int32)) + (2 : Int32))), (.ref a2)])) _
      refine X322.daload hx (j := (((0 : Int32) * (3 : Int32)) + (2 : Int32))) (v := (.double d324)) (by rw [e322]; exact Ar324.1) (State.isArrayOf_alike hZ.alike Ar324.2.1) Ar324.2.2 hin324 hat324 (g := (mkF m 194 #[vR a1, vI (3 : Int32), vR a2, vI (0 : Int32), s4, vD dg, .second, vI (1 : Int32), vD d288, .second, vI (2 : Int32)] [(.int (((0 : Int32) * (3 : Int32)) + (2 : Int32))), (.ref a2), (.double d288), (.double d320), (.int (((1 : Int32) * (3 : Int32)) + (2 : Int32))), (.ref a2)])) rfl rfl (hb hby d5_194) _ ?_
      exact kt
    clear R323
    obtain ⟨nm326, d326, hv326, nn326, H326⟩ := own_ms (t := t2) H320 H288 H324 hM2.1 hM2.2.1 hM2.2.2
    have R327 : ∀ tg, Steps p.tables e below (T322.setTop (mkF m 197 #[vR a1, vI (3 : Int32), vR a2, vI (0 : Int32), s4, vD dg, .second, vI (1 : Int32), vD d288, .second, vI (2 : Int32)] [(.double d326), (.int (((1 : Int32) * (3 : Int32)) + (2 : Int32))), (.ref a2)])) tg → Steps p.tables e below (T0.setTop (mkF m 116 #[vR a1, vI (3 : Int32), vR a2, vI (0 : Int32), s4, vD dg, .second, vI (1 : Int32), s8, s9, s10] [])) tg := by
      intro tg kt
      refine R325 _ ?_
      show Steps p.tables e below (T322.setTop (mkF m 195 #[vR a1, vI (3 : Int32), vR a2, vI (0 : Int32), s4, vD dg, .second, vI (1 : Int32), vD d288, .second, vI (2 : Int32)] [(.double d324), (.double d288), (.double d320), (.int (((1 : Int32) * (3 : Int32)) + (2 : Int32))), (.ref a2)])) _
      refine XS.dmulS X322.here hx rfl (hb hby d5_195) rfl nm326 rfl ?_
      show Steps p.tables e below (T322.setTop (mkF m 196 #[vR a1, vI (3 : Int32), vR a2, vI (0 : Int32), s4, vD dg, .second, vI (1 : Int32), vD d288, .second, vI (2 : Int32)] [(.double (Jvm.FP.dmul d288 d324)), (.double d320), (.int (((1 : Int32) * (3 : Int32)) + (2 : Int32))), (.ref a2)])) _
      refine XS.dsubS X322.here hx rfl (hb hby d5_196) rfl nn326 hv326 ?_
      exact kt
    clear R325
    obtain ⟨cl328, -, Ar328, hin328, -, -⟩ := VA_314.at (j := (((1 : Int32) * (3 : Int32)) + (2 : Int32))) (k := 5) (by decide) (by decide) (by decide)
    obtain ⟨T329, h329, X329, e329, W329, st329⟩ := stD X322 hx hZ e322 Ar328 (j := (((1 : Int32) * (3 : Int32)) + (2 : Int32))) hin328 (g := (mkF m 197 #[vR a1, vI (3 : Int32), vR a2, vI (0 : Int32), s4, vD dg, .second, vI (1 : Int32), vD d288, .second, vI (2 : Int32)] [(.double d326), (.int (((1 : Int32) * (3 : Int32)) + (2 : Int32))), (.ref a2)])) rfl rfl (hb hby d5_197)
    have N329 := Fr.snoc X329 N314 ga
    rw [show ((((1 : Int32) * (3 : Int32)) + (2 : Int32)) : Int32).toNatClampNeg = 5 from (by decide)] at W329
    have VA_329 : VD Z h329 a2 9 [x0, x1, x2, ff, t1, t2, x6, x7, x8] := VA_314.set W329 H326
    have Fl_329 := Fl_314.other W329 (Or.inl na)
    clear Fl_314
    have Zs329 : n0 ≤ h329.size := Nat.le_trans Zs314 (Keep.of_wr W329).1
    have Kw329 : Keep h0 h329 [a2] := Keep.wr Kw314 W329 (Or.inl (List.mem_of_getElem? (i := 0) rfl))
    have R330 : ∀ tg, Steps p.tables e below (T329.setTop (mkF m 163 #[vR a1, vI (3 : Int32), vR a2, vI (0 : Int32), s4, vD dg, .second, vI (1 : Int32), vD d288, .second, vI ((2 : Int32) + (1 : Int32))] [])) tg → Steps p.tables e below (T0.setTop (mkF m 116 #[vR a1, vI (3 : Int32), vR a2, vI (0 : Int32), s4, vD dg, .second, vI (1 : Int32), s8, s9, s10] [])) tg := by
      intro tg kt
      refine R327 _ ?_
      refine st329 _ ?_
      show Steps p.tables e below (T329.setTop (mkF m 198 #[vR a1, vI (3 : Int32), vR a2, vI (0 : Int32), s4, vD dg, .second, vI (1 : Int32), vD d288, .second, vI (2 : Int32)] [])) _
      refine XS.iinc X329.here hx rfl (hb hby d5_198) rfl (l' := #[vR a1, vI (3 : Int32), vR a2, vI (0 : Int32), s4, vD dg, .second, vI (1 : Int32), vD d288, .second, vI ((2 : Int32) + (1 : Int32))]) rfl ?_
      show Steps p.tables e below (T329.setTop (mkF m 201 #[vR a1, vI (3 : Int32), vR a2, vI (0 : Int32), s4, vD dg, .second, vI (1 : Int32), vD d288, .second, vI ((2 : Int32) + (1 : Int32))] [])) _
      refine XS.goto X329.here hx rfl (pc0 := 201) (pc' := 163) rfl (hb hby d5_201) (by decide) (by decide) ?_
      exact kt
    clear R327 st329
    have R331 : ∀ tg, Steps p.tables e below (T329.setTop (mkF m 163 #[vR a1, vI (3 : Int32), vR a2, vI (0 : Int32), s4, vD dg, .second, vI (1 : Int32), vD d288, .second, vI (3 : Int32)] [])) tg → Steps p.tables e below (T0.setTop (mkF m 116 #[vR a1, vI (3 : Int32), vR a2, vI (0 : Int32), s4, vD dg, .second, vI (1 : Int32), s8, s9, s10] [])) tg := R330
    have R332 : ∀ tg, Steps p.tables e below (T329.setTop (mkF m 116 #[vR a1, vI (3 : Int32), vR a2, vI (0 : Int32), s4, vD dg, .second, vI ((1 : Int32) + (1 : Int32)), vD d288, .second, vI (3 : Int32)] [])) tg → Steps p.tables e below (T0.setTop (mkF m 116 #[vR a1, vI (3 : Int32), vR a2, vI (0 : Int32), s4, vD dg, .second, vI (1 : Int32), s8, s9, s10] [])) tg := by
      intro tg kt
      refine R331 _ ?_
      show Steps p.tables e below (T329.setTop (mkF m 163 #[vR a1, vI (3 : Int32), vR a2, vI (0 : Int32), s4, vD dg, .second, vI (1 : Int32), vD d288, .second, vI (3 : Int32)] [])) _
      refine XS.iload X329.here hx rfl (hb hby d5_163) rfl ?_
      refine XS.iloadN X329.here hx rfl (hb hby d5_165) rfl ?_
      show Steps p.tables e below (T329.setTop (mkF m 166 #[vR a1, vI (3 : Int32), vR a2, vI (0 : Int32), s4, vD dg, .second, vI (1 : Int32), vD d288, .second, vI (3 : Int32)] [(.int (3 : Int32)), (.int (3 : Int32))])) _
      refine XS.icmpYes X329.here hx rfl (pc0 := 166) (pc' := 204) rfl (hb hby d5_166) rfl (flt (by decide : ¬ ((3 : Int32) < (3 : Int32)))).2.1 (by decide) (by decide) ?_
      show Steps p.tables e below (T329.setTop (mkF m 204 #[vR a1, vI (3 : Int32), vR a2, vI (0 : Int32), s4, vD dg, .second, vI (1 : Int32), vD d288, .second, vI (3 : Int32)] [])) _
      refine XS.iinc X329.here hx rfl (hb hby d5_204) rfl (l' := #[vR a1, vI (3 : Int32), vR a2, vI (0 : Int32), s4, vD dg, .second, vI ((1 : Int32) + (1 : Int32)), vD d288, .second, vI (3 : Int32)]) rfl ?_
      show Steps p.tables e below (T329.setTop (mkF m 207 #[vR a1, vI (3 : Int32), vR a2, vI (0 : Int32), s4, vD dg, .second, vI ((1 : Int32) + (1 : Int32)), vD d288, .second, vI (3 : Int32)] [])) _
      refine XS.goto X329.here hx rfl (pc0 := 207) (pc' := 116) rfl (hb hby d5_207) (by decide) (by decide) ?_
      exact kt
    clear R331
    have R333 : ∀ tg, Steps p.tables e below (T329.setTop (mkF m 116 #[vR a1, vI (3 : Int32), vR a2, vI (0 : Int32), s4, vD dg, .second, vI (2 : Int32), vD d288, .second, vI (3 : Int32)] [])) tg → Steps p.tables e below (T0.setTop (mkF m 116 #[vR a1, vI (3 : Int32), vR a2, vI (0 : Int32), s4, vD dg, .second, vI (1 : Int32), s8, s9, s10] [])) tg := R332
    exact ⟨_, _, _, _, _, X329, e329, N329, Zs329, Kw329, VA_329, own_ok10, R333⟩
set_option maxRecDepth 65536 in
set_option maxHeartbeats 40000000 in
theorem lp_e02 {p : Program} {l : Launch} {e : Env} {s : State} {m : MethodId} {args : Array Value} {below : List Frame} {meth : Method} {c : Code} {Z : State} {a0 : Array Value} {n0 : Nat} {T0 : State} {locs : List Loc} {h0 : Heap} (a1 : Addr) (a2 : Addr) (x0 : Int) (x1 : Int) (x2 : Int) (x3 : Int) (x4 : Int) (x5 : Int) (x6 : Int) (x7 : Int) (x8 : Int) (ff : Int) (t1 : Int) (t2 : Int) (dg : UInt64) (s4 : Slot) (s8 : Slot) (s9 : Slot) (s10 : Slot) (X0 : Stand p l e ({ frames := 1, cells := 1, slots := 3, locals := 24 } : Room) s m args below meth c T0 locs 1 3) (hx : p.tables.exec = Jvm.exec) (hZ : Z.Warmed39 s.vm) (hw : ∀ d ∈ tables_1, d.before a0 Z = true) (hby : c.code = prog_76_method_1_code) (hml : c.maxLocals = 11) (hown : s.vm.findClass "com/example/inexact_odds/inexactodds/reach/DenseLu" = some m.cls) (e0 : T0.heap = h0) (N0 : Fr n0 locs) (Z0 : n0 ≤ h0.size) (Fl : Fld Z h0 a1 "com/example/inexact_odds/inexactodds/reach/DenseLu" "lu" "[D" (.ref a2)) (VA : VD Z h0 a2 9 [x0, x1, x2, x3, x4, x5, x6, x7, x8]) (ga : n0 ≤ a2) (na : a1 ≠ a2) (hdg : DR 2 x0 dg) (hs : own_OK s8 s9 s10) (hD : own_D1 x6 x0 ff) (hM1 : own_M1 ff x1 x7 t1) (hM2 : own_M1 ff x2 x8 t2) :
    ∃ (T' : State) (h' : Heap) (L' : List Loc) (s8' s10' : Slot), Stand p l e ({ frames := 1, cells := 1, slots := 3, locals := 24 } : Room) s m args below meth c T' L' 1 3 ∧ T'.heap = h' ∧ Fr n0 L' ∧ n0 ≤ h'.size ∧ Keep h0 h' [a2] ∧ VD Z h' a2 9 [x0, x1, x2, x3, x4, x5, ff, t1, t2] ∧ own_OK s8' .second s10' ∧ ∀ tg, Steps p.tables e below (T'.setTop (mkF m 116 #[vR a1, vI (3 : Int32), vR a2, vI (0 : Int32), s4, vD dg, .second, vI (3 : Int32), s8', .second, s10'] [])) tg → Steps p.tables e below (T0.setTop (mkF m 116 #[vR a1, vI (3 : Int32), vR a2, vI (0 : Int32), s4, vD dg, .second, vI (2 : Int32), s8, s9, s10] [])) tg := by
  have R334 : ∀ tg, Steps p.tables e below (T0.setTop (mkF m 123 #[vR a1, vI (3 : Int32), vR a2, vI (0 : Int32), s4, vD dg, .second, vI (2 : Int32), s8, s9, s10] [(.ref a1)])) tg → Steps p.tables e below (T0.setTop (mkF m 116 #[vR a1, vI (3 : Int32), vR a2, vI (0 : Int32), s4, vD dg, .second, vI (2 : Int32), s8, s9, s10] [])) tg := by
    intro tg kt
    refine (fun (t : State) (k : Steps p.tables e below (T0.setTop (mkF m 116 #[vR a1, vI (3 : Int32), vR a2, vI (0 : Int32), s4, vD dg, .second, vI (2 : Int32), s8, s9, s10] [])) t) => k) _ ?_
    show Steps p.tables e below (T0.setTop (mkF m 116 #[vR a1, vI (3 : Int32), vR a2, vI (0 : Int32), s4, vD dg, .second, vI (2 : Int32), s8, s9, s10] [])) _
    refine XS.iload X0.here hx rfl (hb hby d5_116) rfl ?_
    refine XS.iloadN X0.here hx rfl (hb hby d5_118) rfl ?_
    show Steps p.tables e below (T0.setTop (mkF m 119 #[vR a1, vI (3 : Int32), vR a2, vI (0 : Int32), s4, vD dg, .second, vI (2 : Int32), s8, s9, s10] [(.int (3 : Int32)), (.int (2 : Int32))])) _
    refine XS.icmpNo X0.here hx rfl (hb hby d5_119) rfl (tlt (by decide : (2 : Int32) < (3 : Int32))).2.1 ?_
    refine XS.aloadN X0.here hx rfl (hb hby d5_122) rfl rfl ?_
    exact kt
  obtain ⟨T335, X335, e335, st335⟩ := getF X0 hx hZ hown (host := "") (Or.inl (hw _ (List.mem_of_getElem? (i := 28) rfl))) Via.refl e0 Fl (g := (mkF m 123 #[vR a1, vI (3 : Int32), vR a2, vI (0 : Int32), s4, vD dg, .second, vI (2 : Int32), s8, s9, s10] [(.ref a1)])) rfl rfl (hb hby d5_123)
  have R336 : ∀ tg, Steps p.tables e below (T335.setTop (mkF m 132 #[vR a1, vI (3 : Int32), vR a2, vI (0 : Int32), s4, vD dg, .second, vI (2 : Int32), s8, s9, s10] [(.int (((2 : Int32) * (3 : Int32)) + (0 : Int32))), (.ref a2)])) tg → Steps p.tables e below (T0.setTop (mkF m 116 #[vR a1, vI (3 : Int32), vR a2, vI (0 : Int32), s4, vD dg, .second, vI (2 : Int32), s8, s9, s10] [])) tg := by
    intro tg kt
    refine R334 _ ?_
    refine st335 _ ?_
    refine XS.iload X335.here hx rfl (hb hby d5_126) rfl ?_
    show Steps p.tables e below (T335.setTop (mkF m 128 #[vR a1, vI (3 : Int32), vR a2, vI (0 : Int32), s4, vD dg, .second, vI (2 : Int32), s8, s9, s10] [(.int (2 : Int32)), (.ref a2)])) _
    refine XS.iloadN X335.here hx rfl (hb hby d5_128) rfl ?_
    show Steps p.tables e below (T335.setTop (mkF m 129 #[vR a1, vI (3 : Int32), vR a2, vI (0 : Int32), s4, vD dg, .second, vI (2 : Int32), s8, s9, s10] [(.int (3 : Int32)), (.int (2 : Int32)), (.ref a2)])) _
    refine XS.imul X335.here hx rfl (hb hby d5_129) rfl ?_
    refine XS.iloadN X335.here hx rfl (hb hby d5_130) rfl ?_
    show Steps p.tables e below (T335.setTop (mkF m 131 #[vR a1, vI (3 : Int32), vR a2, vI (0 : Int32), s4, vD dg, .second, vI (2 : Int32), s8, s9, s10] [(.int (0 : Int32)), (.int ((2 : Int32) * (3 : Int32))), (.ref a2)])) _
    refine XS.iadd X335.here hx rfl (hb hby d5_131) rfl ?_
    exact kt
  clear R334 st335
  obtain ⟨cl337, d337, Ar337, hin337, hat337, G337⟩ := VA.at (j := (((2 : Int32) * (3 : Int32)) + (0 : Int32))) (k := 6) (by decide) (by decide) (by decide)
  have H337 : DR 2 x6 d337 := G337
  have R338 : ∀ tg, Steps p.tables e below (T335.setTop (mkF m 135 #[vR a1, vI (3 : Int32), vR a2, vI (0 : Int32), s4, vD dg, .second, vI (2 : Int32), s8, s9, s10] [(.double dg), (.double d337)])) tg → Steps p.tables e below (T0.setTop (mkF m 116 #[vR a1, vI (3 : Int32), vR a2, vI (0 : Int32), s4, vD dg, .second, vI (2 : Int32), s8, s9, s10] [])) tg := by
    intro tg kt
    refine R336 _ ?_
    show Steps p.tables e below (T335.setTop (mkF m 132 #[vR a1, vI (3 : Int32), vR a2, vI (0 : Int32), s4, vD dg, .second, vI (2 : Int32), s8, s9, s10] [(.int (((2 : Int32) * (3 : Int32)) + (0 : Int32))), (.ref a2)])) _
    refine X335.daload hx (j := (((2 : Int32) * (3 : Int32)) + (0 : Int32))) (v := (.double d337)) (by rw [e335]; exact Ar337.1) (State.isArrayOf_alike hZ.alike Ar337.2.1) Ar337.2.2 hin337 hat337 (g := (mkF m 132 #[vR a1, vI (3 : Int32), vR a2, vI (0 : Int32), s4, vD dg, .second, vI (2 : Int32), s8, s9, s10] [(.int (((2 : Int32) * (3 : Int32)) + (0 : Int32))), (.ref a2)])) rfl rfl (hb hby d5_132) _ ?_
    show Steps p.tables e below (T335.setTop (mkF m 133 #[vR a1, vI (3 : Int32), vR a2, vI (0 : Int32), s4, vD dg, .second, vI (2 : Int32), s8, s9, s10] [(.double d337)])) _
    refine XS.dload X335.here hx rfl (hb hby d5_133) rfl ?_
    exact kt
  clear R336
  obtain ⟨d339, hv339, nn339, H339⟩ := own_dv (c := ff) H337 hdg hD.1 hD.2.1 hD.2.2
  have R340 : ∀ tg, Steps p.tables e below (T335.setTop (mkF m 139 #[vR a1, vI (3 : Int32), vR a2, vI (0 : Int32), s4, vD dg, .second, vI (2 : Int32), vD d339, .second, s10] [(.ref a1)])) tg → Steps p.tables e below (T0.setTop (mkF m 116 #[vR a1, vI (3 : Int32), vR a2, vI (0 : Int32), s4, vD dg, .second, vI (2 : Int32), s8, s9, s10] [])) tg := by
    intro tg kt
    refine R338 _ ?_
    show Steps p.tables e below (T335.setTop (mkF m 135 #[vR a1, vI (3 : Int32), vR a2, vI (0 : Int32), s4, vD dg, .second, vI (2 : Int32), s8, s9, s10] [(.double dg), (.double d337)])) _
    refine XS.ddivS X335.here hx rfl (hb hby d5_135) rfl nn339 hv339 ?_
    show Steps p.tables e below (T335.setTop (mkF m 136 #[vR a1, vI (3 : Int32), vR a2, vI (0 : Int32), s4, vD dg, .second, vI (2 : Int32), s8, s9, s10] [(.double d339)])) _
    refine XS.dstore X335.here hx rfl (hb hby d5_136) rfl (l' := #[vR a1, vI (3 : Int32), vR a2, vI (0 : Int32), s4, vD dg, .second, vI (2 : Int32), vD d339, .second, s10]) (own_st8 hs) ?_
    refine XS.aloadN X335.here hx rfl (hb hby d5_138) rfl rfl ?_
    exact kt
  clear R338
  obtain ⟨T341, X341, e341, st341⟩ := getF X335 hx hZ hown (host := "") (Or.inl (hw _ (List.mem_of_getElem? (i := 28) rfl))) Via.refl e335 Fl (g := (mkF m 139 #[vR a1, vI (3 : Int32), vR a2, vI (0 : Int32), s4, vD dg, .second, vI (2 : Int32), vD d339, .second, s10] [(.ref a1)])) rfl rfl (hb hby d5_139)
  have R342 : ∀ tg, Steps p.tables e below (T341.setTop (mkF m 150 #[vR a1, vI (3 : Int32), vR a2, vI (0 : Int32), s4, vD dg, .second, vI (2 : Int32), vD d339, .second, s10] [(.double d339), (.int (((2 : Int32) * (3 : Int32)) + (0 : Int32))), (.ref a2)])) tg → Steps p.tables e below (T0.setTop (mkF m 116 #[vR a1, vI (3 : Int32), vR a2, vI (0 : Int32), s4, vD dg, .second, vI (2 : Int32), s8, s9, s10] [])) tg := by
    intro tg kt
    refine R340 _ ?_
    refine st341 _ ?_
    refine XS.iload X341.here hx rfl (hb hby d5_142) rfl ?_
    show Steps p.tables e below (T341.setTop (mkF m 144 #[vR a1, vI (3 : Int32), vR a2, vI (0 : Int32), s4, vD dg, .second, vI (2 : Int32), vD d339, .second, s10] [(.int (2 : Int32)), (.ref a2)])) _
    refine XS.iloadN X341.here hx rfl (hb hby d5_144) rfl ?_
    show Steps p.tables e below (T341.setTop (mkF m 145 #[vR a1, vI (3 : Int32), vR a2, vI (0 : Int32), s4, vD dg, .second, vI (2 : Int32), vD d339, .second, s10] [(.int (3 : Int32)), (.int (2 : Int32)), (.ref a2)])) _
    refine XS.imul X341.here hx rfl (hb hby d5_145) rfl ?_
    refine XS.iloadN X341.here hx rfl (hb hby d5_146) rfl ?_
    show Steps p.tables e below (T341.setTop (mkF m 147 #[vR a1, vI (3 : Int32), vR a2, vI (0 : Int32), s4, vD dg, .second, vI (2 : Int32), vD d339, .second, s10] [(.int (0 : Int32)), (.int ((2 : Int32) * (3 : Int32))), (.ref a2)])) _
    refine XS.iadd X341.here hx rfl (hb hby d5_147) rfl ?_
    show Steps p.tables e below (T341.setTop (mkF m 148 #[vR a1, vI (3 : Int32), vR a2, vI (0 : Int32), s4, vD dg, .second, vI (2 : Int32), vD d339, .second, s10] [(.int (((2 : Int32) * (3 : Int32)) + (0 : Int32))), (.ref a2)])) _
    refine XS.dload X341.here hx rfl (hb hby d5_148) rfl ?_
    exact kt
  clear R340 st341
  obtain ⟨cl343, -, Ar343, hin343, -, -⟩ := VA.at (j := (((2 : Int32) * (3 : Int32)) + (0 : Int32))) (k := 6) (by decide) (by decide) (by decide)
  obtain ⟨T344, h344, X344, e344, W344, st344⟩ := stD X341 hx hZ e341 Ar343 (j := (((2 : Int32) * (3 : Int32)) + (0 : Int32))) hin343 (g := (mkF m 150 #[vR a1, vI (3 : Int32), vR a2, vI (0 : Int32), s4, vD dg, .second, vI (2 : Int32), vD d339, .second, s10] [(.double d339), (.int (((2 : Int32) * (3 : Int32)) + (0 : Int32))), (.ref a2)])) rfl rfl (hb hby d5_150)
  have N344 := Fr.snoc X344 N0 ga
  rw [show ((((2 : Int32) * (3 : Int32)) + (0 : Int32)) : Int32).toNatClampNeg = 6 from (by decide)] at W344
  have VA_344 : VD Z h344 a2 9 [x0, x1, x2, x3, x4, x5, ff, x7, x8] := VA.set W344 H339
  have Fl_344 := Fl.other W344 (Or.inl na)
  have Zs344 : n0 ≤ h344.size := Nat.le_trans Z0 (Keep.of_wr W344).1
  have Kw344 : Keep h0 h344 [a2] := Keep.wr (Keep.refl h0 [a2]) W344 (Or.inl (List.mem_of_getElem? (i := 0) rfl))
  have R345 : ∀ tg, Steps p.tables e below (T344.setTop (mkF m 154 #[vR a1, vI (3 : Int32), vR a2, vI (0 : Int32), s4, vD dg, .second, vI (2 : Int32), vD d339, .second, s10] [(.double (0 : UInt64)), (.double d339)])) tg → Steps p.tables e below (T0.setTop (mkF m 116 #[vR a1, vI (3 : Int32), vR a2, vI (0 : Int32), s4, vD dg, .second, vI (2 : Int32), s8, s9, s10] [])) tg := by
    intro tg kt
    refine R342 _ ?_
    refine st344 _ ?_
    show Steps p.tables e below (T344.setTop (mkF m 151 #[vR a1, vI (3 : Int32), vR a2, vI (0 : Int32), s4, vD dg, .second, vI (2 : Int32), vD d339, .second, s10] [])) _
    refine XS.dload X344.here hx rfl (hb hby d5_151) rfl ?_
    show Steps p.tables e below (T344.setTop (mkF m 153 #[vR a1, vI (3 : Int32), vR a2, vI (0 : Int32), s4, vD dg, .second, vI (2 : Int32), vD d339, .second, s10] [(.double d339)])) _
    refine XS.dconst0 X344.here hx rfl (hb hby d5_153) rfl ?_
    exact kt
  clear R342 st344
  have R346 : ∀ tg, Steps p.tables e below (T344.setTop (mkF m 155 #[vR a1, vI (3 : Int32), vR a2, vI (0 : Int32), s4, vD dg, .second, vI (2 : Int32), vD d339, .second, s10] [(.int (own_cv ff (0 : Int)))])) tg → Steps p.tables e below (T0.setTop (mkF m 116 #[vR a1, vI (3 : Int32), vR a2, vI (0 : Int32), s4, vD dg, .second, vI (2 : Int32), s8, s9, s10] [])) tg := by
    intro tg kt
    refine R345 _ ?_
    show Steps p.tables e below (T344.setTop (mkF m 154 #[vR a1, vI (3 : Int32), vR a2, vI (0 : Int32), s4, vD dg, .second, vI (2 : Int32), vD d339, .second, s10] [(.double (0 : UInt64)), (.double d339)])) _
    refine XS.dcmpS X344.here hx rfl (hb hby d5_154) rfl (own_cvl H339 own_dr0 _) ?_
    exact kt
  clear R345
  by_cases hf : (own_cv ff (0 : Int)) = (0 : Int32)
  · have R347 : ∀ tg, Steps p.tables e below (T344.setTop (mkF m 204 #[vR a1, vI (3 : Int32), vR a2, vI (0 : Int32), s4, vD dg, .second, vI (2 : Int32), vD d339, .second, s10] [])) tg → Steps p.tables e below (T0.setTop (mkF m 116 #[vR a1, vI (3 : Int32), vR a2, vI (0 : Int32), s4, vD dg, .second, vI (2 : Int32), s8, s9, s10] [])) tg := by
      intro tg kt
      refine R346 _ ?_
      show Steps p.tables e below (T344.setTop (mkF m 155 #[vR a1, vI (3 : Int32), vR a2, vI (0 : Int32), s4, vD dg, .second, vI (2 : Int32), vD d339, .second, s10] [(.int (own_cv ff (0 : Int)))])) _
      refine XS.ifYes X344.here hx rfl (pc0 := 155) (pc' := 204) rfl (hb hby d5_155) rfl ((if0 _ _).trans (teq (hf : (own_cv ff (0 : Int)) = (0 : Int32))).1) (by decide) (by decide) ?_
      exact kt
    clear R346
    have hz := own_cv0 hf
    have VA_348 : VD Z h344 a2 9 [x0, x1, x2, x3, x4, x5, ff, t1, t2] := by rw [← own_M0 hM1 hz, ← own_M0 hM2 hz]; exact VA_344
    have R349 : ∀ tg, Steps p.tables e below (T344.setTop (mkF m 116 #[vR a1, vI (3 : Int32), vR a2, vI (0 : Int32), s4, vD dg, .second, vI ((2 : Int32) + (1 : Int32)), vD d339, .second, s10] [])) tg → Steps p.tables e below (T0.setTop (mkF m 116 #[vR a1, vI (3 : Int32), vR a2, vI (0 : Int32), s4, vD dg, .second, vI (2 : Int32), s8, s9, s10] [])) tg := by
      intro tg kt
      refine R347 _ ?_
      show Steps p.tables e below (T344.setTop (mkF m 204 #[vR a1, vI (3 : Int32), vR a2, vI (0 : Int32), s4, vD dg, .second, vI (2 : Int32), vD d339, .second, s10] [])) _
      refine XS.iinc X344.here hx rfl (hb hby d5_204) rfl (l' := #[vR a1, vI (3 : Int32), vR a2, vI (0 : Int32), s4, vD dg, .second, vI ((2 : Int32) + (1 : Int32)), vD d339, .second, s10]) rfl ?_
      show Steps p.tables e below (T344.setTop (mkF m 207 #[vR a1, vI (3 : Int32), vR a2, vI (0 : Int32), s4, vD dg, .second, vI ((2 : Int32) + (1 : Int32)), vD d339, .second, s10] [])) _
      refine XS.goto X344.here hx rfl (pc0 := 207) (pc' := 116) rfl (hb hby d5_207) (by decide) (by decide) ?_
      exact kt
    clear R347
    have R350 : ∀ tg, Steps p.tables e below (T344.setTop (mkF m 116 #[vR a1, vI (3 : Int32), vR a2, vI (0 : Int32), s4, vD dg, .second, vI (3 : Int32), vD d339, .second, s10] [])) tg → Steps p.tables e below (T0.setTop (mkF m 116 #[vR a1, vI (3 : Int32), vR a2, vI (0 : Int32), s4, vD dg, .second, vI (2 : Int32), s8, s9, s10] [])) tg := R349
    exact ⟨_, _, _, _, _, X344, e344, N344, Zs344, Kw344, VA_348, (own_ok8 hs), R350⟩
  · have R351 : ∀ tg, Steps p.tables e below (T344.setTop (mkF m 163 #[vR a1, vI (3 : Int32), vR a2, vI (0 : Int32), s4, vD dg, .second, vI (2 : Int32), vD d339, .second, vI ((0 : Int32) + (1 : Int32))] [])) tg → Steps p.tables e below (T0.setTop (mkF m 116 #[vR a1, vI (3 : Int32), vR a2, vI (0 : Int32), s4, vD dg, .second, vI (2 : Int32), s8, s9, s10] [])) tg := by
      intro tg kt
      refine R346 _ ?_
      show Steps p.tables e below (T344.setTop (mkF m 155 #[vR a1, vI (3 : Int32), vR a2, vI (0 : Int32), s4, vD dg, .second, vI (2 : Int32), vD d339, .second, s10] [(.int (own_cv ff (0 : Int)))])) _
      refine XS.ifNo X344.here hx rfl (hb hby d5_155) rfl ((if0 _ _).trans (feq (hf : ¬ ((own_cv ff (0 : Int)) = (0 : Int32)))).1) ?_
      refine XS.iloadN X344.here hx rfl (hb hby d5_158) rfl ?_
      refine XS.iconst X344.here hx rfl (hb hby d5_159) ?_
      show Steps p.tables e below (T344.setTop (mkF m 160 #[vR a1, vI (3 : Int32), vR a2, vI (0 : Int32), s4, vD dg, .second, vI (2 : Int32), vD d339, .second, s10] [(.int (1 : Int32)), (.int (0 : Int32))])) _
      refine XS.iadd X344.here hx rfl (hb hby d5_160) rfl ?_
      show Steps p.tables e below (T344.setTop (mkF m 161 #[vR a1, vI (3 : Int32), vR a2, vI (0 : Int32), s4, vD dg, .second, vI (2 : Int32), vD d339, .second, s10] [(.int ((0 : Int32) + (1 : Int32)))])) _
      refine XS.istore X344.here hx rfl (hb hby d5_161) rfl (l' := #[vR a1, vI (3 : Int32), vR a2, vI (0 : Int32), s4, vD dg, .second, vI (2 : Int32), vD d339, .second, vI ((0 : Int32) + (1 : Int32))]) (own_st10 hs) ?_
      exact kt
    clear R346
    have R352 : ∀ tg, Steps p.tables e below (T344.setTop (mkF m 163 #[vR a1, vI (3 : Int32), vR a2, vI (0 : Int32), s4, vD dg, .second, vI (2 : Int32), vD d339, .second, vI (1 : Int32)] [])) tg → Steps p.tables e below (T0.setTop (mkF m 116 #[vR a1, vI (3 : Int32), vR a2, vI (0 : Int32), s4, vD dg, .second, vI (2 : Int32), s8, s9, s10] [])) tg := R351
    have R353 : ∀ tg, Steps p.tables e below (T344.setTop (mkF m 170 #[vR a1, vI (3 : Int32), vR a2, vI (0 : Int32), s4, vD dg, .second, vI (2 : Int32), vD d339, .second, vI (1 : Int32)] [(.ref a1)])) tg → Steps p.tables e below (T0.setTop (mkF m 116 #[vR a1, vI (3 : Int32), vR a2, vI (0 : Int32), s4, vD dg, .second, vI (2 : Int32), s8, s9, s10] [])) tg := by
      intro tg kt
      refine R352 _ ?_
      show Steps p.tables e below (T344.setTop (mkF m 163 #[vR a1, vI (3 : Int32), vR a2, vI (0 : Int32), s4, vD dg, .second, vI (2 : Int32), vD d339, .second, vI (1 : Int32)] [])) _
      refine XS.iload X344.here hx rfl (hb hby d5_163) rfl ?_
      refine XS.iloadN X344.here hx rfl (hb hby d5_165) rfl ?_
      show Steps p.tables e below (T344.setTop (mkF m 166 #[vR a1, vI (3 : Int32), vR a2, vI (0 : Int32), s4, vD dg, .second, vI (2 : Int32), vD d339, .second, vI (1 : Int32)] [(.int (3 : Int32)), (.int (1 : Int32))])) _
      refine XS.icmpNo X344.here hx rfl (hb hby d5_166) rfl (tlt (by decide : (1 : Int32) < (3 : Int32))).2.1 ?_
      refine XS.aloadN X344.here hx rfl (hb hby d5_169) rfl rfl ?_
      exact kt
    clear R352
    obtain ⟨T354, X354, e354, st354⟩ := getF X344 hx hZ hown (host := "") (Or.inl (hw _ (List.mem_of_getElem? (i := 28) rfl))) Via.refl e344 Fl_344 (g := (mkF m 170 #[vR a1, vI (3 : Int32), vR a2, vI (0 : Int32), s4, vD dg, .second, vI (2 : Int32), vD d339, .second, vI (1 : Int32)] [(.ref a1)])) rfl rfl (hb hby d5_170)
    have R355 : ∀ tg, Steps p.tables e below (T354.setTop (mkF m 181 #[vR a1, vI (3 : Int32), vR a2, vI (0 : Int32), s4, vD dg, .second, vI (2 : Int32), vD d339, .second, vI (1 : Int32)] [(.int (((2 : Int32) * (3 : Int32)) + (1 : Int32))), (.ref a2), (.int (((2 : Int32) * (3 : Int32)) + (1 : Int32))), (.ref a2)])) tg → Steps p.tables e below (T0.setTop (mkF m 116 #[vR a1, vI (3 : Int32), vR a2, vI (0 : Int32), s4, vD dg, .second, vI (2 : Int32), s8, s9, s10] [])) tg := by
      intro tg kt
      refine R353 _ ?_
      refine st354 _ ?_
      refine XS.iload X354.here hx rfl (hb hby d5_173) rfl ?_
      show Steps p.tables e below (T354.setTop (mkF m 175 #[vR a1, vI (3 : Int32), vR a2, vI (0 : Int32), s4, vD dg, .second, vI (2 : Int32), vD d339, .second, vI (1 : Int32)] [(.int (2 : Int32)), (.ref a2)])) _
      refine XS.iloadN X354.here hx rfl (hb hby d5_175) rfl ?_
      show Steps p.tables e below (T354.setTop (mkF m 176 #[vR a1, vI (3 : Int32), vR a2, vI (0 : Int32), s4, vD dg, .second, vI (2 : Int32), vD d339, .second, vI (1 : Int32)] [(.int (3 : Int32)), (.int (2 : Int32)), (.ref a2)])) _
      refine XS.imul X354.here hx rfl (hb hby d5_176) rfl ?_
      refine XS.iload X354.here hx rfl (hb hby d5_177) rfl ?_
      show Steps p.tables e below (T354.setTop (mkF m 179 #[vR a1, vI (3 : Int32), vR a2, vI (0 : Int32), s4, vD dg, .second, vI (2 : Int32), vD d339, .second, vI (1 : Int32)] [(.int (1 : Int32)), (.int ((2 : Int32) * (3 : Int32))), (.ref a2)])) _
      refine XS.iadd X354.here hx rfl (hb hby d5_179) rfl ?_
      show Steps p.tables e below (T354.setTop (mkF m 180 #[vR a1, vI (3 : Int32), vR a2, vI (0 : Int32), s4, vD dg, .second, vI (2 : Int32), vD d339, .second, vI (1 : Int32)] [(.int (((2 : Int32) * (3 : Int32)) + (1 : Int32))), (.ref a2)])) _
      jvm_step X354.here [X354.here.top, hx, (hb hby d5_180), Value.category]
      exact kt
    clear R353 st354
    obtain ⟨cl356, d356, Ar356, hin356, hat356, G356⟩ := VA_344.at (j := (((2 : Int32) * (3 : Int32)) + (1 : Int32))) (k := 7) (by decide) (by decide) (by decide)
    have H356 : DR 2 x7 d356 := G356
    have R357 : ∀ tg, Steps p.tables e below (T354.setTop (mkF m 185 #[vR a1, vI (3 : Int32), vR a2, vI (0 : Int32), s4, vD dg, .second, vI (2 : Int32), vD d339, .second, vI (1 : Int32)] [(.ref a1), (.double d339), (.double d356), (.int (((2 : Int32) * (3 : Int32)) + (1 : Int32))), (.ref a2)])) tg → Steps p.tables e below (T0.setTop (mkF m 116 #[vR a1, vI (3 : Int32), vR a2, vI (0 : Int32), s4, vD dg, .second, vI (2 : Int32), s8, s9, s10] [])) tg := by
      intro tg kt
      refine R355 _ ?_
      show Steps p.tables e below (T354.setTop (mkF m 181 #[vR a1, vI (3 : Int32), vR a2, vI (0 : Int32), s4, vD dg, .second, vI (2 : Int32), vD d339, .second, vI (1 : Int32)] [(.int (((2 : Int32) * (3 : Int32)) + (1 : Int32))), (.ref a2), (.int (((2 : Int32) * (3 : Int32)) + (1 : Int32))), (.ref a2)])) _
      refine X354.daload hx (j := (((2 : Int32) * (3 : Int32)) + (1 : Int32))) (v := (.double d356)) (by rw [e354]; exact Ar356.1) (State.isArrayOf_alike hZ.alike Ar356.2.1) Ar356.2.2 hin356 hat356 (g := (mkF m 181 #[vR a1, vI (3 : Int32), vR a2, vI (0 : Int32), s4, vD dg, .second, vI (2 : Int32), vD d339, .second, vI (1 : Int32)] [(.int (((2 : Int32) * (3 : Int32)) + (1 : Int32))), (.ref a2), (.int (((2 : Int32) * (3 : Int32)) + (1 : Int32))), (.ref a2)])) rfl rfl (hb hby d5_181) _ ?_
      show Steps p.tables e below (T354.setTop (mkF m 182 #[vR a1, vI (3 : Int32), vR a2, vI (0 : Int32), s4, vD dg, .second, vI (2 : Int32), vD d339, .second, vI (1 : Int32)] [(.double d356), (.int (((2 : Int32) * (3 : Int32)) + (1 : Int32))), (.ref a2)])) _
      refine XS.dload X354.here hx rfl (hb hby d5_182) rfl ?_
      refine XS.aloadN X354.here hx rfl (hb hby d5_184) rfl rfl ?_
      exact kt
    clear R355
    obtain ⟨T358, X358, e358, st358⟩ := getF X354 hx hZ hown (host := "") (Or.inl (hw _ (List.mem_of_getElem? (i := 28) rfl))) Via.refl e354 Fl_344 (g := (mkF m 185 #[vR a1, vI (3 : Int32), vR a2, vI (0 : Int32), s4, vD dg, .second, vI (2 : Int32), vD d339, .second, vI (1 : Int32)] [(.ref a1), (.double d339), (.double d356), (.int (((2 : Int32) * (3 : Int32)) + (1 : Int32))), (.ref a2)])) rfl rfl (hb hby d5_185)
    have R359 : ∀ tg, Steps p.tables e below (T358.setTop (mkF m 194 #[vR a1, vI (3 : Int32), vR a2, vI (0 : Int32), s4, vD dg, .second, vI (2 : Int32), vD d339, .second, vI (1 : Int32)] [(.int (((0 : Int32) * (3 : Int32)) + (1 : Int32))), (.ref a2), (.double d339), (.double d356), (.int (((2 : Int32) * (3 : Int32)) + (1 : Int32))), (.ref a2)])) tg → Steps p.tables e below (T0.setTop (mkF m 116 #[vR a1, vI (3 : Int32), vR a2, vI (0 : Int32), s4, vD dg, .second, vI (2 : Int32), s8, s9, s10] [])) tg := by
      intro tg kt
      refine R357 _ ?_
      refine st358 _ ?_
      refine XS.iloadN X358.here hx rfl (hb hby d5_188) rfl ?_
      show Steps p.tables e below (T358.setTop (mkF m 189 #[vR a1, vI (3 : Int32), vR a2, vI (0 : Int32), s4, vD dg, .second, vI (2 : Int32), vD d339, .second, vI (1 : Int32)] [(.int (0 : Int32)), (.ref a2), (.double d339), (.double d356), (.int (((2 : Int32) * (3 : Int32)) + (1 : Int32))), (.ref a2)])) _
      refine XS.iloadN X358.here hx rfl (hb hby d5_189) rfl ?_
      show Steps p.tables e below (T358.setTop (mkF m 190 #[vR a1, vI (3 : Int32), vR a2, vI (0 : Int32), s4, vD dg, .second, vI (2 : Int32), vD d339, .second, vI (1 : Int32)] [(.int (3 : Int32)), (.int (0 : Int32)), (.ref a2), (.double d339), (.double d356), (.int (((2 : Int32) * (3 : Int32)) + (1 : Int32))), (.ref a2)])) _
      refine XS.imul X358.here hx rfl (hb hby d5_190) rfl ?_
      refine XS.iload X358.here hx rfl (hb hby d5_191) rfl ?_
      show Steps p.tables e below (T358.setTop (mkF m 193 #[vR a1, vI (3 : Int32), vR a2, vI (0 : Int32), s4, vD dg, .second, vI (2 : Int32), vD d339, .second, vI (1 : Int32)] [(.int (1 : Int32)), (.int ((0 : Int32) * (3 : Int32))), (.ref a2), (.double d339), (.double d356), (.int (((2 : Int32) * (3 : Int32)) + (1 : Int32))), (.ref a2)])) _
      refine XS.iadd X358.here hx rfl (hb hby d5_193) rfl ?_
      exact kt
    clear R357 st358
    obtain ⟨cl360, d360, Ar360, hin360, hat360, G360⟩ := VA_344.at (j := (((0 : Int32) * (3 : Int32)) + (1 : Int32))) (k := 1) (by decide) (by decide) (by decide)
    have H360 : DR 2 x1 d360 := G360
    have R361 : ∀ tg, Steps p.tables e below (T358.setTop (mkF m 195 #[vR a1, vI (3 : Int32), vR a2, vI (0 : Int32), s4, vD dg, .second, vI (2 : Int32), vD d339, .second, vI (1 : Int32)] [(.double d360), (.double d339), (.double d356), (.int (((2 : Int32) * (3 : Int32)) + (1 : Int32))), (.ref a2)])) tg → Steps p.tables e below (T0.setTop (mkF m 116 #[vR a1, vI (3 : Int32), vR a2, vI (0 : Int32), s4, vD dg, .second, vI (2 : Int32), s8, s9, s10] [])) tg := by
      intro tg kt
      refine R359 _ ?_
      show Steps p.tables e below (T358.setTop (mkF m 194 #[vR a1, vI (3 : Int32), vR a2, vI (0 : Int32), s4, vD dg, .second, vI (2 : Int32), vD d339, .second, vI (1 : Int32)] [(.int (((0 : Int32) * (3 : Int32)) + (1 : Int32))), (.ref a2), (.double d339), (.double d356), (.int (((2 : Int32) * (3 : Int32)) + (1 : Int32))), (.ref a2)])) _
      refine X358.daload hx (j := (((0 : Int32) * (3 : Int32)) + (1 : Int32))) (v := (.double d360)) (by rw [e358]; exact Ar360.1) (State.isArrayOf_alike hZ.alike Ar360.2.1) Ar360.2.2 hin360 hat360 (g := (mkF m 194 #[vR a1, vI (3 : Int32), vR a2, vI (0 : Int32), s4, vD dg, .second, vI (2 : Int32), vD d339, .second, vI (1 : Int32)] [(.int (((0 : Int32) * (3 : Int32)) + (1 : Int32))), (.ref a2), (.double d339), (.double d356), (.int (((2 : Int32) * (3 : Int32)) + (1 : Int32))), (.ref a2)])) rfl rfl (hb hby d5_194) _ ?_
      exact kt
    clear R359
    obtain ⟨nm362, d362, hv362, nn362, H362⟩ := own_ms (t := t1) H356 H339 H360 hM1.1 hM1.2.1 hM1.2.2
    have R363 : ∀ tg, Steps p.tables e below (T358.setTop (mkF m 197 #[vR a1, vI (3 : Int32), vR a2, vI (0 : Int32), s4, vD dg, .second, vI (2 : Int32), vD d339, .second, vI (1 : Int32)] [(.double d362), (.int (((2 : Int32) * (3 : Int32)) + (1 : Int32))), (.ref a2)])) tg → Steps p.tables e below (T0.setTop (mkF m 116 #[vR a1, vI (3 : Int32), vR a2, vI (0 : Int32), s4, vD dg, .second, vI (2 : Int32), s8, s9, s10] [])) tg := by
      intro tg kt
      refine R361 _ ?_
      show Steps p.tables e below (T358.setTop (mkF m 195 #[vR a1, vI (3 : Int32), vR a2, vI (0 : Int32), s4, vD dg, .second, vI (2 : Int32), vD d339, .second, vI (1 : Int32)] [(.double d360), (.double d339), (.double d356), (.int (((2 : Int32) * (3 : Int32)) + (1 : Int32))), (.ref a2)])) _
      refine XS.dmulS X358.here hx rfl (hb hby d5_195) rfl nm362 rfl ?_
      show Steps p.tables e below (T358.setTop (mkF m 196 #[vR a1, vI (3 : Int32), vR a2, vI (0 : Int32), s4, vD dg, .second, vI (2 : Int32), vD d339, .second, vI (1 : Int32)] [(.double (Jvm.FP.dmul d339 d360)), (.double d356), (.int (((2 : Int32) * (3 : Int32)) + (1 : Int32))), (.ref a2)])) _
      refine XS.dsubS X358.here hx rfl (hb hby d5_196) rfl nn362 hv362 ?_
      exact kt
    clear R361
    obtain ⟨cl364, -, Ar364, hin364, -, -⟩ := VA_344.at (j := (((2 : Int32) * (3 : Int32)) + (1 : Int32))) (k := 7) (by decide) (by decide) (by decide)
    obtain ⟨T365, h365, X365, e365, W365, st365⟩ := stD X358 hx hZ e358 Ar364 (j := (((2 : Int32) * (3 : Int32)) + (1 : Int32))) hin364 (g := (mkF m 197 #[vR a1, vI (3 : Int32), vR a2, vI (0 : Int32), s4, vD dg, .second, vI (2 : Int32), vD d339, .second, vI (1 : Int32)] [(.double d362), (.int (((2 : Int32) * (3 : Int32)) + (1 : Int32))), (.ref a2)])) rfl rfl (hb hby d5_197)
    have N365 := Fr.snoc X365 N344 ga
    rw [show ((((2 : Int32) * (3 : Int32)) + (1 : Int32)) : Int32).toNatClampNeg = 7 from (by decide)] at W365
    have VA_365 : VD Z h365 a2 9 [x0, x1, x2, x3, x4, x5, ff, t1, x8] := VA_344.set W365 H362
    have Fl_365 := Fl_344.other W365 (Or.inl na)
    clear Fl_344
    have Zs365 : n0 ≤ h365.size := Nat.le_trans Zs344 (Keep.of_wr W365).1
    have Kw365 : Keep h0 h365 [a2] := Keep.wr Kw344 W365 (Or.inl (List.mem_of_getElem? (i := 0) rfl))
    have R366 : ∀ tg, Steps p.tables e below (T365.setTop (mkF m 163 #[vR a1, vI (3 : Int32), vR a2, vI (0 : Int32), s4, vD dg, .second, vI (2 : Int32), vD d339, .second, vI ((1 : Int32) + (1 : Int32))] [])) tg → Steps p.tables e below (T0.setTop (mkF m 116 #[vR a1, vI (3 : Int32), vR a2, vI (0 : Int32), s4, vD dg, .second, vI (2 : Int32), s8, s9, s10] [])) tg := by
      intro tg kt
      refine R363 _ ?_
      refine st365 _ ?_
      show Steps p.tables e below (T365.setTop (mkF m 198 #[vR a1, vI (3 : Int32), vR a2, vI (0 : Int32), s4, vD dg, .second, vI (2 : Int32), vD d339, .second, vI (1 : Int32)] [])) _
      refine XS.iinc X365.here hx rfl (hb hby d5_198) rfl (l' := #[vR a1, vI (3 : Int32), vR a2, vI (0 : Int32), s4, vD dg, .second, vI (2 : Int32), vD d339, .second, vI ((1 : Int32) + (1 : Int32))]) rfl ?_
      show Steps p.tables e below (T365.setTop (mkF m 201 #[vR a1, vI (3 : Int32), vR a2, vI (0 : Int32), s4, vD dg, .second, vI (2 : Int32), vD d339, .second, vI ((1 : Int32) + (1 : Int32))] [])) _
      refine XS.goto X365.here hx rfl (pc0 := 201) (pc' := 163) rfl (hb hby d5_201) (by decide) (by decide) ?_
      exact kt
    clear R363 st365
    have R367 : ∀ tg, Steps p.tables e below (T365.setTop (mkF m 163 #[vR a1, vI (3 : Int32), vR a2, vI (0 : Int32), s4, vD dg, .second, vI (2 : Int32), vD d339, .second, vI (2 : Int32)] [])) tg → Steps p.tables e below (T0.setTop (mkF m 116 #[vR a1, vI (3 : Int32), vR a2, vI (0 : Int32), s4, vD dg, .second, vI (2 : Int32), s8, s9, s10] [])) tg := R366
    have R368 : ∀ tg, Steps p.tables e below (T365.setTop (mkF m 170 #[vR a1, vI (3 : Int32), vR a2, vI (0 : Int32), s4, vD dg, .second, vI (2 : Int32), vD d339, .second, vI (2 : Int32)] [(.ref a1)])) tg → Steps p.tables e below (T0.setTop (mkF m 116 #[vR a1, vI (3 : Int32), vR a2, vI (0 : Int32), s4, vD dg, .second, vI (2 : Int32), s8, s9, s10] [])) tg := by
      intro tg kt
      refine R367 _ ?_
      show Steps p.tables e below (T365.setTop (mkF m 163 #[vR a1, vI (3 : Int32), vR a2, vI (0 : Int32), s4, vD dg, .second, vI (2 : Int32), vD d339, .second, vI (2 : Int32)] [])) _
      refine XS.iload X365.here hx rfl (hb hby d5_163) rfl ?_
      refine XS.iloadN X365.here hx rfl (hb hby d5_165) rfl ?_
      show Steps p.tables e below (T365.setTop (mkF m 166 #[vR a1, vI (3 : Int32), vR a2, vI (0 : Int32), s4, vD dg, .second, vI (2 : Int32), vD d339, .second, vI (2 : Int32)] [(.int (3 : Int32)), (.int (2 : Int32))])) _
      refine XS.icmpNo X365.here hx rfl (hb hby d5_166) rfl (tlt (by decide : (2 : Int32) < (3 : Int32))).2.1 ?_
      refine XS.aloadN X365.here hx rfl (hb hby d5_169) rfl rfl ?_
      exact kt
    clear R367
    obtain ⟨T369, X369, e369, st369⟩ := getF X365 hx hZ hown (host := "") (Or.inl (hw _ (List.mem_of_getElem? (i := 28) rfl))) Via.refl e365 Fl_365 (g := (mkF m 170 #[vR a1, vI (3 : Int32), vR a2, vI (0 : Int32), s4, vD dg, .second, vI (2 : Int32), vD d339, .second, vI (2 : Int32)] [(.ref a1)])) rfl rfl (hb hby d5_170)
    have R370 : ∀ tg, Steps p.tables e below (T369.setTop (mkF m 181 #[vR a1, vI (3 : Int32), vR a2, vI (0 : Int32), s4, vD dg, .second, vI (2 : Int32), vD d339, .second, vI (2 : Int32)] [(.int (((2 : Int32) * (3 : Int32)) + (2 : Int32))), (.ref a2), (.int (((2 : Int32) * (3 : Int32)) + (2 : Int32))), (.ref a2)])) tg → Steps p.tables e below (T0.setTop (mkF m 116 #[vR a1, vI (3 : Int32), vR a2, vI (0 : Int32), s4, vD dg, .second, vI (2 : Int32), s8, s9, s10] [])) tg := by
      intro tg kt
      refine R368 _ ?_
      refine st369 _ ?_
      refine XS.iload X369.here hx rfl (hb hby d5_173) rfl ?_
      show Steps p.tables e below (T369.setTop (mkF m 175 #[vR a1, vI (3 : Int32), vR a2, vI (0 : Int32), s4, vD dg, .second, vI (2 : Int32), vD d339, .second, vI (2 : Int32)] [(.int (2 : Int32)), (.ref a2)])) _
      refine XS.iloadN X369.here hx rfl (hb hby d5_175) rfl ?_
      show Steps p.tables e below (T369.setTop (mkF m 176 #[vR a1, vI (3 : Int32), vR a2, vI (0 : Int32), s4, vD dg, .second, vI (2 : Int32), vD d339, .second, vI (2 : Int32)] [(.int (3 : Int32)), (.int (2 : Int32)), (.ref a2)])) _
      refine XS.imul X369.here hx rfl (hb hby d5_176) rfl ?_
      refine XS.iload X369.here hx rfl (hb hby d5_177) rfl ?_
      show Steps p.tables e below (T369.setTop (mkF m 179 #[vR a1, vI (3 : Int32), vR a2, vI (0 : Int32), s4, vD dg, .second, vI (2 : Int32), vD d339, .second, vI (2 : Int32)] [(.int (2 : Int32)), (.int ((2 : Int32) * (3 : Int32))), (.ref a2)])) _
      refine XS.iadd X369.here hx rfl (hb hby d5_179) rfl ?_
      show Steps p.tables e below (T369.setTop (mkF m 180 #[vR a1, vI (3 : Int32), vR a2, vI (0 : Int32), s4, vD dg, .second, vI (2 : Int32), vD d339, .second, vI (2 : Int32)] [(.int (((2 : Int32) * (3 : Int32)) + (2 : Int32))), (.ref a2)])) _
      jvm_step X369.here [X369.here.top, hx, (hb hby d5_180), Value.category]
      exact kt
    clear R368 st369
    obtain ⟨cl371, d371, Ar371, hin371, hat371, G371⟩ := VA_365.at (j := (((2 : Int32) * (3 : Int32)) + (2 : Int32))) (k := 8) (by decide) (by decide) (by decide)
    have H371 : DR 2 x8 d371 := G371
    have R372 : ∀ tg, Steps p.tables e below (T369.setTop (mkF m 185 #[vR a1, vI (3 : Int32), vR a2, vI (0 : Int32), s4, vD dg, .second, vI (2 : Int32), vD d339, .second, vI (2 : Int32)] [(.ref a1), (.double d339), (.double d371), (.int (((2 : Int32) * (3 : Int32)) + (2 : Int32))), (.ref a2)])) tg → Steps p.tables e below (T0.setTop (mkF m 116 #[vR a1, vI (3 : Int32), vR a2, vI (0 : Int32), s4, vD dg, .second, vI (2 : Int32), s8, s9, s10] [])) tg := by
      intro tg kt
      refine R370 _ ?_
      show Steps p.tables e below (T369.setTop (mkF m 181 #[vR a1, vI (3 : Int32), vR a2, vI (0 : Int32), s4, vD dg, .second, vI (2 : Int32), vD d339, .second, vI (2 : Int32)] [(.int (((2 : Int32) * (3 : Int32)) + (2 : Int32))), (.ref a2), (.int (((2 : Int32) * (3 : Int32)) + (2 : Int32))), (.ref a2)])) _
      refine X369.daload hx (j := (((2 : Int32) * (3 : Int32)) + (2 : Int32))) (v := (.double d371)) (by rw [e369]; exact Ar371.1) (State.isArrayOf_alike hZ.alike Ar371.2.1) Ar371.2.2 hin371 hat371 (g := (mkF m 181 #[vR a1, vI (3 : Int32), vR a2, vI (0 : Int32), s4, vD dg, .second, vI (2 : Int32), vD d339, .second, vI (2 : Int32)] [(.int (((2 : Int32) * (3 : Int32)) + (2 : Int32))), (.ref a2), (.int (((2 : Int32) * (3 : Int32)) + (2 : Int32))), (.ref a2)])) rfl rfl (hb hby d5_181) _ ?_
      show Steps p.tables e below (T369.setTop (mkF m 182 #[vR a1, vI (3 : Int32), vR a2, vI (0 : Int32), s4, vD dg, .second, vI (2 : Int32), vD d339, .second, vI (2 : Int32)] [(.double d371), (.int (((2 : Int32) * (3 : Int32)) + (2 : Int32))), (.ref a2)])) _
      refine XS.dload X369.here hx rfl (hb hby d5_182) rfl ?_
      refine XS.aloadN X369.here hx rfl (hb hby d5_184) rfl rfl ?_
      exact kt
    clear R370
    obtain ⟨T373, X373, e373, st373⟩ := getF X369 hx hZ hown (host := "") (Or.inl (hw _ (List.mem_of_getElem? (i := 28) rfl))) Via.refl e369 Fl_365 (g := (mkF m 185 #[vR a1, vI (3 : Int32), vR a2, vI (0 : Int32), s4, vD dg, .second, vI (2 : Int32), vD d339, .second, vI (2 : Int32)] [(.ref a1), (.double d339), (.double d371), (.int (((2 : Int32) * (3 : Int32)) + (2 : Int32))), (.ref a2)])) rfl rfl (hb hby d5_185)
    have R374 : ∀ tg, Steps p.tables e below (T373.setTop (mkF m 194 #[vR a1, vI (3 : Int32), vR a2, vI (0 : Int32), s4, vD dg, .second, vI (2 : Int32), vD d339, .second, vI (2 : Int32)] [(.int (((0 : Int32) * (3 : Int32)) + (2 : Int32))), (.ref a2), (.double d339), (.double d371), (.int (((2 : Int32) * (3 : Int32)) + (2 : Int32))), (.ref a2)])) tg → Steps p.tables e below (T0.setTop (mkF m 116 #[vR a1, vI (3 : Int32), vR a2, vI (0 : Int32), s4, vD dg, .second, vI (2 : Int32), s8, s9, s10] [])) tg := by
      intro tg kt
      refine R372 _ ?_
      refine st373 _ ?_
      refine XS.iloadN X373.here hx rfl (hb hby d5_188) rfl ?_
      show Steps p.tables e below (T373.setTop (mkF m 189 #[vR a1, vI (3 : Int32), vR a2, vI (0 : Int32), s4, vD dg, .second, vI (2 : Int32), vD d339, .second, vI (2 : Int32)] [(.int (0 : Int32)), (.ref a2), (.double d339), (.double d371), (.int (((2 : Int32) * (3 : Int32)) + (2 : Int32))), (.ref a2)])) _
      refine XS.iloadN X373.here hx rfl (hb hby d5_189) rfl ?_
      show Steps p.tables e below (T373.setTop (mkF m 190 #[vR a1, vI (3 : Int32), vR a2, vI (0 : Int32), s4, vD dg, .second, vI (2 : Int32), vD d339, .second, vI (2 : Int32)] [(.int (3 : Int32)), (.int (0 : Int32)), (.ref a2), (.double d339), (.double d371), (.int (((2 : Int32) * (3 : Int32)) + (2 : Int32))), (.ref a2)])) _
      refine XS.imul X373.here hx rfl (hb hby d5_190) rfl ?_
      refine XS.iload X373.here hx rfl (hb hby d5_191) rfl ?_
      show Steps p.tables e below (T373.setTop (mkF m 193 #[vR a1, vI (3 : Int32), vR a2, vI (0 : Int32), s4, vD dg, .second, vI (2 : Int32), vD d339, .second, vI (2 : Int32)] [(.int (2 : Int32)), (.int ((0 : Int32) * (3 : Int32))), (.ref a2), (.double d339), (.double d371), (.int (((2 : Int32) * (3 : Int32)) + (2 : Int32))), (.ref a2)])) _
      refine XS.iadd X373.here hx rfl (hb hby d5_193) rfl ?_
      exact kt
    clear R372 st373
    obtain ⟨cl375, d375, Ar375, hin375, hat375, G375⟩ := VA_365.at (j := (((0 : Int32) * (3 : Int32)) + (2 : Int32))) (k := 2) (by decide) (by decide) (by decide)
    have H375 : DR 2 x2 d375 := G375
    have R376 : ∀ tg, Steps p.tables e below (T373.setTop (mkF m 195 #[vR a1, vI (3 : Int32), vR a2, vI (0 : Int32), s4, vD dg, .second, vI (2 : Int32), vD d339, .second, vI (2 : Int32)] [(.double d375), (.double d339), (.double d371), (.int (((2 : Int32) * (3 : Int32)) + (2 : Int32))), (.ref a2)])) tg → Steps p.tables e below (T0.setTop (mkF m 116 #[vR a1, vI (3 : Int32), vR a2, vI (0 : Int32), s4, vD dg, .second, vI (2 : Int32), s8, s9, s10] [])) tg := by
      intro tg kt
      refine R374 _ ?_
      show Steps p.tables e below (T373.setTop (mkF m 194 #[vR a1, vI (3 : Int32), vR a2, vI (0 : Int32), s4, vD dg, .second, vI (2 : Int32), vD d339, .second, vI (2 : Int32)] [(.int (((0 : Int32) * (3 : Int32)) + (2 : Int32))), (.ref a2), (.double d339), (.double d371), (.int (((2 : Int32) * (3 : Int32)) + (2 : Int32))), (.ref a2)])) _
      refine X373.daload hx (j := (((0 : Int32) * (3 : Int32)) + (2 : Int32))) (v := (.double d375)) (by rw [e373]; exact Ar375.1) (State.isArrayOf_alike hZ.alike Ar375.2.1) Ar375.2.2 hin375 hat375 (g := (mkF m 194 #[vR a1, vI (3 : Int32), vR a2, vI (0 : Int32), s4, vD dg, .second, vI (2 : Int32), vD d339, .second, vI (2 : Int32)] [(.int (((0 : Int32) * (3 : Int32)) + (2 : Int32))), (.ref a2), (.double d339), (.double d371), (.int (((2 : Int32) * (3 : Int32)) + (2 : Int32))), (.ref a2)])) rfl rfl (hb hby d5_194) _ ?_
      exact kt
    clear R374
    obtain ⟨nm377, d377, hv377, nn377, H377⟩ := own_ms (t := t2) H371 H339 H375 hM2.1 hM2.2.1 hM2.2.2
    have R378 : ∀ tg, Steps p.tables e below (T373.setTop (mkF m 197 #[vR a1, vI (3 : Int32), vR a2, vI (0 : Int32), s4, vD dg, .second, vI (2 : Int32), vD d339, .second, vI (2 : Int32)] [(.double d377), (.int (((2 : Int32) * (3 : Int32)) + (2 : Int32))), (.ref a2)])) tg → Steps p.tables e below (T0.setTop (mkF m 116 #[vR a1, vI (3 : Int32), vR a2, vI (0 : Int32), s4, vD dg, .second, vI (2 : Int32), s8, s9, s10] [])) tg := by
      intro tg kt
      refine R376 _ ?_
      show Steps p.tables e below (T373.setTop (mkF m 195 #[vR a1, vI (3 : Int32), vR a2, vI (0 : Int32), s4, vD dg, .second, vI (2 : Int32), vD d339, .second, vI (2 : Int32)] [(.double d375), (.double d339), (.double d371), (.int (((2 : Int32) * (3 : Int32)) + (2 : Int32))), (.ref a2)])) _
      refine XS.dmulS X373.here hx rfl (hb hby d5_195) rfl nm377 rfl ?_
      show Steps p.tables e below (T373.setTop (mkF m 196 #[vR a1, vI (3 : Int32), vR a2, vI (0 : Int32), s4, vD dg, .second, vI (2 : Int32), vD d339, .second, vI (2 : Int32)] [(.double (Jvm.FP.dmul d339 d375)), (.double d371), (.int (((2 : Int32) * (3 : Int32)) + (2 : Int32))), (.ref a2)])) _
      refine XS.dsubS X373.here hx rfl (hb hby d5_196) rfl nn377 hv377 ?_
      exact kt
    clear R376
    obtain ⟨cl379, -, Ar379, hin379, -, -⟩ := VA_365.at (j := (((2 : Int32) * (3 : Int32)) + (2 : Int32))) (k := 8) (by decide) (by decide) (by decide)
    obtain ⟨T380, h380, X380, e380, W380, st380⟩ := stD X373 hx hZ e373 Ar379 (j := (((2 : Int32) * (3 : Int32)) + (2 : Int32))) hin379 (g := (mkF m 197 #[vR a1, vI (3 : Int32), vR a2, vI (0 : Int32), s4, vD dg, .second, vI (2 : Int32), vD d339, .second, vI (2 : Int32)] [(.double d377), (.int (((2 : Int32) * (3 : Int32)) + (2 : Int32))), (.ref a2)])) rfl rfl (hb hby d5_197)
    have N380 := Fr.snoc X380 N365 ga
    rw [show ((((2 : Int32) * (3 : Int32)) + (2 : Int32)) : Int32).toNatClampNeg = 8 from (by decide)] at W380
    have VA_380 : VD Z h380 a2 9 [x0, x1, x2, x3, x4, x5, ff, t1, t2] := VA_365.set W380 H377
    have Fl_380 := Fl_365.other W380 (Or.inl na)
    clear Fl_365
    have Zs380 : n0 ≤ h380.size := Nat.le_trans Zs365 (Keep.of_wr W380).1
    have Kw380 : Keep h0 h380 [a2] := Keep.wr Kw365 W380 (Or.inl (List.mem_of_getElem? (i := 0) rfl))
    have R381 : ∀ tg, Steps p.tables e below (T380.setTop (mkF m 163 #[vR a1, vI (3 : Int32), vR a2, vI (0 : Int32), s4, vD dg, .second, vI (2 : Int32), vD d339, .second, vI ((2 : Int32) + (1 : Int32))] [])) tg → Steps p.tables e below (T0.setTop (mkF m 116 #[vR a1, vI (3 : Int32), vR a2, vI (0 : Int32), s4, vD dg, .second, vI (2 : Int32), s8, s9, s10] [])) tg := by
      intro tg kt
      refine R378 _ ?_
      refine st380 _ ?_
      show Steps p.tables e below (T380.setTop (mkF m 198 #[vR a1, vI (3 : Int32), vR a2, vI (0 : Int32), s4, vD dg, .second, vI (2 : Int32), vD d339, .second, vI (2 : Int32)] [])) _
      refine XS.iinc X380.here hx rfl (hb hby d5_198) rfl (l' := #[vR a1, vI (3 : Int32), vR a2, vI (0 : Int32), s4, vD dg, .second, vI (2 : Int32), vD d339, .second, vI ((2 : Int32) + (1 : Int32))]) rfl ?_
      show Steps p.tables e below (T380.setTop (mkF m 201 #[vR a1, vI (3 : Int32), vR a2, vI (0 : Int32), s4, vD dg, .second, vI (2 : Int32), vD d339, .second, vI ((2 : Int32) + (1 : Int32))] [])) _
      refine XS.goto X380.here hx rfl (pc0 := 201) (pc' := 163) rfl (hb hby d5_201) (by decide) (by decide) ?_
      exact kt
    clear R378 st380
    have R382 : ∀ tg, Steps p.tables e below (T380.setTop (mkF m 163 #[vR a1, vI (3 : Int32), vR a2, vI (0 : Int32), s4, vD dg, .second, vI (2 : Int32), vD d339, .second, vI (3 : Int32)] [])) tg → Steps p.tables e below (T0.setTop (mkF m 116 #[vR a1, vI (3 : Int32), vR a2, vI (0 : Int32), s4, vD dg, .second, vI (2 : Int32), s8, s9, s10] [])) tg := R381
    have R383 : ∀ tg, Steps p.tables e below (T380.setTop (mkF m 116 #[vR a1, vI (3 : Int32), vR a2, vI (0 : Int32), s4, vD dg, .second, vI ((2 : Int32) + (1 : Int32)), vD d339, .second, vI (3 : Int32)] [])) tg → Steps p.tables e below (T0.setTop (mkF m 116 #[vR a1, vI (3 : Int32), vR a2, vI (0 : Int32), s4, vD dg, .second, vI (2 : Int32), s8, s9, s10] [])) tg := by
      intro tg kt
      refine R382 _ ?_
      show Steps p.tables e below (T380.setTop (mkF m 163 #[vR a1, vI (3 : Int32), vR a2, vI (0 : Int32), s4, vD dg, .second, vI (2 : Int32), vD d339, .second, vI (3 : Int32)] [])) _
      refine XS.iload X380.here hx rfl (hb hby d5_163) rfl ?_
      refine XS.iloadN X380.here hx rfl (hb hby d5_165) rfl ?_
      show Steps p.tables e below (T380.setTop (mkF m 166 #[vR a1, vI (3 : Int32), vR a2, vI (0 : Int32), s4, vD dg, .second, vI (2 : Int32), vD d339, .second, vI (3 : Int32)] [(.int (3 : Int32)), (.int (3 : Int32))])) _
      refine XS.icmpYes X380.here hx rfl (pc0 := 166) (pc' := 204) rfl (hb hby d5_166) rfl (flt (by decide : ¬ ((3 : Int32) < (3 : Int32)))).2.1 (by decide) (by decide) ?_
      show Steps p.tables e below (T380.setTop (mkF m 204 #[vR a1, vI (3 : Int32), vR a2, vI (0 : Int32), s4, vD dg, .second, vI (2 : Int32), vD d339, .second, vI (3 : Int32)] [])) _
      refine XS.iinc X380.here hx rfl (hb hby d5_204) rfl (l' := #[vR a1, vI (3 : Int32), vR a2, vI (0 : Int32), s4, vD dg, .second, vI ((2 : Int32) + (1 : Int32)), vD d339, .second, vI (3 : Int32)]) rfl ?_
      show Steps p.tables e below (T380.setTop (mkF m 207 #[vR a1, vI (3 : Int32), vR a2, vI (0 : Int32), s4, vD dg, .second, vI ((2 : Int32) + (1 : Int32)), vD d339, .second, vI (3 : Int32)] [])) _
      refine XS.goto X380.here hx rfl (pc0 := 207) (pc' := 116) rfl (hb hby d5_207) (by decide) (by decide) ?_
      exact kt
    clear R382
    have R384 : ∀ tg, Steps p.tables e below (T380.setTop (mkF m 116 #[vR a1, vI (3 : Int32), vR a2, vI (0 : Int32), s4, vD dg, .second, vI (3 : Int32), vD d339, .second, vI (3 : Int32)] [])) tg → Steps p.tables e below (T0.setTop (mkF m 116 #[vR a1, vI (3 : Int32), vR a2, vI (0 : Int32), s4, vD dg, .second, vI (2 : Int32), s8, s9, s10] [])) tg := R383
    exact ⟨_, _, _, _, _, X380, e380, N380, Zs380, Kw380, VA_380, own_ok10, R384⟩
set_option maxRecDepth 65536 in
set_option maxHeartbeats 40000000 in
theorem lp_e12 {p : Program} {l : Launch} {e : Env} {s : State} {m : MethodId} {args : Array Value} {below : List Frame} {meth : Method} {c : Code} {Z : State} {a0 : Array Value} {n0 : Nat} {T0 : State} {locs : List Loc} {h0 : Heap} (a1 : Addr) (a2 : Addr) (x0 : Int) (x1 : Int) (x2 : Int) (x3 : Int) (x4 : Int) (x5 : Int) (x6 : Int) (x7 : Int) (x8 : Int) (ff : Int) (t2 : Int) (dg : UInt64) (s4 : Slot) (s8 : Slot) (s9 : Slot) (s10 : Slot) (X0 : Stand p l e ({ frames := 1, cells := 1, slots := 3, locals := 24 } : Room) s m args below meth c T0 locs 1 3) (hx : p.tables.exec = Jvm.exec) (hZ : Z.Warmed39 s.vm) (hw : ∀ d ∈ tables_1, d.before a0 Z = true) (hby : c.code = prog_76_method_1_code) (hml : c.maxLocals = 11) (hown : s.vm.findClass "com/example/inexact_odds/inexactodds/reach/DenseLu" = some m.cls) (e0 : T0.heap = h0) (N0 : Fr n0 locs) (Z0 : n0 ≤ h0.size) (Fl : Fld Z h0 a1 "com/example/inexact_odds/inexactodds/reach/DenseLu" "lu" "[D" (.ref a2)) (VA : VD Z h0 a2 9 [x0, x1, x2, x3, x4, x5, x6, x7, x8]) (ga : n0 ≤ a2) (na : a1 ≠ a2) (hdg : DR 2 x4 dg) (hs : own_OK s8 s9 s10) (hD : own_D1 x7 x4 ff) (hM2 : own_M1 ff x5 x8 t2) :
    ∃ (T' : State) (h' : Heap) (L' : List Loc) (s8' s10' : Slot), Stand p l e ({ frames := 1, cells := 1, slots := 3, locals := 24 } : Room) s m args below meth c T' L' 1 3 ∧ T'.heap = h' ∧ Fr n0 L' ∧ n0 ≤ h'.size ∧ Keep h0 h' [a2] ∧ VD Z h' a2 9 [x0, x1, x2, x3, x4, x5, x6, ff, t2] ∧ own_OK s8' .second s10' ∧ ∀ tg, Steps p.tables e below (T'.setTop (mkF m 116 #[vR a1, vI (3 : Int32), vR a2, vI (1 : Int32), s4, vD dg, .second, vI (3 : Int32), s8', .second, s10'] [])) tg → Steps p.tables e below (T0.setTop (mkF m 116 #[vR a1, vI (3 : Int32), vR a2, vI (1 : Int32), s4, vD dg, .second, vI (2 : Int32), s8, s9, s10] [])) tg := by
  have R385 : ∀ tg, Steps p.tables e below (T0.setTop (mkF m 123 #[vR a1, vI (3 : Int32), vR a2, vI (1 : Int32), s4, vD dg, .second, vI (2 : Int32), s8, s9, s10] [(.ref a1)])) tg → Steps p.tables e below (T0.setTop (mkF m 116 #[vR a1, vI (3 : Int32), vR a2, vI (1 : Int32), s4, vD dg, .second, vI (2 : Int32), s8, s9, s10] [])) tg := by
    intro tg kt
    refine (fun (t : State) (k : Steps p.tables e below (T0.setTop (mkF m 116 #[vR a1, vI (3 : Int32), vR a2, vI (1 : Int32), s4, vD dg, .second, vI (2 : Int32), s8, s9, s10] [])) t) => k) _ ?_
    show Steps p.tables e below (T0.setTop (mkF m 116 #[vR a1, vI (3 : Int32), vR a2, vI (1 : Int32), s4, vD dg, .second, vI (2 : Int32), s8, s9, s10] [])) _
    refine XS.iload X0.here hx rfl (hb hby d5_116) rfl ?_
    refine XS.iloadN X0.here hx rfl (hb hby d5_118) rfl ?_
    show Steps p.tables e below (T0.setTop (mkF m 119 #[vR a1, vI (3 : Int32), vR a2, vI (1 : Int32), s4, vD dg, .second, vI (2 : Int32), s8, s9, s10] [(.int (3 : Int32)), (.int (2 : Int32))])) _
    refine XS.icmpNo X0.here hx rfl (hb hby d5_119) rfl (tlt (by decide : (2 : Int32) < (3 : Int32))).2.1 ?_
    refine XS.aloadN X0.here hx rfl (hb hby d5_122) rfl rfl ?_
    exact kt
  obtain ⟨T386, X386, e386, st386⟩ := getF X0 hx hZ hown (host := "") (Or.inl (hw _ (List.mem_of_getElem? (i := 28) rfl))) Via.refl e0 Fl (g := (mkF m 123 #[vR a1, vI (3 : Int32), vR a2, vI (1 : Int32), s4, vD dg, .second, vI (2 : Int32), s8, s9, s10] [(.ref a1)])) rfl rfl (hb hby d5_123)
  have R387 : ∀ tg, Steps p.tables e below (T386.setTop (mkF m 132 #[vR a1, vI (3 : Int32), vR a2, vI (1 : Int32), s4, vD dg, .second, vI (2 : Int32), s8, s9, s10] [(.int (((2 : Int32) * (3 : Int32)) + (1 : Int32))), (.ref a2)])) tg → Steps p.tables e below (T0.setTop (mkF m 116 #[vR a1, vI (3 : Int32), vR a2, vI (1 : Int32), s4, vD dg, .second, vI (2 : Int32), s8, s9, s10] [])) tg := by
    intro tg kt
    refine R385 _ ?_
    refine st386 _ ?_
    refine XS.iload X386.here hx rfl (hb hby d5_126) rfl ?_
    show Steps p.tables e below (T386.setTop (mkF m 128 #[vR a1, vI (3 : Int32), vR a2, vI (1 : Int32), s4, vD dg, .second, vI (2 : Int32), s8, s9, s10] [(.int (2 : Int32)), (.ref a2)])) _
    refine XS.iloadN X386.here hx rfl (hb hby d5_128) rfl ?_
    show Steps p.tables e below (T386.setTop (mkF m 129 #[vR a1, vI (3 : Int32), vR a2, vI (1 : Int32), s4, vD dg, .second, vI (2 : Int32), s8, s9, s10] [(.int (3 : Int32)), (.int (2 : Int32)), (.ref a2)])) _
    refine XS.imul X386.here hx rfl (hb hby d5_129) rfl ?_
    refine XS.iloadN X386.here hx rfl (hb hby d5_130) rfl ?_
    show Steps p.tables e below (T386.setTop (mkF m 131 #[vR a1, vI (3 : Int32), vR a2, vI (1 : Int32), s4, vD dg, .second, vI (2 : Int32), s8, s9, s10] [(.int (1 : Int32)), (.int ((2 : Int32) * (3 : Int32))), (.ref a2)])) _
    refine XS.iadd X386.here hx rfl (hb hby d5_131) rfl ?_
    exact kt
  clear R385 st386
  obtain ⟨cl388, d388, Ar388, hin388, hat388, G388⟩ := VA.at (j := (((2 : Int32) * (3 : Int32)) + (1 : Int32))) (k := 7) (by decide) (by decide) (by decide)
  have H388 : DR 2 x7 d388 := G388
  have R389 : ∀ tg, Steps p.tables e below (T386.setTop (mkF m 135 #[vR a1, vI (3 : Int32), vR a2, vI (1 : Int32), s4, vD dg, .second, vI (2 : Int32), s8, s9, s10] [(.double dg), (.double d388)])) tg → Steps p.tables e below (T0.setTop (mkF m 116 #[vR a1, vI (3 : Int32), vR a2, vI (1 : Int32), s4, vD dg, .second, vI (2 : Int32), s8, s9, s10] [])) tg := by
    intro tg kt
    refine R387 _ ?_
    show Steps p.tables e below (T386.setTop (mkF m 132 #[vR a1, vI (3 : Int32), vR a2, vI (1 : Int32), s4, vD dg, .second, vI (2 : Int32), s8, s9, s10] [(.int (((2 : Int32) * (3 : Int32)) + (1 : Int32))), (.ref a2)])) _
    refine X386.daload hx (j := (((2 : Int32) * (3 : Int32)) + (1 : Int32))) (v := (.double d388)) (by rw [e386]; exact Ar388.1) (State.isArrayOf_alike hZ.alike Ar388.2.1) Ar388.2.2 hin388 hat388 (g := (mkF m 132 #[vR a1, vI (3 : Int32), vR a2, vI (1 : Int32), s4, vD dg, .second, vI (2 : Int32), s8, s9, s10] [(.int (((2 : Int32) * (3 : Int32)) + (1 : Int32))), (.ref a2)])) rfl rfl (hb hby d5_132) _ ?_
    show Steps p.tables e below (T386.setTop (mkF m 133 #[vR a1, vI (3 : Int32), vR a2, vI (1 : Int32), s4, vD dg, .second, vI (2 : Int32), s8, s9, s10] [(.double d388)])) _
    refine XS.dload X386.here hx rfl (hb hby d5_133) rfl ?_
    exact kt
  clear R387
  obtain ⟨d390, hv390, nn390, H390⟩ := own_dv (c := ff) H388 hdg hD.1 hD.2.1 hD.2.2
  have R391 : ∀ tg, Steps p.tables e below (T386.setTop (mkF m 139 #[vR a1, vI (3 : Int32), vR a2, vI (1 : Int32), s4, vD dg, .second, vI (2 : Int32), vD d390, .second, s10] [(.ref a1)])) tg → Steps p.tables e below (T0.setTop (mkF m 116 #[vR a1, vI (3 : Int32), vR a2, vI (1 : Int32), s4, vD dg, .second, vI (2 : Int32), s8, s9, s10] [])) tg := by
    intro tg kt
    refine R389 _ ?_
    show Steps p.tables e below (T386.setTop (mkF m 135 #[vR a1, vI (3 : Int32), vR a2, vI (1 : Int32), s4, vD dg, .second, vI (2 : Int32), s8, s9, s10] [(.double dg), (.double d388)])) _
    refine XS.ddivS X386.here hx rfl (hb hby d5_135) rfl nn390 hv390 ?_
    show Steps p.tables e below (T386.setTop (mkF m 136 #[vR a1, vI (3 : Int32), vR a2, vI (1 : Int32), s4, vD dg, .second, vI (2 : Int32), s8, s9, s10] [(.double d390)])) _
    refine XS.dstore X386.here hx rfl (hb hby d5_136) rfl (l' := #[vR a1, vI (3 : Int32), vR a2, vI (1 : Int32), s4, vD dg, .second, vI (2 : Int32), vD d390, .second, s10]) (own_st8 hs) ?_
    refine XS.aloadN X386.here hx rfl (hb hby d5_138) rfl rfl ?_
    exact kt
  clear R389
  obtain ⟨T392, X392, e392, st392⟩ := getF X386 hx hZ hown (host := "") (Or.inl (hw _ (List.mem_of_getElem? (i := 28) rfl))) Via.refl e386 Fl (g := (mkF m 139 #[vR a1, vI (3 : Int32), vR a2, vI (1 : Int32), s4, vD dg, .second, vI (2 : Int32), vD d390, .second, s10] [(.ref a1)])) rfl rfl (hb hby d5_139)
  have R393 : ∀ tg, Steps p.tables e below (T392.setTop (mkF m 150 #[vR a1, vI (3 : Int32), vR a2, vI (1 : Int32), s4, vD dg, .second, vI (2 : Int32), vD d390, .second, s10] [(.double d390), (.int (((2 : Int32) * (3 : Int32)) + (1 : Int32))), (.ref a2)])) tg → Steps p.tables e below (T0.setTop (mkF m 116 #[vR a1, vI (3 : Int32), vR a2, vI (1 : Int32), s4, vD dg, .second, vI (2 : Int32), s8, s9, s10] [])) tg := by
    intro tg kt
    refine R391 _ ?_
    refine st392 _ ?_
    refine XS.iload X392.here hx rfl (hb hby d5_142) rfl ?_
    show Steps p.tables e below (T392.setTop (mkF m 144 #[vR a1, vI (3 : Int32), vR a2, vI (1 : Int32), s4, vD dg, .second, vI (2 : Int32), vD d390, .second, s10] [(.int (2 : Int32)), (.ref a2)])) _
    refine XS.iloadN X392.here hx rfl (hb hby d5_144) rfl ?_
    show Steps p.tables e below (T392.setTop (mkF m 145 #[vR a1, vI (3 : Int32), vR a2, vI (1 : Int32), s4, vD dg, .second, vI (2 : Int32), vD d390, .second, s10] [(.int (3 : Int32)), (.int (2 : Int32)), (.ref a2)])) _
    refine XS.imul X392.here hx rfl (hb hby d5_145) rfl ?_
    refine XS.iloadN X392.here hx rfl (hb hby d5_146) rfl ?_
    show Steps p.tables e below (T392.setTop (mkF m 147 #[vR a1, vI (3 : Int32), vR a2, vI (1 : Int32), s4, vD dg, .second, vI (2 : Int32), vD d390, .second, s10] [(.int (1 : Int32)), (.int ((2 : Int32) * (3 : Int32))), (.ref a2)])) _
    refine XS.iadd X392.here hx rfl (hb hby d5_147) rfl ?_
    show Steps p.tables e below (T392.setTop (mkF m 148 #[vR a1, vI (3 : Int32), vR a2, vI (1 : Int32), s4, vD dg, .second, vI (2 : Int32), vD d390, .second, s10] [(.int (((2 : Int32) * (3 : Int32)) + (1 : Int32))), (.ref a2)])) _
    refine XS.dload X392.here hx rfl (hb hby d5_148) rfl ?_
    exact kt
  clear R391 st392
  obtain ⟨cl394, -, Ar394, hin394, -, -⟩ := VA.at (j := (((2 : Int32) * (3 : Int32)) + (1 : Int32))) (k := 7) (by decide) (by decide) (by decide)
  obtain ⟨T395, h395, X395, e395, W395, st395⟩ := stD X392 hx hZ e392 Ar394 (j := (((2 : Int32) * (3 : Int32)) + (1 : Int32))) hin394 (g := (mkF m 150 #[vR a1, vI (3 : Int32), vR a2, vI (1 : Int32), s4, vD dg, .second, vI (2 : Int32), vD d390, .second, s10] [(.double d390), (.int (((2 : Int32) * (3 : Int32)) + (1 : Int32))), (.ref a2)])) rfl rfl (hb hby d5_150)
  have N395 := Fr.snoc X395 N0 ga
  rw [show ((((2 : Int32) * (3 : Int32)) + (1 : Int32)) : Int32).toNatClampNeg = 7 from (by decide)] at W395
  have VA_395 : VD Z h395 a2 9 [x0, x1, x2, x3, x4, x5, x6, ff, x8] := VA.set W395 H390
  have Fl_395 := Fl.other W395 (Or.inl na)
  have Zs395 : n0 ≤ h395.size := Nat.le_trans Z0 (Keep.of_wr W395).1
  have Kw395 : Keep h0 h395 [a2] := Keep.wr (Keep.refl h0 [a2]) W395 (Or.inl (List.mem_of_getElem? (i := 0) rfl))
  have R396 : ∀ tg, Steps p.tables e below (T395.setTop (mkF m 154 #[vR a1, vI (3 : Int32), vR a2, vI (1 : Int32), s4, vD dg, .second, vI (2 : Int32), vD d390, .second, s10] [(.double (0 : UInt64)), (.double d390)])) tg → Steps p.tables e below (T0.setTop (mkF m 116 #[vR a1, vI (3 : Int32), vR a2, vI (1 : Int32), s4, vD dg, .second, vI (2 : Int32), s8, s9, s10] [])) tg := by
    intro tg kt
    refine R393 _ ?_
    refine st395 _ ?_
    show Steps p.tables e below (T395.setTop (mkF m 151 #[vR a1, vI (3 : Int32), vR a2, vI (1 : Int32), s4, vD dg, .second, vI (2 : Int32), vD d390, .second, s10] [])) _
    refine XS.dload X395.here hx rfl (hb hby d5_151) rfl ?_
    show Steps p.tables e below (T395.setTop (mkF m 153 #[vR a1, vI (3 : Int32), vR a2, vI (1 : Int32), s4, vD dg, .second, vI (2 : Int32), vD d390, .second, s10] [(.double d390)])) _
    refine XS.dconst0 X395.here hx rfl (hb hby d5_153) rfl ?_
    exact kt
  clear R393 st395
  have R397 : ∀ tg, Steps p.tables e below (T395.setTop (mkF m 155 #[vR a1, vI (3 : Int32), vR a2, vI (1 : Int32), s4, vD dg, .second, vI (2 : Int32), vD d390, .second, s10] [(.int (own_cv ff (0 : Int)))])) tg → Steps p.tables e below (T0.setTop (mkF m 116 #[vR a1, vI (3 : Int32), vR a2, vI (1 : Int32), s4, vD dg, .second, vI (2 : Int32), s8, s9, s10] [])) tg := by
    intro tg kt
    refine R396 _ ?_
    show Steps p.tables e below (T395.setTop (mkF m 154 #[vR a1, vI (3 : Int32), vR a2, vI (1 : Int32), s4, vD dg, .second, vI (2 : Int32), vD d390, .second, s10] [(.double (0 : UInt64)), (.double d390)])) _
    refine XS.dcmpS X395.here hx rfl (hb hby d5_154) rfl (own_cvl H390 own_dr0 _) ?_
    exact kt
  clear R396
  by_cases hf : (own_cv ff (0 : Int)) = (0 : Int32)
  · have R398 : ∀ tg, Steps p.tables e below (T395.setTop (mkF m 204 #[vR a1, vI (3 : Int32), vR a2, vI (1 : Int32), s4, vD dg, .second, vI (2 : Int32), vD d390, .second, s10] [])) tg → Steps p.tables e below (T0.setTop (mkF m 116 #[vR a1, vI (3 : Int32), vR a2, vI (1 : Int32), s4, vD dg, .second, vI (2 : Int32), s8, s9, s10] [])) tg := by
      intro tg kt
      refine R397 _ ?_
      show Steps p.tables e below (T395.setTop (mkF m 155 #[vR a1, vI (3 : Int32), vR a2, vI (1 : Int32), s4, vD dg, .second, vI (2 : Int32), vD d390, .second, s10] [(.int (own_cv ff (0 : Int)))])) _
      refine XS.ifYes X395.here hx rfl (pc0 := 155) (pc' := 204) rfl (hb hby d5_155) rfl ((if0 _ _).trans (teq (hf : (own_cv ff (0 : Int)) = (0 : Int32))).1) (by decide) (by decide) ?_
      exact kt
    clear R397
    have hz := own_cv0 hf
    have VA_399 : VD Z h395 a2 9 [x0, x1, x2, x3, x4, x5, x6, ff, t2] := by rw [← own_M0 hM2 hz]; exact VA_395
    have R400 : ∀ tg, Steps p.tables e below (T395.setTop (mkF m 116 #[vR a1, vI (3 : Int32), vR a2, vI (1 : Int32), s4, vD dg, .second, vI ((2 : Int32) + (1 : Int32)), vD d390, .second, s10] [])) tg → Steps p.tables e below (T0.setTop (mkF m 116 #[vR a1, vI (3 : Int32), vR a2, vI (1 : Int32), s4, vD dg, .second, vI (2 : Int32), s8, s9, s10] [])) tg := by
      intro tg kt
      refine R398 _ ?_
      show Steps p.tables e below (T395.setTop (mkF m 204 #[vR a1, vI (3 : Int32), vR a2, vI (1 : Int32), s4, vD dg, .second, vI (2 : Int32), vD d390, .second, s10] [])) _
      refine XS.iinc X395.here hx rfl (hb hby d5_204) rfl (l' := #[vR a1, vI (3 : Int32), vR a2, vI (1 : Int32), s4, vD dg, .second, vI ((2 : Int32) + (1 : Int32)), vD d390, .second, s10]) rfl ?_
      show Steps p.tables e below (T395.setTop (mkF m 207 #[vR a1, vI (3 : Int32), vR a2, vI (1 : Int32), s4, vD dg, .second, vI ((2 : Int32) + (1 : Int32)), vD d390, .second, s10] [])) _
      refine XS.goto X395.here hx rfl (pc0 := 207) (pc' := 116) rfl (hb hby d5_207) (by decide) (by decide) ?_
      exact kt
    clear R398
    have R401 : ∀ tg, Steps p.tables e below (T395.setTop (mkF m 116 #[vR a1, vI (3 : Int32), vR a2, vI (1 : Int32), s4, vD dg, .second, vI (3 : Int32), vD d390, .second, s10] [])) tg → Steps p.tables e below (T0.setTop (mkF m 116 #[vR a1, vI (3 : Int32), vR a2, vI (1 : Int32), s4, vD dg, .second, vI (2 : Int32), s8, s9, s10] [])) tg := R400
    exact ⟨_, _, _, _, _, X395, e395, N395, Zs395, Kw395, VA_399, (own_ok8 hs), R401⟩
  · have R402 : ∀ tg, Steps p.tables e below (T395.setTop (mkF m 163 #[vR a1, vI (3 : Int32), vR a2, vI (1 : Int32), s4, vD dg, .second, vI (2 : Int32), vD d390, .second, vI ((1 : Int32) + (1 : Int32))] [])) tg → Steps p.tables e below (T0.setTop (mkF m 116 #[vR a1, vI (3 : Int32), vR a2, vI (1 : Int32), s4, vD dg, .second, vI (2 : Int32), s8, s9, s10] [])) tg := by
      intro tg kt
      refine R397 _ ?_
      show Steps p.tables e below (T395.setTop (mkF m 155 #[vR a1, vI (3 : Int32), vR a2, vI (1 : Int32), s4, vD dg, .second, vI (2 : Int32), vD d390, .second, s10] [(.int (own_cv ff (0 : Int)))])) _
      refine XS.ifNo X395.here hx rfl (hb hby d5_155) rfl ((if0 _ _).trans (feq (hf : ¬ ((own_cv ff (0 : Int)) = (0 : Int32)))).1) ?_
      refine XS.iloadN X395.here hx rfl (hb hby d5_158) rfl ?_
      refine XS.iconst X395.here hx rfl (hb hby d5_159) ?_
      show Steps p.tables e below (T395.setTop (mkF m 160 #[vR a1, vI (3 : Int32), vR a2, vI (1 : Int32), s4, vD dg, .second, vI (2 : Int32), vD d390, .second, s10] [(.int (1 : Int32)), (.int (1 : Int32))])) _
      refine XS.iadd X395.here hx rfl (hb hby d5_160) rfl ?_
      show Steps p.tables e below (T395.setTop (mkF m 161 #[vR a1, vI (3 : Int32), vR a2, vI (1 : Int32), s4, vD dg, .second, vI (2 : Int32), vD d390, .second, s10] [(.int ((1 : Int32) + (1 : Int32)))])) _
      refine XS.istore X395.here hx rfl (hb hby d5_161) rfl (l' := #[vR a1, vI (3 : Int32), vR a2, vI (1 : Int32), s4, vD dg, .second, vI (2 : Int32), vD d390, .second, vI ((1 : Int32) + (1 : Int32))]) (own_st10 hs) ?_
      exact kt
    clear R397
    have R403 : ∀ tg, Steps p.tables e below (T395.setTop (mkF m 163 #[vR a1, vI (3 : Int32), vR a2, vI (1 : Int32), s4, vD dg, .second, vI (2 : Int32), vD d390, .second, vI (2 : Int32)] [])) tg → Steps p.tables e below (T0.setTop (mkF m 116 #[vR a1, vI (3 : Int32), vR a2, vI (1 : Int32), s4, vD dg, .second, vI (2 : Int32), s8, s9, s10] [])) tg := R402
    have R404 : ∀ tg, Steps p.tables e below (T395.setTop (mkF m 170 #[vR a1, vI (3 : Int32), vR a2, vI (1 : Int32), s4, vD dg, .second, vI (2 : Int32), vD d390, .second, vI (2 : Int32)] [(.ref a1)])) tg → Steps p.tables e below (T0.setTop (mkF m 116 #[vR a1, vI (3 : Int32), vR a2, vI (1 : Int32), s4, vD dg, .second, vI (2 : Int32), s8, s9, s10] [])) tg := by
      intro tg kt
      refine R403 _ ?_
      show Steps p.tables e below (T395.setTop (mkF m 163 #[vR a1, vI (3 : Int32), vR a2, vI (1 : Int32), s4, vD dg, .second, vI (2 : Int32), vD d390, .second, vI (2 : Int32)] [])) _
      refine XS.iload X395.here hx rfl (hb hby d5_163) rfl ?_
      refine XS.iloadN X395.here hx rfl (hb hby d5_165) rfl ?_
      show Steps p.tables e below (T395.setTop (mkF m 166 #[vR a1, vI (3 : Int32), vR a2, vI (1 : Int32), s4, vD dg, .second, vI (2 : Int32), vD d390, .second, vI (2 : Int32)] [(.int (3 : Int32)), (.int (2 : Int32))])) _
      refine XS.icmpNo X395.here hx rfl (hb hby d5_166) rfl (tlt (by decide : (2 : Int32) < (3 : Int32))).2.1 ?_
      refine XS.aloadN X395.here hx rfl (hb hby d5_169) rfl rfl ?_
      exact kt
    clear R403
    obtain ⟨T405, X405, e405, st405⟩ := getF X395 hx hZ hown (host := "") (Or.inl (hw _ (List.mem_of_getElem? (i := 28) rfl))) Via.refl e395 Fl_395 (g := (mkF m 170 #[vR a1, vI (3 : Int32), vR a2, vI (1 : Int32), s4, vD dg, .second, vI (2 : Int32), vD d390, .second, vI (2 : Int32)] [(.ref a1)])) rfl rfl (hb hby d5_170)
    have R406 : ∀ tg, Steps p.tables e below (T405.setTop (mkF m 181 #[vR a1, vI (3 : Int32), vR a2, vI (1 : Int32), s4, vD dg, .second, vI (2 : Int32), vD d390, .second, vI (2 : Int32)] [(.int (((2 : Int32) * (3 : Int32)) + (2 : Int32))), (.ref a2), (.int (((2 : Int32) * (3 : Int32)) + (2 : Int32))), (.ref a2)])) tg → Steps p.tables e below (T0.setTop (mkF m 116 #[vR a1, vI (3 : Int32), vR a2, vI (1 : Int32), s4, vD dg, .second, vI (2 : Int32), s8, s9, s10] [])) tg := by
      intro tg kt
      refine R404 _ ?_
      refine st405 _ ?_
      refine XS.iload X405.here hx rfl (hb hby d5_173) rfl ?_
      show Steps p.tables e below (T405.setTop (mkF m 175 #[vR a1, vI (3 : Int32), vR a2, vI (1 : Int32), s4, vD dg, .second, vI (2 : Int32), vD d390, .second, vI (2 : Int32)] [(.int (2 : Int32)), (.ref a2)])) _
      refine XS.iloadN X405.here hx rfl (hb hby d5_175) rfl ?_
      show Steps p.tables e below (T405.setTop (mkF m 176 #[vR a1, vI (3 : Int32), vR a2, vI (1 : Int32), s4, vD dg, .second, vI (2 : Int32), vD d390, .second, vI (2 : Int32)] [(.int (3 : Int32)), (.int (2 : Int32)), (.ref a2)])) _
      refine XS.imul X405.here hx rfl (hb hby d5_176) rfl ?_
      refine XS.iload X405.here hx rfl (hb hby d5_177) rfl ?_
      show Steps p.tables e below (T405.setTop (mkF m 179 #[vR a1, vI (3 : Int32), vR a2, vI (1 : Int32), s4, vD dg, .second, vI (2 : Int32), vD d390, .second, vI (2 : Int32)] [(.int (2 : Int32)), (.int ((2 : Int32) * (3 : Int32))), (.ref a2)])) _
      refine XS.iadd X405.here hx rfl (hb hby d5_179) rfl ?_
      show Steps p.tables e below (T405.setTop (mkF m 180 #[vR a1, vI (3 : Int32), vR a2, vI (1 : Int32), s4, vD dg, .second, vI (2 : Int32), vD d390, .second, vI (2 : Int32)] [(.int (((2 : Int32) * (3 : Int32)) + (2 : Int32))), (.ref a2)])) _
      jvm_step X405.here [X405.here.top, hx, (hb hby d5_180), Value.category]
      exact kt
    clear R404 st405
    obtain ⟨cl407, d407, Ar407, hin407, hat407, G407⟩ := VA_395.at (j := (((2 : Int32) * (3 : Int32)) + (2 : Int32))) (k := 8) (by decide) (by decide) (by decide)
    have H407 : DR 2 x8 d407 := G407
    have R408 : ∀ tg, Steps p.tables e below (T405.setTop (mkF m 185 #[vR a1, vI (3 : Int32), vR a2, vI (1 : Int32), s4, vD dg, .second, vI (2 : Int32), vD d390, .second, vI (2 : Int32)] [(.ref a1), (.double d390), (.double d407), (.int (((2 : Int32) * (3 : Int32)) + (2 : Int32))), (.ref a2)])) tg → Steps p.tables e below (T0.setTop (mkF m 116 #[vR a1, vI (3 : Int32), vR a2, vI (1 : Int32), s4, vD dg, .second, vI (2 : Int32), s8, s9, s10] [])) tg := by
      intro tg kt
      refine R406 _ ?_
      show Steps p.tables e below (T405.setTop (mkF m 181 #[vR a1, vI (3 : Int32), vR a2, vI (1 : Int32), s4, vD dg, .second, vI (2 : Int32), vD d390, .second, vI (2 : Int32)] [(.int (((2 : Int32) * (3 : Int32)) + (2 : Int32))), (.ref a2), (.int (((2 : Int32) * (3 : Int32)) + (2 : Int32))), (.ref a2)])) _
      refine X405.daload hx (j := (((2 : Int32) * (3 : Int32)) + (2 : Int32))) (v := (.double d407)) (by rw [e405]; exact Ar407.1) (State.isArrayOf_alike hZ.alike Ar407.2.1) Ar407.2.2 hin407 hat407 (g := (mkF m 181 #[vR a1, vI (3 : Int32), vR a2, vI (1 : Int32), s4, vD dg, .second, vI (2 : Int32), vD d390, .second, vI (2 : Int32)] [(.int (((2 : Int32) * (3 : Int32)) + (2 : Int32))), (.ref a2), (.int (((2 : Int32) * (3 : Int32)) + (2 : Int32))), (.ref a2)])) rfl rfl (hb hby d5_181) _ ?_
      show Steps p.tables e below (T405.setTop (mkF m 182 #[vR a1, vI (3 : Int32), vR a2, vI (1 : Int32), s4, vD dg, .second, vI (2 : Int32), vD d390, .second, vI (2 : Int32)] [(.double d407), (.int (((2 : Int32) * (3 : Int32)) + (2 : Int32))), (.ref a2)])) _
      refine XS.dload X405.here hx rfl (hb hby d5_182) rfl ?_
      refine XS.aloadN X405.here hx rfl (hb hby d5_184) rfl rfl ?_
      exact kt
    clear R406
    obtain ⟨T409, X409, e409, st409⟩ := getF X405 hx hZ hown (host := "") (Or.inl (hw _ (List.mem_of_getElem? (i := 28) rfl))) Via.refl e405 Fl_395 (g := (mkF m 185 #[vR a1, vI (3 : Int32), vR a2, vI (1 : Int32), s4, vD dg, .second, vI (2 : Int32), vD d390, .second, vI (2 : Int32)] [(.ref a1), (.double d390), (.double d407), (.int (((2 : Int32) * (3 : Int32)) + (2 : Int32))), (.ref a2)])) rfl rfl (hb hby d5_185)
    have R410 : ∀ tg, Steps p.tables e below (T409.setTop (mkF m 194 #[vR a1, vI (3 : Int32), vR a2, vI (1 : Int32), s4, vD dg, .second, vI (2 : Int32), vD d390, .second, vI (2 : Int32)] [(.int (((1 : Int32) * (3 : Int32)) + (2 : Int32))), (.ref a2), (.double d390), (.double d407), (.int (((2 : Int32) * (3 : Int32)) + (2 : Int32))), (.ref a2)])) tg → Steps p.tables e below (T0.setTop (mkF m 116 #[vR a1, vI (3 : Int32), vR a2, vI (1 : Int32), s4, vD dg, .second, vI (2 : Int32), s8, s9, s10] [])) tg := by
      intro tg kt
      refine R408 _ ?_
      refine st409 _ ?_
      refine XS.iloadN X409.here hx rfl (hb hby d5_188) rfl ?_
      show Steps p.tables e below (T409.setTop (mkF m 189 #[vR a1, vI (3 : Int32), vR a2, vI (1 : Int32), s4, vD dg, .second, vI (2 : Int32), vD d390, .second, vI (2 : Int32)] [(.int (1 : Int32)), (.ref a2), (.double d390), (.double d407), (.int (((2 : Int32) * (3 : Int32)) + (2 : Int32))), (.ref a2)])) _
      refine XS.iloadN X409.here hx rfl (hb hby d5_189) rfl ?_
      show Steps p.tables e below (T409.setTop (mkF m 190 #[vR a1, vI (3 : Int32), vR a2, vI (1 : Int32), s4, vD dg, .second, vI (2 : Int32), vD d390, .second, vI (2 : Int32)] [(.int (3 : Int32)), (.int (1 : Int32)), (.ref a2), (.double d390), (.double d407), (.int (((2 : Int32) * (3 : Int32)) + (2 : Int32))), (.ref a2)])) _
      refine XS.imul X409.here hx rfl (hb hby d5_190) rfl ?_
      refine XS.iload X409.here hx rfl (hb hby d5_191) rfl ?_
      show Steps p.tables e below (T409.setTop (mkF m 193 #[vR a1, vI (3 : Int32), vR a2, vI (1 : Int32), s4, vD dg, .second, vI (2 : Int32), vD d390, .second, vI (2 : Int32)] [(.int (2 : Int32)), (.int ((1 : Int32) * (3 : Int32))), (.ref a2), (.double d390), (.double d407), (.int (((2 : Int32) * (3 : Int32)) + (2 : Int32))), (.ref a2)])) _
      refine XS.iadd X409.here hx rfl (hb hby d5_193) rfl ?_
      exact kt
    clear R408 st409
    obtain ⟨cl411, d411, Ar411, hin411, hat411, G411⟩ := VA_395.at (j := (((1 : Int32) * (3 : Int32)) + (2 : Int32))) (k := 5) (by decide) (by decide) (by decide)
    have H411 : DR 2 x5 d411 := G411
    have R412 : ∀ tg, Steps p.tables e below (T409.setTop (mkF m 195 #[vR a1, vI (3 : Int32), vR a2, vI (1 : Int32), s4, vD dg, .second, vI (2 : Int32), vD d390, .second, vI (2 : Int32)] [(.double d411), (.double d390), (.double d407), (.int (((2 : Int32) * (3 : Int32)) + (2 : Int32))), (.ref a2)])) tg → Steps p.tables e below (T0.setTop (mkF m 116 #[vR a1, vI (3 : Int32), vR a2, vI (1 : Int32), s4, vD dg, .second, vI (2 : Int32), s8, s9, s10] [])) tg := by
      intro tg kt
      refine R410 _ ?_
      show Steps p.tables e below (T409.setTop (mkF m 194 #[vR a1, vI (3 : Int32), vR a2, vI (1 : Int32), s4, vD dg, .second, vI (2 : Int32), vD d390, .second, vI (2 : Int32)] [(.int (((1 : Int32) * (3 : Int32)) + (2 : Int32))), (.ref a2), (.double d390), (.double d407), (.int (((2 : Int32) * (3 : Int32)) + (2 : Int32))), (.ref a2)])) _
      refine X409.daload hx (j := (((1 : Int32) * (3 : Int32)) + (2 : Int32))) (v := (.double d411)) (by rw [e409]; exact Ar411.1) (State.isArrayOf_alike hZ.alike Ar411.2.1) Ar411.2.2 hin411 hat411 (g := (mkF m 194 #[vR a1, vI (3 : Int32), vR a2, vI (1 : Int32), s4, vD dg, .second, vI (2 : Int32), vD d390, .second, vI (2 : Int32)] [(.int (((1 : Int32) * (3 : Int32)) + (2 : Int32))), (.ref a2), (.double d390), (.double d407), (.int (((2 : Int32) * (3 : Int32)) + (2 : Int32))), (.ref a2)])) rfl rfl (hb hby d5_194) _ ?_
      exact kt
    clear R410
    obtain ⟨nm413, d413, hv413, nn413, H413⟩ := own_ms (t := t2) H407 H390 H411 hM2.1 hM2.2.1 hM2.2.2
    have R414 : ∀ tg, Steps p.tables e below (T409.setTop (mkF m 197 #[vR a1, vI (3 : Int32), vR a2, vI (1 : Int32), s4, vD dg, .second, vI (2 : Int32), vD d390, .second, vI (2 : Int32)] [(.double d413), (.int (((2 : Int32) * (3 : Int32)) + (2 : Int32))), (.ref a2)])) tg → Steps p.tables e below (T0.setTop (mkF m 116 #[vR a1, vI (3 : Int32), vR a2, vI (1 : Int32), s4, vD dg, .second, vI (2 : Int32), s8, s9, s10] [])) tg := by
      intro tg kt
      refine R412 _ ?_
      show Steps p.tables e below (T409.setTop (mkF m 195 #[vR a1, vI (3 : Int32), vR a2, vI (1 : Int32), s4, vD dg, .second, vI (2 : Int32), vD d390, .second, vI (2 : Int32)] [(.double d411), (.double d390), (.double d407), (.int (((2 : Int32) * (3 : Int32)) + (2 : Int32))), (.ref a2)])) _
      refine XS.dmulS X409.here hx rfl (hb hby d5_195) rfl nm413 rfl ?_
      show Steps p.tables e below (T409.setTop (mkF m 196 #[vR a1, vI (3 : Int32), vR a2, vI (1 : Int32), s4, vD dg, .second, vI (2 : Int32), vD d390, .second, vI (2 : Int32)] [(.double (Jvm.FP.dmul d390 d411)), (.double d407), (.int (((2 : Int32) * (3 : Int32)) + (2 : Int32))), (.ref a2)])) _
      refine XS.dsubS X409.here hx rfl (hb hby d5_196) rfl nn413 hv413 ?_
      exact kt
    clear R412
    obtain ⟨cl415, -, Ar415, hin415, -, -⟩ := VA_395.at (j := (((2 : Int32) * (3 : Int32)) + (2 : Int32))) (k := 8) (by decide) (by decide) (by decide)
    obtain ⟨T416, h416, X416, e416, W416, st416⟩ := stD X409 hx hZ e409 Ar415 (j := (((2 : Int32) * (3 : Int32)) + (2 : Int32))) hin415 (g := (mkF m 197 #[vR a1, vI (3 : Int32), vR a2, vI (1 : Int32), s4, vD dg, .second, vI (2 : Int32), vD d390, .second, vI (2 : Int32)] [(.double d413), (.int (((2 : Int32) * (3 : Int32)) + (2 : Int32))), (.ref a2)])) rfl rfl (hb hby d5_197)
    have N416 := Fr.snoc X416 N395 ga
    rw [show ((((2 : Int32) * (3 : Int32)) + (2 : Int32)) : Int32).toNatClampNeg = 8 from (by decide)] at W416
    have VA_416 : VD Z h416 a2 9 [x0, x1, x2, x3, x4, x5, x6, ff, t2] := VA_395.set W416 H413
    have Fl_416 := Fl_395.other W416 (Or.inl na)
    clear Fl_395
    have Zs416 : n0 ≤ h416.size := Nat.le_trans Zs395 (Keep.of_wr W416).1
    have Kw416 : Keep h0 h416 [a2] := Keep.wr Kw395 W416 (Or.inl (List.mem_of_getElem? (i := 0) rfl))
    have R417 : ∀ tg, Steps p.tables e below (T416.setTop (mkF m 163 #[vR a1, vI (3 : Int32), vR a2, vI (1 : Int32), s4, vD dg, .second, vI (2 : Int32), vD d390, .second, vI ((2 : Int32) + (1 : Int32))] [])) tg → Steps p.tables e below (T0.setTop (mkF m 116 #[vR a1, vI (3 : Int32), vR a2, vI (1 : Int32), s4, vD dg, .second, vI (2 : Int32), s8, s9, s10] [])) tg := by
      intro tg kt
      refine R414 _ ?_
      refine st416 _ ?_
      show Steps p.tables e below (T416.setTop (mkF m 198 #[vR a1, vI (3 : Int32), vR a2, vI (1 : Int32), s4, vD dg, .second, vI (2 : Int32), vD d390, .second, vI (2 : Int32)] [])) _
      refine XS.iinc X416.here hx rfl (hb hby d5_198) rfl (l' := #[vR a1, vI (3 : Int32), vR a2, vI (1 : Int32), s4, vD dg, .second, vI (2 : Int32), vD d390, .second, vI ((2 : Int32) + (1 : Int32))]) rfl ?_
      show Steps p.tables e below (T416.setTop (mkF m 201 #[vR a1, vI (3 : Int32), vR a2, vI (1 : Int32), s4, vD dg, .second, vI (2 : Int32), vD d390, .second, vI ((2 : Int32) + (1 : Int32))] [])) _
      refine XS.goto X416.here hx rfl (pc0 := 201) (pc' := 163) rfl (hb hby d5_201) (by decide) (by decide) ?_
      exact kt
    clear R414 st416
    have R418 : ∀ tg, Steps p.tables e below (T416.setTop (mkF m 163 #[vR a1, vI (3 : Int32), vR a2, vI (1 : Int32), s4, vD dg, .second, vI (2 : Int32), vD d390, .second, vI (3 : Int32)] [])) tg → Steps p.tables e below (T0.setTop (mkF m 116 #[vR a1, vI (3 : Int32), vR a2, vI (1 : Int32), s4, vD dg, .second, vI (2 : Int32), s8, s9, s10] [])) tg := R417
    have R419 : ∀ tg, Steps p.tables e below (T416.setTop (mkF m 116 #[vR a1, vI (3 : Int32), vR a2, vI (1 : Int32), s4, vD dg, .second, vI ((2 : Int32) + (1 : Int32)), vD d390, .second, vI (3 : Int32)] [])) tg → Steps p.tables e below (T0.setTop (mkF m 116 #[vR a1, vI (3 : Int32), vR a2, vI (1 : Int32), s4, vD dg, .second, vI (2 : Int32), s8, s9, s10] [])) tg := by
      intro tg kt
      refine R418 _ ?_
      show Steps p.tables e below (T416.setTop (mkF m 163 #[vR a1, vI (3 : Int32), vR a2, vI (1 : Int32), s4, vD dg, .second, vI (2 : Int32), vD d390, .second, vI (3 : Int32)] [])) _
      refine XS.iload X416.here hx rfl (hb hby d5_163) rfl ?_
      refine XS.iloadN X416.here hx rfl (hb hby d5_165) rfl ?_
      show Steps p.tables e below (T416.setTop (mkF m 166 #[vR a1, vI (3 : Int32), vR a2, vI (1 : Int32), s4, vD dg, .second, vI (2 : Int32), vD d390, .second, vI (3 : Int32)] [(.int (3 : Int32)), (.int (3 : Int32))])) _
      refine XS.icmpYes X416.here hx rfl (pc0 := 166) (pc' := 204) rfl (hb hby d5_166) rfl (flt (by decide : ¬ ((3 : Int32) < (3 : Int32)))).2.1 (by decide) (by decide) ?_
      show Steps p.tables e below (T416.setTop (mkF m 204 #[vR a1, vI (3 : Int32), vR a2, vI (1 : Int32), s4, vD dg, .second, vI (2 : Int32), vD d390, .second, vI (3 : Int32)] [])) _
      refine XS.iinc X416.here hx rfl (hb hby d5_204) rfl (l' := #[vR a1, vI (3 : Int32), vR a2, vI (1 : Int32), s4, vD dg, .second, vI ((2 : Int32) + (1 : Int32)), vD d390, .second, vI (3 : Int32)]) rfl ?_
      show Steps p.tables e below (T416.setTop (mkF m 207 #[vR a1, vI (3 : Int32), vR a2, vI (1 : Int32), s4, vD dg, .second, vI ((2 : Int32) + (1 : Int32)), vD d390, .second, vI (3 : Int32)] [])) _
      refine XS.goto X416.here hx rfl (pc0 := 207) (pc' := 116) rfl (hb hby d5_207) (by decide) (by decide) ?_
      exact kt
    clear R418
    have R420 : ∀ tg, Steps p.tables e below (T416.setTop (mkF m 116 #[vR a1, vI (3 : Int32), vR a2, vI (1 : Int32), s4, vD dg, .second, vI (3 : Int32), vD d390, .second, vI (3 : Int32)] [])) tg → Steps p.tables e below (T0.setTop (mkF m 116 #[vR a1, vI (3 : Int32), vR a2, vI (1 : Int32), s4, vD dg, .second, vI (2 : Int32), s8, s9, s10] [])) tg := R419
    exact ⟨_, _, _, _, _, X416, e416, N416, Zs416, Kw416, VA_416, own_ok10, R420⟩
theorem d5_0 : decode prog_76_method_1_code 0 = .ok (.aload_n 0, 1) := by decide +kernel
theorem d5_1 : decode prog_76_method_1_code 1 = .ok (.invokespecial 1, 3) := by decide +kernel
theorem d5_4 : decode prog_76_method_1_code 4 = .ok (.aload_n 0, 1) := by decide +kernel
theorem d5_5 : decode prog_76_method_1_code 5 = .ok (.iload_n 1, 1) := by decide +kernel
theorem d5_6 : decode prog_76_method_1_code 6 = .ok (.putfield 7, 3) := by decide +kernel
theorem d5_9 : decode prog_76_method_1_code 9 = .ok (.aload_n 0, 1) := by decide +kernel
theorem d5_10 : decode prog_76_method_1_code 10 = .ok (.aload_n 2, 1) := by decide +kernel
theorem d5_11 : decode prog_76_method_1_code 11 = .ok (.putfield 13, 3) := by decide +kernel
theorem d5_14 : decode prog_76_method_1_code 14 = .ok (.aload_n 0, 1) := by decide +kernel
theorem d5_15 : decode prog_76_method_1_code 15 = .ok (.iload_n 1, 1) := by decide +kernel
theorem d5_16 : decode prog_76_method_1_code 16 = .ok (.newarray .int, 2) := by decide +kernel
theorem d5_18 : decode prog_76_method_1_code 18 = .ok (.putfield 17, 3) := by decide +kernel
theorem d5_21 : decode prog_76_method_1_code 21 = .ok (.iconst 0, 1) := by decide +kernel
theorem d5_22 : decode prog_76_method_1_code 22 = .ok (.istore_n 3, 1) := by decide +kernel
theorem d5_84 : decode prog_76_method_1_code 84 = .ok (.aload_n 0, 1) := by decide +kernel
theorem d5_85 : decode prog_76_method_1_code 85 = .ok (.getfield 17, 3) := by decide +kernel
theorem d5_88 : decode prog_76_method_1_code 88 = .ok (.iload_n 3, 1) := by decide +kernel
theorem d5_89 : decode prog_76_method_1_code 89 = .ok (.iload 4, 2) := by decide +kernel
theorem d5_91 : decode prog_76_method_1_code 91 = .ok (.iastore, 1) := by decide +kernel
theorem d5_92 : decode prog_76_method_1_code 92 = .ok (.aload_n 0, 1) := by decide +kernel
theorem d5_93 : decode prog_76_method_1_code 93 = .ok (.iload_n 3, 1) := by decide +kernel
theorem d5_94 : decode prog_76_method_1_code 94 = .ok (.iload 4, 2) := by decide +kernel
theorem pd_2 : parseMethodDescriptor "(II)V" = some ⟨[.int, .int], none⟩ := by decide +kernel
theorem d5_96 : decode prog_76_method_1_code 96 = .ok (.invokevirtual 27, 3) := by decide +kernel
theorem d5_99 : decode prog_76_method_1_code 99 = .ok (.aload_n 0, 1) := by decide +kernel
theorem d5_100 : decode prog_76_method_1_code 100 = .ok (.getfield 13, 3) := by decide +kernel
theorem d5_103 : decode prog_76_method_1_code 103 = .ok (.iload_n 3, 1) := by decide +kernel
theorem d5_104 : decode prog_76_method_1_code 104 = .ok (.iload_n 1, 1) := by decide +kernel
theorem d5_105 : decode prog_76_method_1_code 105 = .ok (.imul, 1) := by decide +kernel
theorem d5_106 : decode prog_76_method_1_code 106 = .ok (.iload_n 3, 1) := by decide +kernel
theorem d5_107 : decode prog_76_method_1_code 107 = .ok (.iadd, 1) := by decide +kernel
theorem d5_108 : decode prog_76_method_1_code 108 = .ok (.daload, 1) := by decide +kernel
theorem d5_109 : decode prog_76_method_1_code 109 = .ok (.dstore 5, 2) := by decide +kernel
theorem d5_111 : decode prog_76_method_1_code 111 = .ok (.iload_n 3, 1) := by decide +kernel
theorem d5_112 : decode prog_76_method_1_code 112 = .ok (.iconst 1, 1) := by decide +kernel
theorem d5_113 : decode prog_76_method_1_code 113 = .ok (.iadd, 1) := by decide +kernel
theorem d5_114 : decode prog_76_method_1_code 114 = .ok (.istore 7, 2) := by decide +kernel
theorem d5_210 : decode prog_76_method_1_code 210 = .ok (.iinc 3 1, 3) := by decide +kernel
theorem d5_213 : decode prog_76_method_1_code 213 = .ok (.goto (-190), 3) := by decide +kernel
theorem d5_216 : decode prog_76_method_1_code 216 = .ok (.return_, 1) := by decide +kernel
theorem ef_rm_lu (m : MethodId) (a1 : Addr) (p2 : Int32) (a2 : Addr) : entryFrame m #[(.ref a1), (.int p2), (.ref a2)] 11 = mkF m 0 #[vR a1, vI p2, vR a2, .unset, .unset, .unset, .unset, .unset, .unset, .unset, .unset] [] := by first | (simp [entryFrame, mkF, argsToLocals, Value.category]; done) | rfl
def Q_rm_lu (Z : State) (a1 : Addr) (p2 : Int32) (a2 : Addr) (m0 : Int) (m1 : Int) (m2 : Int) (m3 : Int) (m4 : Int) (m5 : Int) (m6 : Int) (m7 : Int) (m8 : Int) (y0 : Int) (y1 : Int) (y2 : Int) (y3 : Int) (y4 : Int) (y5 : Int) (y6 : Int) (y7 : Int) (y8 : Int) (f1 : Int) (u4 : Int) (u5 : Int) (f2 : Int) (v7 : Int) (v8 : Int) (z3 : Int) (z4 : Int) (z5 : Int) (z6 : Int) (z7 : Int) (z8 : Int) (f3 : Int) (t8 : Int) (ka : Nat) (kb : Nat) (h0 : Heap) (n0 : Nat) (v : Option Value) (h : Heap) (L : List Loc) : Prop := v = none ∧ Fr n0 L ∧ ∃ pv : Addr, h0.size ≤ pv ∧ Keep h0 h [a1, a2] ∧ Exa Z h a1 "com/example/inexact_odds/inexactodds/reach/DenseLu" ∧ Fld Z h a1 "com/example/inexact_odds/inexactodds/reach/DenseLu" "size" "I" (.int (3 : Int32)) ∧ Fld Z h a1 "com/example/inexact_odds/inexactodds/reach/DenseLu" "lu" "[D" (.ref a2) ∧ Fld Z h a1 "com/example/inexact_odds/inexactodds/reach/DenseLu" "pivot" "[I" (.ref pv) ∧ VD Z h a2 9 [y0, y1, y2, z3, z4, z5, z6, f3, t8] ∧ AV Z h pv .int 3 (fun j => .int ((own_pv ka kb) j))
set_option maxRecDepth 65536 in
set_option maxHeartbeats 40000000 in
theorem rm_lu (l : Launch) (Z : State) (a0 : Array Value) (hw : ∀ d ∈ tables_1, d.before a0 Z = true) (ws : List Jvm.Cond) (a1 : Addr) (p2 : Int32) (a2 : Addr) (m0 : Int) (m1 : Int) (m2 : Int) (m3 : Int) (m4 : Int) (m5 : Int) (m6 : Int) (m7 : Int) (m8 : Int) (y0 : Int) (y1 : Int) (y2 : Int) (y3 : Int) (y4 : Int) (y5 : Int) (y6 : Int) (y7 : Int) (y8 : Int) (f1 : Int) (u4 : Int) (u5 : Int) (f2 : Int) (v7 : Int) (v8 : Int) (z3 : Int) (z4 : Int) (z5 : Int) (z6 : Int) (z7 : Int) (z8 : Int) (f3 : Int) (t8 : Int) (ka : Nat) (kb : Nat) (h0 : Heap) (n0 : Nat) (Z0 : n0 ≤ h0.size) (hp : p2 = (3 : Int32)) (E1 : Exa Z h0 a1 "com/example/inexact_odds/inexactodds/reach/DenseLu") (Fs : Fld Z h0 a1 "com/example/inexact_odds/inexactodds/reach/DenseLu" "size" "I" (.int (0 : Int32))) (Fl : Fld Z h0 a1 "com/example/inexact_odds/inexactodds/reach/DenseLu" "lu" "[D" .null) (Fp : Fld Z h0 a1 "com/example/inexact_odds/inexactodds/reach/DenseLu" "pivot" "[I" .null) (VA : VD Z h0 a2 9 [m0, m1, m2, m3, m4, m5, m6, m7, m8]) (g1 : n0 ≤ a1) (g2 : n0 ≤ a2) (n12 : a1 ≠ a2) (hP0 : own_P0 ka m0 m3 m6) (hS0 : own_sr [m0, m1, m2, m3, m4, m5, m6, m7, m8] 0 ka = [y0, y1, y2, y3, y4, y5, y6, y7, y8]) (hD1 : own_D1 y3 y0 f1) (hM14 : own_M1 f1 y1 y4 u4) (hM15 : own_M1 f1 y2 y5 u5) (hD2 : own_D1 y6 y0 f2) (hM27 : own_M1 f2 y1 y7 v7) (hM28 : own_M1 f2 y2 y8 v8) (hP1 : own_P1 kb u4 v7) (hS1 : own_sr [y0, y1, y2, f1, u4, u5, f2, v7, v8] 1 kb = [y0, y1, y2, z3, z4, z5, z6, z7, z8]) (hD3 : own_D1 z7 z4 f3) (hM38 : own_M1 f3 z5 z8 t8) :
    MetFree l (⟨"com/example/inexact_odds/inexactodds/reach/DenseLu", "<init>", "(I[D)V"⟩ : MethodName) (head1 (Jvm.Cond.code (⟨"com/example/inexact_odds/inexactodds/reach/DenseLu", "<init>", "(I[D)V"⟩ : MethodName) prog_76_method_1_code 11 none :: ws) ({ frames := 1, cells := 1, slots := 3, locals := 24 } : Room)) (fun a U => a = #[(.ref a1), (.int p2), (.ref a2)] ∧ Z.Warmed39 U.vm ∧ U.heap = h0) (fun _ _ _ _ _ => True) (fun _ U oC U' => ∃ v L, oC = .returned v ∧ Q_rm_lu Z a1 p2 a2 m0 m1 m2 m3 m4 m5 m6 m7 m8 y0 y1 y2 y3 y4 y5 y6 y7 y8 f1 u4 u5 f2 v7 v8 z3 z4 z5 z6 z7 z8 f3 t8 ka kb h0 n0 v U'.heap L ∧ FrameEnd U oC U' L ({ frames := 1, cells := 1, slots := 3, locals := 24 } : Room).cells ({ frames := 1, cells := 1, slots := 3, locals := 24 } : Room).slots) := by
  refine MetFree.of_bodySF (plainFor_of_name pn_1) hisR ?_
  intro p e s m args below meth c s₁ Bd hml0 hP hK
  obtain ⟨rfl, hZ, hh⟩ := hP
  have hx := Bd.exec
  have hby := Bd.bytes
  have hml : c.maxLocals = 11 := hml0
  have hown : s.vm.findClass "com/example/inexact_odds/inexactodds/reach/DenseLu" = some m.cls := findClass_of_methodNamed Bd.named
  have hnm := (name_of_methodNamed Bd.named Bd.method).1
  have X0 : Stand p l e ({ frames := 1, cells := 1, slots := 3, locals := 24 } : Room) s m #[(.ref a1), (.int p2), (.ref a2)] below meth c s₁ [] 0 0 := Stand.of_body Bd
  have e0 : s₁.heap = h0 := by rw [← hh, Bd.state]; rfl
  have N0 := Fr.nil n0
  have pre0 : ∀ tg, Steps p.tables e below (s₁.setTop (mkF m 0 #[vR a1, vI p2, vR a2, .unset, .unset, .unset, .unset, .unset, .unset, .unset, .unset] [])) tg → Steps p.tables e below (s₁.setTop (entryFrame m #[(.ref a1), (.int p2), (.ref a2)] 11)) tg := fun t k => castTop (ef_rm_lu m a1 p2 a2) k
  have pre00 : ∀ tg, Steps p.tables e below (s₁.setTop (mkF m 0 #[vR a1, vI (3 : Int32), vR a2, .unset, .unset, .unset, .unset, .unset, .unset, .unset, .unset] [])) tg → Steps p.tables e below (s₁.setTop (mkF m 0 #[vR a1, vI (3 : Int32), vR a2, .unset, .unset, .unset, .unset, .unset, .unset, .unset, .unset] [])) tg := fun _ k => k
  subst hp
  have hka := own_P0_lt hP0
  have hkb := own_P1_lt hP1
  have R421 : ∀ tg, Steps p.tables e below (s₁.setTop (mkF m 1 #[vR a1, vI (3 : Int32), vR a2, .unset, .unset, .unset, .unset, .unset, .unset, .unset, .unset] [(.ref a1)])) tg → Steps p.tables e below (s₁.setTop (mkF m 0 #[vR a1, vI (3 : Int32), vR a2, .unset, .unset, .unset, .unset, .unset, .unset, .unset, .unset] [])) tg := by
    intro tg kt
    refine pre00 _ ?_
    show Steps p.tables e below (s₁.setTop (mkF m 0 #[vR a1, vI (3 : Int32), vR a2, .unset, .unset, .unset, .unset, .unset, .unset, .unset, .unset] [])) _
    refine XS.aloadN X0.here hx rfl (hb hby d5_0) rfl rfl ?_
    exact kt
  obtain ⟨T422, X422, e422, st422⟩ := initO X0 hx hZ hown (hw _ (List.mem_of_getElem? (i := 23) rfl)) (hw _ (List.mem_of_getElem? (i := 24) rfl)) (hw _ (List.mem_of_getElem? (i := 25) rfl)) e0 (g := (mkF m 1 #[vR a1, vI (3 : Int32), vR a2, .unset, .unset, .unset, .unset, .unset, .unset, .unset, .unset] [(.ref a1)])) rfl (by rw [hml]; rfl) rfl (hb hby d5_1) (by decide) (W := 0) (by show 2 * 0 + _ ≤ _; exact Nat.le_of_eq rfl) (by decide)
  have R423 : ∀ tg, Steps p.tables e below (T422.setTop (mkF m 6 #[vR a1, vI (3 : Int32), vR a2, .unset, .unset, .unset, .unset, .unset, .unset, .unset, .unset] [(.int (3 : Int32)), (.ref a1)])) tg → Steps p.tables e below (s₁.setTop (mkF m 0 #[vR a1, vI (3 : Int32), vR a2, .unset, .unset, .unset, .unset, .unset, .unset, .unset, .unset] [])) tg := by
    intro tg kt
    refine R421 _ ?_
    refine st422 _ ?_
    refine XS.aloadN X422.here hx rfl (hb hby d5_4) rfl rfl ?_
    refine XS.iloadN X422.here hx rfl (hb hby d5_5) rfl ?_
    exact kt
  clear R421 st422
  obtain ⟨T424, h424, X424, e424, W424, st424⟩ := putF X422 hx hZ hown (host := "") (Or.inl (hw _ (List.mem_of_getElem? (i := 26) rfl))) Via.refl e422 Fs E1 (Or.inr ⟨(hw _ (List.mem_of_getElem? (i := 27) rfl)), rfl, hnm⟩) (hw _ (List.mem_of_getElem? (i := 18) rfl)) (ty := .int) (by decide) rfl rfl (g := (mkF m 6 #[vR a1, vI (3 : Int32), vR a2, .unset, .unset, .unset, .unset, .unset, .unset, .unset, .unset] [(.int (3 : Int32)), (.ref a1)])) rfl rfl (hb hby d5_6)
  have N424 := Fr.snoc X424 N0 g1
  have Fs_424 := Fs.same W424
  have Fl_424 := Fl.other W424 (Or.inr (slot_ne (Or.inr (hw _ (List.mem_of_getElem? (i := 29) rfl))) (Or.inr (hw _ (List.mem_of_getElem? (i := 27) rfl))) (by decide) (t := (.array .double)) (t' := .int) (by decide) (by decide)))
  have Fp_424 := Fp.other W424 (Or.inr (slot_ne (Or.inr (hw _ (List.mem_of_getElem? (i := 32) rfl))) (Or.inr (hw _ (List.mem_of_getElem? (i := 27) rfl))) (by decide) (t := (.array .int)) (t' := .int) (by decide) (by decide)))
  have E_a1_424 := E1.wr W424
  have VA_424 := VA.other W424 (Ne.symm n12)
  have Zs424 : n0 ≤ h424.size := Nat.le_trans Z0 (Keep.of_wr W424).1
  have Kw424 : Keep h0 h424 [a1, a2] := Keep.wr (Keep.refl h0 [a1, a2]) W424 (Or.inl (List.mem_of_getElem? (i := 0) rfl))
  have R425 : ∀ tg, Steps p.tables e below (T424.setTop (mkF m 11 #[vR a1, vI (3 : Int32), vR a2, .unset, .unset, .unset, .unset, .unset, .unset, .unset, .unset] [(.ref a2), (.ref a1)])) tg → Steps p.tables e below (s₁.setTop (mkF m 0 #[vR a1, vI (3 : Int32), vR a2, .unset, .unset, .unset, .unset, .unset, .unset, .unset, .unset] [])) tg := by
    intro tg kt
    refine R423 _ ?_
    refine st424 _ ?_
    show Steps p.tables e below (T424.setTop (mkF m 9 #[vR a1, vI (3 : Int32), vR a2, .unset, .unset, .unset, .unset, .unset, .unset, .unset, .unset] [])) _
    refine XS.aloadN X424.here hx rfl (hb hby d5_9) rfl rfl ?_
    refine XS.aloadN X424.here hx rfl (hb hby d5_10) rfl rfl ?_
    exact kt
  clear R423 st424
  obtain ⟨T426, h426, X426, e426, W426, st426⟩ := putF X424 hx hZ hown (host := "") (Or.inl (hw _ (List.mem_of_getElem? (i := 28) rfl))) Via.refl e424 Fl_424 E_a1_424 (Or.inr ⟨(hw _ (List.mem_of_getElem? (i := 29) rfl)), rfl, hnm⟩) (hw _ (List.mem_of_getElem? (i := 18) rfl)) (ty := (.array .double)) (by decide) rfl rfl (g := (mkF m 11 #[vR a1, vI (3 : Int32), vR a2, .unset, .unset, .unset, .unset, .unset, .unset, .unset, .unset] [(.ref a2), (.ref a1)])) rfl rfl (hb hby d5_11)
  have N426 := Fr.snoc X426 N424 g1
  have Fl_426 := Fl_424.same W426
  have Fs_426 := Fs_424.other W426 (Or.inr (slot_ne (Or.inr (hw _ (List.mem_of_getElem? (i := 27) rfl))) (Or.inr (hw _ (List.mem_of_getElem? (i := 29) rfl))) (by decide) (t := .int) (t' := (.array .double)) (by decide) (by decide)))
  have Fp_426 := Fp_424.other W426 (Or.inr (slot_ne (Or.inr (hw _ (List.mem_of_getElem? (i := 32) rfl))) (Or.inr (hw _ (List.mem_of_getElem? (i := 29) rfl))) (by decide) (t := (.array .int)) (t' := (.array .double)) (by decide) (by decide)))
  have E_a1_426 := E_a1_424.wr W426
  have VA_426 := VA_424.other W426 (Ne.symm n12)
  clear Fs_424 Fp_424 E_a1_424 VA_424
  have Zs426 : n0 ≤ h426.size := Nat.le_trans Zs424 (Keep.of_wr W426).1
  have Kw426 : Keep h0 h426 [a1, a2] := Keep.wr Kw424 W426 (Or.inl (List.mem_of_getElem? (i := 0) rfl))
  have R427 : ∀ tg, Steps p.tables e below (T426.setTop (mkF m 16 #[vR a1, vI (3 : Int32), vR a2, .unset, .unset, .unset, .unset, .unset, .unset, .unset, .unset] [(.int (3 : Int32)), (.ref a1)])) tg → Steps p.tables e below (s₁.setTop (mkF m 0 #[vR a1, vI (3 : Int32), vR a2, .unset, .unset, .unset, .unset, .unset, .unset, .unset, .unset] [])) tg := by
    intro tg kt
    refine R425 _ ?_
    refine st426 _ ?_
    refine XS.aloadN X426.here hx rfl (hb hby d5_14) rfl rfl ?_
    show Steps p.tables e below (T426.setTop (mkF m 15 #[vR a1, vI (3 : Int32), vR a2, .unset, .unset, .unset, .unset, .unset, .unset, .unset, .unset] [(.ref a1)])) _
    refine XS.iloadN X426.here hx rfl (hb hby d5_15) rfl ?_
    exact kt
  clear R425 st426
  obtain ⟨T428, h428, k428, X428, e428, E428, A428, st428⟩ := newP X426 hx hZ (hw _ (List.mem_of_getElem? (i := 30) rfl)) e426 (g := (mkF m 16 #[vR a1, vI (3 : Int32), vR a2, .unset, .unset, .unset, .unset, .unset, .unset, .unset, .unset] [(.int (3 : Int32)), (.ref a1)])) rfl (hb hby d5_16) rfl (by decide) (cap := 3) (by decide) (by decide) (by decide) (by decide)
  obtain ⟨pv, g428⟩ : ∃ z, z = h426.size := ⟨_, rfl⟩
  rw [← g428] at A428 st428
  have g_pv : n0 ≤ pv := Nat.le_trans Zs426 (Nat.le_of_eq g428.symm)
  have sz_pv : h0.size ≤ pv := Nat.le_trans Kw426.1 (Nat.le_of_eq g428.symm)
  have ne_a1_pv : a1 ≠ pv := Nat.ne_of_lt (Nat.lt_of_lt_of_le Fs_426.lt (Nat.le_of_eq g428.symm))
  have ne_a2_pv : a2 ≠ pv := Nat.ne_of_lt (Nat.lt_of_lt_of_le VA_426.lt (Nat.le_of_eq g428.symm))
  have Fs_428 := Fs_426.ext E428
  have Fl_428 := Fl_426.ext E428
  have Fp_428 := Fp_426.ext E428
  have E_a1_428 := E_a1_426.ext E428
  have VA_428 := VA_426.ext E428
  clear Fs_426 Fl_426 Fp_426 E_a1_426 VA_426
  have Zs428 : n0 ≤ h428.size := Nat.le_trans Zs426 E428.1
  have Ke428 : Keep h0 h428 [a1, a2] := Keep.ext Kw426 E428
  have VPr : AV Z h428 pv .int 3 (fun _ => defaultValue .int) := AV.new A428 rfl rfl
  have VP : AV Z h428 pv .int 3 (fun j => .int ((fun _ => (0 : Int32)) j)) := VPr
  have R429 : ∀ tg, Steps p.tables e below (T428.setTop (mkF m 18 #[vR a1, vI (3 : Int32), vR a2, .unset, .unset, .unset, .unset, .unset, .unset, .unset, .unset] [(.ref pv), (.ref a1)])) tg → Steps p.tables e below (s₁.setTop (mkF m 0 #[vR a1, vI (3 : Int32), vR a2, .unset, .unset, .unset, .unset, .unset, .unset, .unset, .unset] [])) tg := by
    intro tg kt
    refine R427 _ ?_
    refine st428 _ ?_
    exact kt
  clear R427 st428
  obtain ⟨T430, h430, X430, e430, W430, st430⟩ := putF X428 hx hZ hown (host := "") (Or.inl (hw _ (List.mem_of_getElem? (i := 31) rfl))) Via.refl e428 Fp_428 E_a1_428 (Or.inr ⟨(hw _ (List.mem_of_getElem? (i := 32) rfl)), rfl, hnm⟩) (hw _ (List.mem_of_getElem? (i := 18) rfl)) (ty := (.array .int)) (by decide) rfl rfl (g := (mkF m 18 #[vR a1, vI (3 : Int32), vR a2, .unset, .unset, .unset, .unset, .unset, .unset, .unset, .unset] [(.ref pv), (.ref a1)])) rfl rfl (hb hby d5_18)
  have N430 := Fr.snoc X430 N426 g1
  have Fp_430 := Fp_428.same W430
  have Fs_430 := Fs_428.other W430 (Or.inr (slot_ne (Or.inr (hw _ (List.mem_of_getElem? (i := 27) rfl))) (Or.inr (hw _ (List.mem_of_getElem? (i := 32) rfl))) (by decide) (t := .int) (t' := (.array .int)) (by decide) (by decide)))
  have Fl_430 := Fl_428.other W430 (Or.inr (slot_ne (Or.inr (hw _ (List.mem_of_getElem? (i := 29) rfl))) (Or.inr (hw _ (List.mem_of_getElem? (i := 32) rfl))) (by decide) (t := (.array .double)) (t' := (.array .int)) (by decide) (by decide)))
  have E_a1_430 := E_a1_428.wr W430
  have VA_430 := VA_428.other W430 (Ne.symm n12)
  have VP_430 := VP.other W430 (Ne.symm ne_a1_pv)
  clear Fs_428 Fl_428 E_a1_428 VA_428
  have Zs430 : n0 ≤ h430.size := Nat.le_trans Zs428 (Keep.of_wr W430).1
  have Kw430 : Keep h0 h430 [a1, a2] := Keep.wr Ke428 W430 (Or.inl (List.mem_of_getElem? (i := 0) rfl))
  have R431 : ∀ tg, Steps p.tables e below (T430.setTop (mkF m 23 #[vR a1, vI (3 : Int32), vR a2, vI (0 : Int32), .unset, .unset, .unset, .unset, .unset, .unset, .unset] [])) tg → Steps p.tables e below (s₁.setTop (mkF m 0 #[vR a1, vI (3 : Int32), vR a2, .unset, .unset, .unset, .unset, .unset, .unset, .unset, .unset] [])) tg := by
    intro tg kt
    refine R429 _ ?_
    refine st430 _ ?_
    refine XS.iconst X430.here hx rfl (hb hby d5_21) ?_
    show Steps p.tables e below (T430.setTop (mkF m 22 #[vR a1, vI (3 : Int32), vR a2, .unset, .unset, .unset, .unset, .unset, .unset, .unset, .unset] [(.int (0 : Int32))])) _
    refine XS.istoreN X430.here hx rfl (hb hby d5_22) rfl (l' := #[vR a1, vI (3 : Int32), vR a2, vI (0 : Int32), .unset, .unset, .unset, .unset, .unset, .unset, .unset]) rfl ?_
    exact kt
  clear R429 st430
  obtain ⟨T432, X432, e432, st432⟩ := lp_p0 a1 a2 m0 m1 m2 m3 m4 m5 m6 m7 m8 ka X430 hx hZ hw hby hml hown e430 N430 Fl_430 VA_430 hP0
  have R433 : ∀ tg, Steps p.tables e below (T432.setTop (mkF m 85 #[vR a1, vI (3 : Int32), vR a2, vI (0 : Int32), vI (Int32.ofNat ka), vI (3 : Int32), .unset, .unset, .unset, .unset, .unset] [(.ref a1)])) tg → Steps p.tables e below (s₁.setTop (mkF m 0 #[vR a1, vI (3 : Int32), vR a2, .unset, .unset, .unset, .unset, .unset, .unset, .unset, .unset] [])) tg := by
    intro tg kt
    refine R431 _ ?_
    refine st432 _ ?_
    refine XS.aloadN X432.here hx rfl (hb hby d5_84) rfl rfl ?_
    exact kt
  clear R431 st432
  obtain ⟨T434, X434, e434, st434⟩ := getF X432 hx hZ hown (host := "") (Or.inl (hw _ (List.mem_of_getElem? (i := 31) rfl))) Via.refl e432 Fp_430 (g := (mkF m 85 #[vR a1, vI (3 : Int32), vR a2, vI (0 : Int32), vI (Int32.ofNat ka), vI (3 : Int32), .unset, .unset, .unset, .unset, .unset] [(.ref a1)])) rfl rfl (hb hby d5_85)
  have R435 : ∀ tg, Steps p.tables e below (T434.setTop (mkF m 91 #[vR a1, vI (3 : Int32), vR a2, vI (0 : Int32), vI (Int32.ofNat ka), vI (3 : Int32), .unset, .unset, .unset, .unset, .unset] [(.int (Int32.ofNat ka)), (.int (0 : Int32)), (.ref pv)])) tg → Steps p.tables e below (s₁.setTop (mkF m 0 #[vR a1, vI (3 : Int32), vR a2, .unset, .unset, .unset, .unset, .unset, .unset, .unset, .unset] [])) tg := by
    intro tg kt
    refine R433 _ ?_
    refine st434 _ ?_
    refine XS.iloadN X434.here hx rfl (hb hby d5_88) rfl ?_
    show Steps p.tables e below (T434.setTop (mkF m 89 #[vR a1, vI (3 : Int32), vR a2, vI (0 : Int32), vI (Int32.ofNat ka), vI (3 : Int32), .unset, .unset, .unset, .unset, .unset] [(.int (0 : Int32)), (.ref pv)])) _
    refine XS.iload X434.here hx rfl (hb hby d5_89) rfl ?_
    exact kt
  clear R433 st434
  obtain ⟨cl436, Ar436, hin436, -⟩ := VP_430.at (j := (0 : Int32)) (k := 0) (by decide) rfl (by decide)
  obtain ⟨T437, h437, X437, e437, W437, st437⟩ := stI X434 hx hZ e434 Ar436 (j := (0 : Int32)) hin436 (g := (mkF m 91 #[vR a1, vI (3 : Int32), vR a2, vI (0 : Int32), vI (Int32.ofNat ka), vI (3 : Int32), .unset, .unset, .unset, .unset, .unset] [(.int (Int32.ofNat ka)), (.int (0 : Int32)), (.ref pv)])) rfl rfl (hb hby d5_91)
  have N437 := Fr.snoc X437 N430 g_pv
  rw [show ((0 : Int32) : Int32).toNatClampNeg = 0 from rfl] at W437
  have VP_437 : AV Z h437 pv .int 3 (fun j => .int ((own_set (fun _ => (0 : Int32)) 0 (Int32.ofNat ka)) j)) := VP_430.setI W437
  have Fs_437 := Fs_430.other W437 (Or.inl ne_a1_pv)
  have Fl_437 := Fl_430.other W437 (Or.inl ne_a1_pv)
  have Fp_437 := Fp_430.other W437 (Or.inl ne_a1_pv)
  have E_a1_437 := E_a1_430.wr W437
  have VA_437 := VA_430.other W437 ne_a2_pv
  clear Fs_430 Fl_430 Fp_430 E_a1_430 VA_430
  have Zs437 : n0 ≤ h437.size := Nat.le_trans Zs430 (Keep.of_wr W437).1
  have Kw437 : Keep h0 h437 [a1, a2] := Keep.wr Kw430 W437 (Or.inr sz_pv)
  have R438 : ∀ tg, Steps p.tables e below (T437.setTop (mkF m 96 #[vR a1, vI (3 : Int32), vR a2, vI (0 : Int32), vI (Int32.ofNat ka), vI (3 : Int32), .unset, .unset, .unset, .unset, .unset] [(.int (Int32.ofNat ka)), (.int (0 : Int32)), (.ref a1)])) tg → Steps p.tables e below (s₁.setTop (mkF m 0 #[vR a1, vI (3 : Int32), vR a2, .unset, .unset, .unset, .unset, .unset, .unset, .unset, .unset] [])) tg := by
    intro tg kt
    refine R435 _ ?_
    refine st437 _ ?_
    refine XS.aloadN X437.here hx rfl (hb hby d5_92) rfl rfl ?_
    refine XS.iloadN X437.here hx rfl (hb hby d5_93) rfl ?_
    show Steps p.tables e below (T437.setTop (mkF m 94 #[vR a1, vI (3 : Int32), vR a2, vI (0 : Int32), vI (Int32.ofNat ka), vI (3 : Int32), .unset, .unset, .unset, .unset, .unset] [(.int (0 : Int32)), (.ref a1)])) _
    refine XS.iload X437.here hx rfl (hb hby d5_94) rfl ?_
    exact kt
  clear R435 st437
  obtain ⟨cq439, q439, q439'⟩ := E_a1_437.cell
  obtain ⟨_, _, ⟨T439, L439, k439, n439⟩, -, X439, ⟨Lc439, hQ439, l439, y439, z439⟩, st439⟩ := X437.privateBack hx (y := (⟨"com/example/inexact_odds/inexactodds/reach/DenseLu", "swapRows", "(II)V"⟩ : MethodName)) hown (mvT hZ (hw _ (List.mem_of_getElem? (i := 37) rfl))) (mvT hZ (hw _ (List.mem_of_getElem? (i := 38) rfl))) (own_selp (mvT hZ (hw _ (List.mem_of_getElem? (i := 18) rfl))) (mvP hZ (hw _ (List.mem_of_getElem? (i := 39) rfl))) (mvT hZ (hw _ (List.mem_of_getElem? (i := 38) rfl))) (by decide)) (Cond.privateMethod_at (mvP hZ (hw _ (List.mem_of_getElem? (i := 39) rfl)) (args := #[]))) (mvT hZ (hw _ (List.mem_of_getElem? (i := 40) rfl))) (by decide) (backOf (W := 0) (rm_sw l Z a0 hw [] a1 (0 : Int32) (Int32.ofNat ka) a2 [m0, m1, m2, m3, m4, m5, m6, m7, m8] 0 ka h437 n0 Zs437 Fs_437 Fl_437 VA_437 g2 n12 rfl (own_ofn hka) (by decide) hka) hZ (hw _ (List.mem_of_getElem? (i := 40) rfl)) (hw _ (List.mem_of_getElem? (i := 19) rfl)) (by decide) (by decide)) (g := (mkF m 96 #[vR a1, vI (3 : Int32), vR a2, vI (0 : Int32), vI (Int32.ofNat ka), vI (3 : Int32), .unset, .unset, .unset, .unset, .unset] [(.int (Int32.ofNat ka)), (.int (0 : Int32)), (.ref a1)])) rfl (by rw [hml]; rfl) (Steps.refl _) (a := a1) (by rw [e437]; exact q439) q439' (argsL := [(.int (0 : Int32)), (.int (Int32.ofNat ka))]) (rest := []) (lenOf pd_2 rfl) rfl (by show 2 * 0 + _ ≤ _; exact Nat.le_of_eq rfl) (hb hby d5_96) (fun _ _ => ⟨rfl, e437, (by decide : 1 + 0 ≤ _), (by decide : 3 + 0 ≤ _)⟩)
  dsimp only [Pt.U, Pt.locs, Pt.cells, Pt.slots] at X439 l439 y439 z439 st439 hQ439
  rw [l439, y439, z439] at X439
  obtain ⟨rfl, N439q, K439, V439⟩ := hQ439
  have N439 := Fr.app N437 N439q
  have Fs_440 := Fs_437.keep K439 (own_notin1 n12)
  have Fl_440 := Fl_437.keep K439 (own_notin1 n12)
  have Fp_440 := Fp_437.keep K439 (own_notin1 n12)
  have E_a1_440 := E_a1_437.keep K439
  have VP_440 := VP_437.keep K439 (own_notin1 (Ne.symm ne_a2_pv))
  clear Fs_437 Fl_437 Fp_437 E_a1_437 VP_437
  have Zs440 : n0 ≤ T439.heap.size := Nat.le_trans Zs437 K439.1
  have Kk440 : Keep h0 T439.heap [a1, a2] := Keep.trans Kw437 K439 (own_trans1 (Or.inl (List.mem_of_getElem? (i := 1) rfl)))
  rw [hS0] at V439
  have R441 : ∀ tg, Steps p.tables e below (T439.setTop (mkF m 100 #[vR a1, vI (3 : Int32), vR a2, vI (0 : Int32), vI (Int32.ofNat ka), vI (3 : Int32), .unset, .unset, .unset, .unset, .unset] [(.ref a1)])) tg → Steps p.tables e below (s₁.setTop (mkF m 0 #[vR a1, vI (3 : Int32), vR a2, .unset, .unset, .unset, .unset, .unset, .unset, .unset, .unset] [])) tg := by
    intro tg kt
    refine R438 _ ?_
    refine st439.trans ?_
    refine XS.aloadN X439.here hx rfl (hb hby d5_99) rfl rfl ?_
    exact kt
  clear R438 st439
  obtain ⟨T442, X442, e442, st442⟩ := getF X439 hx hZ hown (host := "") (Or.inl (hw _ (List.mem_of_getElem? (i := 28) rfl))) Via.refl rfl Fl_440 (g := (mkF m 100 #[vR a1, vI (3 : Int32), vR a2, vI (0 : Int32), vI (Int32.ofNat ka), vI (3 : Int32), .unset, .unset, .unset, .unset, .unset] [(.ref a1)])) rfl rfl (hb hby d5_100)
  have R443 : ∀ tg, Steps p.tables e below (T442.setTop (mkF m 108 #[vR a1, vI (3 : Int32), vR a2, vI (0 : Int32), vI (Int32.ofNat ka), vI (3 : Int32), .unset, .unset, .unset, .unset, .unset] [(.int (((0 : Int32) * (3 : Int32)) + (0 : Int32))), (.ref a2)])) tg → Steps p.tables e below (s₁.setTop (mkF m 0 #[vR a1, vI (3 : Int32), vR a2, .unset, .unset, .unset, .unset, .unset, .unset, .unset, .unset] [])) tg := by
    intro tg kt
    refine R441 _ ?_
    refine st442 _ ?_
    refine XS.iloadN X442.here hx rfl (hb hby d5_103) rfl ?_
    show Steps p.tables e below (T442.setTop (mkF m 104 #[vR a1, vI (3 : Int32), vR a2, vI (0 : Int32), vI (Int32.ofNat ka), vI (3 : Int32), .unset, .unset, .unset, .unset, .unset] [(.int (0 : Int32)), (.ref a2)])) _
    refine XS.iloadN X442.here hx rfl (hb hby d5_104) rfl ?_
    show Steps p.tables e below (T442.setTop (mkF m 105 #[vR a1, vI (3 : Int32), vR a2, vI (0 : Int32), vI (Int32.ofNat ka), vI (3 : Int32), .unset, .unset, .unset, .unset, .unset] [(.int (3 : Int32)), (.int (0 : Int32)), (.ref a2)])) _
    refine XS.imul X442.here hx rfl (hb hby d5_105) rfl ?_
    refine XS.iloadN X442.here hx rfl (hb hby d5_106) rfl ?_
    show Steps p.tables e below (T442.setTop (mkF m 107 #[vR a1, vI (3 : Int32), vR a2, vI (0 : Int32), vI (Int32.ofNat ka), vI (3 : Int32), .unset, .unset, .unset, .unset, .unset] [(.int (0 : Int32)), (.int ((0 : Int32) * (3 : Int32))), (.ref a2)])) _
    refine XS.iadd X442.here hx rfl (hb hby d5_107) rfl ?_
    exact kt
  clear R441 st442
  obtain ⟨cl444, d444, Ar444, hin444, hat444, G444⟩ := V439.at (j := (((0 : Int32) * (3 : Int32)) + (0 : Int32))) (k := 0) (by decide) (by decide) (by decide)
  have H444 : DR 2 y0 d444 := G444
  have R445 : ∀ tg, Steps p.tables e below (T442.setTop (mkF m 116 #[vR a1, vI (3 : Int32), vR a2, vI (0 : Int32), vI (Int32.ofNat ka), vD d444, .second, vI ((0 : Int32) + (1 : Int32)), .unset, .unset, .unset] [])) tg → Steps p.tables e below (s₁.setTop (mkF m 0 #[vR a1, vI (3 : Int32), vR a2, .unset, .unset, .unset, .unset, .unset, .unset, .unset, .unset] [])) tg := by
    intro tg kt
    refine R443 _ ?_
    show Steps p.tables e below (T442.setTop (mkF m 108 #[vR a1, vI (3 : Int32), vR a2, vI (0 : Int32), vI (Int32.ofNat ka), vI (3 : Int32), .unset, .unset, .unset, .unset, .unset] [(.int (((0 : Int32) * (3 : Int32)) + (0 : Int32))), (.ref a2)])) _
    refine X442.daload hx (j := (((0 : Int32) * (3 : Int32)) + (0 : Int32))) (v := (.double d444)) (by rw [e442]; exact Ar444.1) (State.isArrayOf_alike hZ.alike Ar444.2.1) Ar444.2.2 hin444 hat444 (g := (mkF m 108 #[vR a1, vI (3 : Int32), vR a2, vI (0 : Int32), vI (Int32.ofNat ka), vI (3 : Int32), .unset, .unset, .unset, .unset, .unset] [(.int (((0 : Int32) * (3 : Int32)) + (0 : Int32))), (.ref a2)])) rfl rfl (hb hby d5_108) _ ?_
    show Steps p.tables e below (T442.setTop (mkF m 109 #[vR a1, vI (3 : Int32), vR a2, vI (0 : Int32), vI (Int32.ofNat ka), vI (3 : Int32), .unset, .unset, .unset, .unset, .unset] [(.double d444)])) _
    refine XS.dstore X442.here hx rfl (hb hby d5_109) rfl (l' := #[vR a1, vI (3 : Int32), vR a2, vI (0 : Int32), vI (Int32.ofNat ka), vD d444, .second, .unset, .unset, .unset, .unset]) rfl ?_
    refine XS.iloadN X442.here hx rfl (hb hby d5_111) rfl ?_
    refine XS.iconst X442.here hx rfl (hb hby d5_112) ?_
    show Steps p.tables e below (T442.setTop (mkF m 113 #[vR a1, vI (3 : Int32), vR a2, vI (0 : Int32), vI (Int32.ofNat ka), vD d444, .second, .unset, .unset, .unset, .unset] [(.int (1 : Int32)), (.int (0 : Int32))])) _
    refine XS.iadd X442.here hx rfl (hb hby d5_113) rfl ?_
    show Steps p.tables e below (T442.setTop (mkF m 114 #[vR a1, vI (3 : Int32), vR a2, vI (0 : Int32), vI (Int32.ofNat ka), vD d444, .second, .unset, .unset, .unset, .unset] [(.int ((0 : Int32) + (1 : Int32)))])) _
    refine XS.istore X442.here hx rfl (hb hby d5_114) rfl (l' := #[vR a1, vI (3 : Int32), vR a2, vI (0 : Int32), vI (Int32.ofNat ka), vD d444, .second, vI ((0 : Int32) + (1 : Int32)), .unset, .unset, .unset]) rfl ?_
    exact kt
  clear R443
  have R446 : ∀ tg, Steps p.tables e below (T442.setTop (mkF m 116 #[vR a1, vI (3 : Int32), vR a2, vI (0 : Int32), vI (Int32.ofNat ka), vD d444, .second, vI (1 : Int32), .unset, .unset, .unset] [])) tg → Steps p.tables e below (s₁.setTop (mkF m 0 #[vR a1, vI (3 : Int32), vR a2, .unset, .unset, .unset, .unset, .unset, .unset, .unset, .unset] [])) tg := R445
  obtain ⟨T447, h447, L447, sa447, sb447, X447, e447, N447, -, K447, V447, ok447, st447⟩ := lp_e01 a1 a2 y0 y1 y2 y3 y4 y5 y6 y7 y8 f1 u4 u5 d444 (vI (Int32.ofNat ka)) (.unset) (.unset) (.unset) X442 hx hZ hw hby hml hown e442 N439 Zs440 Fl_440 V439 g2 n12 H444 own_ok0 hD1 hM14 hM15
  have R448 : ∀ tg, Steps p.tables e below (T447.setTop (mkF m 116 #[vR a1, vI (3 : Int32), vR a2, vI (0 : Int32), vI (Int32.ofNat ka), vD d444, .second, vI (2 : Int32), sa447, .second, sb447] [])) tg → Steps p.tables e below (s₁.setTop (mkF m 0 #[vR a1, vI (3 : Int32), vR a2, .unset, .unset, .unset, .unset, .unset, .unset, .unset, .unset] [])) tg := by
    intro tg kt
    refine R446 _ ?_
    refine st447 _ ?_
    exact kt
  clear R446 st447
  have Fs_449 := Fs_440.keep K447 (own_notin1 n12)
  have Fl_449 := Fl_440.keep K447 (own_notin1 n12)
  have Fp_449 := Fp_440.keep K447 (own_notin1 n12)
  have E_a1_449 := E_a1_440.keep K447
  have VP_449 := VP_440.keep K447 (own_notin1 (Ne.symm ne_a2_pv))
  clear Fs_440 Fl_440 Fp_440 E_a1_440 VP_440
  have Zs449 : n0 ≤ h447.size := Nat.le_trans Zs440 K447.1
  have Kk449 : Keep h0 h447 [a1, a2] := Keep.trans Kk440 K447 (own_trans1 (Or.inl (List.mem_of_getElem? (i := 1) rfl)))
  obtain ⟨T450, h450, L450, sa450, sb450, X450, e450, N450, -, K450, V450, ok450, st450⟩ := lp_e02 a1 a2 y0 y1 y2 f1 u4 u5 y6 y7 y8 f2 v7 v8 d444 (vI (Int32.ofNat ka)) (sa447) (.second) (sb447) X447 hx hZ hw hby hml hown e447 N447 Zs449 Fl_449 V447 g2 n12 H444 ok447 hD2 hM27 hM28
  have R451 : ∀ tg, Steps p.tables e below (T450.setTop (mkF m 116 #[vR a1, vI (3 : Int32), vR a2, vI (0 : Int32), vI (Int32.ofNat ka), vD d444, .second, vI (3 : Int32), sa450, .second, sb450] [])) tg → Steps p.tables e below (s₁.setTop (mkF m 0 #[vR a1, vI (3 : Int32), vR a2, .unset, .unset, .unset, .unset, .unset, .unset, .unset, .unset] [])) tg := by
    intro tg kt
    refine R448 _ ?_
    refine st450 _ ?_
    exact kt
  clear R448 st450
  have Fs_452 := Fs_449.keep K450 (own_notin1 n12)
  have Fl_452 := Fl_449.keep K450 (own_notin1 n12)
  have Fp_452 := Fp_449.keep K450 (own_notin1 n12)
  have E_a1_452 := E_a1_449.keep K450
  have VP_452 := VP_449.keep K450 (own_notin1 (Ne.symm ne_a2_pv))
  clear Fs_449 Fl_449 Fp_449 E_a1_449 VP_449
  have Zs452 : n0 ≤ h450.size := Nat.le_trans Zs449 K450.1
  have Kk452 : Keep h0 h450 [a1, a2] := Keep.trans Kk449 K450 (own_trans1 (Or.inl (List.mem_of_getElem? (i := 1) rfl)))
  have R453 : ∀ tg, Steps p.tables e below (T450.setTop (mkF m 23 #[vR a1, vI (3 : Int32), vR a2, vI ((0 : Int32) + (1 : Int32)), vI (Int32.ofNat ka), vD d444, .second, vI (3 : Int32), sa450, .second, sb450] [])) tg → Steps p.tables e below (s₁.setTop (mkF m 0 #[vR a1, vI (3 : Int32), vR a2, .unset, .unset, .unset, .unset, .unset, .unset, .unset, .unset] [])) tg := by
    intro tg kt
    refine R451 _ ?_
    show Steps p.tables e below (T450.setTop (mkF m 116 #[vR a1, vI (3 : Int32), vR a2, vI (0 : Int32), vI (Int32.ofNat ka), vD d444, .second, vI (3 : Int32), sa450, .second, sb450] [])) _
    refine XS.iload X450.here hx rfl (hb hby d5_116) rfl ?_
    refine XS.iloadN X450.here hx rfl (hb hby d5_118) rfl ?_
    show Steps p.tables e below (T450.setTop (mkF m 119 #[vR a1, vI (3 : Int32), vR a2, vI (0 : Int32), vI (Int32.ofNat ka), vD d444, .second, vI (3 : Int32), sa450, .second, sb450] [(.int (3 : Int32)), (.int (3 : Int32))])) _
    refine XS.icmpYes X450.here hx rfl (pc0 := 119) (pc' := 210) rfl (hb hby d5_119) rfl (flt (by decide : ¬ ((3 : Int32) < (3 : Int32)))).2.1 (by decide) (by decide) ?_
    show Steps p.tables e below (T450.setTop (mkF m 210 #[vR a1, vI (3 : Int32), vR a2, vI (0 : Int32), vI (Int32.ofNat ka), vD d444, .second, vI (3 : Int32), sa450, .second, sb450] [])) _
    refine XS.iinc X450.here hx rfl (hb hby d5_210) rfl (l' := #[vR a1, vI (3 : Int32), vR a2, vI ((0 : Int32) + (1 : Int32)), vI (Int32.ofNat ka), vD d444, .second, vI (3 : Int32), sa450, .second, sb450]) rfl ?_
    show Steps p.tables e below (T450.setTop (mkF m 213 #[vR a1, vI (3 : Int32), vR a2, vI ((0 : Int32) + (1 : Int32)), vI (Int32.ofNat ka), vD d444, .second, vI (3 : Int32), sa450, .second, sb450] [])) _
    refine XS.goto X450.here hx rfl (pc0 := 213) (pc' := 23) rfl (hb hby d5_213) (by decide) (by decide) ?_
    exact kt
  clear R451
  have R454 : ∀ tg, Steps p.tables e below (T450.setTop (mkF m 23 #[vR a1, vI (3 : Int32), vR a2, vI (1 : Int32), vI (Int32.ofNat ka), vD d444, .second, vI (3 : Int32), sa450, .second, sb450] [])) tg → Steps p.tables e below (s₁.setTop (mkF m 0 #[vR a1, vI (3 : Int32), vR a2, .unset, .unset, .unset, .unset, .unset, .unset, .unset, .unset] [])) tg := R453
  obtain ⟨T455, X455, e455, st455⟩ := lp_p1 a1 a2 y0 y1 y2 f1 u4 u5 f2 v7 v8 kb (Int32.ofNat ka) d444 (vI (3 : Int32)) (sa450) .second (sb450) X450 hx hZ hw hby hml hown e450 N450 Fl_452 V450 hP1
  have R456 : ∀ tg, Steps p.tables e below (T455.setTop (mkF m 85 #[vR a1, vI (3 : Int32), vR a2, vI (1 : Int32), vI (Int32.ofNat kb), vI (3 : Int32), .unset, vI (3 : Int32), sa450, .second, sb450] [(.ref a1)])) tg → Steps p.tables e below (s₁.setTop (mkF m 0 #[vR a1, vI (3 : Int32), vR a2, .unset, .unset, .unset, .unset, .unset, .unset, .unset, .unset] [])) tg := by
    intro tg kt
    refine R454 _ ?_
    refine st455 _ ?_
    refine XS.aloadN X455.here hx rfl (hb hby d5_84) rfl rfl ?_
    exact kt
  clear R454 st455
  obtain ⟨T457, X457, e457, st457⟩ := getF X455 hx hZ hown (host := "") (Or.inl (hw _ (List.mem_of_getElem? (i := 31) rfl))) Via.refl e455 Fp_452 (g := (mkF m 85 #[vR a1, vI (3 : Int32), vR a2, vI (1 : Int32), vI (Int32.ofNat kb), vI (3 : Int32), .unset, vI (3 : Int32), sa450, .second, sb450] [(.ref a1)])) rfl rfl (hb hby d5_85)
  have R458 : ∀ tg, Steps p.tables e below (T457.setTop (mkF m 91 #[vR a1, vI (3 : Int32), vR a2, vI (1 : Int32), vI (Int32.ofNat kb), vI (3 : Int32), .unset, vI (3 : Int32), sa450, .second, sb450] [(.int (Int32.ofNat kb)), (.int (1 : Int32)), (.ref pv)])) tg → Steps p.tables e below (s₁.setTop (mkF m 0 #[vR a1, vI (3 : Int32), vR a2, .unset, .unset, .unset, .unset, .unset, .unset, .unset, .unset] [])) tg := by
    intro tg kt
    refine R456 _ ?_
    refine st457 _ ?_
    refine XS.iloadN X457.here hx rfl (hb hby d5_88) rfl ?_
    show Steps p.tables e below (T457.setTop (mkF m 89 #[vR a1, vI (3 : Int32), vR a2, vI (1 : Int32), vI (Int32.ofNat kb), vI (3 : Int32), .unset, vI (3 : Int32), sa450, .second, sb450] [(.int (1 : Int32)), (.ref pv)])) _
    refine XS.iload X457.here hx rfl (hb hby d5_89) rfl ?_
    exact kt
  clear R456 st457
  obtain ⟨cl459, Ar459, hin459, -⟩ := VP_452.at (j := (1 : Int32)) (k := 1) (by decide) rfl (by decide)
  obtain ⟨T460, h460, X460, e460, W460, st460⟩ := stI X457 hx hZ e457 Ar459 (j := (1 : Int32)) hin459 (g := (mkF m 91 #[vR a1, vI (3 : Int32), vR a2, vI (1 : Int32), vI (Int32.ofNat kb), vI (3 : Int32), .unset, vI (3 : Int32), sa450, .second, sb450] [(.int (Int32.ofNat kb)), (.int (1 : Int32)), (.ref pv)])) rfl rfl (hb hby d5_91)
  have N460 := Fr.snoc X460 N450 g_pv
  rw [show ((1 : Int32) : Int32).toNatClampNeg = 1 from rfl] at W460
  have VP_460 : AV Z h460 pv .int 3 (fun j => .int ((own_set (own_set (fun _ => (0 : Int32)) 0 (Int32.ofNat ka)) 1 (Int32.ofNat kb)) j)) := VP_452.setI W460
  have Fs_460 := Fs_452.other W460 (Or.inl ne_a1_pv)
  have Fl_460 := Fl_452.other W460 (Or.inl ne_a1_pv)
  have Fp_460 := Fp_452.other W460 (Or.inl ne_a1_pv)
  have E_a1_460 := E_a1_452.wr W460
  have VA_460 := V450.other W460 ne_a2_pv
  clear Fs_452 Fl_452 Fp_452 E_a1_452
  have Zs460 : n0 ≤ h460.size := Nat.le_trans Zs452 (Keep.of_wr W460).1
  have Kw460 : Keep h0 h460 [a1, a2] := Keep.wr Kk452 W460 (Or.inr sz_pv)
  have R461 : ∀ tg, Steps p.tables e below (T460.setTop (mkF m 96 #[vR a1, vI (3 : Int32), vR a2, vI (1 : Int32), vI (Int32.ofNat kb), vI (3 : Int32), .unset, vI (3 : Int32), sa450, .second, sb450] [(.int (Int32.ofNat kb)), (.int (1 : Int32)), (.ref a1)])) tg → Steps p.tables e below (s₁.setTop (mkF m 0 #[vR a1, vI (3 : Int32), vR a2, .unset, .unset, .unset, .unset, .unset, .unset, .unset, .unset] [])) tg := by
    intro tg kt
    refine R458 _ ?_
    refine st460 _ ?_
    refine XS.aloadN X460.here hx rfl (hb hby d5_92) rfl rfl ?_
    refine XS.iloadN X460.here hx rfl (hb hby d5_93) rfl ?_
    show Steps p.tables e below (T460.setTop (mkF m 94 #[vR a1, vI (3 : Int32), vR a2, vI (1 : Int32), vI (Int32.ofNat kb), vI (3 : Int32), .unset, vI (3 : Int32), sa450, .second, sb450] [(.int (1 : Int32)), (.ref a1)])) _
    refine XS.iload X460.here hx rfl (hb hby d5_94) rfl ?_
    exact kt
  clear R458 st460
  obtain ⟨cq462, q462, q462'⟩ := E_a1_460.cell
  obtain ⟨_, _, ⟨T462, L462, k462, n462⟩, -, X462, ⟨Lc462, hQ462, l462, y462, z462⟩, st462⟩ := X460.privateBack hx (y := (⟨"com/example/inexact_odds/inexactodds/reach/DenseLu", "swapRows", "(II)V"⟩ : MethodName)) hown (mvT hZ (hw _ (List.mem_of_getElem? (i := 37) rfl))) (mvT hZ (hw _ (List.mem_of_getElem? (i := 38) rfl))) (own_selp (mvT hZ (hw _ (List.mem_of_getElem? (i := 18) rfl))) (mvP hZ (hw _ (List.mem_of_getElem? (i := 39) rfl))) (mvT hZ (hw _ (List.mem_of_getElem? (i := 38) rfl))) (by decide)) (Cond.privateMethod_at (mvP hZ (hw _ (List.mem_of_getElem? (i := 39) rfl)) (args := #[]))) (mvT hZ (hw _ (List.mem_of_getElem? (i := 40) rfl))) (by decide) (backOf (W := 0) (rm_sw l Z a0 hw [] a1 (1 : Int32) (Int32.ofNat kb) a2 [y0, y1, y2, f1, u4, u5, f2, v7, v8] 1 kb h460 n0 Zs460 Fs_460 Fl_460 VA_460 g2 n12 rfl (own_ofn hkb) (by decide) hkb) hZ (hw _ (List.mem_of_getElem? (i := 40) rfl)) (hw _ (List.mem_of_getElem? (i := 19) rfl)) (by decide) (by decide)) (g := (mkF m 96 #[vR a1, vI (3 : Int32), vR a2, vI (1 : Int32), vI (Int32.ofNat kb), vI (3 : Int32), .unset, vI (3 : Int32), sa450, .second, sb450] [(.int (Int32.ofNat kb)), (.int (1 : Int32)), (.ref a1)])) rfl (by rw [hml]; rfl) (Steps.refl _) (a := a1) (by rw [e460]; exact q462) q462' (argsL := [(.int (1 : Int32)), (.int (Int32.ofNat kb))]) (rest := []) (lenOf pd_2 rfl) rfl (by show 2 * 0 + _ ≤ _; exact Nat.le_of_eq rfl) (hb hby d5_96) (fun _ _ => ⟨rfl, e460, (by decide : 1 + 0 ≤ _), (by decide : 3 + 0 ≤ _)⟩)
  dsimp only [Pt.U, Pt.locs, Pt.cells, Pt.slots] at X462 l462 y462 z462 st462 hQ462
  rw [l462, y462, z462] at X462
  obtain ⟨rfl, N462q, K462, V462⟩ := hQ462
  have N462 := Fr.app N460 N462q
  have Fs_463 := Fs_460.keep K462 (own_notin1 n12)
  have Fl_463 := Fl_460.keep K462 (own_notin1 n12)
  have Fp_463 := Fp_460.keep K462 (own_notin1 n12)
  have E_a1_463 := E_a1_460.keep K462
  have VP_463 := VP_460.keep K462 (own_notin1 (Ne.symm ne_a2_pv))
  clear Fs_460 Fl_460 Fp_460 E_a1_460 VP_460
  have Zs463 : n0 ≤ T462.heap.size := Nat.le_trans Zs460 K462.1
  have Kk463 : Keep h0 T462.heap [a1, a2] := Keep.trans Kw460 K462 (own_trans1 (Or.inl (List.mem_of_getElem? (i := 1) rfl)))
  rw [hS1] at V462
  have R464 : ∀ tg, Steps p.tables e below (T462.setTop (mkF m 100 #[vR a1, vI (3 : Int32), vR a2, vI (1 : Int32), vI (Int32.ofNat kb), vI (3 : Int32), .unset, vI (3 : Int32), sa450, .second, sb450] [(.ref a1)])) tg → Steps p.tables e below (s₁.setTop (mkF m 0 #[vR a1, vI (3 : Int32), vR a2, .unset, .unset, .unset, .unset, .unset, .unset, .unset, .unset] [])) tg := by
    intro tg kt
    refine R461 _ ?_
    refine st462.trans ?_
    refine XS.aloadN X462.here hx rfl (hb hby d5_99) rfl rfl ?_
    exact kt
  clear R461 st462
  obtain ⟨T465, X465, e465, st465⟩ := getF X462 hx hZ hown (host := "") (Or.inl (hw _ (List.mem_of_getElem? (i := 28) rfl))) Via.refl rfl Fl_463 (g := (mkF m 100 #[vR a1, vI (3 : Int32), vR a2, vI (1 : Int32), vI (Int32.ofNat kb), vI (3 : Int32), .unset, vI (3 : Int32), sa450, .second, sb450] [(.ref a1)])) rfl rfl (hb hby d5_100)
  have R466 : ∀ tg, Steps p.tables e below (T465.setTop (mkF m 108 #[vR a1, vI (3 : Int32), vR a2, vI (1 : Int32), vI (Int32.ofNat kb), vI (3 : Int32), .unset, vI (3 : Int32), sa450, .second, sb450] [(.int (((1 : Int32) * (3 : Int32)) + (1 : Int32))), (.ref a2)])) tg → Steps p.tables e below (s₁.setTop (mkF m 0 #[vR a1, vI (3 : Int32), vR a2, .unset, .unset, .unset, .unset, .unset, .unset, .unset, .unset] [])) tg := by
    intro tg kt
    refine R464 _ ?_
    refine st465 _ ?_
    refine XS.iloadN X465.here hx rfl (hb hby d5_103) rfl ?_
    show Steps p.tables e below (T465.setTop (mkF m 104 #[vR a1, vI (3 : Int32), vR a2, vI (1 : Int32), vI (Int32.ofNat kb), vI (3 : Int32), .unset, vI (3 : Int32), sa450, .second, sb450] [(.int (1 : Int32)), (.ref a2)])) _
    refine XS.iloadN X465.here hx rfl (hb hby d5_104) rfl ?_
    show Steps p.tables e below (T465.setTop (mkF m 105 #[vR a1, vI (3 : Int32), vR a2, vI (1 : Int32), vI (Int32.ofNat kb), vI (3 : Int32), .unset, vI (3 : Int32), sa450, .second, sb450] [(.int (3 : Int32)), (.int (1 : Int32)), (.ref a2)])) _
    refine XS.imul X465.here hx rfl (hb hby d5_105) rfl ?_
    refine XS.iloadN X465.here hx rfl (hb hby d5_106) rfl ?_
    show Steps p.tables e below (T465.setTop (mkF m 107 #[vR a1, vI (3 : Int32), vR a2, vI (1 : Int32), vI (Int32.ofNat kb), vI (3 : Int32), .unset, vI (3 : Int32), sa450, .second, sb450] [(.int (1 : Int32)), (.int ((1 : Int32) * (3 : Int32))), (.ref a2)])) _
    refine XS.iadd X465.here hx rfl (hb hby d5_107) rfl ?_
    exact kt
  clear R464 st465
  obtain ⟨cl467, d467, Ar467, hin467, hat467, G467⟩ := V462.at (j := (((1 : Int32) * (3 : Int32)) + (1 : Int32))) (k := 4) (by decide) (by decide) (by decide)
  have H467 : DR 2 z4 d467 := G467
  have R468 : ∀ tg, Steps p.tables e below (T465.setTop (mkF m 116 #[vR a1, vI (3 : Int32), vR a2, vI (1 : Int32), vI (Int32.ofNat kb), vD d467, .second, vI ((1 : Int32) + (1 : Int32)), sa450, .second, sb450] [])) tg → Steps p.tables e below (s₁.setTop (mkF m 0 #[vR a1, vI (3 : Int32), vR a2, .unset, .unset, .unset, .unset, .unset, .unset, .unset, .unset] [])) tg := by
    intro tg kt
    refine R466 _ ?_
    show Steps p.tables e below (T465.setTop (mkF m 108 #[vR a1, vI (3 : Int32), vR a2, vI (1 : Int32), vI (Int32.ofNat kb), vI (3 : Int32), .unset, vI (3 : Int32), sa450, .second, sb450] [(.int (((1 : Int32) * (3 : Int32)) + (1 : Int32))), (.ref a2)])) _
    refine X465.daload hx (j := (((1 : Int32) * (3 : Int32)) + (1 : Int32))) (v := (.double d467)) (by rw [e465]; exact Ar467.1) (State.isArrayOf_alike hZ.alike Ar467.2.1) Ar467.2.2 hin467 hat467 (g := (mkF m 108 #[vR a1, vI (3 : Int32), vR a2, vI (1 : Int32), vI (Int32.ofNat kb), vI (3 : Int32), .unset, vI (3 : Int32), sa450, .second, sb450] [(.int (((1 : Int32) * (3 : Int32)) + (1 : Int32))), (.ref a2)])) rfl rfl (hb hby d5_108) _ ?_
    show Steps p.tables e below (T465.setTop (mkF m 109 #[vR a1, vI (3 : Int32), vR a2, vI (1 : Int32), vI (Int32.ofNat kb), vI (3 : Int32), .unset, vI (3 : Int32), sa450, .second, sb450] [(.double d467)])) _
    refine XS.dstore X465.here hx rfl (hb hby d5_109) rfl (l' := #[vR a1, vI (3 : Int32), vR a2, vI (1 : Int32), vI (Int32.ofNat kb), vD d467, .second, vI (3 : Int32), sa450, .second, sb450]) rfl ?_
    refine XS.iloadN X465.here hx rfl (hb hby d5_111) rfl ?_
    refine XS.iconst X465.here hx rfl (hb hby d5_112) ?_
    show Steps p.tables e below (T465.setTop (mkF m 113 #[vR a1, vI (3 : Int32), vR a2, vI (1 : Int32), vI (Int32.ofNat kb), vD d467, .second, vI (3 : Int32), sa450, .second, sb450] [(.int (1 : Int32)), (.int (1 : Int32))])) _
    refine XS.iadd X465.here hx rfl (hb hby d5_113) rfl ?_
    show Steps p.tables e below (T465.setTop (mkF m 114 #[vR a1, vI (3 : Int32), vR a2, vI (1 : Int32), vI (Int32.ofNat kb), vD d467, .second, vI (3 : Int32), sa450, .second, sb450] [(.int ((1 : Int32) + (1 : Int32)))])) _
    refine XS.istore X465.here hx rfl (hb hby d5_114) rfl (l' := #[vR a1, vI (3 : Int32), vR a2, vI (1 : Int32), vI (Int32.ofNat kb), vD d467, .second, vI ((1 : Int32) + (1 : Int32)), sa450, .second, sb450]) rfl ?_
    exact kt
  clear R466
  have R469 : ∀ tg, Steps p.tables e below (T465.setTop (mkF m 116 #[vR a1, vI (3 : Int32), vR a2, vI (1 : Int32), vI (Int32.ofNat kb), vD d467, .second, vI (2 : Int32), sa450, .second, sb450] [])) tg → Steps p.tables e below (s₁.setTop (mkF m 0 #[vR a1, vI (3 : Int32), vR a2, .unset, .unset, .unset, .unset, .unset, .unset, .unset, .unset] [])) tg := R468
  obtain ⟨T470, h470, L470, sa470, sb470, X470, e470, N470, -, K470, V470, ok470, st470⟩ := lp_e12 a1 a2 y0 y1 y2 z3 z4 z5 z6 z7 z8 f3 t8 d467 (vI (Int32.ofNat kb)) (sa450) (.second) (sb450) X465 hx hZ hw hby hml hown e465 N462 Zs463 Fl_463 V462 g2 n12 H467 ok450 hD3 hM38
  have R471 : ∀ tg, Steps p.tables e below (T470.setTop (mkF m 116 #[vR a1, vI (3 : Int32), vR a2, vI (1 : Int32), vI (Int32.ofNat kb), vD d467, .second, vI (3 : Int32), sa470, .second, sb470] [])) tg → Steps p.tables e below (s₁.setTop (mkF m 0 #[vR a1, vI (3 : Int32), vR a2, .unset, .unset, .unset, .unset, .unset, .unset, .unset, .unset] [])) tg := by
    intro tg kt
    refine R469 _ ?_
    refine st470 _ ?_
    exact kt
  clear R469 st470
  have Fs_472 := Fs_463.keep K470 (own_notin1 n12)
  have Fl_472 := Fl_463.keep K470 (own_notin1 n12)
  have Fp_472 := Fp_463.keep K470 (own_notin1 n12)
  have E_a1_472 := E_a1_463.keep K470
  have VP_472 := VP_463.keep K470 (own_notin1 (Ne.symm ne_a2_pv))
  clear Fs_463 Fl_463 Fp_463 E_a1_463 VP_463
  have Zs472 : n0 ≤ h470.size := Nat.le_trans Zs463 K470.1
  have Kk472 : Keep h0 h470 [a1, a2] := Keep.trans Kk463 K470 (own_trans1 (Or.inl (List.mem_of_getElem? (i := 1) rfl)))
  have R473 : ∀ tg, Steps p.tables e below (T470.setTop (mkF m 23 #[vR a1, vI (3 : Int32), vR a2, vI ((1 : Int32) + (1 : Int32)), vI (Int32.ofNat kb), vD d467, .second, vI (3 : Int32), sa470, .second, sb470] [])) tg → Steps p.tables e below (s₁.setTop (mkF m 0 #[vR a1, vI (3 : Int32), vR a2, .unset, .unset, .unset, .unset, .unset, .unset, .unset, .unset] [])) tg := by
    intro tg kt
    refine R471 _ ?_
    show Steps p.tables e below (T470.setTop (mkF m 116 #[vR a1, vI (3 : Int32), vR a2, vI (1 : Int32), vI (Int32.ofNat kb), vD d467, .second, vI (3 : Int32), sa470, .second, sb470] [])) _
    refine XS.iload X470.here hx rfl (hb hby d5_116) rfl ?_
    refine XS.iloadN X470.here hx rfl (hb hby d5_118) rfl ?_
    show Steps p.tables e below (T470.setTop (mkF m 119 #[vR a1, vI (3 : Int32), vR a2, vI (1 : Int32), vI (Int32.ofNat kb), vD d467, .second, vI (3 : Int32), sa470, .second, sb470] [(.int (3 : Int32)), (.int (3 : Int32))])) _
    refine XS.icmpYes X470.here hx rfl (pc0 := 119) (pc' := 210) rfl (hb hby d5_119) rfl (flt (by decide : ¬ ((3 : Int32) < (3 : Int32)))).2.1 (by decide) (by decide) ?_
    show Steps p.tables e below (T470.setTop (mkF m 210 #[vR a1, vI (3 : Int32), vR a2, vI (1 : Int32), vI (Int32.ofNat kb), vD d467, .second, vI (3 : Int32), sa470, .second, sb470] [])) _
    refine XS.iinc X470.here hx rfl (hb hby d5_210) rfl (l' := #[vR a1, vI (3 : Int32), vR a2, vI ((1 : Int32) + (1 : Int32)), vI (Int32.ofNat kb), vD d467, .second, vI (3 : Int32), sa470, .second, sb470]) rfl ?_
    show Steps p.tables e below (T470.setTop (mkF m 213 #[vR a1, vI (3 : Int32), vR a2, vI ((1 : Int32) + (1 : Int32)), vI (Int32.ofNat kb), vD d467, .second, vI (3 : Int32), sa470, .second, sb470] [])) _
    refine XS.goto X470.here hx rfl (pc0 := 213) (pc' := 23) rfl (hb hby d5_213) (by decide) (by decide) ?_
    exact kt
  clear R471
  have R474 : ∀ tg, Steps p.tables e below (T470.setTop (mkF m 23 #[vR a1, vI (3 : Int32), vR a2, vI (2 : Int32), vI (Int32.ofNat kb), vD d467, .second, vI (3 : Int32), sa470, .second, sb470] [])) tg → Steps p.tables e below (s₁.setTop (mkF m 0 #[vR a1, vI (3 : Int32), vR a2, .unset, .unset, .unset, .unset, .unset, .unset, .unset, .unset] [])) tg := R473
  have R475 : ∀ tg, Steps p.tables e below (T470.setTop (mkF m 84 #[vR a1, vI (3 : Int32), vR a2, vI (2 : Int32), vI (2 : Int32), vI ((2 : Int32) + (1 : Int32)), .unset, vI (3 : Int32), sa470, .second, sb470] [])) tg → Steps p.tables e below (s₁.setTop (mkF m 0 #[vR a1, vI (3 : Int32), vR a2, .unset, .unset, .unset, .unset, .unset, .unset, .unset, .unset] [])) tg := by
    intro tg kt
    refine R474 _ ?_
    show Steps p.tables e below (T470.setTop (mkF m 23 #[vR a1, vI (3 : Int32), vR a2, vI (2 : Int32), vI (Int32.ofNat kb), vD d467, .second, vI (3 : Int32), sa470, .second, sb470] [])) _
    refine XS.iloadN X470.here hx rfl (hb hby d5_23) rfl ?_
    refine XS.iloadN X470.here hx rfl (hb hby d5_24) rfl ?_
    show Steps p.tables e below (T470.setTop (mkF m 25 #[vR a1, vI (3 : Int32), vR a2, vI (2 : Int32), vI (Int32.ofNat kb), vD d467, .second, vI (3 : Int32), sa470, .second, sb470] [(.int (3 : Int32)), (.int (2 : Int32))])) _
    refine XS.icmpNo X470.here hx rfl (hb hby d5_25) rfl (tlt (by decide : (2 : Int32) < (3 : Int32))).2.1 ?_
    refine XS.iloadN X470.here hx rfl (hb hby d5_28) rfl ?_
    show Steps p.tables e below (T470.setTop (mkF m 29 #[vR a1, vI (3 : Int32), vR a2, vI (2 : Int32), vI (Int32.ofNat kb), vD d467, .second, vI (3 : Int32), sa470, .second, sb470] [(.int (2 : Int32))])) _
    refine XS.istore X470.here hx rfl (hb hby d5_29) rfl (l' := #[vR a1, vI (3 : Int32), vR a2, vI (2 : Int32), vI (2 : Int32), vD d467, .second, vI (3 : Int32), sa470, .second, sb470]) rfl ?_
    refine XS.iloadN X470.here hx rfl (hb hby d5_31) rfl ?_
    refine XS.iconst X470.here hx rfl (hb hby d5_32) ?_
    show Steps p.tables e below (T470.setTop (mkF m 33 #[vR a1, vI (3 : Int32), vR a2, vI (2 : Int32), vI (2 : Int32), vD d467, .second, vI (3 : Int32), sa470, .second, sb470] [(.int (1 : Int32)), (.int (2 : Int32))])) _
    refine XS.iadd X470.here hx rfl (hb hby d5_33) rfl ?_
    show Steps p.tables e below (T470.setTop (mkF m 34 #[vR a1, vI (3 : Int32), vR a2, vI (2 : Int32), vI (2 : Int32), vD d467, .second, vI (3 : Int32), sa470, .second, sb470] [(.int ((2 : Int32) + (1 : Int32)))])) _
    refine XS.istore X470.here hx rfl (hb hby d5_34) rfl (l' := #[vR a1, vI (3 : Int32), vR a2, vI (2 : Int32), vI (2 : Int32), vI ((2 : Int32) + (1 : Int32)), .unset, vI (3 : Int32), sa470, .second, sb470]) rfl ?_
    refine XS.iload X470.here hx rfl (hb hby d5_36) rfl ?_
    refine XS.iloadN X470.here hx rfl (hb hby d5_38) rfl ?_
    show Steps p.tables e below (T470.setTop (mkF m 39 #[vR a1, vI (3 : Int32), vR a2, vI (2 : Int32), vI (2 : Int32), vI ((2 : Int32) + (1 : Int32)), .unset, vI (3 : Int32), sa470, .second, sb470] [(.int (3 : Int32)), (.int ((2 : Int32) + (1 : Int32)))])) _
    refine XS.icmpYes X470.here hx rfl (pc0 := 39) (pc' := 84) rfl (hb hby d5_39) rfl (flt (by decide : ¬ (((2 : Int32) + (1 : Int32)) < (3 : Int32)))).2.1 (by decide) (by decide) ?_
    exact kt
  clear R474
  have R476 : ∀ tg, Steps p.tables e below (T470.setTop (mkF m 84 #[vR a1, vI (3 : Int32), vR a2, vI (2 : Int32), vI (2 : Int32), vI (3 : Int32), .unset, vI (3 : Int32), sa470, .second, sb470] [])) tg → Steps p.tables e below (s₁.setTop (mkF m 0 #[vR a1, vI (3 : Int32), vR a2, .unset, .unset, .unset, .unset, .unset, .unset, .unset, .unset] [])) tg := R475
  have R477 : ∀ tg, Steps p.tables e below (T470.setTop (mkF m 85 #[vR a1, vI (3 : Int32), vR a2, vI (2 : Int32), vI (2 : Int32), vI (3 : Int32), .unset, vI (3 : Int32), sa470, .second, sb470] [(.ref a1)])) tg → Steps p.tables e below (s₁.setTop (mkF m 0 #[vR a1, vI (3 : Int32), vR a2, .unset, .unset, .unset, .unset, .unset, .unset, .unset, .unset] [])) tg := by
    intro tg kt
    refine R476 _ ?_
    show Steps p.tables e below (T470.setTop (mkF m 84 #[vR a1, vI (3 : Int32), vR a2, vI (2 : Int32), vI (2 : Int32), vI (3 : Int32), .unset, vI (3 : Int32), sa470, .second, sb470] [])) _
    refine XS.aloadN X470.here hx rfl (hb hby d5_84) rfl rfl ?_
    exact kt
  clear R476
  obtain ⟨T478, X478, e478, st478⟩ := getF X470 hx hZ hown (host := "") (Or.inl (hw _ (List.mem_of_getElem? (i := 31) rfl))) Via.refl e470 Fp_472 (g := (mkF m 85 #[vR a1, vI (3 : Int32), vR a2, vI (2 : Int32), vI (2 : Int32), vI (3 : Int32), .unset, vI (3 : Int32), sa470, .second, sb470] [(.ref a1)])) rfl rfl (hb hby d5_85)
  have R479 : ∀ tg, Steps p.tables e below (T478.setTop (mkF m 91 #[vR a1, vI (3 : Int32), vR a2, vI (2 : Int32), vI (2 : Int32), vI (3 : Int32), .unset, vI (3 : Int32), sa470, .second, sb470] [(.int (2 : Int32)), (.int (2 : Int32)), (.ref pv)])) tg → Steps p.tables e below (s₁.setTop (mkF m 0 #[vR a1, vI (3 : Int32), vR a2, .unset, .unset, .unset, .unset, .unset, .unset, .unset, .unset] [])) tg := by
    intro tg kt
    refine R477 _ ?_
    refine st478 _ ?_
    refine XS.iloadN X478.here hx rfl (hb hby d5_88) rfl ?_
    refine XS.iload X478.here hx rfl (hb hby d5_89) rfl ?_
    exact kt
  clear R477 st478
  obtain ⟨cl480, Ar480, hin480, -⟩ := VP_472.at (j := (2 : Int32)) (k := 2) (by decide) rfl (by decide)
  obtain ⟨T481, h481, X481, e481, W481, st481⟩ := stI X478 hx hZ e478 Ar480 (j := (2 : Int32)) hin480 (g := (mkF m 91 #[vR a1, vI (3 : Int32), vR a2, vI (2 : Int32), vI (2 : Int32), vI (3 : Int32), .unset, vI (3 : Int32), sa470, .second, sb470] [(.int (2 : Int32)), (.int (2 : Int32)), (.ref pv)])) rfl rfl (hb hby d5_91)
  have N481 := Fr.snoc X481 N470 g_pv
  rw [show ((2 : Int32) : Int32).toNatClampNeg = 2 from rfl] at W481
  have VP_481 : AV Z h481 pv .int 3 (fun j => .int ((own_set (own_set (own_set (fun _ => (0 : Int32)) 0 (Int32.ofNat ka)) 1 (Int32.ofNat kb)) 2 (2 : Int32)) j)) := VP_472.setI W481
  have Fs_481 := Fs_472.other W481 (Or.inl ne_a1_pv)
  have Fl_481 := Fl_472.other W481 (Or.inl ne_a1_pv)
  have Fp_481 := Fp_472.other W481 (Or.inl ne_a1_pv)
  have E_a1_481 := E_a1_472.wr W481
  have VA_481 := V470.other W481 ne_a2_pv
  clear Fs_472 Fl_472 Fp_472 E_a1_472
  have Zs481 : n0 ≤ h481.size := Nat.le_trans Zs472 (Keep.of_wr W481).1
  have Kw481 : Keep h0 h481 [a1, a2] := Keep.wr Kk472 W481 (Or.inr sz_pv)
  have R482 : ∀ tg, Steps p.tables e below (T481.setTop (mkF m 96 #[vR a1, vI (3 : Int32), vR a2, vI (2 : Int32), vI (2 : Int32), vI (3 : Int32), .unset, vI (3 : Int32), sa470, .second, sb470] [(.int (2 : Int32)), (.int (2 : Int32)), (.ref a1)])) tg → Steps p.tables e below (s₁.setTop (mkF m 0 #[vR a1, vI (3 : Int32), vR a2, .unset, .unset, .unset, .unset, .unset, .unset, .unset, .unset] [])) tg := by
    intro tg kt
    refine R479 _ ?_
    refine st481 _ ?_
    show Steps p.tables e below (T481.setTop (mkF m 92 #[vR a1, vI (3 : Int32), vR a2, vI (2 : Int32), vI (2 : Int32), vI (3 : Int32), .unset, vI (3 : Int32), sa470, .second, sb470] [])) _
    refine XS.aloadN X481.here hx rfl (hb hby d5_92) rfl rfl ?_
    refine XS.iloadN X481.here hx rfl (hb hby d5_93) rfl ?_
    refine XS.iload X481.here hx rfl (hb hby d5_94) rfl ?_
    exact kt
  clear R479 st481
  obtain ⟨cq483, q483, q483'⟩ := E_a1_481.cell
  obtain ⟨_, _, ⟨T483, L483, k483, n483⟩, -, X483, ⟨Lc483, hQ483, l483, y483, z483⟩, st483⟩ := X481.privateBack hx (y := (⟨"com/example/inexact_odds/inexactodds/reach/DenseLu", "swapRows", "(II)V"⟩ : MethodName)) hown (mvT hZ (hw _ (List.mem_of_getElem? (i := 37) rfl))) (mvT hZ (hw _ (List.mem_of_getElem? (i := 38) rfl))) (own_selp (mvT hZ (hw _ (List.mem_of_getElem? (i := 18) rfl))) (mvP hZ (hw _ (List.mem_of_getElem? (i := 39) rfl))) (mvT hZ (hw _ (List.mem_of_getElem? (i := 38) rfl))) (by decide)) (Cond.privateMethod_at (mvP hZ (hw _ (List.mem_of_getElem? (i := 39) rfl)) (args := #[]))) (mvT hZ (hw _ (List.mem_of_getElem? (i := 40) rfl))) (by decide) (backOf (W := 0) (rm_sw l Z a0 hw [] a1 (2 : Int32) (2 : Int32) a2 [y0, y1, y2, z3, z4, z5, z6, f3, t8] 2 2 h481 n0 Zs481 Fs_481 Fl_481 VA_481 g2 n12 rfl rfl (by decide) (by decide)) hZ (hw _ (List.mem_of_getElem? (i := 40) rfl)) (hw _ (List.mem_of_getElem? (i := 19) rfl)) (by decide) (by decide)) (g := (mkF m 96 #[vR a1, vI (3 : Int32), vR a2, vI (2 : Int32), vI (2 : Int32), vI (3 : Int32), .unset, vI (3 : Int32), sa470, .second, sb470] [(.int (2 : Int32)), (.int (2 : Int32)), (.ref a1)])) rfl (by rw [hml]; rfl) (Steps.refl _) (a := a1) (by rw [e481]; exact q483) q483' (argsL := [(.int (2 : Int32)), (.int (2 : Int32))]) (rest := []) (lenOf pd_2 rfl) rfl (by show 2 * 0 + _ ≤ _; exact Nat.le_of_eq rfl) (hb hby d5_96) (fun _ _ => ⟨rfl, e481, (by decide : 1 + 0 ≤ _), (by decide : 3 + 0 ≤ _)⟩)
  dsimp only [Pt.U, Pt.locs, Pt.cells, Pt.slots] at X483 l483 y483 z483 st483 hQ483
  rw [l483, y483, z483] at X483
  obtain ⟨rfl, N483q, K483, V483⟩ := hQ483
  have N483 := Fr.app N481 N483q
  have Fs_484 := Fs_481.keep K483 (own_notin1 n12)
  have Fl_484 := Fl_481.keep K483 (own_notin1 n12)
  have Fp_484 := Fp_481.keep K483 (own_notin1 n12)
  have E_a1_484 := E_a1_481.keep K483
  have VP_484 := VP_481.keep K483 (own_notin1 (Ne.symm ne_a2_pv))
  clear Fs_481 Fl_481 Fp_481 E_a1_481 VP_481
  have Zs484 : n0 ≤ T483.heap.size := Nat.le_trans Zs481 K483.1
  have Kk484 : Keep h0 T483.heap [a1, a2] := Keep.trans Kw481 K483 (own_trans1 (Or.inl (List.mem_of_getElem? (i := 1) rfl)))
  have V483b : VD Z T483.heap a2 9 [y0, y1, y2, z3, z4, z5, z6, f3, t8] := V483
  have R485 : ∀ tg, Steps p.tables e below (T483.setTop (mkF m 100 #[vR a1, vI (3 : Int32), vR a2, vI (2 : Int32), vI (2 : Int32), vI (3 : Int32), .unset, vI (3 : Int32), sa470, .second, sb470] [(.ref a1)])) tg → Steps p.tables e below (s₁.setTop (mkF m 0 #[vR a1, vI (3 : Int32), vR a2, .unset, .unset, .unset, .unset, .unset, .unset, .unset, .unset] [])) tg := by
    intro tg kt
    refine R482 _ ?_
    refine st483.trans ?_
    show Steps p.tables e below (T483.setTop (mkF m 99 #[vR a1, vI (3 : Int32), vR a2, vI (2 : Int32), vI (2 : Int32), vI (3 : Int32), .unset, vI (3 : Int32), sa470, .second, sb470] [])) _
    refine XS.aloadN X483.here hx rfl (hb hby d5_99) rfl rfl ?_
    exact kt
  clear R482 st483
  obtain ⟨T486, X486, e486, st486⟩ := getF X483 hx hZ hown (host := "") (Or.inl (hw _ (List.mem_of_getElem? (i := 28) rfl))) Via.refl rfl Fl_484 (g := (mkF m 100 #[vR a1, vI (3 : Int32), vR a2, vI (2 : Int32), vI (2 : Int32), vI (3 : Int32), .unset, vI (3 : Int32), sa470, .second, sb470] [(.ref a1)])) rfl rfl (hb hby d5_100)
  have R487 : ∀ tg, Steps p.tables e below (T486.setTop (mkF m 108 #[vR a1, vI (3 : Int32), vR a2, vI (2 : Int32), vI (2 : Int32), vI (3 : Int32), .unset, vI (3 : Int32), sa470, .second, sb470] [(.int (((2 : Int32) * (3 : Int32)) + (2 : Int32))), (.ref a2)])) tg → Steps p.tables e below (s₁.setTop (mkF m 0 #[vR a1, vI (3 : Int32), vR a2, .unset, .unset, .unset, .unset, .unset, .unset, .unset, .unset] [])) tg := by
    intro tg kt
    refine R485 _ ?_
    refine st486 _ ?_
    refine XS.iloadN X486.here hx rfl (hb hby d5_103) rfl ?_
    refine XS.iloadN X486.here hx rfl (hb hby d5_104) rfl ?_
    show Steps p.tables e below (T486.setTop (mkF m 105 #[vR a1, vI (3 : Int32), vR a2, vI (2 : Int32), vI (2 : Int32), vI (3 : Int32), .unset, vI (3 : Int32), sa470, .second, sb470] [(.int (3 : Int32)), (.int (2 : Int32)), (.ref a2)])) _
    refine XS.imul X486.here hx rfl (hb hby d5_105) rfl ?_
    refine XS.iloadN X486.here hx rfl (hb hby d5_106) rfl ?_
    show Steps p.tables e below (T486.setTop (mkF m 107 #[vR a1, vI (3 : Int32), vR a2, vI (2 : Int32), vI (2 : Int32), vI (3 : Int32), .unset, vI (3 : Int32), sa470, .second, sb470] [(.int (2 : Int32)), (.int ((2 : Int32) * (3 : Int32))), (.ref a2)])) _
    refine XS.iadd X486.here hx rfl (hb hby d5_107) rfl ?_
    exact kt
  clear R485 st486
  obtain ⟨cl488, d488, Ar488, hin488, hat488, G488⟩ := V483b.at (j := (((2 : Int32) * (3 : Int32)) + (2 : Int32))) (k := 8) (by decide) (by decide) (by decide)
  have H488 : DR 2 t8 d488 := G488
  have R489 : ∀ tg, Steps p.tables e below (T486.setTop (mkF m 116 #[vR a1, vI (3 : Int32), vR a2, vI (2 : Int32), vI (2 : Int32), vD d488, .second, vI ((2 : Int32) + (1 : Int32)), sa470, .second, sb470] [])) tg → Steps p.tables e below (s₁.setTop (mkF m 0 #[vR a1, vI (3 : Int32), vR a2, .unset, .unset, .unset, .unset, .unset, .unset, .unset, .unset] [])) tg := by
    intro tg kt
    refine R487 _ ?_
    show Steps p.tables e below (T486.setTop (mkF m 108 #[vR a1, vI (3 : Int32), vR a2, vI (2 : Int32), vI (2 : Int32), vI (3 : Int32), .unset, vI (3 : Int32), sa470, .second, sb470] [(.int (((2 : Int32) * (3 : Int32)) + (2 : Int32))), (.ref a2)])) _
    refine X486.daload hx (j := (((2 : Int32) * (3 : Int32)) + (2 : Int32))) (v := (.double d488)) (by rw [e486]; exact Ar488.1) (State.isArrayOf_alike hZ.alike Ar488.2.1) Ar488.2.2 hin488 hat488 (g := (mkF m 108 #[vR a1, vI (3 : Int32), vR a2, vI (2 : Int32), vI (2 : Int32), vI (3 : Int32), .unset, vI (3 : Int32), sa470, .second, sb470] [(.int (((2 : Int32) * (3 : Int32)) + (2 : Int32))), (.ref a2)])) rfl rfl (hb hby d5_108) _ ?_
    show Steps p.tables e below (T486.setTop (mkF m 109 #[vR a1, vI (3 : Int32), vR a2, vI (2 : Int32), vI (2 : Int32), vI (3 : Int32), .unset, vI (3 : Int32), sa470, .second, sb470] [(.double d488)])) _
    refine XS.dstore X486.here hx rfl (hb hby d5_109) rfl (l' := #[vR a1, vI (3 : Int32), vR a2, vI (2 : Int32), vI (2 : Int32), vD d488, .second, vI (3 : Int32), sa470, .second, sb470]) rfl ?_
    refine XS.iloadN X486.here hx rfl (hb hby d5_111) rfl ?_
    refine XS.iconst X486.here hx rfl (hb hby d5_112) ?_
    show Steps p.tables e below (T486.setTop (mkF m 113 #[vR a1, vI (3 : Int32), vR a2, vI (2 : Int32), vI (2 : Int32), vD d488, .second, vI (3 : Int32), sa470, .second, sb470] [(.int (1 : Int32)), (.int (2 : Int32))])) _
    refine XS.iadd X486.here hx rfl (hb hby d5_113) rfl ?_
    show Steps p.tables e below (T486.setTop (mkF m 114 #[vR a1, vI (3 : Int32), vR a2, vI (2 : Int32), vI (2 : Int32), vD d488, .second, vI (3 : Int32), sa470, .second, sb470] [(.int ((2 : Int32) + (1 : Int32)))])) _
    refine XS.istore X486.here hx rfl (hb hby d5_114) rfl (l' := #[vR a1, vI (3 : Int32), vR a2, vI (2 : Int32), vI (2 : Int32), vD d488, .second, vI ((2 : Int32) + (1 : Int32)), sa470, .second, sb470]) rfl ?_
    exact kt
  clear R487
  have R490 : ∀ tg, Steps p.tables e below (T486.setTop (mkF m 116 #[vR a1, vI (3 : Int32), vR a2, vI (2 : Int32), vI (2 : Int32), vD d488, .second, vI (3 : Int32), sa470, .second, sb470] [])) tg → Steps p.tables e below (s₁.setTop (mkF m 0 #[vR a1, vI (3 : Int32), vR a2, .unset, .unset, .unset, .unset, .unset, .unset, .unset, .unset] [])) tg := R489
  have R491 : ∀ tg, Steps p.tables e below (T486.setTop (mkF m 216 #[vR a1, vI (3 : Int32), vR a2, vI ((2 : Int32) + (1 : Int32)), vI (2 : Int32), vD d488, .second, vI (3 : Int32), sa470, .second, sb470] [])) tg → Steps p.tables e below (s₁.setTop (mkF m 0 #[vR a1, vI (3 : Int32), vR a2, .unset, .unset, .unset, .unset, .unset, .unset, .unset, .unset] [])) tg := by
    intro tg kt
    refine R490 _ ?_
    show Steps p.tables e below (T486.setTop (mkF m 116 #[vR a1, vI (3 : Int32), vR a2, vI (2 : Int32), vI (2 : Int32), vD d488, .second, vI (3 : Int32), sa470, .second, sb470] [])) _
    refine XS.iload X486.here hx rfl (hb hby d5_116) rfl ?_
    refine XS.iloadN X486.here hx rfl (hb hby d5_118) rfl ?_
    show Steps p.tables e below (T486.setTop (mkF m 119 #[vR a1, vI (3 : Int32), vR a2, vI (2 : Int32), vI (2 : Int32), vD d488, .second, vI (3 : Int32), sa470, .second, sb470] [(.int (3 : Int32)), (.int (3 : Int32))])) _
    refine XS.icmpYes X486.here hx rfl (pc0 := 119) (pc' := 210) rfl (hb hby d5_119) rfl (flt (by decide : ¬ ((3 : Int32) < (3 : Int32)))).2.1 (by decide) (by decide) ?_
    show Steps p.tables e below (T486.setTop (mkF m 210 #[vR a1, vI (3 : Int32), vR a2, vI (2 : Int32), vI (2 : Int32), vD d488, .second, vI (3 : Int32), sa470, .second, sb470] [])) _
    refine XS.iinc X486.here hx rfl (hb hby d5_210) rfl (l' := #[vR a1, vI (3 : Int32), vR a2, vI ((2 : Int32) + (1 : Int32)), vI (2 : Int32), vD d488, .second, vI (3 : Int32), sa470, .second, sb470]) rfl ?_
    show Steps p.tables e below (T486.setTop (mkF m 213 #[vR a1, vI (3 : Int32), vR a2, vI ((2 : Int32) + (1 : Int32)), vI (2 : Int32), vD d488, .second, vI (3 : Int32), sa470, .second, sb470] [])) _
    refine XS.goto X486.here hx rfl (pc0 := 213) (pc' := 23) rfl (hb hby d5_213) (by decide) (by decide) ?_
    refine XS.iloadN X486.here hx rfl (hb hby d5_23) rfl ?_
    refine XS.iloadN X486.here hx rfl (hb hby d5_24) rfl ?_
    show Steps p.tables e below (T486.setTop (mkF m 25 #[vR a1, vI (3 : Int32), vR a2, vI ((2 : Int32) + (1 : Int32)), vI (2 : Int32), vD d488, .second, vI (3 : Int32), sa470, .second, sb470] [(.int (3 : Int32)), (.int ((2 : Int32) + (1 : Int32)))])) _
    refine XS.icmpYes X486.here hx rfl (pc0 := 25) (pc' := 216) rfl (hb hby d5_25) rfl (flt (by decide : ¬ (((2 : Int32) + (1 : Int32)) < (3 : Int32)))).2.1 (by decide) (by decide) ?_
    exact kt
  clear R490
  obtain ⟨fs, hr, hrun, hended, hW, hsame⟩ := X486.leave (v := none) (fun _ => rfl)
  refine ⟨_, _, pre0 _ (R491 _ ?_), hrun, hended, _, _, rfl, ?_, ⟨_, rfl⟩, hW, hsame.mono (by decide) (by decide)⟩
  · exact X486.returnOut hx Bd.returns (hb hby d5_216) hr
  · show Q_rm_lu Z a1 (3 : Int32) a2 m0 m1 m2 m3 m4 m5 m6 m7 m8 y0 y1 y2 y3 y4 y5 y6 y7 y8 f1 u4 u5 f2 v7 v8 z3 z4 z5 z6 z7 z8 f3 t8 ka kb h0 n0 _ T486.heap _
    rw [e486]
    exact ⟨rfl, N483, pv, sz_pv, Kk484, E_a1_484, Fs_484, Fl_484, Fp_484, V483b, VP_484⟩
theorem d9_0 : decode prog_76_method_3_code 0 = .ok (.aload_n 1, 1) := by decide +kernel
theorem d9_1 : decode prog_76_method_3_code 1 = .ok (.invokevirtual 31, 3) := by decide +kernel
theorem d9_4 : decode prog_76_method_3_code 4 = .ok (.checkcast 32, 3) := by decide +kernel
theorem d9_7 : decode prog_76_method_3_code 7 = .ok (.astore_n 2, 1) := by decide +kernel
theorem d9_8 : decode prog_76_method_3_code 8 = .ok (.iconst 0, 1) := by decide +kernel
theorem d9_9 : decode prog_76_method_3_code 9 = .ok (.istore_n 3, 1) := by decide +kernel
theorem d9_10 : decode prog_76_method_3_code 10 = .ok (.iload_n 3, 1) := by decide +kernel
theorem d9_11 : decode prog_76_method_3_code 11 = .ok (.aload_n 0, 1) := by decide +kernel
theorem d9_12 : decode prog_76_method_3_code 12 = .ok (.getfield 7, 3) := by decide +kernel
theorem d9_15 : decode prog_76_method_3_code 15 = .ok (.if_icmp .ge 35, 3) := by decide +kernel
theorem d9_18 : decode prog_76_method_3_code 18 = .ok (.aload_n 2, 1) := by decide +kernel
theorem d9_19 : decode prog_76_method_3_code 19 = .ok (.aload_n 0, 1) := by decide +kernel
theorem d9_20 : decode prog_76_method_3_code 20 = .ok (.getfield 17, 3) := by decide +kernel
theorem d9_23 : decode prog_76_method_3_code 23 = .ok (.iload_n 3, 1) := by decide +kernel
theorem d9_24 : decode prog_76_method_3_code 24 = .ok (.iaload, 1) := by decide +kernel
theorem d9_25 : decode prog_76_method_3_code 25 = .ok (.daload, 1) := by decide +kernel
theorem d9_26 : decode prog_76_method_3_code 26 = .ok (.dstore 4, 2) := by decide +kernel
theorem d9_28 : decode prog_76_method_3_code 28 = .ok (.aload_n 2, 1) := by decide +kernel
theorem d9_29 : decode prog_76_method_3_code 29 = .ok (.aload_n 0, 1) := by decide +kernel
theorem d9_30 : decode prog_76_method_3_code 30 = .ok (.getfield 17, 3) := by decide +kernel
theorem d9_33 : decode prog_76_method_3_code 33 = .ok (.iload_n 3, 1) := by decide +kernel
theorem d9_34 : decode prog_76_method_3_code 34 = .ok (.iaload, 1) := by decide +kernel
theorem d9_35 : decode prog_76_method_3_code 35 = .ok (.aload_n 2, 1) := by decide +kernel
theorem d9_36 : decode prog_76_method_3_code 36 = .ok (.iload_n 3, 1) := by decide +kernel
theorem d9_37 : decode prog_76_method_3_code 37 = .ok (.daload, 1) := by decide +kernel
theorem d9_38 : decode prog_76_method_3_code 38 = .ok (.dastore, 1) := by decide +kernel
theorem d9_39 : decode prog_76_method_3_code 39 = .ok (.aload_n 2, 1) := by decide +kernel
theorem d9_40 : decode prog_76_method_3_code 40 = .ok (.iload_n 3, 1) := by decide +kernel
theorem d9_41 : decode prog_76_method_3_code 41 = .ok (.dload 4, 2) := by decide +kernel
theorem d9_43 : decode prog_76_method_3_code 43 = .ok (.dastore, 1) := by decide +kernel
theorem d9_44 : decode prog_76_method_3_code 44 = .ok (.iinc 3 1, 3) := by decide +kernel
theorem d9_47 : decode prog_76_method_3_code 47 = .ok (.goto (-37), 3) := by decide +kernel
theorem d9_50 : decode prog_76_method_3_code 50 = .ok (.iconst 0, 1) := by decide +kernel
theorem d9_51 : decode prog_76_method_3_code 51 = .ok (.istore_n 3, 1) := by decide +kernel
theorem d9_52 : decode prog_76_method_3_code 52 = .ok (.iload_n 3, 1) := by decide +kernel
theorem d9_53 : decode prog_76_method_3_code 53 = .ok (.aload_n 0, 1) := by decide +kernel
theorem d9_54 : decode prog_76_method_3_code 54 = .ok (.getfield 7, 3) := by decide +kernel
theorem d9_57 : decode prog_76_method_3_code 57 = .ok (.if_icmp .ge 58, 3) := by decide +kernel
theorem d9_60 : decode prog_76_method_3_code 60 = .ok (.aload_n 2, 1) := by decide +kernel
theorem d9_61 : decode prog_76_method_3_code 61 = .ok (.iload_n 3, 1) := by decide +kernel
theorem d9_62 : decode prog_76_method_3_code 62 = .ok (.daload, 1) := by decide +kernel
theorem d9_63 : decode prog_76_method_3_code 63 = .ok (.dstore 4, 2) := by decide +kernel
theorem d9_65 : decode prog_76_method_3_code 65 = .ok (.iconst 0, 1) := by decide +kernel
theorem d9_66 : decode prog_76_method_3_code 66 = .ok (.istore 6, 2) := by decide +kernel
theorem d9_68 : decode prog_76_method_3_code 68 = .ok (.iload 6, 2) := by decide +kernel
theorem d9_70 : decode prog_76_method_3_code 70 = .ok (.iload_n 3, 1) := by decide +kernel
theorem d9_71 : decode prog_76_method_3_code 71 = .ok (.if_icmp .ge 33, 3) := by decide +kernel
theorem d9_104 : decode prog_76_method_3_code 104 = .ok (.aload_n 2, 1) := by decide +kernel
theorem d9_105 : decode prog_76_method_3_code 105 = .ok (.iload_n 3, 1) := by decide +kernel
theorem d9_106 : decode prog_76_method_3_code 106 = .ok (.dload 4, 2) := by decide +kernel
theorem d9_108 : decode prog_76_method_3_code 108 = .ok (.dastore, 1) := by decide +kernel
theorem d9_109 : decode prog_76_method_3_code 109 = .ok (.iinc 3 1, 3) := by decide +kernel
theorem d9_112 : decode prog_76_method_3_code 112 = .ok (.goto (-60), 3) := by decide +kernel
theorem d9_74 : decode prog_76_method_3_code 74 = .ok (.dload 4, 2) := by decide +kernel
theorem d9_76 : decode prog_76_method_3_code 76 = .ok (.aload_n 0, 1) := by decide +kernel
theorem d9_77 : decode prog_76_method_3_code 77 = .ok (.getfield 13, 3) := by decide +kernel
theorem d9_80 : decode prog_76_method_3_code 80 = .ok (.iload_n 3, 1) := by decide +kernel
theorem d9_81 : decode prog_76_method_3_code 81 = .ok (.aload_n 0, 1) := by decide +kernel
theorem d9_82 : decode prog_76_method_3_code 82 = .ok (.getfield 7, 3) := by decide +kernel
theorem d9_85 : decode prog_76_method_3_code 85 = .ok (.imul, 1) := by decide +kernel
theorem d9_86 : decode prog_76_method_3_code 86 = .ok (.iload 6, 2) := by decide +kernel
theorem d9_88 : decode prog_76_method_3_code 88 = .ok (.iadd, 1) := by decide +kernel
theorem d9_89 : decode prog_76_method_3_code 89 = .ok (.daload, 1) := by decide +kernel
theorem d9_90 : decode prog_76_method_3_code 90 = .ok (.aload_n 2, 1) := by decide +kernel
theorem d9_91 : decode prog_76_method_3_code 91 = .ok (.iload 6, 2) := by decide +kernel
theorem d9_93 : decode prog_76_method_3_code 93 = .ok (.daload, 1) := by decide +kernel
theorem d9_94 : decode prog_76_method_3_code 94 = .ok (.dmul, 1) := by decide +kernel
theorem d9_95 : decode prog_76_method_3_code 95 = .ok (.dsub, 1) := by decide +kernel
theorem d9_96 : decode prog_76_method_3_code 96 = .ok (.dstore 4, 2) := by decide +kernel
theorem d9_98 : decode prog_76_method_3_code 98 = .ok (.iinc 6 1, 3) := by decide +kernel
theorem d9_101 : decode prog_76_method_3_code 101 = .ok (.goto (-33), 3) := by decide +kernel
theorem d9_115 : decode prog_76_method_3_code 115 = .ok (.aload_n 0, 1) := by decide +kernel
theorem d9_116 : decode prog_76_method_3_code 116 = .ok (.getfield 7, 3) := by decide +kernel
theorem d9_119 : decode prog_76_method_3_code 119 = .ok (.iconst 1, 1) := by decide +kernel
theorem d9_120 : decode prog_76_method_3_code 120 = .ok (.isub, 1) := by decide +kernel
theorem d9_121 : decode prog_76_method_3_code 121 = .ok (.istore_n 3, 1) := by decide +kernel
theorem d9_122 : decode prog_76_method_3_code 122 = .ok (.iload_n 3, 1) := by decide +kernel
theorem d9_123 : decode prog_76_method_3_code 123 = .ok (.ifCond .lt 77, 3) := by decide +kernel
theorem d9_126 : decode prog_76_method_3_code 126 = .ok (.aload_n 2, 1) := by decide +kernel
theorem d9_127 : decode prog_76_method_3_code 127 = .ok (.iload_n 3, 1) := by decide +kernel
theorem d9_128 : decode prog_76_method_3_code 128 = .ok (.daload, 1) := by decide +kernel
theorem d9_129 : decode prog_76_method_3_code 129 = .ok (.dstore 4, 2) := by decide +kernel
theorem d9_131 : decode prog_76_method_3_code 131 = .ok (.iload_n 3, 1) := by decide +kernel
theorem d9_132 : decode prog_76_method_3_code 132 = .ok (.iconst 1, 1) := by decide +kernel
theorem d9_133 : decode prog_76_method_3_code 133 = .ok (.iadd, 1) := by decide +kernel
theorem d9_134 : decode prog_76_method_3_code 134 = .ok (.istore 6, 2) := by decide +kernel
theorem d9_136 : decode prog_76_method_3_code 136 = .ok (.iload 6, 2) := by decide +kernel
theorem d9_138 : decode prog_76_method_3_code 138 = .ok (.aload_n 0, 1) := by decide +kernel
theorem d9_139 : decode prog_76_method_3_code 139 = .ok (.getfield 7, 3) := by decide +kernel
theorem d9_142 : decode prog_76_method_3_code 142 = .ok (.if_icmp .ge 33, 3) := by decide +kernel
theorem d9_175 : decode prog_76_method_3_code 175 = .ok (.aload_n 2, 1) := by decide +kernel
theorem d9_176 : decode prog_76_method_3_code 176 = .ok (.iload_n 3, 1) := by decide +kernel
theorem d9_177 : decode prog_76_method_3_code 177 = .ok (.dload 4, 2) := by decide +kernel
theorem d9_179 : decode prog_76_method_3_code 179 = .ok (.aload_n 0, 1) := by decide +kernel
theorem d9_180 : decode prog_76_method_3_code 180 = .ok (.getfield 13, 3) := by decide +kernel
theorem d9_183 : decode prog_76_method_3_code 183 = .ok (.iload_n 3, 1) := by decide +kernel
theorem d9_184 : decode prog_76_method_3_code 184 = .ok (.aload_n 0, 1) := by decide +kernel
theorem d9_185 : decode prog_76_method_3_code 185 = .ok (.getfield 7, 3) := by decide +kernel
theorem d9_188 : decode prog_76_method_3_code 188 = .ok (.imul, 1) := by decide +kernel
theorem d9_189 : decode prog_76_method_3_code 189 = .ok (.iload_n 3, 1) := by decide +kernel
theorem d9_190 : decode prog_76_method_3_code 190 = .ok (.iadd, 1) := by decide +kernel
theorem d9_191 : decode prog_76_method_3_code 191 = .ok (.daload, 1) := by decide +kernel
theorem d9_192 : decode prog_76_method_3_code 192 = .ok (.ddiv, 1) := by decide +kernel
theorem d9_193 : decode prog_76_method_3_code 193 = .ok (.dastore, 1) := by decide +kernel
theorem d9_194 : decode prog_76_method_3_code 194 = .ok (.iinc 3 (-1), 3) := by decide +kernel
theorem d9_197 : decode prog_76_method_3_code 197 = .ok (.goto (-75), 3) := by decide +kernel
theorem d9_145 : decode prog_76_method_3_code 145 = .ok (.dload 4, 2) := by decide +kernel
theorem d9_147 : decode prog_76_method_3_code 147 = .ok (.aload_n 0, 1) := by decide +kernel
theorem d9_148 : decode prog_76_method_3_code 148 = .ok (.getfield 13, 3) := by decide +kernel
theorem d9_151 : decode prog_76_method_3_code 151 = .ok (.iload_n 3, 1) := by decide +kernel
theorem d9_152 : decode prog_76_method_3_code 152 = .ok (.aload_n 0, 1) := by decide +kernel
theorem d9_153 : decode prog_76_method_3_code 153 = .ok (.getfield 7, 3) := by decide +kernel
theorem d9_156 : decode prog_76_method_3_code 156 = .ok (.imul, 1) := by decide +kernel
theorem d9_157 : decode prog_76_method_3_code 157 = .ok (.iload 6, 2) := by decide +kernel
theorem d9_159 : decode prog_76_method_3_code 159 = .ok (.iadd, 1) := by decide +kernel
theorem d9_160 : decode prog_76_method_3_code 160 = .ok (.daload, 1) := by decide +kernel
theorem d9_161 : decode prog_76_method_3_code 161 = .ok (.aload_n 2, 1) := by decide +kernel
theorem d9_162 : decode prog_76_method_3_code 162 = .ok (.iload 6, 2) := by decide +kernel
theorem d9_164 : decode prog_76_method_3_code 164 = .ok (.daload, 1) := by decide +kernel
theorem d9_165 : decode prog_76_method_3_code 165 = .ok (.dmul, 1) := by decide +kernel
theorem d9_166 : decode prog_76_method_3_code 166 = .ok (.dsub, 1) := by decide +kernel
theorem d9_167 : decode prog_76_method_3_code 167 = .ok (.dstore 4, 2) := by decide +kernel
theorem d9_169 : decode prog_76_method_3_code 169 = .ok (.iinc 6 1, 3) := by decide +kernel
theorem d9_172 : decode prog_76_method_3_code 172 = .ok (.goto (-36), 3) := by decide +kernel
theorem d9_200 : decode prog_76_method_3_code 200 = .ok (.aload_n 2, 1) := by decide +kernel
theorem d9_201 : decode prog_76_method_3_code 201 = .ok (.areturn, 1) := by decide +kernel
theorem ef_rm_so (m : MethodId) (a1 : Addr) (a2 : Addr) : entryFrame m #[(.ref a1), (.ref a2)] 7 = mkF m 0 #[vR a1, vR a2, .unset, .unset, .unset, .unset, .unset] [] := by first | (simp [entryFrame, mkF, argsToLocals, Value.category]; done) | rfl
def Q_rm_so (Z : State) (a1 : Addr) (a2 : Addr) (a3 : Addr) (a4 : Addr) (c0 : Int) (c1 : Int) (c2 : Int) (c3 : Int) (c4 : Int) (c5 : Int) (c6 : Int) (c7 : Int) (c8 : Int) (r0 : Int) (r1 : Int) (r2 : Int) (w0 : Int) (w1 : Int) (w2 : Int) (g1 : Int) (gx : Int) (g2 : Int) (o2 : Int) (px : Int) (o1 : Int) (py : Int) (pz : Int) (o0 : Int) (ka : Nat) (kb : Nat) (h0 : Heap) (n0 : Nat) (v : Option Value) (h : Heap) (L : List Loc) : Prop := ∃ nw : Addr, v = some (.ref nw) ∧ Fr n0 L ∧ h0.size ≤ nw ∧ Keep h0 h [] ∧ VD Z h nw 3 [o0, o1, o2]
set_option maxRecDepth 65536 in
set_option maxHeartbeats 40000000 in
theorem rm_so (l : Launch) (Z : State) (a0 : Array Value) (hw : ∀ d ∈ tables_1, d.before a0 Z = true) (ws : List Jvm.Cond) (a1 : Addr) (a2 : Addr) (a3 : Addr) (a4 : Addr) (c0 : Int) (c1 : Int) (c2 : Int) (c3 : Int) (c4 : Int) (c5 : Int) (c6 : Int) (c7 : Int) (c8 : Int) (r0 : Int) (r1 : Int) (r2 : Int) (w0 : Int) (w1 : Int) (w2 : Int) (g1 : Int) (gx : Int) (g2 : Int) (o2 : Int) (px : Int) (o1 : Int) (py : Int) (pz : Int) (o0 : Int) (ka : Nat) (kb : Nat) (h0 : Heap) (n0 : Nat) (Z0 : n0 ≤ h0.size) (Fs : Fld Z h0 a1 "com/example/inexact_odds/inexactodds/reach/DenseLu" "size" "I" (.int (3 : Int32))) (Fl : Fld Z h0 a1 "com/example/inexact_odds/inexactodds/reach/DenseLu" "lu" "[D" (.ref a3)) (Fp : Fld Z h0 a1 "com/example/inexact_odds/inexactodds/reach/DenseLu" "pivot" "[I" (.ref a4)) (VL : VD Z h0 a3 9 [c0, c1, c2, c3, c4, c5, c6, c7, c8]) (VP : AV Z h0 a4 .int 3 (fun j => .int ((own_pv ka kb) j))) (VR : VD Z h0 a2 3 [r0, r1, r2]) (ER : Exa Z h0 a2 "[D") (hka : ka < 3) (hkb : kb < 3) (hW : own_s1 (own_s1 (own_s1 [r0, r1, r2] 0 ka) 1 kb) 2 2 = [w0, w1, w2]) (q1 : own_M1 c3 w0 w1 g1) (q2 : own_M1 c6 w0 w2 gx) (q3 : own_M1 c7 g1 gx g2) (q4 : own_D1 g2 c8 o2) (q5 : own_M1 c5 o2 g1 px) (q6 : own_D1 px c4 o1) (q7 : own_M1 c1 o1 w0 py) (q8 : own_M1 c2 o2 py pz) (q9 : own_D1 pz c0 o0) :
    MetFree l (⟨"com/example/inexact_odds/inexactodds/reach/DenseLu", "solve", "([D)[D"⟩ : MethodName) (head1 (Jvm.Cond.code (⟨"com/example/inexact_odds/inexactodds/reach/DenseLu", "solve", "([D)[D"⟩ : MethodName) prog_76_method_3_code 7 (some (.array .double)) :: ws) ({ frames := 1, cells := 1, slots := 3, locals := 14 } : Room)) (fun a U => a = #[(.ref a1), (.ref a2)] ∧ Z.Warmed39 U.vm ∧ U.heap = h0) (fun _ _ _ _ _ => True) (fun _ U oC U' => ∃ v L, oC = .returned v ∧ Q_rm_so Z a1 a2 a3 a4 c0 c1 c2 c3 c4 c5 c6 c7 c8 r0 r1 r2 w0 w1 w2 g1 gx g2 o2 px o1 py pz o0 ka kb h0 n0 v U'.heap L ∧ FrameEnd U oC U' L ({ frames := 1, cells := 1, slots := 3, locals := 14 } : Room).cells ({ frames := 1, cells := 1, slots := 3, locals := 14 } : Room).slots) := by
  refine MetFree.of_bodySF (plainFor_of_name pn_1) hisR ?_
  intro p e s m args below meth c s₁ Bd hml0 hP hK
  obtain ⟨rfl, hZ, hh⟩ := hP
  have hx := Bd.exec
  have hby := Bd.bytes
  have hml : c.maxLocals = 7 := hml0
  have hown : s.vm.findClass "com/example/inexact_odds/inexactodds/reach/DenseLu" = some m.cls := findClass_of_methodNamed Bd.named
  have hnm := (name_of_methodNamed Bd.named Bd.method).1
  have X0 : Stand p l e ({ frames := 1, cells := 1, slots := 3, locals := 14 } : Room) s m #[(.ref a1), (.ref a2)] below meth c s₁ [] 0 0 := Stand.of_body Bd
  have e0 : s₁.heap = h0 := by rw [← hh, Bd.state]; rfl
  have N0 := Fr.nil n0
  have pre0 : ∀ tg, Steps p.tables e below (s₁.setTop (mkF m 0 #[vR a1, vR a2, .unset, .unset, .unset, .unset, .unset] [])) tg → Steps p.tables e below (s₁.setTop (entryFrame m #[(.ref a1), (.ref a2)] 7)) tg := fun t k => castTop (ef_rm_so m a1 a2) k
  have pre00 : ∀ tg, Steps p.tables e below (s₁.setTop (mkF m 0 #[vR a1, vR a2, .unset, .unset, .unset, .unset, .unset] [])) tg → Steps p.tables e below (s₁.setTop (mkF m 0 #[vR a1, vR a2, .unset, .unset, .unset, .unset, .unset] [])) tg := fun _ k => k
  obtain ⟨fr, VRa, VRl, VRd⟩ := id VR
  have R492 : ∀ tg, Steps p.tables e below (s₁.setTop (mkF m 1 #[vR a1, vR a2, .unset, .unset, .unset, .unset, .unset] [(.ref a2)])) tg → Steps p.tables e below (s₁.setTop (mkF m 0 #[vR a1, vR a2, .unset, .unset, .unset, .unset, .unset] [])) tg := by
    intro tg kt
    refine pre00 _ ?_
    show Steps p.tables e below (s₁.setTop (mkF m 0 #[vR a1, vR a2, .unset, .unset, .unset, .unset, .unset] [])) _
    refine XS.aloadN X0.here hx rfl (hb hby d9_0) rfl rfl ?_
    exact kt
  obtain ⟨cl493, Ar493, Sz493, Hv493⟩ := id VRa
  obtain ⟨T493, h493, X493, e493, E493, A493, Q493, st493⟩ := cloneA X0 hx hZ hown (ad := "[D") (hw _ (List.mem_of_getElem? (i := 46) rfl)) (hw _ (List.mem_of_getElem? (i := 47) rfl)) (hw _ (List.mem_of_getElem? (i := 51) rfl)) (hw _ (List.mem_of_getElem? (i := 49) rfl)) (hw _ (List.mem_of_getElem? (i := 50) rfl)) (hw _ (List.mem_of_getElem? (i := 52) rfl)) e0 Ar493 ER (fitC_of Ar493 fun i hi v hv => by rw [(Hv493 i (by omega)).1] at hv; cases hv; exact (Hv493 i (by omega)).2) (g := (mkF m 1 #[vR a1, vR a2, .unset, .unset, .unset, .unset, .unset] [(.ref a2)])) rfl (by rw [hml]; rfl) rfl (hb hby d9_1) (by decide) (W := 0) (cap := 3) (by show 2 * 0 + _ ≤ _; exact Nat.le_of_eq rfl) (by decide) (Nat.le_of_eq Sz493) (by decide) (by decide)
  obtain ⟨nw, g493⟩ : ∃ z, z = h0.size := ⟨_, rfl⟩
  rw [← g493] at A493 Q493 st493
  have g_nw : n0 ≤ nw := Nat.le_trans Z0 (Nat.le_of_eq g493.symm)
  have sz_nw : h0.size ≤ nw := Nat.le_trans (Keep.refl h0 []).1 (Nat.le_of_eq g493.symm)
  have ne_a1_nw : a1 ≠ nw := Nat.ne_of_lt (Nat.lt_of_lt_of_le Fs.lt (Nat.le_of_eq g493.symm))
  have ne_a3_nw : a3 ≠ nw := Nat.ne_of_lt (Nat.lt_of_lt_of_le VL.lt (Nat.le_of_eq g493.symm))
  have ne_a4_nw : a4 ≠ nw := Nat.ne_of_lt (Nat.lt_of_lt_of_le VP.lt (Nat.le_of_eq g493.symm))
  have ne_a2_nw : a2 ≠ nw := Nat.ne_of_lt (Nat.lt_of_lt_of_le VRa.lt (Nat.le_of_eq g493.symm))
  have Fs_493 := Fs.ext E493
  have Fl_493 := Fl.ext E493
  have Fp_493 := Fp.ext E493
  have VL_493 := VL.ext E493
  have VP_493 := VP.ext E493
  have VRa_493 := VRa.ext E493
  have E_a2_493 := ER.ext E493
  have Zs493 : n0 ≤ h493.size := Nat.le_trans Z0 E493.1
  have Ke493 : Keep h0 h493 [] := Keep.ext (Keep.refl h0 []) E493
  have VBa : AV Z h493 nw .double 3 (fun j => .double (fr j)) := ⟨_, A493, Sz493, Hv493⟩
  have E_nw := Q493
  have R494 : ∀ tg, Steps p.tables e below (T493.setTop (mkF m 4 #[vR a1, vR a2, .unset, .unset, .unset, .unset, .unset] [(.ref nw)])) tg → Steps p.tables e below (s₁.setTop (mkF m 0 #[vR a1, vR a2, .unset, .unset, .unset, .unset, .unset] [])) tg := by
    intro tg kt
    refine R492 _ ?_
    refine st493 _ ?_
    exact kt
  clear R492 st493
  obtain ⟨T495, X495, e495, st495⟩ := castY X493 hx hZ hown (hw _ (List.mem_of_getElem? (i := 53) rfl)) e493 (Ins.self E_nw) (g := (mkF m 4 #[vR a1, vR a2, .unset, .unset, .unset, .unset, .unset] [(.ref nw)])) rfl rfl (hb hby d9_4)
  have R496 : ∀ tg, Steps p.tables e below (T495.setTop (mkF m 7 #[vR a1, vR a2, .unset, .unset, .unset, .unset, .unset] [(.ref nw)])) tg → Steps p.tables e below (s₁.setTop (mkF m 0 #[vR a1, vR a2, .unset, .unset, .unset, .unset, .unset] [])) tg := by
    intro tg kt
    refine R494 _ ?_
    refine st495 _ ?_
    exact kt
  clear R494 st495
  have VB : VD Z h493 nw 3 [r0, r1, r2] := ⟨fr, VBa, VRl, VRd⟩
  have i0 := own_pv0 (κ1 := kb) hka
  have i1 := own_pv1 (κ := ka) hkb
  have i2 := own_pv2 (κ := ka) (κ1 := kb)
  have R497 : ∀ tg, Steps p.tables e below (T495.setTop (mkF m 12 #[vR a1, vR a2, vR nw, vI (0 : Int32), .unset, .unset, .unset] [(.ref a1), (.int (0 : Int32))])) tg → Steps p.tables e below (s₁.setTop (mkF m 0 #[vR a1, vR a2, .unset, .unset, .unset, .unset, .unset] [])) tg := by
    intro tg kt
    refine R496 _ ?_
    show Steps p.tables e below (T495.setTop (mkF m 7 #[vR a1, vR a2, .unset, .unset, .unset, .unset, .unset] [(.ref nw)])) _
    refine XS.astoreN X495.here hx rfl (hb hby d9_7) rfl rfl (l' := #[vR a1, vR a2, vR nw, .unset, .unset, .unset, .unset]) rfl ?_
    refine XS.iconst X495.here hx rfl (hb hby d9_8) ?_
    show Steps p.tables e below (T495.setTop (mkF m 9 #[vR a1, vR a2, vR nw, .unset, .unset, .unset, .unset] [(.int (0 : Int32))])) _
    refine XS.istoreN X495.here hx rfl (hb hby d9_9) rfl (l' := #[vR a1, vR a2, vR nw, vI (0 : Int32), .unset, .unset, .unset]) rfl ?_
    refine XS.iloadN X495.here hx rfl (hb hby d9_10) rfl ?_
    refine XS.aloadN X495.here hx rfl (hb hby d9_11) rfl rfl ?_
    exact kt
  clear R496
  obtain ⟨T498, X498, e498, st498⟩ := getF X495 hx hZ hown (host := "") (Or.inl (hw _ (List.mem_of_getElem? (i := 26) rfl))) Via.refl e495 Fs_493 (g := (mkF m 12 #[vR a1, vR a2, vR nw, vI (0 : Int32), .unset, .unset, .unset] [(.ref a1), (.int (0 : Int32))])) rfl rfl (hb hby d9_12)
  have R499 : ∀ tg, Steps p.tables e below (T498.setTop (mkF m 20 #[vR a1, vR a2, vR nw, vI (0 : Int32), .unset, .unset, .unset] [(.ref a1), (.ref nw)])) tg → Steps p.tables e below (s₁.setTop (mkF m 0 #[vR a1, vR a2, .unset, .unset, .unset, .unset, .unset] [])) tg := by
    intro tg kt
    refine R497 _ ?_
    refine st498 _ ?_
    show Steps p.tables e below (T498.setTop (mkF m 15 #[vR a1, vR a2, vR nw, vI (0 : Int32), .unset, .unset, .unset] [(.int (3 : Int32)), (.int (0 : Int32))])) _
    refine XS.icmpNo X498.here hx rfl (hb hby d9_15) rfl (tlt (by decide : (0 : Int32) < (3 : Int32))).2.1 ?_
    refine XS.aloadN X498.here hx rfl (hb hby d9_18) rfl rfl ?_
    refine XS.aloadN X498.here hx rfl (hb hby d9_19) rfl rfl ?_
    exact kt
  clear R497 st498
  obtain ⟨T500, X500, e500, st500⟩ := getF X498 hx hZ hown (host := "") (Or.inl (hw _ (List.mem_of_getElem? (i := 31) rfl))) Via.refl e498 Fp_493 (g := (mkF m 20 #[vR a1, vR a2, vR nw, vI (0 : Int32), .unset, .unset, .unset] [(.ref a1), (.ref nw)])) rfl rfl (hb hby d9_20)
  have R501 : ∀ tg, Steps p.tables e below (T500.setTop (mkF m 24 #[vR a1, vR a2, vR nw, vI (0 : Int32), .unset, .unset, .unset] [(.int (0 : Int32)), (.ref a4), (.ref nw)])) tg → Steps p.tables e below (s₁.setTop (mkF m 0 #[vR a1, vR a2, .unset, .unset, .unset, .unset, .unset] [])) tg := by
    intro tg kt
    refine R499 _ ?_
    refine st500 _ ?_
    show Steps p.tables e below (T500.setTop (mkF m 23 #[vR a1, vR a2, vR nw, vI (0 : Int32), .unset, .unset, .unset] [(.ref a4), (.ref nw)])) _
    refine XS.iloadN X500.here hx rfl (hb hby d9_23) rfl ?_
    exact kt
  clear R499 st500
  obtain ⟨cl502, Ar502, hin502, hat502⟩ := VP_493.at (j := (0 : Int32)) (k := 0) (by decide) rfl (by decide)
  have R503 : ∀ tg, Steps p.tables e below (T500.setTop (mkF m 25 #[vR a1, vR a2, vR nw, vI (0 : Int32), .unset, .unset, .unset] [(.int ((own_pv ka kb) 0)), (.ref nw)])) tg → Steps p.tables e below (s₁.setTop (mkF m 0 #[vR a1, vR a2, .unset, .unset, .unset, .unset, .unset] [])) tg := by
    intro tg kt
    refine R501 _ ?_
    show Steps p.tables e below (T500.setTop (mkF m 24 #[vR a1, vR a2, vR nw, vI (0 : Int32), .unset, .unset, .unset] [(.int (0 : Int32)), (.ref a4), (.ref nw)])) _
    refine X500.iaload hx (j := (0 : Int32)) (v := (.int ((own_pv ka kb) 0))) (by rw [e500]; exact Ar502.1) (State.isArrayOf_alike hZ.alike Ar502.2.1) Ar502.2.2 hin502 hat502 (g := (mkF m 24 #[vR a1, vR a2, vR nw, vI (0 : Int32), .unset, .unset, .unset] [(.int (0 : Int32)), (.ref a4), (.ref nw)])) rfl rfl (hb hby d9_24) _ ?_
    exact kt
  clear R501
  obtain ⟨cl504, d504, Ar504, hin504, hat504, G504⟩ := VB.at (j := ((own_pv ka kb) 0)) (k := ka) i0.1 i0.2 hka
  have H504 : DR 2 ([r0, r1, r2].getD ka 0) d504 := G504
  have R505 : ∀ tg, Steps p.tables e below (T500.setTop (mkF m 30 #[vR a1, vR a2, vR nw, vI (0 : Int32), vD d504, .second, .unset] [(.ref a1), (.ref nw)])) tg → Steps p.tables e below (s₁.setTop (mkF m 0 #[vR a1, vR a2, .unset, .unset, .unset, .unset, .unset] [])) tg := by
    intro tg kt
    refine R503 _ ?_
    show Steps p.tables e below (T500.setTop (mkF m 25 #[vR a1, vR a2, vR nw, vI (0 : Int32), .unset, .unset, .unset] [(.int ((own_pv ka kb) 0)), (.ref nw)])) _
    refine X500.daload hx (j := ((own_pv ka kb) 0)) (v := (.double d504)) (by rw [e500]; exact Ar504.1) (State.isArrayOf_alike hZ.alike Ar504.2.1) Ar504.2.2 hin504 hat504 (g := (mkF m 25 #[vR a1, vR a2, vR nw, vI (0 : Int32), .unset, .unset, .unset] [(.int ((own_pv ka kb) 0)), (.ref nw)])) rfl rfl (hb hby d9_25) _ ?_
    show Steps p.tables e below (T500.setTop (mkF m 26 #[vR a1, vR a2, vR nw, vI (0 : Int32), .unset, .unset, .unset] [(.double d504)])) _
    refine XS.dstore X500.here hx rfl (hb hby d9_26) rfl (l' := #[vR a1, vR a2, vR nw, vI (0 : Int32), vD d504, .second, .unset]) rfl ?_
    refine XS.aloadN X500.here hx rfl (hb hby d9_28) rfl rfl ?_
    refine XS.aloadN X500.here hx rfl (hb hby d9_29) rfl rfl ?_
    exact kt
  clear R503
  obtain ⟨T506, X506, e506, st506⟩ := getF X500 hx hZ hown (host := "") (Or.inl (hw _ (List.mem_of_getElem? (i := 31) rfl))) Via.refl e500 Fp_493 (g := (mkF m 30 #[vR a1, vR a2, vR nw, vI (0 : Int32), vD d504, .second, .unset] [(.ref a1), (.ref nw)])) rfl rfl (hb hby d9_30)
  have R507 : ∀ tg, Steps p.tables e below (T506.setTop (mkF m 34 #[vR a1, vR a2, vR nw, vI (0 : Int32), vD d504, .second, .unset] [(.int (0 : Int32)), (.ref a4), (.ref nw)])) tg → Steps p.tables e below (s₁.setTop (mkF m 0 #[vR a1, vR a2, .unset, .unset, .unset, .unset, .unset] [])) tg := by
    intro tg kt
    refine R505 _ ?_
    refine st506 _ ?_
    show Steps p.tables e below (T506.setTop (mkF m 33 #[vR a1, vR a2, vR nw, vI (0 : Int32), vD d504, .second, .unset] [(.ref a4), (.ref nw)])) _
    refine XS.iloadN X506.here hx rfl (hb hby d9_33) rfl ?_
    exact kt
  clear R505 st506
  obtain ⟨cl508, Ar508, hin508, hat508⟩ := VP_493.at (j := (0 : Int32)) (k := 0) (by decide) rfl (by decide)
  have R509 : ∀ tg, Steps p.tables e below (T506.setTop (mkF m 37 #[vR a1, vR a2, vR nw, vI (0 : Int32), vD d504, .second, .unset] [(.int (0 : Int32)), (.ref nw), (.int ((own_pv ka kb) 0)), (.ref nw)])) tg → Steps p.tables e below (s₁.setTop (mkF m 0 #[vR a1, vR a2, .unset, .unset, .unset, .unset, .unset] [])) tg := by
    intro tg kt
    refine R507 _ ?_
    show Steps p.tables e below (T506.setTop (mkF m 34 #[vR a1, vR a2, vR nw, vI (0 : Int32), vD d504, .second, .unset] [(.int (0 : Int32)), (.ref a4), (.ref nw)])) _
    refine X506.iaload hx (j := (0 : Int32)) (v := (.int ((own_pv ka kb) 0))) (by rw [e506]; exact Ar508.1) (State.isArrayOf_alike hZ.alike Ar508.2.1) Ar508.2.2 hin508 hat508 (g := (mkF m 34 #[vR a1, vR a2, vR nw, vI (0 : Int32), vD d504, .second, .unset] [(.int (0 : Int32)), (.ref a4), (.ref nw)])) rfl rfl (hb hby d9_34) _ ?_
    refine XS.aloadN X506.here hx rfl (hb hby d9_35) rfl rfl ?_
    refine XS.iloadN X506.here hx rfl (hb hby d9_36) rfl ?_
    exact kt
  clear R507
  obtain ⟨cl510, d510, Ar510, hin510, hat510, G510⟩ := VB.at (j := (0 : Int32)) (k := 0) (by decide) rfl (by decide)
  have H510 : DR 2 ([r0, r1, r2].getD 0 0) d510 := G510
  have R511 : ∀ tg, Steps p.tables e below (T506.setTop (mkF m 38 #[vR a1, vR a2, vR nw, vI (0 : Int32), vD d504, .second, .unset] [(.double d510), (.int ((own_pv ka kb) 0)), (.ref nw)])) tg → Steps p.tables e below (s₁.setTop (mkF m 0 #[vR a1, vR a2, .unset, .unset, .unset, .unset, .unset] [])) tg := by
    intro tg kt
    refine R509 _ ?_
    show Steps p.tables e below (T506.setTop (mkF m 37 #[vR a1, vR a2, vR nw, vI (0 : Int32), vD d504, .second, .unset] [(.int (0 : Int32)), (.ref nw), (.int ((own_pv ka kb) 0)), (.ref nw)])) _
    refine X506.daload hx (j := (0 : Int32)) (v := (.double d510)) (by rw [e506]; exact Ar510.1) (State.isArrayOf_alike hZ.alike Ar510.2.1) Ar510.2.2 hin510 hat510 (g := (mkF m 37 #[vR a1, vR a2, vR nw, vI (0 : Int32), vD d504, .second, .unset] [(.int (0 : Int32)), (.ref nw), (.int ((own_pv ka kb) 0)), (.ref nw)])) rfl rfl (hb hby d9_37) _ ?_
    exact kt
  clear R509
  obtain ⟨cl512, -, Ar512, hin512, -, -⟩ := VB.at (j := ((own_pv ka kb) 0)) (k := ka) i0.1 i0.2 hka
  obtain ⟨T513, h513, X513, e513, W513, st513⟩ := stD X506 hx hZ e506 Ar512 (j := ((own_pv ka kb) 0)) hin512 (g := (mkF m 38 #[vR a1, vR a2, vR nw, vI (0 : Int32), vD d504, .second, .unset] [(.double d510), (.int ((own_pv ka kb) 0)), (.ref nw)])) rfl rfl (hb hby d9_38)
  have N513 := Fr.snoc X513 N0 g_nw
  rw [show (((own_pv ka kb) 0) : Int32).toNatClampNeg = ka from i0.2] at W513
  have VB_513 : VD Z h513 nw 3 ([r0, r1, r2].set ka ([r0, r1, r2].getD 0 0)) := VB.set W513 H510
  have Fs_513 := Fs_493.other W513 (Or.inl ne_a1_nw)
  have Fl_513 := Fl_493.other W513 (Or.inl ne_a1_nw)
  have Fp_513 := Fp_493.other W513 (Or.inl ne_a1_nw)
  have VL_513 := VL_493.other W513 ne_a3_nw
  have VP_513 := VP_493.other W513 ne_a4_nw
  clear Fs_493 Fl_493 Fp_493 VL_493 VP_493
  have Zs513 : n0 ≤ h513.size := Nat.le_trans Zs493 (Keep.of_wr W513).1
  have Kw513 : Keep h0 h513 [] := Keep.wr Ke493 W513 (Or.inr sz_nw)
  have R514 : ∀ tg, Steps p.tables e below (T513.setTop (mkF m 43 #[vR a1, vR a2, vR nw, vI (0 : Int32), vD d504, .second, .unset] [(.double d504), (.int (0 : Int32)), (.ref nw)])) tg → Steps p.tables e below (s₁.setTop (mkF m 0 #[vR a1, vR a2, .unset, .unset, .unset, .unset, .unset] [])) tg := by
    intro tg kt
    refine R511 _ ?_
    refine st513 _ ?_
    refine XS.aloadN X513.here hx rfl (hb hby d9_39) rfl rfl ?_
    refine XS.iloadN X513.here hx rfl (hb hby d9_40) rfl ?_
    show Steps p.tables e below (T513.setTop (mkF m 41 #[vR a1, vR a2, vR nw, vI (0 : Int32), vD d504, .second, .unset] [(.int (0 : Int32)), (.ref nw)])) _
    refine XS.dload X513.here hx rfl (hb hby d9_41) rfl ?_
    exact kt
  clear R511 st513
  obtain ⟨cl515, -, Ar515, hin515, -, -⟩ := VB_513.at (j := (0 : Int32)) (k := 0) (by decide) rfl (by decide)
  obtain ⟨T516, h516, X516, e516, W516, st516⟩ := stD X513 hx hZ e513 Ar515 (j := (0 : Int32)) hin515 (g := (mkF m 43 #[vR a1, vR a2, vR nw, vI (0 : Int32), vD d504, .second, .unset] [(.double d504), (.int (0 : Int32)), (.ref nw)])) rfl rfl (hb hby d9_43)
  have N516 := Fr.snoc X516 N513 g_nw
  rw [show ((0 : Int32) : Int32).toNatClampNeg = 0 from rfl] at W516
  have VB_516 : VD Z h516 nw 3 (own_s1 [r0, r1, r2] 0 ka) := VB_513.set W516 H504
  have Fs_516 := Fs_513.other W516 (Or.inl ne_a1_nw)
  have Fl_516 := Fl_513.other W516 (Or.inl ne_a1_nw)
  have Fp_516 := Fp_513.other W516 (Or.inl ne_a1_nw)
  have VL_516 := VL_513.other W516 ne_a3_nw
  have VP_516 := VP_513.other W516 ne_a4_nw
  clear Fs_513 Fl_513 Fp_513 VL_513 VP_513
  have Zs516 : n0 ≤ h516.size := Nat.le_trans Zs513 (Keep.of_wr W516).1
  have Kw516 : Keep h0 h516 [] := Keep.wr Kw513 W516 (Or.inr sz_nw)
  have R517 : ∀ tg, Steps p.tables e below (T516.setTop (mkF m 10 #[vR a1, vR a2, vR nw, vI ((0 : Int32) + (1 : Int32)), vD d504, .second, .unset] [])) tg → Steps p.tables e below (s₁.setTop (mkF m 0 #[vR a1, vR a2, .unset, .unset, .unset, .unset, .unset] [])) tg := by
    intro tg kt
    refine R514 _ ?_
    refine st516 _ ?_
    show Steps p.tables e below (T516.setTop (mkF m 44 #[vR a1, vR a2, vR nw, vI (0 : Int32), vD d504, .second, .unset] [])) _
    refine XS.iinc X516.here hx rfl (hb hby d9_44) rfl (l' := #[vR a1, vR a2, vR nw, vI ((0 : Int32) + (1 : Int32)), vD d504, .second, .unset]) rfl ?_
    show Steps p.tables e below (T516.setTop (mkF m 47 #[vR a1, vR a2, vR nw, vI ((0 : Int32) + (1 : Int32)), vD d504, .second, .unset] [])) _
    refine XS.goto X516.here hx rfl (pc0 := 47) (pc' := 10) rfl (hb hby d9_47) (by decide) (by decide) ?_
    exact kt
  clear R514 st516
  have R518 : ∀ tg, Steps p.tables e below (T516.setTop (mkF m 10 #[vR a1, vR a2, vR nw, vI (1 : Int32), vD d504, .second, .unset] [])) tg → Steps p.tables e below (s₁.setTop (mkF m 0 #[vR a1, vR a2, .unset, .unset, .unset, .unset, .unset] [])) tg := R517
  have R519 : ∀ tg, Steps p.tables e below (T516.setTop (mkF m 12 #[vR a1, vR a2, vR nw, vI (1 : Int32), vD d504, .second, .unset] [(.ref a1), (.int (1 : Int32))])) tg → Steps p.tables e below (s₁.setTop (mkF m 0 #[vR a1, vR a2, .unset, .unset, .unset, .unset, .unset] [])) tg := by
    intro tg kt
    refine R518 _ ?_
    show Steps p.tables e below (T516.setTop (mkF m 10 #[vR a1, vR a2, vR nw, vI (1 : Int32), vD d504, .second, .unset] [])) _
    refine XS.iloadN X516.here hx rfl (hb hby d9_10) rfl ?_
    refine XS.aloadN X516.here hx rfl (hb hby d9_11) rfl rfl ?_
    exact kt
  clear R518
  obtain ⟨T520, X520, e520, st520⟩ := getF X516 hx hZ hown (host := "") (Or.inl (hw _ (List.mem_of_getElem? (i := 26) rfl))) Via.refl e516 Fs_516 (g := (mkF m 12 #[vR a1, vR a2, vR nw, vI (1 : Int32), vD d504, .second, .unset] [(.ref a1), (.int (1 : Int32))])) rfl rfl (hb hby d9_12)
  have R521 : ∀ tg, Steps p.tables e below (T520.setTop (mkF m 20 #[vR a1, vR a2, vR nw, vI (1 : Int32), vD d504, .second, .unset] [(.ref a1), (.ref nw)])) tg → Steps p.tables e below (s₁.setTop (mkF m 0 #[vR a1, vR a2, .unset, .unset, .unset, .unset, .unset] [])) tg := by
    intro tg kt
    refine R519 _ ?_
    refine st520 _ ?_
    show Steps p.tables e below (T520.setTop (mkF m 15 #[vR a1, vR a2, vR nw, vI (1 : Int32), vD d504, .second, .unset] [(.int (3 : Int32)), (.int (1 : Int32))])) _
    refine XS.icmpNo X520.here hx rfl (hb hby d9_15) rfl (tlt (by decide : (1 : Int32) < (3 : Int32))).2.1 ?_
    refine XS.aloadN X520.here hx rfl (hb hby d9_18) rfl rfl ?_
    refine XS.aloadN X520.here hx rfl (hb hby d9_19) rfl rfl ?_
    exact kt
  clear R519 st520
  obtain ⟨T522, X522, e522, st522⟩ := getF X520 hx hZ hown (host := "") (Or.inl (hw _ (List.mem_of_getElem? (i := 31) rfl))) Via.refl e520 Fp_516 (g := (mkF m 20 #[vR a1, vR a2, vR nw, vI (1 : Int32), vD d504, .second, .unset] [(.ref a1), (.ref nw)])) rfl rfl (hb hby d9_20)
  have R523 : ∀ tg, Steps p.tables e below (T522.setTop (mkF m 24 #[vR a1, vR a2, vR nw, vI (1 : Int32), vD d504, .second, .unset] [(.int (1 : Int32)), (.ref a4), (.ref nw)])) tg → Steps p.tables e below (s₁.setTop (mkF m 0 #[vR a1, vR a2, .unset, .unset, .unset, .unset, .unset] [])) tg := by
    intro tg kt
    refine R521 _ ?_
    refine st522 _ ?_
    show Steps p.tables e below (T522.setTop (mkF m 23 #[vR a1, vR a2, vR nw, vI (1 : Int32), vD d504, .second, .unset] [(.ref a4), (.ref nw)])) _
    refine XS.iloadN X522.here hx rfl (hb hby d9_23) rfl ?_
    exact kt
  clear R521 st522
  obtain ⟨cl524, Ar524, hin524, hat524⟩ := VP_516.at (j := (1 : Int32)) (k := 1) (by decide) rfl (by decide)
  have R525 : ∀ tg, Steps p.tables e below (T522.setTop (mkF m 25 #[vR a1, vR a2, vR nw, vI (1 : Int32), vD d504, .second, .unset] [(.int ((own_pv ka kb) 1)), (.ref nw)])) tg → Steps p.tables e below (s₁.setTop (mkF m 0 #[vR a1, vR a2, .unset, .unset, .unset, .unset, .unset] [])) tg := by
    intro tg kt
    refine R523 _ ?_
    show Steps p.tables e below (T522.setTop (mkF m 24 #[vR a1, vR a2, vR nw, vI (1 : Int32), vD d504, .second, .unset] [(.int (1 : Int32)), (.ref a4), (.ref nw)])) _
    refine X522.iaload hx (j := (1 : Int32)) (v := (.int ((own_pv ka kb) 1))) (by rw [e522]; exact Ar524.1) (State.isArrayOf_alike hZ.alike Ar524.2.1) Ar524.2.2 hin524 hat524 (g := (mkF m 24 #[vR a1, vR a2, vR nw, vI (1 : Int32), vD d504, .second, .unset] [(.int (1 : Int32)), (.ref a4), (.ref nw)])) rfl rfl (hb hby d9_24) _ ?_
    exact kt
  clear R523
  obtain ⟨cl526, d526, Ar526, hin526, hat526, G526⟩ := VB_516.at (j := ((own_pv ka kb) 1)) (k := kb) i1.1 i1.2 hkb
  have H526 : DR 2 ((own_s1 [r0, r1, r2] 0 ka).getD kb 0) d526 := G526
  have R527 : ∀ tg, Steps p.tables e below (T522.setTop (mkF m 30 #[vR a1, vR a2, vR nw, vI (1 : Int32), vD d526, .second, .unset] [(.ref a1), (.ref nw)])) tg → Steps p.tables e below (s₁.setTop (mkF m 0 #[vR a1, vR a2, .unset, .unset, .unset, .unset, .unset] [])) tg := by
    intro tg kt
    refine R525 _ ?_
    show Steps p.tables e below (T522.setTop (mkF m 25 #[vR a1, vR a2, vR nw, vI (1 : Int32), vD d504, .second, .unset] [(.int ((own_pv ka kb) 1)), (.ref nw)])) _
    refine X522.daload hx (j := ((own_pv ka kb) 1)) (v := (.double d526)) (by rw [e522]; exact Ar526.1) (State.isArrayOf_alike hZ.alike Ar526.2.1) Ar526.2.2 hin526 hat526 (g := (mkF m 25 #[vR a1, vR a2, vR nw, vI (1 : Int32), vD d504, .second, .unset] [(.int ((own_pv ka kb) 1)), (.ref nw)])) rfl rfl (hb hby d9_25) _ ?_
    show Steps p.tables e below (T522.setTop (mkF m 26 #[vR a1, vR a2, vR nw, vI (1 : Int32), vD d504, .second, .unset] [(.double d526)])) _
    refine XS.dstore X522.here hx rfl (hb hby d9_26) rfl (l' := #[vR a1, vR a2, vR nw, vI (1 : Int32), vD d526, .second, .unset]) rfl ?_
    refine XS.aloadN X522.here hx rfl (hb hby d9_28) rfl rfl ?_
    refine XS.aloadN X522.here hx rfl (hb hby d9_29) rfl rfl ?_
    exact kt
  clear R525
  obtain ⟨T528, X528, e528, st528⟩ := getF X522 hx hZ hown (host := "") (Or.inl (hw _ (List.mem_of_getElem? (i := 31) rfl))) Via.refl e522 Fp_516 (g := (mkF m 30 #[vR a1, vR a2, vR nw, vI (1 : Int32), vD d526, .second, .unset] [(.ref a1), (.ref nw)])) rfl rfl (hb hby d9_30)
  have R529 : ∀ tg, Steps p.tables e below (T528.setTop (mkF m 34 #[vR a1, vR a2, vR nw, vI (1 : Int32), vD d526, .second, .unset] [(.int (1 : Int32)), (.ref a4), (.ref nw)])) tg → Steps p.tables e below (s₁.setTop (mkF m 0 #[vR a1, vR a2, .unset, .unset, .unset, .unset, .unset] [])) tg := by
    intro tg kt
    refine R527 _ ?_
    refine st528 _ ?_
    show Steps p.tables e below (T528.setTop (mkF m 33 #[vR a1, vR a2, vR nw, vI (1 : Int32), vD d526, .second, .unset] [(.ref a4), (.ref nw)])) _
    refine XS.iloadN X528.here hx rfl (hb hby d9_33) rfl ?_
    exact kt
  clear R527 st528
  obtain ⟨cl530, Ar530, hin530, hat530⟩ := VP_516.at (j := (1 : Int32)) (k := 1) (by decide) rfl (by decide)
  have R531 : ∀ tg, Steps p.tables e below (T528.setTop (mkF m 37 #[vR a1, vR a2, vR nw, vI (1 : Int32), vD d526, .second, .unset] [(.int (1 : Int32)), (.ref nw), (.int ((own_pv ka kb) 1)), (.ref nw)])) tg → Steps p.tables e below (s₁.setTop (mkF m 0 #[vR a1, vR a2, .unset, .unset, .unset, .unset, .unset] [])) tg := by
    intro tg kt
    refine R529 _ ?_
    show Steps p.tables e below (T528.setTop (mkF m 34 #[vR a1, vR a2, vR nw, vI (1 : Int32), vD d526, .second, .unset] [(.int (1 : Int32)), (.ref a4), (.ref nw)])) _
    refine X528.iaload hx (j := (1 : Int32)) (v := (.int ((own_pv ka kb) 1))) (by rw [e528]; exact Ar530.1) (State.isArrayOf_alike hZ.alike Ar530.2.1) Ar530.2.2 hin530 hat530 (g := (mkF m 34 #[vR a1, vR a2, vR nw, vI (1 : Int32), vD d526, .second, .unset] [(.int (1 : Int32)), (.ref a4), (.ref nw)])) rfl rfl (hb hby d9_34) _ ?_
    refine XS.aloadN X528.here hx rfl (hb hby d9_35) rfl rfl ?_
    refine XS.iloadN X528.here hx rfl (hb hby d9_36) rfl ?_
    exact kt
  clear R529
  obtain ⟨cl532, d532, Ar532, hin532, hat532, G532⟩ := VB_516.at (j := (1 : Int32)) (k := 1) (by decide) rfl (by decide)
  have H532 : DR 2 ((own_s1 [r0, r1, r2] 0 ka).getD 1 0) d532 := G532
  have R533 : ∀ tg, Steps p.tables e below (T528.setTop (mkF m 38 #[vR a1, vR a2, vR nw, vI (1 : Int32), vD d526, .second, .unset] [(.double d532), (.int ((own_pv ka kb) 1)), (.ref nw)])) tg → Steps p.tables e below (s₁.setTop (mkF m 0 #[vR a1, vR a2, .unset, .unset, .unset, .unset, .unset] [])) tg := by
    intro tg kt
    refine R531 _ ?_
    show Steps p.tables e below (T528.setTop (mkF m 37 #[vR a1, vR a2, vR nw, vI (1 : Int32), vD d526, .second, .unset] [(.int (1 : Int32)), (.ref nw), (.int ((own_pv ka kb) 1)), (.ref nw)])) _
    refine X528.daload hx (j := (1 : Int32)) (v := (.double d532)) (by rw [e528]; exact Ar532.1) (State.isArrayOf_alike hZ.alike Ar532.2.1) Ar532.2.2 hin532 hat532 (g := (mkF m 37 #[vR a1, vR a2, vR nw, vI (1 : Int32), vD d526, .second, .unset] [(.int (1 : Int32)), (.ref nw), (.int ((own_pv ka kb) 1)), (.ref nw)])) rfl rfl (hb hby d9_37) _ ?_
    exact kt
  clear R531
  obtain ⟨cl534, -, Ar534, hin534, -, -⟩ := VB_516.at (j := ((own_pv ka kb) 1)) (k := kb) i1.1 i1.2 hkb
  obtain ⟨T535, h535, X535, e535, W535, st535⟩ := stD X528 hx hZ e528 Ar534 (j := ((own_pv ka kb) 1)) hin534 (g := (mkF m 38 #[vR a1, vR a2, vR nw, vI (1 : Int32), vD d526, .second, .unset] [(.double d532), (.int ((own_pv ka kb) 1)), (.ref nw)])) rfl rfl (hb hby d9_38)
  have N535 := Fr.snoc X535 N516 g_nw
  rw [show (((own_pv ka kb) 1) : Int32).toNatClampNeg = kb from i1.2] at W535
  have VB_535 : VD Z h535 nw 3 ((own_s1 [r0, r1, r2] 0 ka).set kb ((own_s1 [r0, r1, r2] 0 ka).getD 1 0)) := VB_516.set W535 H532
  have Fs_535 := Fs_516.other W535 (Or.inl ne_a1_nw)
  have Fl_535 := Fl_516.other W535 (Or.inl ne_a1_nw)
  have Fp_535 := Fp_516.other W535 (Or.inl ne_a1_nw)
  have VL_535 := VL_516.other W535 ne_a3_nw
  have VP_535 := VP_516.other W535 ne_a4_nw
  clear Fs_516 Fl_516 Fp_516 VL_516 VP_516
  have Zs535 : n0 ≤ h535.size := Nat.le_trans Zs516 (Keep.of_wr W535).1
  have Kw535 : Keep h0 h535 [] := Keep.wr Kw516 W535 (Or.inr sz_nw)
  have R536 : ∀ tg, Steps p.tables e below (T535.setTop (mkF m 43 #[vR a1, vR a2, vR nw, vI (1 : Int32), vD d526, .second, .unset] [(.double d526), (.int (1 : Int32)), (.ref nw)])) tg → Steps p.tables e below (s₁.setTop (mkF m 0 #[vR a1, vR a2, .unset, .unset, .unset, .unset, .unset] [])) tg := by
    intro tg kt
    refine R533 _ ?_
    refine st535 _ ?_
    refine XS.aloadN X535.here hx rfl (hb hby d9_39) rfl rfl ?_
    refine XS.iloadN X535.here hx rfl (hb hby d9_40) rfl ?_
    show Steps p.tables e below (T535.setTop (mkF m 41 #[vR a1, vR a2, vR nw, vI (1 : Int32), vD d526, .second, .unset] [(.int (1 : Int32)), (.ref nw)])) _
    refine XS.dload X535.here hx rfl (hb hby d9_41) rfl ?_
    exact kt
  clear R533 st535
  obtain ⟨cl537, -, Ar537, hin537, -, -⟩ := VB_535.at (j := (1 : Int32)) (k := 1) (by decide) rfl (by decide)
  obtain ⟨T538, h538, X538, e538, W538, st538⟩ := stD X535 hx hZ e535 Ar537 (j := (1 : Int32)) hin537 (g := (mkF m 43 #[vR a1, vR a2, vR nw, vI (1 : Int32), vD d526, .second, .unset] [(.double d526), (.int (1 : Int32)), (.ref nw)])) rfl rfl (hb hby d9_43)
  have N538 := Fr.snoc X538 N535 g_nw
  rw [show ((1 : Int32) : Int32).toNatClampNeg = 1 from rfl] at W538
  have VB_538 : VD Z h538 nw 3 (own_s1 (own_s1 [r0, r1, r2] 0 ka) 1 kb) := VB_535.set W538 H526
  have Fs_538 := Fs_535.other W538 (Or.inl ne_a1_nw)
  have Fl_538 := Fl_535.other W538 (Or.inl ne_a1_nw)
  have Fp_538 := Fp_535.other W538 (Or.inl ne_a1_nw)
  have VL_538 := VL_535.other W538 ne_a3_nw
  have VP_538 := VP_535.other W538 ne_a4_nw
  clear Fs_535 Fl_535 Fp_535 VL_535 VP_535
  have Zs538 : n0 ≤ h538.size := Nat.le_trans Zs535 (Keep.of_wr W538).1
  have Kw538 : Keep h0 h538 [] := Keep.wr Kw535 W538 (Or.inr sz_nw)
  have R539 : ∀ tg, Steps p.tables e below (T538.setTop (mkF m 10 #[vR a1, vR a2, vR nw, vI ((1 : Int32) + (1 : Int32)), vD d526, .second, .unset] [])) tg → Steps p.tables e below (s₁.setTop (mkF m 0 #[vR a1, vR a2, .unset, .unset, .unset, .unset, .unset] [])) tg := by
    intro tg kt
    refine R536 _ ?_
    refine st538 _ ?_
    show Steps p.tables e below (T538.setTop (mkF m 44 #[vR a1, vR a2, vR nw, vI (1 : Int32), vD d526, .second, .unset] [])) _
    refine XS.iinc X538.here hx rfl (hb hby d9_44) rfl (l' := #[vR a1, vR a2, vR nw, vI ((1 : Int32) + (1 : Int32)), vD d526, .second, .unset]) rfl ?_
    show Steps p.tables e below (T538.setTop (mkF m 47 #[vR a1, vR a2, vR nw, vI ((1 : Int32) + (1 : Int32)), vD d526, .second, .unset] [])) _
    refine XS.goto X538.here hx rfl (pc0 := 47) (pc' := 10) rfl (hb hby d9_47) (by decide) (by decide) ?_
    exact kt
  clear R536 st538
  have R540 : ∀ tg, Steps p.tables e below (T538.setTop (mkF m 10 #[vR a1, vR a2, vR nw, vI (2 : Int32), vD d526, .second, .unset] [])) tg → Steps p.tables e below (s₁.setTop (mkF m 0 #[vR a1, vR a2, .unset, .unset, .unset, .unset, .unset] [])) tg := R539
  have R541 : ∀ tg, Steps p.tables e below (T538.setTop (mkF m 12 #[vR a1, vR a2, vR nw, vI (2 : Int32), vD d526, .second, .unset] [(.ref a1), (.int (2 : Int32))])) tg → Steps p.tables e below (s₁.setTop (mkF m 0 #[vR a1, vR a2, .unset, .unset, .unset, .unset, .unset] [])) tg := by
    intro tg kt
    refine R540 _ ?_
    show Steps p.tables e below (T538.setTop (mkF m 10 #[vR a1, vR a2, vR nw, vI (2 : Int32), vD d526, .second, .unset] [])) _
    refine XS.iloadN X538.here hx rfl (hb hby d9_10) rfl ?_
    refine XS.aloadN X538.here hx rfl (hb hby d9_11) rfl rfl ?_
    exact kt
  clear R540
  obtain ⟨T542, X542, e542, st542⟩ := getF X538 hx hZ hown (host := "") (Or.inl (hw _ (List.mem_of_getElem? (i := 26) rfl))) Via.refl e538 Fs_538 (g := (mkF m 12 #[vR a1, vR a2, vR nw, vI (2 : Int32), vD d526, .second, .unset] [(.ref a1), (.int (2 : Int32))])) rfl rfl (hb hby d9_12)
  have R543 : ∀ tg, Steps p.tables e below (T542.setTop (mkF m 20 #[vR a1, vR a2, vR nw, vI (2 : Int32), vD d526, .second, .unset] [(.ref a1), (.ref nw)])) tg → Steps p.tables e below (s₁.setTop (mkF m 0 #[vR a1, vR a2, .unset, .unset, .unset, .unset, .unset] [])) tg := by
    intro tg kt
    refine R541 _ ?_
    refine st542 _ ?_
    show Steps p.tables e below (T542.setTop (mkF m 15 #[vR a1, vR a2, vR nw, vI (2 : Int32), vD d526, .second, .unset] [(.int (3 : Int32)), (.int (2 : Int32))])) _
    refine XS.icmpNo X542.here hx rfl (hb hby d9_15) rfl (tlt (by decide : (2 : Int32) < (3 : Int32))).2.1 ?_
    refine XS.aloadN X542.here hx rfl (hb hby d9_18) rfl rfl ?_
    refine XS.aloadN X542.here hx rfl (hb hby d9_19) rfl rfl ?_
    exact kt
  clear R541 st542
  obtain ⟨T544, X544, e544, st544⟩ := getF X542 hx hZ hown (host := "") (Or.inl (hw _ (List.mem_of_getElem? (i := 31) rfl))) Via.refl e542 Fp_538 (g := (mkF m 20 #[vR a1, vR a2, vR nw, vI (2 : Int32), vD d526, .second, .unset] [(.ref a1), (.ref nw)])) rfl rfl (hb hby d9_20)
  have R545 : ∀ tg, Steps p.tables e below (T544.setTop (mkF m 24 #[vR a1, vR a2, vR nw, vI (2 : Int32), vD d526, .second, .unset] [(.int (2 : Int32)), (.ref a4), (.ref nw)])) tg → Steps p.tables e below (s₁.setTop (mkF m 0 #[vR a1, vR a2, .unset, .unset, .unset, .unset, .unset] [])) tg := by
    intro tg kt
    refine R543 _ ?_
    refine st544 _ ?_
    show Steps p.tables e below (T544.setTop (mkF m 23 #[vR a1, vR a2, vR nw, vI (2 : Int32), vD d526, .second, .unset] [(.ref a4), (.ref nw)])) _
    refine XS.iloadN X544.here hx rfl (hb hby d9_23) rfl ?_
    exact kt
  clear R543 st544
  obtain ⟨cl546, Ar546, hin546, hat546⟩ := VP_538.at (j := (2 : Int32)) (k := 2) (by decide) rfl (by decide)
  have R547 : ∀ tg, Steps p.tables e below (T544.setTop (mkF m 25 #[vR a1, vR a2, vR nw, vI (2 : Int32), vD d526, .second, .unset] [(.int ((own_pv ka kb) 2)), (.ref nw)])) tg → Steps p.tables e below (s₁.setTop (mkF m 0 #[vR a1, vR a2, .unset, .unset, .unset, .unset, .unset] [])) tg := by
    intro tg kt
    refine R545 _ ?_
    show Steps p.tables e below (T544.setTop (mkF m 24 #[vR a1, vR a2, vR nw, vI (2 : Int32), vD d526, .second, .unset] [(.int (2 : Int32)), (.ref a4), (.ref nw)])) _
    refine X544.iaload hx (j := (2 : Int32)) (v := (.int ((own_pv ka kb) 2))) (by rw [e544]; exact Ar546.1) (State.isArrayOf_alike hZ.alike Ar546.2.1) Ar546.2.2 hin546 hat546 (g := (mkF m 24 #[vR a1, vR a2, vR nw, vI (2 : Int32), vD d526, .second, .unset] [(.int (2 : Int32)), (.ref a4), (.ref nw)])) rfl rfl (hb hby d9_24) _ ?_
    exact kt
  clear R545
  obtain ⟨cl548, d548, Ar548, hin548, hat548, G548⟩ := VB_538.at (j := ((own_pv ka kb) 2)) (k := 2) i2.1 i2.2 (by decide)
  have H548 : DR 2 ((own_s1 (own_s1 [r0, r1, r2] 0 ka) 1 kb).getD 2 0) d548 := G548
  have R549 : ∀ tg, Steps p.tables e below (T544.setTop (mkF m 30 #[vR a1, vR a2, vR nw, vI (2 : Int32), vD d548, .second, .unset] [(.ref a1), (.ref nw)])) tg → Steps p.tables e below (s₁.setTop (mkF m 0 #[vR a1, vR a2, .unset, .unset, .unset, .unset, .unset] [])) tg := by
    intro tg kt
    refine R547 _ ?_
    show Steps p.tables e below (T544.setTop (mkF m 25 #[vR a1, vR a2, vR nw, vI (2 : Int32), vD d526, .second, .unset] [(.int ((own_pv ka kb) 2)), (.ref nw)])) _
    refine X544.daload hx (j := ((own_pv ka kb) 2)) (v := (.double d548)) (by rw [e544]; exact Ar548.1) (State.isArrayOf_alike hZ.alike Ar548.2.1) Ar548.2.2 hin548 hat548 (g := (mkF m 25 #[vR a1, vR a2, vR nw, vI (2 : Int32), vD d526, .second, .unset] [(.int ((own_pv ka kb) 2)), (.ref nw)])) rfl rfl (hb hby d9_25) _ ?_
    show Steps p.tables e below (T544.setTop (mkF m 26 #[vR a1, vR a2, vR nw, vI (2 : Int32), vD d526, .second, .unset] [(.double d548)])) _
    refine XS.dstore X544.here hx rfl (hb hby d9_26) rfl (l' := #[vR a1, vR a2, vR nw, vI (2 : Int32), vD d548, .second, .unset]) rfl ?_
    refine XS.aloadN X544.here hx rfl (hb hby d9_28) rfl rfl ?_
    refine XS.aloadN X544.here hx rfl (hb hby d9_29) rfl rfl ?_
    exact kt
  clear R547
  obtain ⟨T550, X550, e550, st550⟩ := getF X544 hx hZ hown (host := "") (Or.inl (hw _ (List.mem_of_getElem? (i := 31) rfl))) Via.refl e544 Fp_538 (g := (mkF m 30 #[vR a1, vR a2, vR nw, vI (2 : Int32), vD d548, .second, .unset] [(.ref a1), (.ref nw)])) rfl rfl (hb hby d9_30)
  have R551 : ∀ tg, Steps p.tables e below (T550.setTop (mkF m 34 #[vR a1, vR a2, vR nw, vI (2 : Int32), vD d548, .second, .unset] [(.int (2 : Int32)), (.ref a4), (.ref nw)])) tg → Steps p.tables e below (s₁.setTop (mkF m 0 #[vR a1, vR a2, .unset, .unset, .unset, .unset, .unset] [])) tg := by
    intro tg kt
    refine R549 _ ?_
    refine st550 _ ?_
    show Steps p.tables e below (T550.setTop (mkF m 33 #[vR a1, vR a2, vR nw, vI (2 : Int32), vD d548, .second, .unset] [(.ref a4), (.ref nw)])) _
    refine XS.iloadN X550.here hx rfl (hb hby d9_33) rfl ?_
    exact kt
  clear R549 st550
  obtain ⟨cl552, Ar552, hin552, hat552⟩ := VP_538.at (j := (2 : Int32)) (k := 2) (by decide) rfl (by decide)
  have R553 : ∀ tg, Steps p.tables e below (T550.setTop (mkF m 37 #[vR a1, vR a2, vR nw, vI (2 : Int32), vD d548, .second, .unset] [(.int (2 : Int32)), (.ref nw), (.int ((own_pv ka kb) 2)), (.ref nw)])) tg → Steps p.tables e below (s₁.setTop (mkF m 0 #[vR a1, vR a2, .unset, .unset, .unset, .unset, .unset] [])) tg := by
    intro tg kt
    refine R551 _ ?_
    show Steps p.tables e below (T550.setTop (mkF m 34 #[vR a1, vR a2, vR nw, vI (2 : Int32), vD d548, .second, .unset] [(.int (2 : Int32)), (.ref a4), (.ref nw)])) _
    refine X550.iaload hx (j := (2 : Int32)) (v := (.int ((own_pv ka kb) 2))) (by rw [e550]; exact Ar552.1) (State.isArrayOf_alike hZ.alike Ar552.2.1) Ar552.2.2 hin552 hat552 (g := (mkF m 34 #[vR a1, vR a2, vR nw, vI (2 : Int32), vD d548, .second, .unset] [(.int (2 : Int32)), (.ref a4), (.ref nw)])) rfl rfl (hb hby d9_34) _ ?_
    refine XS.aloadN X550.here hx rfl (hb hby d9_35) rfl rfl ?_
    refine XS.iloadN X550.here hx rfl (hb hby d9_36) rfl ?_
    exact kt
  clear R551
  obtain ⟨cl554, d554, Ar554, hin554, hat554, G554⟩ := VB_538.at (j := (2 : Int32)) (k := 2) (by decide) rfl (by decide)
  have H554 : DR 2 ((own_s1 (own_s1 [r0, r1, r2] 0 ka) 1 kb).getD 2 0) d554 := G554
  have R555 : ∀ tg, Steps p.tables e below (T550.setTop (mkF m 38 #[vR a1, vR a2, vR nw, vI (2 : Int32), vD d548, .second, .unset] [(.double d554), (.int ((own_pv ka kb) 2)), (.ref nw)])) tg → Steps p.tables e below (s₁.setTop (mkF m 0 #[vR a1, vR a2, .unset, .unset, .unset, .unset, .unset] [])) tg := by
    intro tg kt
    refine R553 _ ?_
    show Steps p.tables e below (T550.setTop (mkF m 37 #[vR a1, vR a2, vR nw, vI (2 : Int32), vD d548, .second, .unset] [(.int (2 : Int32)), (.ref nw), (.int ((own_pv ka kb) 2)), (.ref nw)])) _
    refine X550.daload hx (j := (2 : Int32)) (v := (.double d554)) (by rw [e550]; exact Ar554.1) (State.isArrayOf_alike hZ.alike Ar554.2.1) Ar554.2.2 hin554 hat554 (g := (mkF m 37 #[vR a1, vR a2, vR nw, vI (2 : Int32), vD d548, .second, .unset] [(.int (2 : Int32)), (.ref nw), (.int ((own_pv ka kb) 2)), (.ref nw)])) rfl rfl (hb hby d9_37) _ ?_
    exact kt
  clear R553
  obtain ⟨cl556, -, Ar556, hin556, -, -⟩ := VB_538.at (j := ((own_pv ka kb) 2)) (k := 2) i2.1 i2.2 (by decide)
  obtain ⟨T557, h557, X557, e557, W557, st557⟩ := stD X550 hx hZ e550 Ar556 (j := ((own_pv ka kb) 2)) hin556 (g := (mkF m 38 #[vR a1, vR a2, vR nw, vI (2 : Int32), vD d548, .second, .unset] [(.double d554), (.int ((own_pv ka kb) 2)), (.ref nw)])) rfl rfl (hb hby d9_38)
  have N557 := Fr.snoc X557 N538 g_nw
  rw [show (((own_pv ka kb) 2) : Int32).toNatClampNeg = 2 from i2.2] at W557
  have VB_557 : VD Z h557 nw 3 ((own_s1 (own_s1 [r0, r1, r2] 0 ka) 1 kb).set 2 ((own_s1 (own_s1 [r0, r1, r2] 0 ka) 1 kb).getD 2 0)) := VB_538.set W557 H554
  have Fs_557 := Fs_538.other W557 (Or.inl ne_a1_nw)
  have Fl_557 := Fl_538.other W557 (Or.inl ne_a1_nw)
  have Fp_557 := Fp_538.other W557 (Or.inl ne_a1_nw)
  have VL_557 := VL_538.other W557 ne_a3_nw
  have VP_557 := VP_538.other W557 ne_a4_nw
  clear Fs_538 Fl_538 Fp_538 VL_538 VP_538
  have Zs557 : n0 ≤ h557.size := Nat.le_trans Zs538 (Keep.of_wr W557).1
  have Kw557 : Keep h0 h557 [] := Keep.wr Kw538 W557 (Or.inr sz_nw)
  have R558 : ∀ tg, Steps p.tables e below (T557.setTop (mkF m 43 #[vR a1, vR a2, vR nw, vI (2 : Int32), vD d548, .second, .unset] [(.double d548), (.int (2 : Int32)), (.ref nw)])) tg → Steps p.tables e below (s₁.setTop (mkF m 0 #[vR a1, vR a2, .unset, .unset, .unset, .unset, .unset] [])) tg := by
    intro tg kt
    refine R555 _ ?_
    refine st557 _ ?_
    refine XS.aloadN X557.here hx rfl (hb hby d9_39) rfl rfl ?_
    refine XS.iloadN X557.here hx rfl (hb hby d9_40) rfl ?_
    show Steps p.tables e below (T557.setTop (mkF m 41 #[vR a1, vR a2, vR nw, vI (2 : Int32), vD d548, .second, .unset] [(.int (2 : Int32)), (.ref nw)])) _
    refine XS.dload X557.here hx rfl (hb hby d9_41) rfl ?_
    exact kt
  clear R555 st557
  obtain ⟨cl559, -, Ar559, hin559, -, -⟩ := VB_557.at (j := (2 : Int32)) (k := 2) (by decide) rfl (by decide)
  obtain ⟨T560, h560, X560, e560, W560, st560⟩ := stD X557 hx hZ e557 Ar559 (j := (2 : Int32)) hin559 (g := (mkF m 43 #[vR a1, vR a2, vR nw, vI (2 : Int32), vD d548, .second, .unset] [(.double d548), (.int (2 : Int32)), (.ref nw)])) rfl rfl (hb hby d9_43)
  have N560 := Fr.snoc X560 N557 g_nw
  rw [show ((2 : Int32) : Int32).toNatClampNeg = 2 from rfl] at W560
  have VB_560 : VD Z h560 nw 3 (own_s1 (own_s1 (own_s1 [r0, r1, r2] 0 ka) 1 kb) 2 2) := VB_557.set W560 H548
  have Fs_560 := Fs_557.other W560 (Or.inl ne_a1_nw)
  have Fl_560 := Fl_557.other W560 (Or.inl ne_a1_nw)
  have Fp_560 := Fp_557.other W560 (Or.inl ne_a1_nw)
  have VL_560 := VL_557.other W560 ne_a3_nw
  have VP_560 := VP_557.other W560 ne_a4_nw
  clear Fs_557 Fl_557 Fp_557 VL_557 VP_557
  have Zs560 : n0 ≤ h560.size := Nat.le_trans Zs557 (Keep.of_wr W560).1
  have Kw560 : Keep h0 h560 [] := Keep.wr Kw557 W560 (Or.inr sz_nw)
  have R561 : ∀ tg, Steps p.tables e below (T560.setTop (mkF m 10 #[vR a1, vR a2, vR nw, vI ((2 : Int32) + (1 : Int32)), vD d548, .second, .unset] [])) tg → Steps p.tables e below (s₁.setTop (mkF m 0 #[vR a1, vR a2, .unset, .unset, .unset, .unset, .unset] [])) tg := by
    intro tg kt
    refine R558 _ ?_
    refine st560 _ ?_
    show Steps p.tables e below (T560.setTop (mkF m 44 #[vR a1, vR a2, vR nw, vI (2 : Int32), vD d548, .second, .unset] [])) _
    refine XS.iinc X560.here hx rfl (hb hby d9_44) rfl (l' := #[vR a1, vR a2, vR nw, vI ((2 : Int32) + (1 : Int32)), vD d548, .second, .unset]) rfl ?_
    show Steps p.tables e below (T560.setTop (mkF m 47 #[vR a1, vR a2, vR nw, vI ((2 : Int32) + (1 : Int32)), vD d548, .second, .unset] [])) _
    refine XS.goto X560.here hx rfl (pc0 := 47) (pc' := 10) rfl (hb hby d9_47) (by decide) (by decide) ?_
    exact kt
  clear R558 st560
  have R562 : ∀ tg, Steps p.tables e below (T560.setTop (mkF m 10 #[vR a1, vR a2, vR nw, vI (3 : Int32), vD d548, .second, .unset] [])) tg → Steps p.tables e below (s₁.setTop (mkF m 0 #[vR a1, vR a2, .unset, .unset, .unset, .unset, .unset] [])) tg := R561
  have R563 : ∀ tg, Steps p.tables e below (T560.setTop (mkF m 12 #[vR a1, vR a2, vR nw, vI (3 : Int32), vD d548, .second, .unset] [(.ref a1), (.int (3 : Int32))])) tg → Steps p.tables e below (s₁.setTop (mkF m 0 #[vR a1, vR a2, .unset, .unset, .unset, .unset, .unset] [])) tg := by
    intro tg kt
    refine R562 _ ?_
    show Steps p.tables e below (T560.setTop (mkF m 10 #[vR a1, vR a2, vR nw, vI (3 : Int32), vD d548, .second, .unset] [])) _
    refine XS.iloadN X560.here hx rfl (hb hby d9_10) rfl ?_
    refine XS.aloadN X560.here hx rfl (hb hby d9_11) rfl rfl ?_
    exact kt
  clear R562
  obtain ⟨T564, X564, e564, st564⟩ := getF X560 hx hZ hown (host := "") (Or.inl (hw _ (List.mem_of_getElem? (i := 26) rfl))) Via.refl e560 Fs_560 (g := (mkF m 12 #[vR a1, vR a2, vR nw, vI (3 : Int32), vD d548, .second, .unset] [(.ref a1), (.int (3 : Int32))])) rfl rfl (hb hby d9_12)
  have R565 : ∀ tg, Steps p.tables e below (T564.setTop (mkF m 50 #[vR a1, vR a2, vR nw, vI (3 : Int32), vD d548, .second, .unset] [])) tg → Steps p.tables e below (s₁.setTop (mkF m 0 #[vR a1, vR a2, .unset, .unset, .unset, .unset, .unset] [])) tg := by
    intro tg kt
    refine R563 _ ?_
    refine st564 _ ?_
    show Steps p.tables e below (T564.setTop (mkF m 15 #[vR a1, vR a2, vR nw, vI (3 : Int32), vD d548, .second, .unset] [(.int (3 : Int32)), (.int (3 : Int32))])) _
    refine XS.icmpYes X564.here hx rfl (pc0 := 15) (pc' := 50) rfl (hb hby d9_15) rfl (flt (by decide : ¬ ((3 : Int32) < (3 : Int32)))).2.1 (by decide) (by decide) ?_
    exact kt
  clear R563 st564
  have VB_566 : VD Z h560 nw 3 [w0, w1, w2] := by rw [← hW]; exact VB_560
  have R567 : ∀ tg, Steps p.tables e below (T564.setTop (mkF m 54 #[vR a1, vR a2, vR nw, vI (0 : Int32), vD d548, .second, .unset] [(.ref a1), (.int (0 : Int32))])) tg → Steps p.tables e below (s₁.setTop (mkF m 0 #[vR a1, vR a2, .unset, .unset, .unset, .unset, .unset] [])) tg := by
    intro tg kt
    refine R565 _ ?_
    show Steps p.tables e below (T564.setTop (mkF m 50 #[vR a1, vR a2, vR nw, vI (3 : Int32), vD d548, .second, .unset] [])) _
    refine XS.iconst X564.here hx rfl (hb hby d9_50) ?_
    show Steps p.tables e below (T564.setTop (mkF m 51 #[vR a1, vR a2, vR nw, vI (3 : Int32), vD d548, .second, .unset] [(.int (0 : Int32))])) _
    refine XS.istoreN X564.here hx rfl (hb hby d9_51) rfl (l' := #[vR a1, vR a2, vR nw, vI (0 : Int32), vD d548, .second, .unset]) rfl ?_
    refine XS.iloadN X564.here hx rfl (hb hby d9_52) rfl ?_
    refine XS.aloadN X564.here hx rfl (hb hby d9_53) rfl rfl ?_
    exact kt
  clear R565
  obtain ⟨T568, X568, e568, st568⟩ := getF X564 hx hZ hown (host := "") (Or.inl (hw _ (List.mem_of_getElem? (i := 26) rfl))) Via.refl e564 Fs_560 (g := (mkF m 54 #[vR a1, vR a2, vR nw, vI (0 : Int32), vD d548, .second, .unset] [(.ref a1), (.int (0 : Int32))])) rfl rfl (hb hby d9_54)
  have R569 : ∀ tg, Steps p.tables e below (T568.setTop (mkF m 62 #[vR a1, vR a2, vR nw, vI (0 : Int32), vD d548, .second, .unset] [(.int (0 : Int32)), (.ref nw)])) tg → Steps p.tables e below (s₁.setTop (mkF m 0 #[vR a1, vR a2, .unset, .unset, .unset, .unset, .unset] [])) tg := by
    intro tg kt
    refine R567 _ ?_
    refine st568 _ ?_
    show Steps p.tables e below (T568.setTop (mkF m 57 #[vR a1, vR a2, vR nw, vI (0 : Int32), vD d548, .second, .unset] [(.int (3 : Int32)), (.int (0 : Int32))])) _
    refine XS.icmpNo X568.here hx rfl (hb hby d9_57) rfl (tlt (by decide : (0 : Int32) < (3 : Int32))).2.1 ?_
    refine XS.aloadN X568.here hx rfl (hb hby d9_60) rfl rfl ?_
    refine XS.iloadN X568.here hx rfl (hb hby d9_61) rfl ?_
    exact kt
  clear R567 st568
  obtain ⟨cl570, d570, Ar570, hin570, hat570, G570⟩ := VB_566.at (j := (0 : Int32)) (k := 0) (by decide) rfl (by decide)
  have H570 : DR 2 w0 d570 := G570
  have R571 : ∀ tg, Steps p.tables e below (T568.setTop (mkF m 108 #[vR a1, vR a2, vR nw, vI (0 : Int32), vD d570, .second, vI (0 : Int32)] [(.double d570), (.int (0 : Int32)), (.ref nw)])) tg → Steps p.tables e below (s₁.setTop (mkF m 0 #[vR a1, vR a2, .unset, .unset, .unset, .unset, .unset] [])) tg := by
    intro tg kt
    refine R569 _ ?_
    show Steps p.tables e below (T568.setTop (mkF m 62 #[vR a1, vR a2, vR nw, vI (0 : Int32), vD d548, .second, .unset] [(.int (0 : Int32)), (.ref nw)])) _
    refine X568.daload hx (j := (0 : Int32)) (v := (.double d570)) (by rw [e568]; exact Ar570.1) (State.isArrayOf_alike hZ.alike Ar570.2.1) Ar570.2.2 hin570 hat570 (g := (mkF m 62 #[vR a1, vR a2, vR nw, vI (0 : Int32), vD d548, .second, .unset] [(.int (0 : Int32)), (.ref nw)])) rfl rfl (hb hby d9_62) _ ?_
    show Steps p.tables e below (T568.setTop (mkF m 63 #[vR a1, vR a2, vR nw, vI (0 : Int32), vD d548, .second, .unset] [(.double d570)])) _
    refine XS.dstore X568.here hx rfl (hb hby d9_63) rfl (l' := #[vR a1, vR a2, vR nw, vI (0 : Int32), vD d570, .second, .unset]) rfl ?_
    refine XS.iconst X568.here hx rfl (hb hby d9_65) ?_
    show Steps p.tables e below (T568.setTop (mkF m 66 #[vR a1, vR a2, vR nw, vI (0 : Int32), vD d570, .second, .unset] [(.int (0 : Int32))])) _
    refine XS.istore X568.here hx rfl (hb hby d9_66) rfl (l' := #[vR a1, vR a2, vR nw, vI (0 : Int32), vD d570, .second, vI (0 : Int32)]) rfl ?_
    refine XS.iload X568.here hx rfl (hb hby d9_68) rfl ?_
    refine XS.iloadN X568.here hx rfl (hb hby d9_70) rfl ?_
    show Steps p.tables e below (T568.setTop (mkF m 71 #[vR a1, vR a2, vR nw, vI (0 : Int32), vD d570, .second, vI (0 : Int32)] [(.int (0 : Int32)), (.int (0 : Int32))])) _
    refine XS.icmpYes X568.here hx rfl (pc0 := 71) (pc' := 104) rfl (hb hby d9_71) rfl (flt (by decide : ¬ ((0 : Int32) < (0 : Int32)))).2.1 (by decide) (by decide) ?_
    refine XS.aloadN X568.here hx rfl (hb hby d9_104) rfl rfl ?_
    refine XS.iloadN X568.here hx rfl (hb hby d9_105) rfl ?_
    show Steps p.tables e below (T568.setTop (mkF m 106 #[vR a1, vR a2, vR nw, vI (0 : Int32), vD d570, .second, vI (0 : Int32)] [(.int (0 : Int32)), (.ref nw)])) _
    refine XS.dload X568.here hx rfl (hb hby d9_106) rfl ?_
    exact kt
  clear R569
  obtain ⟨cl572, -, Ar572, hin572, -, -⟩ := VB_566.at (j := (0 : Int32)) (k := 0) (by decide) rfl (by decide)
  obtain ⟨T573, h573, X573, e573, W573, st573⟩ := stD X568 hx hZ e568 Ar572 (j := (0 : Int32)) hin572 (g := (mkF m 108 #[vR a1, vR a2, vR nw, vI (0 : Int32), vD d570, .second, vI (0 : Int32)] [(.double d570), (.int (0 : Int32)), (.ref nw)])) rfl rfl (hb hby d9_108)
  have N573 := Fr.snoc X573 N560 g_nw
  rw [show ((0 : Int32) : Int32).toNatClampNeg = 0 from rfl] at W573
  have VB_573 : VD Z h573 nw 3 [w0, w1, w2] := VB_566.set W573 H570
  have Fs_573 := Fs_560.other W573 (Or.inl ne_a1_nw)
  have Fl_573 := Fl_560.other W573 (Or.inl ne_a1_nw)
  have Fp_573 := Fp_560.other W573 (Or.inl ne_a1_nw)
  have VL_573 := VL_560.other W573 ne_a3_nw
  have VP_573 := VP_560.other W573 ne_a4_nw
  clear Fs_560 Fl_560 Fp_560 VL_560 VP_560
  have Zs573 : n0 ≤ h573.size := Nat.le_trans Zs560 (Keep.of_wr W573).1
  have Kw573 : Keep h0 h573 [] := Keep.wr Kw560 W573 (Or.inr sz_nw)
  have R574 : ∀ tg, Steps p.tables e below (T573.setTop (mkF m 52 #[vR a1, vR a2, vR nw, vI ((0 : Int32) + (1 : Int32)), vD d570, .second, vI (0 : Int32)] [])) tg → Steps p.tables e below (s₁.setTop (mkF m 0 #[vR a1, vR a2, .unset, .unset, .unset, .unset, .unset] [])) tg := by
    intro tg kt
    refine R571 _ ?_
    refine st573 _ ?_
    show Steps p.tables e below (T573.setTop (mkF m 109 #[vR a1, vR a2, vR nw, vI (0 : Int32), vD d570, .second, vI (0 : Int32)] [])) _
    refine XS.iinc X573.here hx rfl (hb hby d9_109) rfl (l' := #[vR a1, vR a2, vR nw, vI ((0 : Int32) + (1 : Int32)), vD d570, .second, vI (0 : Int32)]) rfl ?_
    show Steps p.tables e below (T573.setTop (mkF m 112 #[vR a1, vR a2, vR nw, vI ((0 : Int32) + (1 : Int32)), vD d570, .second, vI (0 : Int32)] [])) _
    refine XS.goto X573.here hx rfl (pc0 := 112) (pc' := 52) rfl (hb hby d9_112) (by decide) (by decide) ?_
    exact kt
  clear R571 st573
  have R575 : ∀ tg, Steps p.tables e below (T573.setTop (mkF m 52 #[vR a1, vR a2, vR nw, vI (1 : Int32), vD d570, .second, vI (0 : Int32)] [])) tg → Steps p.tables e below (s₁.setTop (mkF m 0 #[vR a1, vR a2, .unset, .unset, .unset, .unset, .unset] [])) tg := R574
  have R576 : ∀ tg, Steps p.tables e below (T573.setTop (mkF m 54 #[vR a1, vR a2, vR nw, vI (1 : Int32), vD d570, .second, vI (0 : Int32)] [(.ref a1), (.int (1 : Int32))])) tg → Steps p.tables e below (s₁.setTop (mkF m 0 #[vR a1, vR a2, .unset, .unset, .unset, .unset, .unset] [])) tg := by
    intro tg kt
    refine R575 _ ?_
    show Steps p.tables e below (T573.setTop (mkF m 52 #[vR a1, vR a2, vR nw, vI (1 : Int32), vD d570, .second, vI (0 : Int32)] [])) _
    refine XS.iloadN X573.here hx rfl (hb hby d9_52) rfl ?_
    refine XS.aloadN X573.here hx rfl (hb hby d9_53) rfl rfl ?_
    exact kt
  clear R575
  obtain ⟨T577, X577, e577, st577⟩ := getF X573 hx hZ hown (host := "") (Or.inl (hw _ (List.mem_of_getElem? (i := 26) rfl))) Via.refl e573 Fs_573 (g := (mkF m 54 #[vR a1, vR a2, vR nw, vI (1 : Int32), vD d570, .second, vI (0 : Int32)] [(.ref a1), (.int (1 : Int32))])) rfl rfl (hb hby d9_54)
  have R578 : ∀ tg, Steps p.tables e below (T577.setTop (mkF m 62 #[vR a1, vR a2, vR nw, vI (1 : Int32), vD d570, .second, vI (0 : Int32)] [(.int (1 : Int32)), (.ref nw)])) tg → Steps p.tables e below (s₁.setTop (mkF m 0 #[vR a1, vR a2, .unset, .unset, .unset, .unset, .unset] [])) tg := by
    intro tg kt
    refine R576 _ ?_
    refine st577 _ ?_
    show Steps p.tables e below (T577.setTop (mkF m 57 #[vR a1, vR a2, vR nw, vI (1 : Int32), vD d570, .second, vI (0 : Int32)] [(.int (3 : Int32)), (.int (1 : Int32))])) _
    refine XS.icmpNo X577.here hx rfl (hb hby d9_57) rfl (tlt (by decide : (1 : Int32) < (3 : Int32))).2.1 ?_
    refine XS.aloadN X577.here hx rfl (hb hby d9_60) rfl rfl ?_
    refine XS.iloadN X577.here hx rfl (hb hby d9_61) rfl ?_
    exact kt
  clear R576 st577
  obtain ⟨cl579, d579, Ar579, hin579, hat579, G579⟩ := VB_573.at (j := (1 : Int32)) (k := 1) (by decide) rfl (by decide)
  have H579 : DR 2 w1 d579 := G579
  have R580 : ∀ tg, Steps p.tables e below (T577.setTop (mkF m 77 #[vR a1, vR a2, vR nw, vI (1 : Int32), vD d579, .second, vI (0 : Int32)] [(.ref a1), (.double d579)])) tg → Steps p.tables e below (s₁.setTop (mkF m 0 #[vR a1, vR a2, .unset, .unset, .unset, .unset, .unset] [])) tg := by
    intro tg kt
    refine R578 _ ?_
    show Steps p.tables e below (T577.setTop (mkF m 62 #[vR a1, vR a2, vR nw, vI (1 : Int32), vD d570, .second, vI (0 : Int32)] [(.int (1 : Int32)), (.ref nw)])) _
    refine X577.daload hx (j := (1 : Int32)) (v := (.double d579)) (by rw [e577]; exact Ar579.1) (State.isArrayOf_alike hZ.alike Ar579.2.1) Ar579.2.2 hin579 hat579 (g := (mkF m 62 #[vR a1, vR a2, vR nw, vI (1 : Int32), vD d570, .second, vI (0 : Int32)] [(.int (1 : Int32)), (.ref nw)])) rfl rfl (hb hby d9_62) _ ?_
    show Steps p.tables e below (T577.setTop (mkF m 63 #[vR a1, vR a2, vR nw, vI (1 : Int32), vD d570, .second, vI (0 : Int32)] [(.double d579)])) _
    refine XS.dstore X577.here hx rfl (hb hby d9_63) rfl (l' := #[vR a1, vR a2, vR nw, vI (1 : Int32), vD d579, .second, vI (0 : Int32)]) rfl ?_
    refine XS.iconst X577.here hx rfl (hb hby d9_65) ?_
    show Steps p.tables e below (T577.setTop (mkF m 66 #[vR a1, vR a2, vR nw, vI (1 : Int32), vD d579, .second, vI (0 : Int32)] [(.int (0 : Int32))])) _
    refine XS.istore X577.here hx rfl (hb hby d9_66) rfl (l' := #[vR a1, vR a2, vR nw, vI (1 : Int32), vD d579, .second, vI (0 : Int32)]) rfl ?_
    refine XS.iload X577.here hx rfl (hb hby d9_68) rfl ?_
    refine XS.iloadN X577.here hx rfl (hb hby d9_70) rfl ?_
    show Steps p.tables e below (T577.setTop (mkF m 71 #[vR a1, vR a2, vR nw, vI (1 : Int32), vD d579, .second, vI (0 : Int32)] [(.int (1 : Int32)), (.int (0 : Int32))])) _
    refine XS.icmpNo X577.here hx rfl (hb hby d9_71) rfl (tlt (by decide : (0 : Int32) < (1 : Int32))).2.1 ?_
    show Steps p.tables e below (T577.setTop (mkF m 74 #[vR a1, vR a2, vR nw, vI (1 : Int32), vD d579, .second, vI (0 : Int32)] [])) _
    refine XS.dload X577.here hx rfl (hb hby d9_74) rfl ?_
    refine XS.aloadN X577.here hx rfl (hb hby d9_76) rfl rfl ?_
    exact kt
  clear R578
  obtain ⟨T581, X581, e581, st581⟩ := getF X577 hx hZ hown (host := "") (Or.inl (hw _ (List.mem_of_getElem? (i := 28) rfl))) Via.refl e577 Fl_573 (g := (mkF m 77 #[vR a1, vR a2, vR nw, vI (1 : Int32), vD d579, .second, vI (0 : Int32)] [(.ref a1), (.double d579)])) rfl rfl (hb hby d9_77)
  have R582 : ∀ tg, Steps p.tables e below (T581.setTop (mkF m 82 #[vR a1, vR a2, vR nw, vI (1 : Int32), vD d579, .second, vI (0 : Int32)] [(.ref a1), (.int (1 : Int32)), (.ref a3), (.double d579)])) tg → Steps p.tables e below (s₁.setTop (mkF m 0 #[vR a1, vR a2, .unset, .unset, .unset, .unset, .unset] [])) tg := by
    intro tg kt
    refine R580 _ ?_
    refine st581 _ ?_
    refine XS.iloadN X581.here hx rfl (hb hby d9_80) rfl ?_
    show Steps p.tables e below (T581.setTop (mkF m 81 #[vR a1, vR a2, vR nw, vI (1 : Int32), vD d579, .second, vI (0 : Int32)] [(.int (1 : Int32)), (.ref a3), (.double d579)])) _
    refine XS.aloadN X581.here hx rfl (hb hby d9_81) rfl rfl ?_
    exact kt
  clear R580 st581
  obtain ⟨T583, X583, e583, st583⟩ := getF X581 hx hZ hown (host := "") (Or.inl (hw _ (List.mem_of_getElem? (i := 26) rfl))) Via.refl e581 Fs_573 (g := (mkF m 82 #[vR a1, vR a2, vR nw, vI (1 : Int32), vD d579, .second, vI (0 : Int32)] [(.ref a1), (.int (1 : Int32)), (.ref a3), (.double d579)])) rfl rfl (hb hby d9_82)
  have R584 : ∀ tg, Steps p.tables e below (T583.setTop (mkF m 89 #[vR a1, vR a2, vR nw, vI (1 : Int32), vD d579, .second, vI (0 : Int32)] [(.int (((1 : Int32) * (3 : Int32)) + (0 : Int32))), (.ref a3), (.double d579)])) tg → Steps p.tables e below (s₁.setTop (mkF m 0 #[vR a1, vR a2, .unset, .unset, .unset, .unset, .unset] [])) tg := by
    intro tg kt
    refine R582 _ ?_
    refine st583 _ ?_
    show Steps p.tables e below (T583.setTop (mkF m 85 #[vR a1, vR a2, vR nw, vI (1 : Int32), vD d579, .second, vI (0 : Int32)] [(.int (3 : Int32)), (.int (1 : Int32)), (.ref a3), (.double d579)])) _
    refine XS.imul X583.here hx rfl (hb hby d9_85) rfl ?_
    refine XS.iload X583.here hx rfl (hb hby d9_86) rfl ?_
    show Steps p.tables e below (T583.setTop (mkF m 88 #[vR a1, vR a2, vR nw, vI (1 : Int32), vD d579, .second, vI (0 : Int32)] [(.int (0 : Int32)), (.int ((1 : Int32) * (3 : Int32))), (.ref a3), (.double d579)])) _
    refine XS.iadd X583.here hx rfl (hb hby d9_88) rfl ?_
    exact kt
  clear R582 st583
  obtain ⟨cl585, d585, Ar585, hin585, hat585, G585⟩ := VL_573.at (j := (((1 : Int32) * (3 : Int32)) + (0 : Int32))) (k := 3) (by decide) (by decide) (by decide)
  have H585 : DR 2 c3 d585 := G585
  have R586 : ∀ tg, Steps p.tables e below (T583.setTop (mkF m 93 #[vR a1, vR a2, vR nw, vI (1 : Int32), vD d579, .second, vI (0 : Int32)] [(.int (0 : Int32)), (.ref nw), (.double d585), (.double d579)])) tg → Steps p.tables e below (s₁.setTop (mkF m 0 #[vR a1, vR a2, .unset, .unset, .unset, .unset, .unset] [])) tg := by
    intro tg kt
    refine R584 _ ?_
    show Steps p.tables e below (T583.setTop (mkF m 89 #[vR a1, vR a2, vR nw, vI (1 : Int32), vD d579, .second, vI (0 : Int32)] [(.int (((1 : Int32) * (3 : Int32)) + (0 : Int32))), (.ref a3), (.double d579)])) _
    refine X583.daload hx (j := (((1 : Int32) * (3 : Int32)) + (0 : Int32))) (v := (.double d585)) (by rw [e583]; exact Ar585.1) (State.isArrayOf_alike hZ.alike Ar585.2.1) Ar585.2.2 hin585 hat585 (g := (mkF m 89 #[vR a1, vR a2, vR nw, vI (1 : Int32), vD d579, .second, vI (0 : Int32)] [(.int (((1 : Int32) * (3 : Int32)) + (0 : Int32))), (.ref a3), (.double d579)])) rfl rfl (hb hby d9_89) _ ?_
    refine XS.aloadN X583.here hx rfl (hb hby d9_90) rfl rfl ?_
    refine XS.iload X583.here hx rfl (hb hby d9_91) rfl ?_
    exact kt
  clear R584
  obtain ⟨cl587, d587, Ar587, hin587, hat587, G587⟩ := VB_573.at (j := (0 : Int32)) (k := 0) (by decide) rfl (by decide)
  have H587 : DR 2 w0 d587 := G587
  have R588 : ∀ tg, Steps p.tables e below (T583.setTop (mkF m 94 #[vR a1, vR a2, vR nw, vI (1 : Int32), vD d579, .second, vI (0 : Int32)] [(.double d587), (.double d585), (.double d579)])) tg → Steps p.tables e below (s₁.setTop (mkF m 0 #[vR a1, vR a2, .unset, .unset, .unset, .unset, .unset] [])) tg := by
    intro tg kt
    refine R586 _ ?_
    show Steps p.tables e below (T583.setTop (mkF m 93 #[vR a1, vR a2, vR nw, vI (1 : Int32), vD d579, .second, vI (0 : Int32)] [(.int (0 : Int32)), (.ref nw), (.double d585), (.double d579)])) _
    refine X583.daload hx (j := (0 : Int32)) (v := (.double d587)) (by rw [e583]; exact Ar587.1) (State.isArrayOf_alike hZ.alike Ar587.2.1) Ar587.2.2 hin587 hat587 (g := (mkF m 93 #[vR a1, vR a2, vR nw, vI (1 : Int32), vD d579, .second, vI (0 : Int32)] [(.int (0 : Int32)), (.ref nw), (.double d585), (.double d579)])) rfl rfl (hb hby d9_93) _ ?_
    exact kt
  clear R586
  obtain ⟨nm589, d589, hv589, nn589, H589⟩ := own_ms (t := g1) H579 H585 H587 q1.1 q1.2.1 q1.2.2
  have R590 : ∀ tg, Steps p.tables e below (T583.setTop (mkF m 68 #[vR a1, vR a2, vR nw, vI (1 : Int32), vD d589, .second, vI ((0 : Int32) + (1 : Int32))] [])) tg → Steps p.tables e below (s₁.setTop (mkF m 0 #[vR a1, vR a2, .unset, .unset, .unset, .unset, .unset] [])) tg := by
    intro tg kt
    refine R588 _ ?_
    show Steps p.tables e below (T583.setTop (mkF m 94 #[vR a1, vR a2, vR nw, vI (1 : Int32), vD d579, .second, vI (0 : Int32)] [(.double d587), (.double d585), (.double d579)])) _
    refine XS.dmulS X583.here hx rfl (hb hby d9_94) rfl nm589 rfl ?_
    show Steps p.tables e below (T583.setTop (mkF m 95 #[vR a1, vR a2, vR nw, vI (1 : Int32), vD d579, .second, vI (0 : Int32)] [(.double (Jvm.FP.dmul d585 d587)), (.double d579)])) _
    refine XS.dsubS X583.here hx rfl (hb hby d9_95) rfl nn589 hv589 ?_
    show Steps p.tables e below (T583.setTop (mkF m 96 #[vR a1, vR a2, vR nw, vI (1 : Int32), vD d579, .second, vI (0 : Int32)] [(.double d589)])) _
    refine XS.dstore X583.here hx rfl (hb hby d9_96) rfl (l' := #[vR a1, vR a2, vR nw, vI (1 : Int32), vD d589, .second, vI (0 : Int32)]) rfl ?_
    show Steps p.tables e below (T583.setTop (mkF m 98 #[vR a1, vR a2, vR nw, vI (1 : Int32), vD d589, .second, vI (0 : Int32)] [])) _
    refine XS.iinc X583.here hx rfl (hb hby d9_98) rfl (l' := #[vR a1, vR a2, vR nw, vI (1 : Int32), vD d589, .second, vI ((0 : Int32) + (1 : Int32))]) rfl ?_
    show Steps p.tables e below (T583.setTop (mkF m 101 #[vR a1, vR a2, vR nw, vI (1 : Int32), vD d589, .second, vI ((0 : Int32) + (1 : Int32))] [])) _
    refine XS.goto X583.here hx rfl (pc0 := 101) (pc' := 68) rfl (hb hby d9_101) (by decide) (by decide) ?_
    exact kt
  clear R588
  have R591 : ∀ tg, Steps p.tables e below (T583.setTop (mkF m 68 #[vR a1, vR a2, vR nw, vI (1 : Int32), vD d589, .second, vI (1 : Int32)] [])) tg → Steps p.tables e below (s₁.setTop (mkF m 0 #[vR a1, vR a2, .unset, .unset, .unset, .unset, .unset] [])) tg := R590
  have R592 : ∀ tg, Steps p.tables e below (T583.setTop (mkF m 108 #[vR a1, vR a2, vR nw, vI (1 : Int32), vD d589, .second, vI (1 : Int32)] [(.double d589), (.int (1 : Int32)), (.ref nw)])) tg → Steps p.tables e below (s₁.setTop (mkF m 0 #[vR a1, vR a2, .unset, .unset, .unset, .unset, .unset] [])) tg := by
    intro tg kt
    refine R591 _ ?_
    show Steps p.tables e below (T583.setTop (mkF m 68 #[vR a1, vR a2, vR nw, vI (1 : Int32), vD d589, .second, vI (1 : Int32)] [])) _
    refine XS.iload X583.here hx rfl (hb hby d9_68) rfl ?_
    refine XS.iloadN X583.here hx rfl (hb hby d9_70) rfl ?_
    show Steps p.tables e below (T583.setTop (mkF m 71 #[vR a1, vR a2, vR nw, vI (1 : Int32), vD d589, .second, vI (1 : Int32)] [(.int (1 : Int32)), (.int (1 : Int32))])) _
    refine XS.icmpYes X583.here hx rfl (pc0 := 71) (pc' := 104) rfl (hb hby d9_71) rfl (flt (by decide : ¬ ((1 : Int32) < (1 : Int32)))).2.1 (by decide) (by decide) ?_
    refine XS.aloadN X583.here hx rfl (hb hby d9_104) rfl rfl ?_
    refine XS.iloadN X583.here hx rfl (hb hby d9_105) rfl ?_
    show Steps p.tables e below (T583.setTop (mkF m 106 #[vR a1, vR a2, vR nw, vI (1 : Int32), vD d589, .second, vI (1 : Int32)] [(.int (1 : Int32)), (.ref nw)])) _
    refine XS.dload X583.here hx rfl (hb hby d9_106) rfl ?_
    exact kt
  clear R591
  obtain ⟨cl593, -, Ar593, hin593, -, -⟩ := VB_573.at (j := (1 : Int32)) (k := 1) (by decide) rfl (by decide)
  obtain ⟨T594, h594, X594, e594, W594, st594⟩ := stD X583 hx hZ e583 Ar593 (j := (1 : Int32)) hin593 (g := (mkF m 108 #[vR a1, vR a2, vR nw, vI (1 : Int32), vD d589, .second, vI (1 : Int32)] [(.double d589), (.int (1 : Int32)), (.ref nw)])) rfl rfl (hb hby d9_108)
  have N594 := Fr.snoc X594 N573 g_nw
  rw [show ((1 : Int32) : Int32).toNatClampNeg = 1 from rfl] at W594
  have VB_594 : VD Z h594 nw 3 [w0, g1, w2] := VB_573.set W594 H589
  have Fs_594 := Fs_573.other W594 (Or.inl ne_a1_nw)
  have Fl_594 := Fl_573.other W594 (Or.inl ne_a1_nw)
  have Fp_594 := Fp_573.other W594 (Or.inl ne_a1_nw)
  have VL_594 := VL_573.other W594 ne_a3_nw
  have VP_594 := VP_573.other W594 ne_a4_nw
  clear Fs_573 Fl_573 Fp_573 VL_573 VP_573
  have Zs594 : n0 ≤ h594.size := Nat.le_trans Zs573 (Keep.of_wr W594).1
  have Kw594 : Keep h0 h594 [] := Keep.wr Kw573 W594 (Or.inr sz_nw)
  have R595 : ∀ tg, Steps p.tables e below (T594.setTop (mkF m 52 #[vR a1, vR a2, vR nw, vI ((1 : Int32) + (1 : Int32)), vD d589, .second, vI (1 : Int32)] [])) tg → Steps p.tables e below (s₁.setTop (mkF m 0 #[vR a1, vR a2, .unset, .unset, .unset, .unset, .unset] [])) tg := by
    intro tg kt
    refine R592 _ ?_
    refine st594 _ ?_
    show Steps p.tables e below (T594.setTop (mkF m 109 #[vR a1, vR a2, vR nw, vI (1 : Int32), vD d589, .second, vI (1 : Int32)] [])) _
    refine XS.iinc X594.here hx rfl (hb hby d9_109) rfl (l' := #[vR a1, vR a2, vR nw, vI ((1 : Int32) + (1 : Int32)), vD d589, .second, vI (1 : Int32)]) rfl ?_
    show Steps p.tables e below (T594.setTop (mkF m 112 #[vR a1, vR a2, vR nw, vI ((1 : Int32) + (1 : Int32)), vD d589, .second, vI (1 : Int32)] [])) _
    refine XS.goto X594.here hx rfl (pc0 := 112) (pc' := 52) rfl (hb hby d9_112) (by decide) (by decide) ?_
    exact kt
  clear R592 st594
  have R596 : ∀ tg, Steps p.tables e below (T594.setTop (mkF m 52 #[vR a1, vR a2, vR nw, vI (2 : Int32), vD d589, .second, vI (1 : Int32)] [])) tg → Steps p.tables e below (s₁.setTop (mkF m 0 #[vR a1, vR a2, .unset, .unset, .unset, .unset, .unset] [])) tg := R595
  have R597 : ∀ tg, Steps p.tables e below (T594.setTop (mkF m 54 #[vR a1, vR a2, vR nw, vI (2 : Int32), vD d589, .second, vI (1 : Int32)] [(.ref a1), (.int (2 : Int32))])) tg → Steps p.tables e below (s₁.setTop (mkF m 0 #[vR a1, vR a2, .unset, .unset, .unset, .unset, .unset] [])) tg := by
    intro tg kt
    refine R596 _ ?_
    show Steps p.tables e below (T594.setTop (mkF m 52 #[vR a1, vR a2, vR nw, vI (2 : Int32), vD d589, .second, vI (1 : Int32)] [])) _
    refine XS.iloadN X594.here hx rfl (hb hby d9_52) rfl ?_
    refine XS.aloadN X594.here hx rfl (hb hby d9_53) rfl rfl ?_
    exact kt
  clear R596
  obtain ⟨T598, X598, e598, st598⟩ := getF X594 hx hZ hown (host := "") (Or.inl (hw _ (List.mem_of_getElem? (i := 26) rfl))) Via.refl e594 Fs_594 (g := (mkF m 54 #[vR a1, vR a2, vR nw, vI (2 : Int32), vD d589, .second, vI (1 : Int32)] [(.ref a1), (.int (2 : Int32))])) rfl rfl (hb hby d9_54)
  have R599 : ∀ tg, Steps p.tables e below (T598.setTop (mkF m 62 #[vR a1, vR a2, vR nw, vI (2 : Int32), vD d589, .second, vI (1 : Int32)] [(.int (2 : Int32)), (.ref nw)])) tg → Steps p.tables e below (s₁.setTop (mkF m 0 #[vR a1, vR a2, .unset, .unset, .unset, .unset, .unset] [])) tg := by
    intro tg kt
    refine R597 _ ?_
    refine st598 _ ?_
    show Steps p.tables e below (T598.setTop (mkF m 57 #[vR a1, vR a2, vR nw, vI (2 : Int32), vD d589, .second, vI (1 : Int32)] [(.int (3 : Int32)), (.int (2 : Int32))])) _
    refine XS.icmpNo X598.here hx rfl (hb hby d9_57) rfl (tlt (by decide : (2 : Int32) < (3 : Int32))).2.1 ?_
    refine XS.aloadN X598.here hx rfl (hb hby d9_60) rfl rfl ?_
    refine XS.iloadN X598.here hx rfl (hb hby d9_61) rfl ?_
    exact kt
  clear R597 st598
  obtain ⟨cl600, d600, Ar600, hin600, hat600, G600⟩ := VB_594.at (j := (2 : Int32)) (k := 2) (by decide) rfl (by decide)
  have H600 : DR 2 w2 d600 := G600
  have R601 : ∀ tg, Steps p.tables e below (T598.setTop (mkF m 77 #[vR a1, vR a2, vR nw, vI (2 : Int32), vD d600, .second, vI (0 : Int32)] [(.ref a1), (.double d600)])) tg → Steps p.tables e below (s₁.setTop (mkF m 0 #[vR a1, vR a2, .unset, .unset, .unset, .unset, .unset] [])) tg := by
    intro tg kt
    refine R599 _ ?_
    show Steps p.tables e below (T598.setTop (mkF m 62 #[vR a1, vR a2, vR nw, vI (2 : Int32), vD d589, .second, vI (1 : Int32)] [(.int (2 : Int32)), (.ref nw)])) _
    refine X598.daload hx (j := (2 : Int32)) (v := (.double d600)) (by rw [e598]; exact Ar600.1) (State.isArrayOf_alike hZ.alike Ar600.2.1) Ar600.2.2 hin600 hat600 (g := (mkF m 62 #[vR a1, vR a2, vR nw, vI (2 : Int32), vD d589, .second, vI (1 : Int32)] [(.int (2 : Int32)), (.ref nw)])) rfl rfl (hb hby d9_62) _ ?_
    show Steps p.tables e below (T598.setTop (mkF m 63 #[vR a1, vR a2, vR nw, vI (2 : Int32), vD d589, .second, vI (1 : Int32)] [(.double d600)])) _
    refine XS.dstore X598.here hx rfl (hb hby d9_63) rfl (l' := #[vR a1, vR a2, vR nw, vI (2 : Int32), vD d600, .second, vI (1 : Int32)]) rfl ?_
    refine XS.iconst X598.here hx rfl (hb hby d9_65) ?_
    show Steps p.tables e below (T598.setTop (mkF m 66 #[vR a1, vR a2, vR nw, vI (2 : Int32), vD d600, .second, vI (1 : Int32)] [(.int (0 : Int32))])) _
    refine XS.istore X598.here hx rfl (hb hby d9_66) rfl (l' := #[vR a1, vR a2, vR nw, vI (2 : Int32), vD d600, .second, vI (0 : Int32)]) rfl ?_
    refine XS.iload X598.here hx rfl (hb hby d9_68) rfl ?_
    refine XS.iloadN X598.here hx rfl (hb hby d9_70) rfl ?_
    show Steps p.tables e below (T598.setTop (mkF m 71 #[vR a1, vR a2, vR nw, vI (2 : Int32), vD d600, .second, vI (0 : Int32)] [(.int (2 : Int32)), (.int (0 : Int32))])) _
    refine XS.icmpNo X598.here hx rfl (hb hby d9_71) rfl (tlt (by decide : (0 : Int32) < (2 : Int32))).2.1 ?_
    show Steps p.tables e below (T598.setTop (mkF m 74 #[vR a1, vR a2, vR nw, vI (2 : Int32), vD d600, .second, vI (0 : Int32)] [])) _
    refine XS.dload X598.here hx rfl (hb hby d9_74) rfl ?_
    refine XS.aloadN X598.here hx rfl (hb hby d9_76) rfl rfl ?_
    exact kt
  clear R599
  obtain ⟨T602, X602, e602, st602⟩ := getF X598 hx hZ hown (host := "") (Or.inl (hw _ (List.mem_of_getElem? (i := 28) rfl))) Via.refl e598 Fl_594 (g := (mkF m 77 #[vR a1, vR a2, vR nw, vI (2 : Int32), vD d600, .second, vI (0 : Int32)] [(.ref a1), (.double d600)])) rfl rfl (hb hby d9_77)
  have R603 : ∀ tg, Steps p.tables e below (T602.setTop (mkF m 82 #[vR a1, vR a2, vR nw, vI (2 : Int32), vD d600, .second, vI (0 : Int32)] [(.ref a1), (.int (2 : Int32)), (.ref a3), (.double d600)])) tg → Steps p.tables e below (s₁.setTop (mkF m 0 #[vR a1, vR a2, .unset, .unset, .unset, .unset, .unset] [])) tg := by
    intro tg kt
    refine R601 _ ?_
    refine st602 _ ?_
    refine XS.iloadN X602.here hx rfl (hb hby d9_80) rfl ?_
    show Steps p.tables e below (T602.setTop (mkF m 81 #[vR a1, vR a2, vR nw, vI (2 : Int32), vD d600, .second, vI (0 : Int32)] [(.int (2 : Int32)), (.ref a3), (.double d600)])) _
    refine XS.aloadN X602.here hx rfl (hb hby d9_81) rfl rfl ?_
    exact kt
  clear R601 st602
  obtain ⟨T604, X604, e604, st604⟩ := getF X602 hx hZ hown (host := "") (Or.inl (hw _ (List.mem_of_getElem? (i := 26) rfl))) Via.refl e602 Fs_594 (g := (mkF m 82 #[vR a1, vR a2, vR nw, vI (2 : Int32), vD d600, .second, vI (0 : Int32)] [(.ref a1), (.int (2 : Int32)), (.ref a3), (.double d600)])) rfl rfl (hb hby d9_82)
  have R605 : ∀ tg, Steps p.tables e below (T604.setTop (mkF m 89 #[vR a1, vR a2, vR nw, vI (2 : Int32), vD d600, .second, vI (0 : Int32)] [(.int (((2 : Int32) * (3 : Int32)) + (0 : Int32))), (.ref a3), (.double d600)])) tg → Steps p.tables e below (s₁.setTop (mkF m 0 #[vR a1, vR a2, .unset, .unset, .unset, .unset, .unset] [])) tg := by
    intro tg kt
    refine R603 _ ?_
    refine st604 _ ?_
    show Steps p.tables e below (T604.setTop (mkF m 85 #[vR a1, vR a2, vR nw, vI (2 : Int32), vD d600, .second, vI (0 : Int32)] [(.int (3 : Int32)), (.int (2 : Int32)), (.ref a3), (.double d600)])) _
    refine XS.imul X604.here hx rfl (hb hby d9_85) rfl ?_
    refine XS.iload X604.here hx rfl (hb hby d9_86) rfl ?_
    show Steps p.tables e below (T604.setTop (mkF m 88 #[vR a1, vR a2, vR nw, vI (2 : Int32), vD d600, .second, vI (0 : Int32)] [(.int (0 : Int32)), (.int ((2 : Int32) * (3 : Int32))), (.ref a3), (.double d600)])) _
    refine XS.iadd X604.here hx rfl (hb hby d9_88) rfl ?_
    exact kt
  clear R603 st604
  obtain ⟨cl606, d606, Ar606, hin606, hat606, G606⟩ := VL_594.at (j := (((2 : Int32) * (3 : Int32)) + (0 : Int32))) (k := 6) (by decide) (by decide) (by decide)
  have H606 : DR 2 c6 d606 := G606
  have R607 : ∀ tg, Steps p.tables e below (T604.setTop (mkF m 93 #[vR a1, vR a2, vR nw, vI (2 : Int32), vD d600, .second, vI (0 : Int32)] [(.int (0 : Int32)), (.ref nw), (.double d606), (.double d600)])) tg → Steps p.tables e below (s₁.setTop (mkF m 0 #[vR a1, vR a2, .unset, .unset, .unset, .unset, .unset] [])) tg := by
    intro tg kt
    refine R605 _ ?_
    show Steps p.tables e below (T604.setTop (mkF m 89 #[vR a1, vR a2, vR nw, vI (2 : Int32), vD d600, .second, vI (0 : Int32)] [(.int (((2 : Int32) * (3 : Int32)) + (0 : Int32))), (.ref a3), (.double d600)])) _
    refine X604.daload hx (j := (((2 : Int32) * (3 : Int32)) + (0 : Int32))) (v := (.double d606)) (by rw [e604]; exact Ar606.1) (State.isArrayOf_alike hZ.alike Ar606.2.1) Ar606.2.2 hin606 hat606 (g := (mkF m 89 #[vR a1, vR a2, vR nw, vI (2 : Int32), vD d600, .second, vI (0 : Int32)] [(.int (((2 : Int32) * (3 : Int32)) + (0 : Int32))), (.ref a3), (.double d600)])) rfl rfl (hb hby d9_89) _ ?_
    refine XS.aloadN X604.here hx rfl (hb hby d9_90) rfl rfl ?_
    refine XS.iload X604.here hx rfl (hb hby d9_91) rfl ?_
    exact kt
  clear R605
  obtain ⟨cl608, d608, Ar608, hin608, hat608, G608⟩ := VB_594.at (j := (0 : Int32)) (k := 0) (by decide) rfl (by decide)
  have H608 : DR 2 w0 d608 := G608
  have R609 : ∀ tg, Steps p.tables e below (T604.setTop (mkF m 94 #[vR a1, vR a2, vR nw, vI (2 : Int32), vD d600, .second, vI (0 : Int32)] [(.double d608), (.double d606), (.double d600)])) tg → Steps p.tables e below (s₁.setTop (mkF m 0 #[vR a1, vR a2, .unset, .unset, .unset, .unset, .unset] [])) tg := by
    intro tg kt
    refine R607 _ ?_
    show Steps p.tables e below (T604.setTop (mkF m 93 #[vR a1, vR a2, vR nw, vI (2 : Int32), vD d600, .second, vI (0 : Int32)] [(.int (0 : Int32)), (.ref nw), (.double d606), (.double d600)])) _
    refine X604.daload hx (j := (0 : Int32)) (v := (.double d608)) (by rw [e604]; exact Ar608.1) (State.isArrayOf_alike hZ.alike Ar608.2.1) Ar608.2.2 hin608 hat608 (g := (mkF m 93 #[vR a1, vR a2, vR nw, vI (2 : Int32), vD d600, .second, vI (0 : Int32)] [(.int (0 : Int32)), (.ref nw), (.double d606), (.double d600)])) rfl rfl (hb hby d9_93) _ ?_
    exact kt
  clear R607
  obtain ⟨nm610, d610, hv610, nn610, H610⟩ := own_ms (t := gx) H600 H606 H608 q2.1 q2.2.1 q2.2.2
  have R611 : ∀ tg, Steps p.tables e below (T604.setTop (mkF m 68 #[vR a1, vR a2, vR nw, vI (2 : Int32), vD d610, .second, vI ((0 : Int32) + (1 : Int32))] [])) tg → Steps p.tables e below (s₁.setTop (mkF m 0 #[vR a1, vR a2, .unset, .unset, .unset, .unset, .unset] [])) tg := by
    intro tg kt
    refine R609 _ ?_
    show Steps p.tables e below (T604.setTop (mkF m 94 #[vR a1, vR a2, vR nw, vI (2 : Int32), vD d600, .second, vI (0 : Int32)] [(.double d608), (.double d606), (.double d600)])) _
    refine XS.dmulS X604.here hx rfl (hb hby d9_94) rfl nm610 rfl ?_
    show Steps p.tables e below (T604.setTop (mkF m 95 #[vR a1, vR a2, vR nw, vI (2 : Int32), vD d600, .second, vI (0 : Int32)] [(.double (Jvm.FP.dmul d606 d608)), (.double d600)])) _
    refine XS.dsubS X604.here hx rfl (hb hby d9_95) rfl nn610 hv610 ?_
    show Steps p.tables e below (T604.setTop (mkF m 96 #[vR a1, vR a2, vR nw, vI (2 : Int32), vD d600, .second, vI (0 : Int32)] [(.double d610)])) _
    refine XS.dstore X604.here hx rfl (hb hby d9_96) rfl (l' := #[vR a1, vR a2, vR nw, vI (2 : Int32), vD d610, .second, vI (0 : Int32)]) rfl ?_
    show Steps p.tables e below (T604.setTop (mkF m 98 #[vR a1, vR a2, vR nw, vI (2 : Int32), vD d610, .second, vI (0 : Int32)] [])) _
    refine XS.iinc X604.here hx rfl (hb hby d9_98) rfl (l' := #[vR a1, vR a2, vR nw, vI (2 : Int32), vD d610, .second, vI ((0 : Int32) + (1 : Int32))]) rfl ?_
    show Steps p.tables e below (T604.setTop (mkF m 101 #[vR a1, vR a2, vR nw, vI (2 : Int32), vD d610, .second, vI ((0 : Int32) + (1 : Int32))] [])) _
    refine XS.goto X604.here hx rfl (pc0 := 101) (pc' := 68) rfl (hb hby d9_101) (by decide) (by decide) ?_
    exact kt
  clear R609
  have R612 : ∀ tg, Steps p.tables e below (T604.setTop (mkF m 68 #[vR a1, vR a2, vR nw, vI (2 : Int32), vD d610, .second, vI (1 : Int32)] [])) tg → Steps p.tables e below (s₁.setTop (mkF m 0 #[vR a1, vR a2, .unset, .unset, .unset, .unset, .unset] [])) tg := R611
  have R613 : ∀ tg, Steps p.tables e below (T604.setTop (mkF m 77 #[vR a1, vR a2, vR nw, vI (2 : Int32), vD d610, .second, vI (1 : Int32)] [(.ref a1), (.double d610)])) tg → Steps p.tables e below (s₁.setTop (mkF m 0 #[vR a1, vR a2, .unset, .unset, .unset, .unset, .unset] [])) tg := by
    intro tg kt
    refine R612 _ ?_
    show Steps p.tables e below (T604.setTop (mkF m 68 #[vR a1, vR a2, vR nw, vI (2 : Int32), vD d610, .second, vI (1 : Int32)] [])) _
    refine XS.iload X604.here hx rfl (hb hby d9_68) rfl ?_
    refine XS.iloadN X604.here hx rfl (hb hby d9_70) rfl ?_
    show Steps p.tables e below (T604.setTop (mkF m 71 #[vR a1, vR a2, vR nw, vI (2 : Int32), vD d610, .second, vI (1 : Int32)] [(.int (2 : Int32)), (.int (1 : Int32))])) _
    refine XS.icmpNo X604.here hx rfl (hb hby d9_71) rfl (tlt (by decide : (1 : Int32) < (2 : Int32))).2.1 ?_
    show Steps p.tables e below (T604.setTop (mkF m 74 #[vR a1, vR a2, vR nw, vI (2 : Int32), vD d610, .second, vI (1 : Int32)] [])) _
    refine XS.dload X604.here hx rfl (hb hby d9_74) rfl ?_
    refine XS.aloadN X604.here hx rfl (hb hby d9_76) rfl rfl ?_
    exact kt
  clear R612
  obtain ⟨T614, X614, e614, st614⟩ := getF X604 hx hZ hown (host := "") (Or.inl (hw _ (List.mem_of_getElem? (i := 28) rfl))) Via.refl e604 Fl_594 (g := (mkF m 77 #[vR a1, vR a2, vR nw, vI (2 : Int32), vD d610, .second, vI (1 : Int32)] [(.ref a1), (.double d610)])) rfl rfl (hb hby d9_77)
  have R615 : ∀ tg, Steps p.tables e below (T614.setTop (mkF m 82 #[vR a1, vR a2, vR nw, vI (2 : Int32), vD d610, .second, vI (1 : Int32)] [(.ref a1), (.int (2 : Int32)), (.ref a3), (.double d610)])) tg → Steps p.tables e below (s₁.setTop (mkF m 0 #[vR a1, vR a2, .unset, .unset, .unset, .unset, .unset] [])) tg := by
    intro tg kt
    refine R613 _ ?_
    refine st614 _ ?_
    refine XS.iloadN X614.here hx rfl (hb hby d9_80) rfl ?_
    show Steps p.tables e below (T614.setTop (mkF m 81 #[vR a1, vR a2, vR nw, vI (2 : Int32), vD d610, .second, vI (1 : Int32)] [(.int (2 : Int32)), (.ref a3), (.double d610)])) _
    refine XS.aloadN X614.here hx rfl (hb hby d9_81) rfl rfl ?_
    exact kt
  clear R613 st614
  obtain ⟨T616, X616, e616, st616⟩ := getF X614 hx hZ hown (host := "") (Or.inl (hw _ (List.mem_of_getElem? (i := 26) rfl))) Via.refl e614 Fs_594 (g := (mkF m 82 #[vR a1, vR a2, vR nw, vI (2 : Int32), vD d610, .second, vI (1 : Int32)] [(.ref a1), (.int (2 : Int32)), (.ref a3), (.double d610)])) rfl rfl (hb hby d9_82)
  have R617 : ∀ tg, Steps p.tables e below (T616.setTop (mkF m 89 #[vR a1, vR a2, vR nw, vI (2 : Int32), vD d610, .second, vI (1 : Int32)] [(.int (((2 : Int32) * (3 : Int32)) + (1 : Int32))), (.ref a3), (.double d610)])) tg → Steps p.tables e below (s₁.setTop (mkF m 0 #[vR a1, vR a2, .unset, .unset, .unset, .unset, .unset] [])) tg := by
    intro tg kt
    refine R615 _ ?_
    refine st616 _ ?_
    show Steps p.tables e below (T616.setTop (mkF m 85 #[vR a1, vR a2, vR nw, vI (2 : Int32), vD d610, .second, vI (1 : Int32)] [(.int (3 : Int32)), (.int (2 : Int32)), (.ref a3), (.double d610)])) _
    refine XS.imul X616.here hx rfl (hb hby d9_85) rfl ?_
    refine XS.iload X616.here hx rfl (hb hby d9_86) rfl ?_
    show Steps p.tables e below (T616.setTop (mkF m 88 #[vR a1, vR a2, vR nw, vI (2 : Int32), vD d610, .second, vI (1 : Int32)] [(.int (1 : Int32)), (.int ((2 : Int32) * (3 : Int32))), (.ref a3), (.double d610)])) _
    refine XS.iadd X616.here hx rfl (hb hby d9_88) rfl ?_
    exact kt
  clear R615 st616
  obtain ⟨cl618, d618, Ar618, hin618, hat618, G618⟩ := VL_594.at (j := (((2 : Int32) * (3 : Int32)) + (1 : Int32))) (k := 7) (by decide) (by decide) (by decide)
  have H618 : DR 2 c7 d618 := G618
  have R619 : ∀ tg, Steps p.tables e below (T616.setTop (mkF m 93 #[vR a1, vR a2, vR nw, vI (2 : Int32), vD d610, .second, vI (1 : Int32)] [(.int (1 : Int32)), (.ref nw), (.double d618), (.double d610)])) tg → Steps p.tables e below (s₁.setTop (mkF m 0 #[vR a1, vR a2, .unset, .unset, .unset, .unset, .unset] [])) tg := by
    intro tg kt
    refine R617 _ ?_
    show Steps p.tables e below (T616.setTop (mkF m 89 #[vR a1, vR a2, vR nw, vI (2 : Int32), vD d610, .second, vI (1 : Int32)] [(.int (((2 : Int32) * (3 : Int32)) + (1 : Int32))), (.ref a3), (.double d610)])) _
    refine X616.daload hx (j := (((2 : Int32) * (3 : Int32)) + (1 : Int32))) (v := (.double d618)) (by rw [e616]; exact Ar618.1) (State.isArrayOf_alike hZ.alike Ar618.2.1) Ar618.2.2 hin618 hat618 (g := (mkF m 89 #[vR a1, vR a2, vR nw, vI (2 : Int32), vD d610, .second, vI (1 : Int32)] [(.int (((2 : Int32) * (3 : Int32)) + (1 : Int32))), (.ref a3), (.double d610)])) rfl rfl (hb hby d9_89) _ ?_
    refine XS.aloadN X616.here hx rfl (hb hby d9_90) rfl rfl ?_
    refine XS.iload X616.here hx rfl (hb hby d9_91) rfl ?_
    exact kt
  clear R617
  obtain ⟨cl620, d620, Ar620, hin620, hat620, G620⟩ := VB_594.at (j := (1 : Int32)) (k := 1) (by decide) rfl (by decide)
  have H620 : DR 2 g1 d620 := G620
  have R621 : ∀ tg, Steps p.tables e below (T616.setTop (mkF m 94 #[vR a1, vR a2, vR nw, vI (2 : Int32), vD d610, .second, vI (1 : Int32)] [(.double d620), (.double d618), (.double d610)])) tg → Steps p.tables e below (s₁.setTop (mkF m 0 #[vR a1, vR a2, .unset, .unset, .unset, .unset, .unset] [])) tg := by
    intro tg kt
    refine R619 _ ?_
    show Steps p.tables e below (T616.setTop (mkF m 93 #[vR a1, vR a2, vR nw, vI (2 : Int32), vD d610, .second, vI (1 : Int32)] [(.int (1 : Int32)), (.ref nw), (.double d618), (.double d610)])) _
    refine X616.daload hx (j := (1 : Int32)) (v := (.double d620)) (by rw [e616]; exact Ar620.1) (State.isArrayOf_alike hZ.alike Ar620.2.1) Ar620.2.2 hin620 hat620 (g := (mkF m 93 #[vR a1, vR a2, vR nw, vI (2 : Int32), vD d610, .second, vI (1 : Int32)] [(.int (1 : Int32)), (.ref nw), (.double d618), (.double d610)])) rfl rfl (hb hby d9_93) _ ?_
    exact kt
  clear R619
  obtain ⟨nm622, d622, hv622, nn622, H622⟩ := own_ms (t := g2) H610 H618 H620 q3.1 q3.2.1 q3.2.2
  have R623 : ∀ tg, Steps p.tables e below (T616.setTop (mkF m 68 #[vR a1, vR a2, vR nw, vI (2 : Int32), vD d622, .second, vI ((1 : Int32) + (1 : Int32))] [])) tg → Steps p.tables e below (s₁.setTop (mkF m 0 #[vR a1, vR a2, .unset, .unset, .unset, .unset, .unset] [])) tg := by
    intro tg kt
    refine R621 _ ?_
    show Steps p.tables e below (T616.setTop (mkF m 94 #[vR a1, vR a2, vR nw, vI (2 : Int32), vD d610, .second, vI (1 : Int32)] [(.double d620), (.double d618), (.double d610)])) _
    refine XS.dmulS X616.here hx rfl (hb hby d9_94) rfl nm622 rfl ?_
    show Steps p.tables e below (T616.setTop (mkF m 95 #[vR a1, vR a2, vR nw, vI (2 : Int32), vD d610, .second, vI (1 : Int32)] [(.double (Jvm.FP.dmul d618 d620)), (.double d610)])) _
    refine XS.dsubS X616.here hx rfl (hb hby d9_95) rfl nn622 hv622 ?_
    show Steps p.tables e below (T616.setTop (mkF m 96 #[vR a1, vR a2, vR nw, vI (2 : Int32), vD d610, .second, vI (1 : Int32)] [(.double d622)])) _
    refine XS.dstore X616.here hx rfl (hb hby d9_96) rfl (l' := #[vR a1, vR a2, vR nw, vI (2 : Int32), vD d622, .second, vI (1 : Int32)]) rfl ?_
    show Steps p.tables e below (T616.setTop (mkF m 98 #[vR a1, vR a2, vR nw, vI (2 : Int32), vD d622, .second, vI (1 : Int32)] [])) _
    refine XS.iinc X616.here hx rfl (hb hby d9_98) rfl (l' := #[vR a1, vR a2, vR nw, vI (2 : Int32), vD d622, .second, vI ((1 : Int32) + (1 : Int32))]) rfl ?_
    show Steps p.tables e below (T616.setTop (mkF m 101 #[vR a1, vR a2, vR nw, vI (2 : Int32), vD d622, .second, vI ((1 : Int32) + (1 : Int32))] [])) _
    refine XS.goto X616.here hx rfl (pc0 := 101) (pc' := 68) rfl (hb hby d9_101) (by decide) (by decide) ?_
    exact kt
  clear R621
  have R624 : ∀ tg, Steps p.tables e below (T616.setTop (mkF m 68 #[vR a1, vR a2, vR nw, vI (2 : Int32), vD d622, .second, vI (2 : Int32)] [])) tg → Steps p.tables e below (s₁.setTop (mkF m 0 #[vR a1, vR a2, .unset, .unset, .unset, .unset, .unset] [])) tg := R623
  have R625 : ∀ tg, Steps p.tables e below (T616.setTop (mkF m 108 #[vR a1, vR a2, vR nw, vI (2 : Int32), vD d622, .second, vI (2 : Int32)] [(.double d622), (.int (2 : Int32)), (.ref nw)])) tg → Steps p.tables e below (s₁.setTop (mkF m 0 #[vR a1, vR a2, .unset, .unset, .unset, .unset, .unset] [])) tg := by
    intro tg kt
    refine R624 _ ?_
    show Steps p.tables e below (T616.setTop (mkF m 68 #[vR a1, vR a2, vR nw, vI (2 : Int32), vD d622, .second, vI (2 : Int32)] [])) _
    refine XS.iload X616.here hx rfl (hb hby d9_68) rfl ?_
    refine XS.iloadN X616.here hx rfl (hb hby d9_70) rfl ?_
    show Steps p.tables e below (T616.setTop (mkF m 71 #[vR a1, vR a2, vR nw, vI (2 : Int32), vD d622, .second, vI (2 : Int32)] [(.int (2 : Int32)), (.int (2 : Int32))])) _
    refine XS.icmpYes X616.here hx rfl (pc0 := 71) (pc' := 104) rfl (hb hby d9_71) rfl (flt (by decide : ¬ ((2 : Int32) < (2 : Int32)))).2.1 (by decide) (by decide) ?_
    refine XS.aloadN X616.here hx rfl (hb hby d9_104) rfl rfl ?_
    refine XS.iloadN X616.here hx rfl (hb hby d9_105) rfl ?_
    show Steps p.tables e below (T616.setTop (mkF m 106 #[vR a1, vR a2, vR nw, vI (2 : Int32), vD d622, .second, vI (2 : Int32)] [(.int (2 : Int32)), (.ref nw)])) _
    refine XS.dload X616.here hx rfl (hb hby d9_106) rfl ?_
    exact kt
  clear R624
  obtain ⟨cl626, -, Ar626, hin626, -, -⟩ := VB_594.at (j := (2 : Int32)) (k := 2) (by decide) rfl (by decide)
  obtain ⟨T627, h627, X627, e627, W627, st627⟩ := stD X616 hx hZ e616 Ar626 (j := (2 : Int32)) hin626 (g := (mkF m 108 #[vR a1, vR a2, vR nw, vI (2 : Int32), vD d622, .second, vI (2 : Int32)] [(.double d622), (.int (2 : Int32)), (.ref nw)])) rfl rfl (hb hby d9_108)
  have N627 := Fr.snoc X627 N594 g_nw
  rw [show ((2 : Int32) : Int32).toNatClampNeg = 2 from rfl] at W627
  have VB_627 : VD Z h627 nw 3 [w0, g1, g2] := VB_594.set W627 H622
  have Fs_627 := Fs_594.other W627 (Or.inl ne_a1_nw)
  have Fl_627 := Fl_594.other W627 (Or.inl ne_a1_nw)
  have Fp_627 := Fp_594.other W627 (Or.inl ne_a1_nw)
  have VL_627 := VL_594.other W627 ne_a3_nw
  have VP_627 := VP_594.other W627 ne_a4_nw
  clear Fs_594 Fl_594 Fp_594 VL_594 VP_594
  have Zs627 : n0 ≤ h627.size := Nat.le_trans Zs594 (Keep.of_wr W627).1
  have Kw627 : Keep h0 h627 [] := Keep.wr Kw594 W627 (Or.inr sz_nw)
  have R628 : ∀ tg, Steps p.tables e below (T627.setTop (mkF m 52 #[vR a1, vR a2, vR nw, vI ((2 : Int32) + (1 : Int32)), vD d622, .second, vI (2 : Int32)] [])) tg → Steps p.tables e below (s₁.setTop (mkF m 0 #[vR a1, vR a2, .unset, .unset, .unset, .unset, .unset] [])) tg := by
    intro tg kt
    refine R625 _ ?_
    refine st627 _ ?_
    show Steps p.tables e below (T627.setTop (mkF m 109 #[vR a1, vR a2, vR nw, vI (2 : Int32), vD d622, .second, vI (2 : Int32)] [])) _
    refine XS.iinc X627.here hx rfl (hb hby d9_109) rfl (l' := #[vR a1, vR a2, vR nw, vI ((2 : Int32) + (1 : Int32)), vD d622, .second, vI (2 : Int32)]) rfl ?_
    show Steps p.tables e below (T627.setTop (mkF m 112 #[vR a1, vR a2, vR nw, vI ((2 : Int32) + (1 : Int32)), vD d622, .second, vI (2 : Int32)] [])) _
    refine XS.goto X627.here hx rfl (pc0 := 112) (pc' := 52) rfl (hb hby d9_112) (by decide) (by decide) ?_
    exact kt
  clear R625 st627
  have R629 : ∀ tg, Steps p.tables e below (T627.setTop (mkF m 52 #[vR a1, vR a2, vR nw, vI (3 : Int32), vD d622, .second, vI (2 : Int32)] [])) tg → Steps p.tables e below (s₁.setTop (mkF m 0 #[vR a1, vR a2, .unset, .unset, .unset, .unset, .unset] [])) tg := R628
  have R630 : ∀ tg, Steps p.tables e below (T627.setTop (mkF m 54 #[vR a1, vR a2, vR nw, vI (3 : Int32), vD d622, .second, vI (2 : Int32)] [(.ref a1), (.int (3 : Int32))])) tg → Steps p.tables e below (s₁.setTop (mkF m 0 #[vR a1, vR a2, .unset, .unset, .unset, .unset, .unset] [])) tg := by
    intro tg kt
    refine R629 _ ?_
    show Steps p.tables e below (T627.setTop (mkF m 52 #[vR a1, vR a2, vR nw, vI (3 : Int32), vD d622, .second, vI (2 : Int32)] [])) _
    refine XS.iloadN X627.here hx rfl (hb hby d9_52) rfl ?_
    refine XS.aloadN X627.here hx rfl (hb hby d9_53) rfl rfl ?_
    exact kt
  clear R629
  obtain ⟨T631, X631, e631, st631⟩ := getF X627 hx hZ hown (host := "") (Or.inl (hw _ (List.mem_of_getElem? (i := 26) rfl))) Via.refl e627 Fs_627 (g := (mkF m 54 #[vR a1, vR a2, vR nw, vI (3 : Int32), vD d622, .second, vI (2 : Int32)] [(.ref a1), (.int (3 : Int32))])) rfl rfl (hb hby d9_54)
  have R632 : ∀ tg, Steps p.tables e below (T631.setTop (mkF m 116 #[vR a1, vR a2, vR nw, vI (3 : Int32), vD d622, .second, vI (2 : Int32)] [(.ref a1)])) tg → Steps p.tables e below (s₁.setTop (mkF m 0 #[vR a1, vR a2, .unset, .unset, .unset, .unset, .unset] [])) tg := by
    intro tg kt
    refine R630 _ ?_
    refine st631 _ ?_
    show Steps p.tables e below (T631.setTop (mkF m 57 #[vR a1, vR a2, vR nw, vI (3 : Int32), vD d622, .second, vI (2 : Int32)] [(.int (3 : Int32)), (.int (3 : Int32))])) _
    refine XS.icmpYes X631.here hx rfl (pc0 := 57) (pc' := 115) rfl (hb hby d9_57) rfl (flt (by decide : ¬ ((3 : Int32) < (3 : Int32)))).2.1 (by decide) (by decide) ?_
    refine XS.aloadN X631.here hx rfl (hb hby d9_115) rfl rfl ?_
    exact kt
  clear R630 st631
  obtain ⟨T633, X633, e633, st633⟩ := getF X631 hx hZ hown (host := "") (Or.inl (hw _ (List.mem_of_getElem? (i := 26) rfl))) Via.refl e631 Fs_627 (g := (mkF m 116 #[vR a1, vR a2, vR nw, vI (3 : Int32), vD d622, .second, vI (2 : Int32)] [(.ref a1)])) rfl rfl (hb hby d9_116)
  have R634 : ∀ tg, Steps p.tables e below (T633.setTop (mkF m 122 #[vR a1, vR a2, vR nw, vI ((3 : Int32) - (1 : Int32)), vD d622, .second, vI (2 : Int32)] [])) tg → Steps p.tables e below (s₁.setTop (mkF m 0 #[vR a1, vR a2, .unset, .unset, .unset, .unset, .unset] [])) tg := by
    intro tg kt
    refine R632 _ ?_
    refine st633 _ ?_
    refine XS.iconst X633.here hx rfl (hb hby d9_119) ?_
    show Steps p.tables e below (T633.setTop (mkF m 120 #[vR a1, vR a2, vR nw, vI (3 : Int32), vD d622, .second, vI (2 : Int32)] [(.int (1 : Int32)), (.int (3 : Int32))])) _
    refine XS.isub X633.here hx rfl (hb hby d9_120) rfl ?_
    show Steps p.tables e below (T633.setTop (mkF m 121 #[vR a1, vR a2, vR nw, vI (3 : Int32), vD d622, .second, vI (2 : Int32)] [(.int ((3 : Int32) - (1 : Int32)))])) _
    refine XS.istoreN X633.here hx rfl (hb hby d9_121) rfl (l' := #[vR a1, vR a2, vR nw, vI ((3 : Int32) - (1 : Int32)), vD d622, .second, vI (2 : Int32)]) rfl ?_
    exact kt
  clear R632 st633
  have R635 : ∀ tg, Steps p.tables e below (T633.setTop (mkF m 122 #[vR a1, vR a2, vR nw, vI (2 : Int32), vD d622, .second, vI (2 : Int32)] [])) tg → Steps p.tables e below (s₁.setTop (mkF m 0 #[vR a1, vR a2, .unset, .unset, .unset, .unset, .unset] [])) tg := R634
  have R636 : ∀ tg, Steps p.tables e below (T633.setTop (mkF m 128 #[vR a1, vR a2, vR nw, vI (2 : Int32), vD d622, .second, vI (2 : Int32)] [(.int (2 : Int32)), (.ref nw)])) tg → Steps p.tables e below (s₁.setTop (mkF m 0 #[vR a1, vR a2, .unset, .unset, .unset, .unset, .unset] [])) tg := by
    intro tg kt
    refine R635 _ ?_
    show Steps p.tables e below (T633.setTop (mkF m 122 #[vR a1, vR a2, vR nw, vI (2 : Int32), vD d622, .second, vI (2 : Int32)] [])) _
    refine XS.iloadN X633.here hx rfl (hb hby d9_122) rfl ?_
    show Steps p.tables e below (T633.setTop (mkF m 123 #[vR a1, vR a2, vR nw, vI (2 : Int32), vD d622, .second, vI (2 : Int32)] [(.int (2 : Int32))])) _
    refine XS.ifNo X633.here hx rfl (hb hby d9_123) rfl ((if0 _ _).trans (flt (by decide : ¬ ((2 : Int32) < (0 : Int32)))).1) ?_
    refine XS.aloadN X633.here hx rfl (hb hby d9_126) rfl rfl ?_
    refine XS.iloadN X633.here hx rfl (hb hby d9_127) rfl ?_
    exact kt
  clear R635
  obtain ⟨cl637, d637, Ar637, hin637, hat637, G637⟩ := VB_627.at (j := (2 : Int32)) (k := 2) (by decide) rfl (by decide)
  have H637 : DR 2 g2 d637 := G637
  have R638 : ∀ tg, Steps p.tables e below (T633.setTop (mkF m 136 #[vR a1, vR a2, vR nw, vI (2 : Int32), vD d637, .second, vI ((2 : Int32) + (1 : Int32))] [])) tg → Steps p.tables e below (s₁.setTop (mkF m 0 #[vR a1, vR a2, .unset, .unset, .unset, .unset, .unset] [])) tg := by
    intro tg kt
    refine R636 _ ?_
    show Steps p.tables e below (T633.setTop (mkF m 128 #[vR a1, vR a2, vR nw, vI (2 : Int32), vD d622, .second, vI (2 : Int32)] [(.int (2 : Int32)), (.ref nw)])) _
    refine X633.daload hx (j := (2 : Int32)) (v := (.double d637)) (by rw [e633]; exact Ar637.1) (State.isArrayOf_alike hZ.alike Ar637.2.1) Ar637.2.2 hin637 hat637 (g := (mkF m 128 #[vR a1, vR a2, vR nw, vI (2 : Int32), vD d622, .second, vI (2 : Int32)] [(.int (2 : Int32)), (.ref nw)])) rfl rfl (hb hby d9_128) _ ?_
    show Steps p.tables e below (T633.setTop (mkF m 129 #[vR a1, vR a2, vR nw, vI (2 : Int32), vD d622, .second, vI (2 : Int32)] [(.double d637)])) _
    refine XS.dstore X633.here hx rfl (hb hby d9_129) rfl (l' := #[vR a1, vR a2, vR nw, vI (2 : Int32), vD d637, .second, vI (2 : Int32)]) rfl ?_
    refine XS.iloadN X633.here hx rfl (hb hby d9_131) rfl ?_
    refine XS.iconst X633.here hx rfl (hb hby d9_132) ?_
    show Steps p.tables e below (T633.setTop (mkF m 133 #[vR a1, vR a2, vR nw, vI (2 : Int32), vD d637, .second, vI (2 : Int32)] [(.int (1 : Int32)), (.int (2 : Int32))])) _
    refine XS.iadd X633.here hx rfl (hb hby d9_133) rfl ?_
    show Steps p.tables e below (T633.setTop (mkF m 134 #[vR a1, vR a2, vR nw, vI (2 : Int32), vD d637, .second, vI (2 : Int32)] [(.int ((2 : Int32) + (1 : Int32)))])) _
    refine XS.istore X633.here hx rfl (hb hby d9_134) rfl (l' := #[vR a1, vR a2, vR nw, vI (2 : Int32), vD d637, .second, vI ((2 : Int32) + (1 : Int32))]) rfl ?_
    exact kt
  clear R636
  have R639 : ∀ tg, Steps p.tables e below (T633.setTop (mkF m 136 #[vR a1, vR a2, vR nw, vI (2 : Int32), vD d637, .second, vI (3 : Int32)] [])) tg → Steps p.tables e below (s₁.setTop (mkF m 0 #[vR a1, vR a2, .unset, .unset, .unset, .unset, .unset] [])) tg := R638
  have R640 : ∀ tg, Steps p.tables e below (T633.setTop (mkF m 139 #[vR a1, vR a2, vR nw, vI (2 : Int32), vD d637, .second, vI (3 : Int32)] [(.ref a1), (.int (3 : Int32))])) tg → Steps p.tables e below (s₁.setTop (mkF m 0 #[vR a1, vR a2, .unset, .unset, .unset, .unset, .unset] [])) tg := by
    intro tg kt
    refine R639 _ ?_
    show Steps p.tables e below (T633.setTop (mkF m 136 #[vR a1, vR a2, vR nw, vI (2 : Int32), vD d637, .second, vI (3 : Int32)] [])) _
    refine XS.iload X633.here hx rfl (hb hby d9_136) rfl ?_
    refine XS.aloadN X633.here hx rfl (hb hby d9_138) rfl rfl ?_
    exact kt
  clear R639
  obtain ⟨T641, X641, e641, st641⟩ := getF X633 hx hZ hown (host := "") (Or.inl (hw _ (List.mem_of_getElem? (i := 26) rfl))) Via.refl e633 Fs_627 (g := (mkF m 139 #[vR a1, vR a2, vR nw, vI (2 : Int32), vD d637, .second, vI (3 : Int32)] [(.ref a1), (.int (3 : Int32))])) rfl rfl (hb hby d9_139)
  have R642 : ∀ tg, Steps p.tables e below (T641.setTop (mkF m 180 #[vR a1, vR a2, vR nw, vI (2 : Int32), vD d637, .second, vI (3 : Int32)] [(.ref a1), (.double d637), (.int (2 : Int32)), (.ref nw)])) tg → Steps p.tables e below (s₁.setTop (mkF m 0 #[vR a1, vR a2, .unset, .unset, .unset, .unset, .unset] [])) tg := by
    intro tg kt
    refine R640 _ ?_
    refine st641 _ ?_
    show Steps p.tables e below (T641.setTop (mkF m 142 #[vR a1, vR a2, vR nw, vI (2 : Int32), vD d637, .second, vI (3 : Int32)] [(.int (3 : Int32)), (.int (3 : Int32))])) _
    refine XS.icmpYes X641.here hx rfl (pc0 := 142) (pc' := 175) rfl (hb hby d9_142) rfl (flt (by decide : ¬ ((3 : Int32) < (3 : Int32)))).2.1 (by decide) (by decide) ?_
    refine XS.aloadN X641.here hx rfl (hb hby d9_175) rfl rfl ?_
    refine XS.iloadN X641.here hx rfl (hb hby d9_176) rfl ?_
    show Steps p.tables e below (T641.setTop (mkF m 177 #[vR a1, vR a2, vR nw, vI (2 : Int32), vD d637, .second, vI (3 : Int32)] [(.int (2 : Int32)), (.ref nw)])) _
    refine XS.dload X641.here hx rfl (hb hby d9_177) rfl ?_
    refine XS.aloadN X641.here hx rfl (hb hby d9_179) rfl rfl ?_
    exact kt
  clear R640 st641
  obtain ⟨T643, X643, e643, st643⟩ := getF X641 hx hZ hown (host := "") (Or.inl (hw _ (List.mem_of_getElem? (i := 28) rfl))) Via.refl e641 Fl_627 (g := (mkF m 180 #[vR a1, vR a2, vR nw, vI (2 : Int32), vD d637, .second, vI (3 : Int32)] [(.ref a1), (.double d637), (.int (2 : Int32)), (.ref nw)])) rfl rfl (hb hby d9_180)
  have R644 : ∀ tg, Steps p.tables e below (T643.setTop (mkF m 185 #[vR a1, vR a2, vR nw, vI (2 : Int32), vD d637, .second, vI (3 : Int32)] [(.ref a1), (.int (2 : Int32)), (.ref a3), (.double d637), (.int (2 : Int32)), (.ref nw)])) tg → Steps p.tables e below (s₁.setTop (mkF m 0 #[vR a1, vR a2, .unset, .unset, .unset, .unset, .unset] [])) tg := by
    intro tg kt
    refine R642 _ ?_
    refine st643 _ ?_
    refine XS.iloadN X643.here hx rfl (hb hby d9_183) rfl ?_
    show Steps p.tables e below (T643.setTop (mkF m 184 #[vR a1, vR a2, vR nw, vI (2 : Int32), vD d637, .second, vI (3 : Int32)] [(.int (2 : Int32)), (.ref a3), (.double d637), (.int (2 : Int32)), (.ref nw)])) _
    refine XS.aloadN X643.here hx rfl (hb hby d9_184) rfl rfl ?_
    exact kt
  clear R642 st643
  obtain ⟨T645, X645, e645, st645⟩ := getF X643 hx hZ hown (host := "") (Or.inl (hw _ (List.mem_of_getElem? (i := 26) rfl))) Via.refl e643 Fs_627 (g := (mkF m 185 #[vR a1, vR a2, vR nw, vI (2 : Int32), vD d637, .second, vI (3 : Int32)] [(.ref a1), (.int (2 : Int32)), (.ref a3), (.double d637), (.int (2 : Int32)), (.ref nw)])) rfl rfl (hb hby d9_185)
  have R646 : ∀ tg, Steps p.tables e below (T645.setTop (mkF m 191 #[vR a1, vR a2, vR nw, vI (2 : Int32), vD d637, .second, vI (3 : Int32)] [(.int (((2 : Int32) * (3 : Int32)) + (2 : Int32))), (.ref a3), (.double d637), (.int (2 : Int32)), (.ref nw)])) tg → Steps p.tables e below (s₁.setTop (mkF m 0 #[vR a1, vR a2, .unset, .unset, .unset, .unset, .unset] [])) tg := by
    intro tg kt
    refine R644 _ ?_
    refine st645 _ ?_
    show Steps p.tables e below (T645.setTop (mkF m 188 #[vR a1, vR a2, vR nw, vI (2 : Int32), vD d637, .second, vI (3 : Int32)] [(.int (3 : Int32)), (.int (2 : Int32)), (.ref a3), (.double d637), (.int (2 : Int32)), (.ref nw)])) _
    refine XS.imul X645.here hx rfl (hb hby d9_188) rfl ?_
    refine XS.iloadN X645.here hx rfl (hb hby d9_189) rfl ?_
    show Steps p.tables e below (T645.setTop (mkF m 190 #[vR a1, vR a2, vR nw, vI (2 : Int32), vD d637, .second, vI (3 : Int32)] [(.int (2 : Int32)), (.int ((2 : Int32) * (3 : Int32))), (.ref a3), (.double d637), (.int (2 : Int32)), (.ref nw)])) _
    refine XS.iadd X645.here hx rfl (hb hby d9_190) rfl ?_
    exact kt
  clear R644 st645
  obtain ⟨cl647, d647, Ar647, hin647, hat647, G647⟩ := VL_627.at (j := (((2 : Int32) * (3 : Int32)) + (2 : Int32))) (k := 8) (by decide) (by decide) (by decide)
  have H647 : DR 2 c8 d647 := G647
  have R648 : ∀ tg, Steps p.tables e below (T645.setTop (mkF m 192 #[vR a1, vR a2, vR nw, vI (2 : Int32), vD d637, .second, vI (3 : Int32)] [(.double d647), (.double d637), (.int (2 : Int32)), (.ref nw)])) tg → Steps p.tables e below (s₁.setTop (mkF m 0 #[vR a1, vR a2, .unset, .unset, .unset, .unset, .unset] [])) tg := by
    intro tg kt
    refine R646 _ ?_
    show Steps p.tables e below (T645.setTop (mkF m 191 #[vR a1, vR a2, vR nw, vI (2 : Int32), vD d637, .second, vI (3 : Int32)] [(.int (((2 : Int32) * (3 : Int32)) + (2 : Int32))), (.ref a3), (.double d637), (.int (2 : Int32)), (.ref nw)])) _
    refine X645.daload hx (j := (((2 : Int32) * (3 : Int32)) + (2 : Int32))) (v := (.double d647)) (by rw [e645]; exact Ar647.1) (State.isArrayOf_alike hZ.alike Ar647.2.1) Ar647.2.2 hin647 hat647 (g := (mkF m 191 #[vR a1, vR a2, vR nw, vI (2 : Int32), vD d637, .second, vI (3 : Int32)] [(.int (((2 : Int32) * (3 : Int32)) + (2 : Int32))), (.ref a3), (.double d637), (.int (2 : Int32)), (.ref nw)])) rfl rfl (hb hby d9_191) _ ?_
    exact kt
  clear R646
  obtain ⟨d649, hv649, nn649, H649⟩ := own_dv (c := o2) H637 H647 q4.1 q4.2.1 q4.2.2
  have R650 : ∀ tg, Steps p.tables e below (T645.setTop (mkF m 193 #[vR a1, vR a2, vR nw, vI (2 : Int32), vD d637, .second, vI (3 : Int32)] [(.double d649), (.int (2 : Int32)), (.ref nw)])) tg → Steps p.tables e below (s₁.setTop (mkF m 0 #[vR a1, vR a2, .unset, .unset, .unset, .unset, .unset] [])) tg := by
    intro tg kt
    refine R648 _ ?_
    show Steps p.tables e below (T645.setTop (mkF m 192 #[vR a1, vR a2, vR nw, vI (2 : Int32), vD d637, .second, vI (3 : Int32)] [(.double d647), (.double d637), (.int (2 : Int32)), (.ref nw)])) _
    refine XS.ddivS X645.here hx rfl (hb hby d9_192) rfl nn649 hv649 ?_
    exact kt
  clear R648
  obtain ⟨cl651, -, Ar651, hin651, -, -⟩ := VB_627.at (j := (2 : Int32)) (k := 2) (by decide) rfl (by decide)
  obtain ⟨T652, h652, X652, e652, W652, st652⟩ := stD X645 hx hZ e645 Ar651 (j := (2 : Int32)) hin651 (g := (mkF m 193 #[vR a1, vR a2, vR nw, vI (2 : Int32), vD d637, .second, vI (3 : Int32)] [(.double d649), (.int (2 : Int32)), (.ref nw)])) rfl rfl (hb hby d9_193)
  have N652 := Fr.snoc X652 N627 g_nw
  rw [show ((2 : Int32) : Int32).toNatClampNeg = 2 from rfl] at W652
  have VB_652 : VD Z h652 nw 3 [w0, g1, o2] := VB_627.set W652 H649
  have Fs_652 := Fs_627.other W652 (Or.inl ne_a1_nw)
  have Fl_652 := Fl_627.other W652 (Or.inl ne_a1_nw)
  have Fp_652 := Fp_627.other W652 (Or.inl ne_a1_nw)
  have VL_652 := VL_627.other W652 ne_a3_nw
  have VP_652 := VP_627.other W652 ne_a4_nw
  clear Fs_627 Fl_627 Fp_627 VL_627 VP_627
  have Zs652 : n0 ≤ h652.size := Nat.le_trans Zs627 (Keep.of_wr W652).1
  have Kw652 : Keep h0 h652 [] := Keep.wr Kw627 W652 (Or.inr sz_nw)
  have R653 : ∀ tg, Steps p.tables e below (T652.setTop (mkF m 122 #[vR a1, vR a2, vR nw, vI ((2 : Int32) + (-1 : Int32)), vD d637, .second, vI (3 : Int32)] [])) tg → Steps p.tables e below (s₁.setTop (mkF m 0 #[vR a1, vR a2, .unset, .unset, .unset, .unset, .unset] [])) tg := by
    intro tg kt
    refine R650 _ ?_
    refine st652 _ ?_
    show Steps p.tables e below (T652.setTop (mkF m 194 #[vR a1, vR a2, vR nw, vI (2 : Int32), vD d637, .second, vI (3 : Int32)] [])) _
    refine XS.iinc X652.here hx rfl (hb hby d9_194) rfl (l' := #[vR a1, vR a2, vR nw, vI ((2 : Int32) + (-1 : Int32)), vD d637, .second, vI (3 : Int32)]) rfl ?_
    show Steps p.tables e below (T652.setTop (mkF m 197 #[vR a1, vR a2, vR nw, vI ((2 : Int32) + (-1 : Int32)), vD d637, .second, vI (3 : Int32)] [])) _
    refine XS.goto X652.here hx rfl (pc0 := 197) (pc' := 122) rfl (hb hby d9_197) (by decide) (by decide) ?_
    exact kt
  clear R650 st652
  have R654 : ∀ tg, Steps p.tables e below (T652.setTop (mkF m 122 #[vR a1, vR a2, vR nw, vI (1 : Int32), vD d637, .second, vI (3 : Int32)] [])) tg → Steps p.tables e below (s₁.setTop (mkF m 0 #[vR a1, vR a2, .unset, .unset, .unset, .unset, .unset] [])) tg := R653
  have R655 : ∀ tg, Steps p.tables e below (T652.setTop (mkF m 128 #[vR a1, vR a2, vR nw, vI (1 : Int32), vD d637, .second, vI (3 : Int32)] [(.int (1 : Int32)), (.ref nw)])) tg → Steps p.tables e below (s₁.setTop (mkF m 0 #[vR a1, vR a2, .unset, .unset, .unset, .unset, .unset] [])) tg := by
    intro tg kt
    refine R654 _ ?_
    show Steps p.tables e below (T652.setTop (mkF m 122 #[vR a1, vR a2, vR nw, vI (1 : Int32), vD d637, .second, vI (3 : Int32)] [])) _
    refine XS.iloadN X652.here hx rfl (hb hby d9_122) rfl ?_
    show Steps p.tables e below (T652.setTop (mkF m 123 #[vR a1, vR a2, vR nw, vI (1 : Int32), vD d637, .second, vI (3 : Int32)] [(.int (1 : Int32))])) _
    refine XS.ifNo X652.here hx rfl (hb hby d9_123) rfl ((if0 _ _).trans (flt (by decide : ¬ ((1 : Int32) < (0 : Int32)))).1) ?_
    refine XS.aloadN X652.here hx rfl (hb hby d9_126) rfl rfl ?_
    refine XS.iloadN X652.here hx rfl (hb hby d9_127) rfl ?_
    exact kt
  clear R654
  obtain ⟨cl656, d656, Ar656, hin656, hat656, G656⟩ := VB_652.at (j := (1 : Int32)) (k := 1) (by decide) rfl (by decide)
  have H656 : DR 2 g1 d656 := G656
  have R657 : ∀ tg, Steps p.tables e below (T652.setTop (mkF m 136 #[vR a1, vR a2, vR nw, vI (1 : Int32), vD d656, .second, vI ((1 : Int32) + (1 : Int32))] [])) tg → Steps p.tables e below (s₁.setTop (mkF m 0 #[vR a1, vR a2, .unset, .unset, .unset, .unset, .unset] [])) tg := by
    intro tg kt
    refine R655 _ ?_
    show Steps p.tables e below (T652.setTop (mkF m 128 #[vR a1, vR a2, vR nw, vI (1 : Int32), vD d637, .second, vI (3 : Int32)] [(.int (1 : Int32)), (.ref nw)])) _
    refine X652.daload hx (j := (1 : Int32)) (v := (.double d656)) (by rw [e652]; exact Ar656.1) (State.isArrayOf_alike hZ.alike Ar656.2.1) Ar656.2.2 hin656 hat656 (g := (mkF m 128 #[vR a1, vR a2, vR nw, vI (1 : Int32), vD d637, .second, vI (3 : Int32)] [(.int (1 : Int32)), (.ref nw)])) rfl rfl (hb hby d9_128) _ ?_
    show Steps p.tables e below (T652.setTop (mkF m 129 #[vR a1, vR a2, vR nw, vI (1 : Int32), vD d637, .second, vI (3 : Int32)] [(.double d656)])) _
    refine XS.dstore X652.here hx rfl (hb hby d9_129) rfl (l' := #[vR a1, vR a2, vR nw, vI (1 : Int32), vD d656, .second, vI (3 : Int32)]) rfl ?_
    refine XS.iloadN X652.here hx rfl (hb hby d9_131) rfl ?_
    refine XS.iconst X652.here hx rfl (hb hby d9_132) ?_
    show Steps p.tables e below (T652.setTop (mkF m 133 #[vR a1, vR a2, vR nw, vI (1 : Int32), vD d656, .second, vI (3 : Int32)] [(.int (1 : Int32)), (.int (1 : Int32))])) _
    refine XS.iadd X652.here hx rfl (hb hby d9_133) rfl ?_
    show Steps p.tables e below (T652.setTop (mkF m 134 #[vR a1, vR a2, vR nw, vI (1 : Int32), vD d656, .second, vI (3 : Int32)] [(.int ((1 : Int32) + (1 : Int32)))])) _
    refine XS.istore X652.here hx rfl (hb hby d9_134) rfl (l' := #[vR a1, vR a2, vR nw, vI (1 : Int32), vD d656, .second, vI ((1 : Int32) + (1 : Int32))]) rfl ?_
    exact kt
  clear R655
  have R658 : ∀ tg, Steps p.tables e below (T652.setTop (mkF m 136 #[vR a1, vR a2, vR nw, vI (1 : Int32), vD d656, .second, vI (2 : Int32)] [])) tg → Steps p.tables e below (s₁.setTop (mkF m 0 #[vR a1, vR a2, .unset, .unset, .unset, .unset, .unset] [])) tg := R657
  have R659 : ∀ tg, Steps p.tables e below (T652.setTop (mkF m 139 #[vR a1, vR a2, vR nw, vI (1 : Int32), vD d656, .second, vI (2 : Int32)] [(.ref a1), (.int (2 : Int32))])) tg → Steps p.tables e below (s₁.setTop (mkF m 0 #[vR a1, vR a2, .unset, .unset, .unset, .unset, .unset] [])) tg := by
    intro tg kt
    refine R658 _ ?_
    show Steps p.tables e below (T652.setTop (mkF m 136 #[vR a1, vR a2, vR nw, vI (1 : Int32), vD d656, .second, vI (2 : Int32)] [])) _
    refine XS.iload X652.here hx rfl (hb hby d9_136) rfl ?_
    refine XS.aloadN X652.here hx rfl (hb hby d9_138) rfl rfl ?_
    exact kt
  clear R658
  obtain ⟨T660, X660, e660, st660⟩ := getF X652 hx hZ hown (host := "") (Or.inl (hw _ (List.mem_of_getElem? (i := 26) rfl))) Via.refl e652 Fs_652 (g := (mkF m 139 #[vR a1, vR a2, vR nw, vI (1 : Int32), vD d656, .second, vI (2 : Int32)] [(.ref a1), (.int (2 : Int32))])) rfl rfl (hb hby d9_139)
  have R661 : ∀ tg, Steps p.tables e below (T660.setTop (mkF m 148 #[vR a1, vR a2, vR nw, vI (1 : Int32), vD d656, .second, vI (2 : Int32)] [(.ref a1), (.double d656)])) tg → Steps p.tables e below (s₁.setTop (mkF m 0 #[vR a1, vR a2, .unset, .unset, .unset, .unset, .unset] [])) tg := by
    intro tg kt
    refine R659 _ ?_
    refine st660 _ ?_
    show Steps p.tables e below (T660.setTop (mkF m 142 #[vR a1, vR a2, vR nw, vI (1 : Int32), vD d656, .second, vI (2 : Int32)] [(.int (3 : Int32)), (.int (2 : Int32))])) _
    refine XS.icmpNo X660.here hx rfl (hb hby d9_142) rfl (tlt (by decide : (2 : Int32) < (3 : Int32))).2.1 ?_
    show Steps p.tables e below (T660.setTop (mkF m 145 #[vR a1, vR a2, vR nw, vI (1 : Int32), vD d656, .second, vI (2 : Int32)] [])) _
    refine XS.dload X660.here hx rfl (hb hby d9_145) rfl ?_
    refine XS.aloadN X660.here hx rfl (hb hby d9_147) rfl rfl ?_
    exact kt
  clear R659 st660
  obtain ⟨T662, X662, e662, st662⟩ := getF X660 hx hZ hown (host := "") (Or.inl (hw _ (List.mem_of_getElem? (i := 28) rfl))) Via.refl e660 Fl_652 (g := (mkF m 148 #[vR a1, vR a2, vR nw, vI (1 : Int32), vD d656, .second, vI (2 : Int32)] [(.ref a1), (.double d656)])) rfl rfl (hb hby d9_148)
  have R663 : ∀ tg, Steps p.tables e below (T662.setTop (mkF m 153 #[vR a1, vR a2, vR nw, vI (1 : Int32), vD d656, .second, vI (2 : Int32)] [(.ref a1), (.int (1 : Int32)), (.ref a3), (.double d656)])) tg → Steps p.tables e below (s₁.setTop (mkF m 0 #[vR a1, vR a2, .unset, .unset, .unset, .unset, .unset] [])) tg := by
    intro tg kt
    refine R661 _ ?_
    refine st662 _ ?_
    refine XS.iloadN X662.here hx rfl (hb hby d9_151) rfl ?_
    show Steps p.tables e below (T662.setTop (mkF m 152 #[vR a1, vR a2, vR nw, vI (1 : Int32), vD d656, .second, vI (2 : Int32)] [(.int (1 : Int32)), (.ref a3), (.double d656)])) _
    refine XS.aloadN X662.here hx rfl (hb hby d9_152) rfl rfl ?_
    exact kt
  clear R661 st662
  obtain ⟨T664, X664, e664, st664⟩ := getF X662 hx hZ hown (host := "") (Or.inl (hw _ (List.mem_of_getElem? (i := 26) rfl))) Via.refl e662 Fs_652 (g := (mkF m 153 #[vR a1, vR a2, vR nw, vI (1 : Int32), vD d656, .second, vI (2 : Int32)] [(.ref a1), (.int (1 : Int32)), (.ref a3), (.double d656)])) rfl rfl (hb hby d9_153)
  have R665 : ∀ tg, Steps p.tables e below (T664.setTop (mkF m 160 #[vR a1, vR a2, vR nw, vI (1 : Int32), vD d656, .second, vI (2 : Int32)] [(.int (((1 : Int32) * (3 : Int32)) + (2 : Int32))), (.ref a3), (.double d656)])) tg → Steps p.tables e below (s₁.setTop (mkF m 0 #[vR a1, vR a2, .unset, .unset, .unset, .unset, .unset] [])) tg := by
    intro tg kt
    refine R663 _ ?_
    refine st664 _ ?_
    show Steps p.tables e below (T664.setTop (mkF m 156 #[vR a1, vR a2, vR nw, vI (1 : Int32), vD d656, .second, vI (2 : Int32)] [(.int (3 : Int32)), (.int (1 : Int32)), (.ref a3), (.double d656)])) _
    refine XS.imul X664.here hx rfl (hb hby d9_156) rfl ?_
    refine XS.iload X664.here hx rfl (hb hby d9_157) rfl ?_
    show Steps p.tables e below (T664.setTop (mkF m 159 #[vR a1, vR a2, vR nw, vI (1 : Int32), vD d656, .second, vI (2 : Int32)] [(.int (2 : Int32)), (.int ((1 : Int32) * (3 : Int32))), (.ref a3), (.double d656)])) _
    refine XS.iadd X664.here hx rfl (hb hby d9_159) rfl ?_
    exact kt
  clear R663 st664
  obtain ⟨cl666, d666, Ar666, hin666, hat666, G666⟩ := VL_652.at (j := (((1 : Int32) * (3 : Int32)) + (2 : Int32))) (k := 5) (by decide) (by decide) (by decide)
  have H666 : DR 2 c5 d666 := G666
  have R667 : ∀ tg, Steps p.tables e below (T664.setTop (mkF m 164 #[vR a1, vR a2, vR nw, vI (1 : Int32), vD d656, .second, vI (2 : Int32)] [(.int (2 : Int32)), (.ref nw), (.double d666), (.double d656)])) tg → Steps p.tables e below (s₁.setTop (mkF m 0 #[vR a1, vR a2, .unset, .unset, .unset, .unset, .unset] [])) tg := by
    intro tg kt
    refine R665 _ ?_
    show Steps p.tables e below (T664.setTop (mkF m 160 #[vR a1, vR a2, vR nw, vI (1 : Int32), vD d656, .second, vI (2 : Int32)] [(.int (((1 : Int32) * (3 : Int32)) + (2 : Int32))), (.ref a3), (.double d656)])) _
    refine X664.daload hx (j := (((1 : Int32) * (3 : Int32)) + (2 : Int32))) (v := (.double d666)) (by rw [e664]; exact Ar666.1) (State.isArrayOf_alike hZ.alike Ar666.2.1) Ar666.2.2 hin666 hat666 (g := (mkF m 160 #[vR a1, vR a2, vR nw, vI (1 : Int32), vD d656, .second, vI (2 : Int32)] [(.int (((1 : Int32) * (3 : Int32)) + (2 : Int32))), (.ref a3), (.double d656)])) rfl rfl (hb hby d9_160) _ ?_
    refine XS.aloadN X664.here hx rfl (hb hby d9_161) rfl rfl ?_
    refine XS.iload X664.here hx rfl (hb hby d9_162) rfl ?_
    exact kt
  clear R665
  obtain ⟨cl668, d668, Ar668, hin668, hat668, G668⟩ := VB_652.at (j := (2 : Int32)) (k := 2) (by decide) rfl (by decide)
  have H668 : DR 2 o2 d668 := G668
  have R669 : ∀ tg, Steps p.tables e below (T664.setTop (mkF m 165 #[vR a1, vR a2, vR nw, vI (1 : Int32), vD d656, .second, vI (2 : Int32)] [(.double d668), (.double d666), (.double d656)])) tg → Steps p.tables e below (s₁.setTop (mkF m 0 #[vR a1, vR a2, .unset, .unset, .unset, .unset, .unset] [])) tg := by
    intro tg kt
    refine R667 _ ?_
    show Steps p.tables e below (T664.setTop (mkF m 164 #[vR a1, vR a2, vR nw, vI (1 : Int32), vD d656, .second, vI (2 : Int32)] [(.int (2 : Int32)), (.ref nw), (.double d666), (.double d656)])) _
    refine X664.daload hx (j := (2 : Int32)) (v := (.double d668)) (by rw [e664]; exact Ar668.1) (State.isArrayOf_alike hZ.alike Ar668.2.1) Ar668.2.2 hin668 hat668 (g := (mkF m 164 #[vR a1, vR a2, vR nw, vI (1 : Int32), vD d656, .second, vI (2 : Int32)] [(.int (2 : Int32)), (.ref nw), (.double d666), (.double d656)])) rfl rfl (hb hby d9_164) _ ?_
    exact kt
  clear R667
  obtain ⟨nm670, d670, hv670, nn670, H670⟩ := own_ms (t := px) H656 H666 H668 q5.1 q5.2.1 q5.2.2
  have R671 : ∀ tg, Steps p.tables e below (T664.setTop (mkF m 136 #[vR a1, vR a2, vR nw, vI (1 : Int32), vD d670, .second, vI ((2 : Int32) + (1 : Int32))] [])) tg → Steps p.tables e below (s₁.setTop (mkF m 0 #[vR a1, vR a2, .unset, .unset, .unset, .unset, .unset] [])) tg := by
    intro tg kt
    refine R669 _ ?_
    show Steps p.tables e below (T664.setTop (mkF m 165 #[vR a1, vR a2, vR nw, vI (1 : Int32), vD d656, .second, vI (2 : Int32)] [(.double d668), (.double d666), (.double d656)])) _
    refine XS.dmulS X664.here hx rfl (hb hby d9_165) rfl nm670 rfl ?_
    show Steps p.tables e below (T664.setTop (mkF m 166 #[vR a1, vR a2, vR nw, vI (1 : Int32), vD d656, .second, vI (2 : Int32)] [(.double (Jvm.FP.dmul d666 d668)), (.double d656)])) _
    refine XS.dsubS X664.here hx rfl (hb hby d9_166) rfl nn670 hv670 ?_
    show Steps p.tables e below (T664.setTop (mkF m 167 #[vR a1, vR a2, vR nw, vI (1 : Int32), vD d656, .second, vI (2 : Int32)] [(.double d670)])) _
    refine XS.dstore X664.here hx rfl (hb hby d9_167) rfl (l' := #[vR a1, vR a2, vR nw, vI (1 : Int32), vD d670, .second, vI (2 : Int32)]) rfl ?_
    show Steps p.tables e below (T664.setTop (mkF m 169 #[vR a1, vR a2, vR nw, vI (1 : Int32), vD d670, .second, vI (2 : Int32)] [])) _
    refine XS.iinc X664.here hx rfl (hb hby d9_169) rfl (l' := #[vR a1, vR a2, vR nw, vI (1 : Int32), vD d670, .second, vI ((2 : Int32) + (1 : Int32))]) rfl ?_
    show Steps p.tables e below (T664.setTop (mkF m 172 #[vR a1, vR a2, vR nw, vI (1 : Int32), vD d670, .second, vI ((2 : Int32) + (1 : Int32))] [])) _
    refine XS.goto X664.here hx rfl (pc0 := 172) (pc' := 136) rfl (hb hby d9_172) (by decide) (by decide) ?_
    exact kt
  clear R669
  have R672 : ∀ tg, Steps p.tables e below (T664.setTop (mkF m 136 #[vR a1, vR a2, vR nw, vI (1 : Int32), vD d670, .second, vI (3 : Int32)] [])) tg → Steps p.tables e below (s₁.setTop (mkF m 0 #[vR a1, vR a2, .unset, .unset, .unset, .unset, .unset] [])) tg := R671
  have R673 : ∀ tg, Steps p.tables e below (T664.setTop (mkF m 139 #[vR a1, vR a2, vR nw, vI (1 : Int32), vD d670, .second, vI (3 : Int32)] [(.ref a1), (.int (3 : Int32))])) tg → Steps p.tables e below (s₁.setTop (mkF m 0 #[vR a1, vR a2, .unset, .unset, .unset, .unset, .unset] [])) tg := by
    intro tg kt
    refine R672 _ ?_
    show Steps p.tables e below (T664.setTop (mkF m 136 #[vR a1, vR a2, vR nw, vI (1 : Int32), vD d670, .second, vI (3 : Int32)] [])) _
    refine XS.iload X664.here hx rfl (hb hby d9_136) rfl ?_
    refine XS.aloadN X664.here hx rfl (hb hby d9_138) rfl rfl ?_
    exact kt
  clear R672
  obtain ⟨T674, X674, e674, st674⟩ := getF X664 hx hZ hown (host := "") (Or.inl (hw _ (List.mem_of_getElem? (i := 26) rfl))) Via.refl e664 Fs_652 (g := (mkF m 139 #[vR a1, vR a2, vR nw, vI (1 : Int32), vD d670, .second, vI (3 : Int32)] [(.ref a1), (.int (3 : Int32))])) rfl rfl (hb hby d9_139)
  have R675 : ∀ tg, Steps p.tables e below (T674.setTop (mkF m 180 #[vR a1, vR a2, vR nw, vI (1 : Int32), vD d670, .second, vI (3 : Int32)] [(.ref a1), (.double d670), (.int (1 : Int32)), (.ref nw)])) tg → Steps p.tables e below (s₁.setTop (mkF m 0 #[vR a1, vR a2, .unset, .unset, .unset, .unset, .unset] [])) tg := by
    intro tg kt
    refine R673 _ ?_
    refine st674 _ ?_
    show Steps p.tables e below (T674.setTop (mkF m 142 #[vR a1, vR a2, vR nw, vI (1 : Int32), vD d670, .second, vI (3 : Int32)] [(.int (3 : Int32)), (.int (3 : Int32))])) _
    refine XS.icmpYes X674.here hx rfl (pc0 := 142) (pc' := 175) rfl (hb hby d9_142) rfl (flt (by decide : ¬ ((3 : Int32) < (3 : Int32)))).2.1 (by decide) (by decide) ?_
    refine XS.aloadN X674.here hx rfl (hb hby d9_175) rfl rfl ?_
    refine XS.iloadN X674.here hx rfl (hb hby d9_176) rfl ?_
    show Steps p.tables e below (T674.setTop (mkF m 177 #[vR a1, vR a2, vR nw, vI (1 : Int32), vD d670, .second, vI (3 : Int32)] [(.int (1 : Int32)), (.ref nw)])) _
    refine XS.dload X674.here hx rfl (hb hby d9_177) rfl ?_
    refine XS.aloadN X674.here hx rfl (hb hby d9_179) rfl rfl ?_
    exact kt
  clear R673 st674
  obtain ⟨T676, X676, e676, st676⟩ := getF X674 hx hZ hown (host := "") (Or.inl (hw _ (List.mem_of_getElem? (i := 28) rfl))) Via.refl e674 Fl_652 (g := (mkF m 180 #[vR a1, vR a2, vR nw, vI (1 : Int32), vD d670, .second, vI (3 : Int32)] [(.ref a1), (.double d670), (.int (1 : Int32)), (.ref nw)])) rfl rfl (hb hby d9_180)
  have R677 : ∀ tg, Steps p.tables e below (T676.setTop (mkF m 185 #[vR a1, vR a2, vR nw, vI (1 : Int32), vD d670, .second, vI (3 : Int32)] [(.ref a1), (.int (1 : Int32)), (.ref a3), (.double d670), (.int (1 : Int32)), (.ref nw)])) tg → Steps p.tables e below (s₁.setTop (mkF m 0 #[vR a1, vR a2, .unset, .unset, .unset, .unset, .unset] [])) tg := by
    intro tg kt
    refine R675 _ ?_
    refine st676 _ ?_
    refine XS.iloadN X676.here hx rfl (hb hby d9_183) rfl ?_
    show Steps p.tables e below (T676.setTop (mkF m 184 #[vR a1, vR a2, vR nw, vI (1 : Int32), vD d670, .second, vI (3 : Int32)] [(.int (1 : Int32)), (.ref a3), (.double d670), (.int (1 : Int32)), (.ref nw)])) _
    refine XS.aloadN X676.here hx rfl (hb hby d9_184) rfl rfl ?_
    exact kt
  clear R675 st676
  obtain ⟨T678, X678, e678, st678⟩ := getF X676 hx hZ hown (host := "") (Or.inl (hw _ (List.mem_of_getElem? (i := 26) rfl))) Via.refl e676 Fs_652 (g := (mkF m 185 #[vR a1, vR a2, vR nw, vI (1 : Int32), vD d670, .second, vI (3 : Int32)] [(.ref a1), (.int (1 : Int32)), (.ref a3), (.double d670), (.int (1 : Int32)), (.ref nw)])) rfl rfl (hb hby d9_185)
  have R679 : ∀ tg, Steps p.tables e below (T678.setTop (mkF m 191 #[vR a1, vR a2, vR nw, vI (1 : Int32), vD d670, .second, vI (3 : Int32)] [(.int (((1 : Int32) * (3 : Int32)) + (1 : Int32))), (.ref a3), (.double d670), (.int (1 : Int32)), (.ref nw)])) tg → Steps p.tables e below (s₁.setTop (mkF m 0 #[vR a1, vR a2, .unset, .unset, .unset, .unset, .unset] [])) tg := by
    intro tg kt
    refine R677 _ ?_
    refine st678 _ ?_
    show Steps p.tables e below (T678.setTop (mkF m 188 #[vR a1, vR a2, vR nw, vI (1 : Int32), vD d670, .second, vI (3 : Int32)] [(.int (3 : Int32)), (.int (1 : Int32)), (.ref a3), (.double d670), (.int (1 : Int32)), (.ref nw)])) _
    refine XS.imul X678.here hx rfl (hb hby d9_188) rfl ?_
    refine XS.iloadN X678.here hx rfl (hb hby d9_189) rfl ?_
    show Steps p.tables e below (T678.setTop (mkF m 190 #[vR a1, vR a2, vR nw, vI (1 : Int32), vD d670, .second, vI (3 : Int32)] [(.int (1 : Int32)), (.int ((1 : Int32) * (3 : Int32))), (.ref a3), (.double d670), (.int (1 : Int32)), (.ref nw)])) _
    refine XS.iadd X678.here hx rfl (hb hby d9_190) rfl ?_
    exact kt
  clear R677 st678
  obtain ⟨cl680, d680, Ar680, hin680, hat680, G680⟩ := VL_652.at (j := (((1 : Int32) * (3 : Int32)) + (1 : Int32))) (k := 4) (by decide) (by decide) (by decide)
  have H680 : DR 2 c4 d680 := G680
  have R681 : ∀ tg, Steps p.tables e below (T678.setTop (mkF m 192 #[vR a1, vR a2, vR nw, vI (1 : Int32), vD d670, .second, vI (3 : Int32)] [(.double d680), (.double d670), (.int (1 : Int32)), (.ref nw)])) tg → Steps p.tables e below (s₁.setTop (mkF m 0 #[vR a1, vR a2, .unset, .unset, .unset, .unset, .unset] [])) tg := by
    intro tg kt
    refine R679 _ ?_
    show Steps p.tables e below (T678.setTop (mkF m 191 #[vR a1, vR a2, vR nw, vI (1 : Int32), vD d670, .second, vI (3 : Int32)] [(.int (((1 : Int32) * (3 : Int32)) + (1 : Int32))), (.ref a3), (.double d670), (.int (1 : Int32)), (.ref nw)])) _
    refine X678.daload hx (j := (((1 : Int32) * (3 : Int32)) + (1 : Int32))) (v := (.double d680)) (by rw [e678]; exact Ar680.1) (State.isArrayOf_alike hZ.alike Ar680.2.1) Ar680.2.2 hin680 hat680 (g := (mkF m 191 #[vR a1, vR a2, vR nw, vI (1 : Int32), vD d670, .second, vI (3 : Int32)] [(.int (((1 : Int32) * (3 : Int32)) + (1 : Int32))), (.ref a3), (.double d670), (.int (1 : Int32)), (.ref nw)])) rfl rfl (hb hby d9_191) _ ?_
    exact kt
  clear R679
  obtain ⟨d682, hv682, nn682, H682⟩ := own_dv (c := o1) H670 H680 q6.1 q6.2.1 q6.2.2
  have R683 : ∀ tg, Steps p.tables e below (T678.setTop (mkF m 193 #[vR a1, vR a2, vR nw, vI (1 : Int32), vD d670, .second, vI (3 : Int32)] [(.double d682), (.int (1 : Int32)), (.ref nw)])) tg → Steps p.tables e below (s₁.setTop (mkF m 0 #[vR a1, vR a2, .unset, .unset, .unset, .unset, .unset] [])) tg := by
    intro tg kt
    refine R681 _ ?_
    show Steps p.tables e below (T678.setTop (mkF m 192 #[vR a1, vR a2, vR nw, vI (1 : Int32), vD d670, .second, vI (3 : Int32)] [(.double d680), (.double d670), (.int (1 : Int32)), (.ref nw)])) _
    refine XS.ddivS X678.here hx rfl (hb hby d9_192) rfl nn682 hv682 ?_
    exact kt
  clear R681
  obtain ⟨cl684, -, Ar684, hin684, -, -⟩ := VB_652.at (j := (1 : Int32)) (k := 1) (by decide) rfl (by decide)
  obtain ⟨T685, h685, X685, e685, W685, st685⟩ := stD X678 hx hZ e678 Ar684 (j := (1 : Int32)) hin684 (g := (mkF m 193 #[vR a1, vR a2, vR nw, vI (1 : Int32), vD d670, .second, vI (3 : Int32)] [(.double d682), (.int (1 : Int32)), (.ref nw)])) rfl rfl (hb hby d9_193)
  have N685 := Fr.snoc X685 N652 g_nw
  rw [show ((1 : Int32) : Int32).toNatClampNeg = 1 from rfl] at W685
  have VB_685 : VD Z h685 nw 3 [w0, o1, o2] := VB_652.set W685 H682
  have Fs_685 := Fs_652.other W685 (Or.inl ne_a1_nw)
  have Fl_685 := Fl_652.other W685 (Or.inl ne_a1_nw)
  have Fp_685 := Fp_652.other W685 (Or.inl ne_a1_nw)
  have VL_685 := VL_652.other W685 ne_a3_nw
  have VP_685 := VP_652.other W685 ne_a4_nw
  clear Fs_652 Fl_652 Fp_652 VL_652 VP_652
  have Zs685 : n0 ≤ h685.size := Nat.le_trans Zs652 (Keep.of_wr W685).1
  have Kw685 : Keep h0 h685 [] := Keep.wr Kw652 W685 (Or.inr sz_nw)
  have R686 : ∀ tg, Steps p.tables e below (T685.setTop (mkF m 122 #[vR a1, vR a2, vR nw, vI ((1 : Int32) + (-1 : Int32)), vD d670, .second, vI (3 : Int32)] [])) tg → Steps p.tables e below (s₁.setTop (mkF m 0 #[vR a1, vR a2, .unset, .unset, .unset, .unset, .unset] [])) tg := by
    intro tg kt
    refine R683 _ ?_
    refine st685 _ ?_
    show Steps p.tables e below (T685.setTop (mkF m 194 #[vR a1, vR a2, vR nw, vI (1 : Int32), vD d670, .second, vI (3 : Int32)] [])) _
    refine XS.iinc X685.here hx rfl (hb hby d9_194) rfl (l' := #[vR a1, vR a2, vR nw, vI ((1 : Int32) + (-1 : Int32)), vD d670, .second, vI (3 : Int32)]) rfl ?_
    show Steps p.tables e below (T685.setTop (mkF m 197 #[vR a1, vR a2, vR nw, vI ((1 : Int32) + (-1 : Int32)), vD d670, .second, vI (3 : Int32)] [])) _
    refine XS.goto X685.here hx rfl (pc0 := 197) (pc' := 122) rfl (hb hby d9_197) (by decide) (by decide) ?_
    exact kt
  clear R683 st685
  have R687 : ∀ tg, Steps p.tables e below (T685.setTop (mkF m 122 #[vR a1, vR a2, vR nw, vI (0 : Int32), vD d670, .second, vI (3 : Int32)] [])) tg → Steps p.tables e below (s₁.setTop (mkF m 0 #[vR a1, vR a2, .unset, .unset, .unset, .unset, .unset] [])) tg := R686
  have R688 : ∀ tg, Steps p.tables e below (T685.setTop (mkF m 128 #[vR a1, vR a2, vR nw, vI (0 : Int32), vD d670, .second, vI (3 : Int32)] [(.int (0 : Int32)), (.ref nw)])) tg → Steps p.tables e below (s₁.setTop (mkF m 0 #[vR a1, vR a2, .unset, .unset, .unset, .unset, .unset] [])) tg := by
    intro tg kt
    refine R687 _ ?_
    show Steps p.tables e below (T685.setTop (mkF m 122 #[vR a1, vR a2, vR nw, vI (0 : Int32), vD d670, .second, vI (3 : Int32)] [])) _
    refine XS.iloadN X685.here hx rfl (hb hby d9_122) rfl ?_
    show Steps p.tables e below (T685.setTop (mkF m 123 #[vR a1, vR a2, vR nw, vI (0 : Int32), vD d670, .second, vI (3 : Int32)] [(.int (0 : Int32))])) _
    refine XS.ifNo X685.here hx rfl (hb hby d9_123) rfl ((if0 _ _).trans (flt (by decide : ¬ ((0 : Int32) < (0 : Int32)))).1) ?_
    refine XS.aloadN X685.here hx rfl (hb hby d9_126) rfl rfl ?_
    refine XS.iloadN X685.here hx rfl (hb hby d9_127) rfl ?_
    exact kt
  clear R687
  obtain ⟨cl689, d689, Ar689, hin689, hat689, G689⟩ := VB_685.at (j := (0 : Int32)) (k := 0) (by decide) rfl (by decide)
  have H689 : DR 2 w0 d689 := G689
  have R690 : ∀ tg, Steps p.tables e below (T685.setTop (mkF m 136 #[vR a1, vR a2, vR nw, vI (0 : Int32), vD d689, .second, vI ((0 : Int32) + (1 : Int32))] [])) tg → Steps p.tables e below (s₁.setTop (mkF m 0 #[vR a1, vR a2, .unset, .unset, .unset, .unset, .unset] [])) tg := by
    intro tg kt
    refine R688 _ ?_
    show Steps p.tables e below (T685.setTop (mkF m 128 #[vR a1, vR a2, vR nw, vI (0 : Int32), vD d670, .second, vI (3 : Int32)] [(.int (0 : Int32)), (.ref nw)])) _
    refine X685.daload hx (j := (0 : Int32)) (v := (.double d689)) (by rw [e685]; exact Ar689.1) (State.isArrayOf_alike hZ.alike Ar689.2.1) Ar689.2.2 hin689 hat689 (g := (mkF m 128 #[vR a1, vR a2, vR nw, vI (0 : Int32), vD d670, .second, vI (3 : Int32)] [(.int (0 : Int32)), (.ref nw)])) rfl rfl (hb hby d9_128) _ ?_
    show Steps p.tables e below (T685.setTop (mkF m 129 #[vR a1, vR a2, vR nw, vI (0 : Int32), vD d670, .second, vI (3 : Int32)] [(.double d689)])) _
    refine XS.dstore X685.here hx rfl (hb hby d9_129) rfl (l' := #[vR a1, vR a2, vR nw, vI (0 : Int32), vD d689, .second, vI (3 : Int32)]) rfl ?_
    refine XS.iloadN X685.here hx rfl (hb hby d9_131) rfl ?_
    refine XS.iconst X685.here hx rfl (hb hby d9_132) ?_
    show Steps p.tables e below (T685.setTop (mkF m 133 #[vR a1, vR a2, vR nw, vI (0 : Int32), vD d689, .second, vI (3 : Int32)] [(.int (1 : Int32)), (.int (0 : Int32))])) _
    refine XS.iadd X685.here hx rfl (hb hby d9_133) rfl ?_
    show Steps p.tables e below (T685.setTop (mkF m 134 #[vR a1, vR a2, vR nw, vI (0 : Int32), vD d689, .second, vI (3 : Int32)] [(.int ((0 : Int32) + (1 : Int32)))])) _
    refine XS.istore X685.here hx rfl (hb hby d9_134) rfl (l' := #[vR a1, vR a2, vR nw, vI (0 : Int32), vD d689, .second, vI ((0 : Int32) + (1 : Int32))]) rfl ?_
    exact kt
  clear R688
  have R691 : ∀ tg, Steps p.tables e below (T685.setTop (mkF m 136 #[vR a1, vR a2, vR nw, vI (0 : Int32), vD d689, .second, vI (1 : Int32)] [])) tg → Steps p.tables e below (s₁.setTop (mkF m 0 #[vR a1, vR a2, .unset, .unset, .unset, .unset, .unset] [])) tg := R690
  have R692 : ∀ tg, Steps p.tables e below (T685.setTop (mkF m 139 #[vR a1, vR a2, vR nw, vI (0 : Int32), vD d689, .second, vI (1 : Int32)] [(.ref a1), (.int (1 : Int32))])) tg → Steps p.tables e below (s₁.setTop (mkF m 0 #[vR a1, vR a2, .unset, .unset, .unset, .unset, .unset] [])) tg := by
    intro tg kt
    refine R691 _ ?_
    show Steps p.tables e below (T685.setTop (mkF m 136 #[vR a1, vR a2, vR nw, vI (0 : Int32), vD d689, .second, vI (1 : Int32)] [])) _
    refine XS.iload X685.here hx rfl (hb hby d9_136) rfl ?_
    refine XS.aloadN X685.here hx rfl (hb hby d9_138) rfl rfl ?_
    exact kt
  clear R691
  obtain ⟨T693, X693, e693, st693⟩ := getF X685 hx hZ hown (host := "") (Or.inl (hw _ (List.mem_of_getElem? (i := 26) rfl))) Via.refl e685 Fs_685 (g := (mkF m 139 #[vR a1, vR a2, vR nw, vI (0 : Int32), vD d689, .second, vI (1 : Int32)] [(.ref a1), (.int (1 : Int32))])) rfl rfl (hb hby d9_139)
  have R694 : ∀ tg, Steps p.tables e below (T693.setTop (mkF m 148 #[vR a1, vR a2, vR nw, vI (0 : Int32), vD d689, .second, vI (1 : Int32)] [(.ref a1), (.double d689)])) tg → Steps p.tables e below (s₁.setTop (mkF m 0 #[vR a1, vR a2, .unset, .unset, .unset, .unset, .unset] [])) tg := by
    intro tg kt
    refine R692 _ ?_
    refine st693 _ ?_
    show Steps p.tables e below (T693.setTop (mkF m 142 #[vR a1, vR a2, vR nw, vI (0 : Int32), vD d689, .second, vI (1 : Int32)] [(.int (3 : Int32)), (.int (1 : Int32))])) _
    refine XS.icmpNo X693.here hx rfl (hb hby d9_142) rfl (tlt (by decide : (1 : Int32) < (3 : Int32))).2.1 ?_
    show Steps p.tables e below (T693.setTop (mkF m 145 #[vR a1, vR a2, vR nw, vI (0 : Int32), vD d689, .second, vI (1 : Int32)] [])) _
    refine XS.dload X693.here hx rfl (hb hby d9_145) rfl ?_
    refine XS.aloadN X693.here hx rfl (hb hby d9_147) rfl rfl ?_
    exact kt
  clear R692 st693
  obtain ⟨T695, X695, e695, st695⟩ := getF X693 hx hZ hown (host := "") (Or.inl (hw _ (List.mem_of_getElem? (i := 28) rfl))) Via.refl e693 Fl_685 (g := (mkF m 148 #[vR a1, vR a2, vR nw, vI (0 : Int32), vD d689, .second, vI (1 : Int32)] [(.ref a1), (.double d689)])) rfl rfl (hb hby d9_148)
  have R696 : ∀ tg, Steps p.tables e below (T695.setTop (mkF m 153 #[vR a1, vR a2, vR nw, vI (0 : Int32), vD d689, .second, vI (1 : Int32)] [(.ref a1), (.int (0 : Int32)), (.ref a3), (.double d689)])) tg → Steps p.tables e below (s₁.setTop (mkF m 0 #[vR a1, vR a2, .unset, .unset, .unset, .unset, .unset] [])) tg := by
    intro tg kt
    refine R694 _ ?_
    refine st695 _ ?_
    refine XS.iloadN X695.here hx rfl (hb hby d9_151) rfl ?_
    show Steps p.tables e below (T695.setTop (mkF m 152 #[vR a1, vR a2, vR nw, vI (0 : Int32), vD d689, .second, vI (1 : Int32)] [(.int (0 : Int32)), (.ref a3), (.double d689)])) _
    refine XS.aloadN X695.here hx rfl (hb hby d9_152) rfl rfl ?_
    exact kt
  clear R694 st695
  obtain ⟨T697, X697, e697, st697⟩ := getF X695 hx hZ hown (host := "") (Or.inl (hw _ (List.mem_of_getElem? (i := 26) rfl))) Via.refl e695 Fs_685 (g := (mkF m 153 #[vR a1, vR a2, vR nw, vI (0 : Int32), vD d689, .second, vI (1 : Int32)] [(.ref a1), (.int (0 : Int32)), (.ref a3), (.double d689)])) rfl rfl (hb hby d9_153)
  have R698 : ∀ tg, Steps p.tables e below (T697.setTop (mkF m 160 #[vR a1, vR a2, vR nw, vI (0 : Int32), vD d689, .second, vI (1 : Int32)] [(.int (((0 : Int32) * (3 : Int32)) + (1 : Int32))), (.ref a3), (.double d689)])) tg → Steps p.tables e below (s₁.setTop (mkF m 0 #[vR a1, vR a2, .unset, .unset, .unset, .unset, .unset] [])) tg := by
    intro tg kt
    refine R696 _ ?_
    refine st697 _ ?_
    show Steps p.tables e below (T697.setTop (mkF m 156 #[vR a1, vR a2, vR nw, vI (0 : Int32), vD d689, .second, vI (1 : Int32)] [(.int (3 : Int32)), (.int (0 : Int32)), (.ref a3), (.double d689)])) _
    refine XS.imul X697.here hx rfl (hb hby d9_156) rfl ?_
    refine XS.iload X697.here hx rfl (hb hby d9_157) rfl ?_
    show Steps p.tables e below (T697.setTop (mkF m 159 #[vR a1, vR a2, vR nw, vI (0 : Int32), vD d689, .second, vI (1 : Int32)] [(.int (1 : Int32)), (.int ((0 : Int32) * (3 : Int32))), (.ref a3), (.double d689)])) _
    refine XS.iadd X697.here hx rfl (hb hby d9_159) rfl ?_
    exact kt
  clear R696 st697
  obtain ⟨cl699, d699, Ar699, hin699, hat699, G699⟩ := VL_685.at (j := (((0 : Int32) * (3 : Int32)) + (1 : Int32))) (k := 1) (by decide) (by decide) (by decide)
  have H699 : DR 2 c1 d699 := G699
  have R700 : ∀ tg, Steps p.tables e below (T697.setTop (mkF m 164 #[vR a1, vR a2, vR nw, vI (0 : Int32), vD d689, .second, vI (1 : Int32)] [(.int (1 : Int32)), (.ref nw), (.double d699), (.double d689)])) tg → Steps p.tables e below (s₁.setTop (mkF m 0 #[vR a1, vR a2, .unset, .unset, .unset, .unset, .unset] [])) tg := by
    intro tg kt
    refine R698 _ ?_
    show Steps p.tables e below (T697.setTop (mkF m 160 #[vR a1, vR a2, vR nw, vI (0 : Int32), vD d689, .second, vI (1 : Int32)] [(.int (((0 : Int32) * (3 : Int32)) + (1 : Int32))), (.ref a3), (.double d689)])) _
    refine X697.daload hx (j := (((0 : Int32) * (3 : Int32)) + (1 : Int32))) (v := (.double d699)) (by rw [e697]; exact Ar699.1) (State.isArrayOf_alike hZ.alike Ar699.2.1) Ar699.2.2 hin699 hat699 (g := (mkF m 160 #[vR a1, vR a2, vR nw, vI (0 : Int32), vD d689, .second, vI (1 : Int32)] [(.int (((0 : Int32) * (3 : Int32)) + (1 : Int32))), (.ref a3), (.double d689)])) rfl rfl (hb hby d9_160) _ ?_
    refine XS.aloadN X697.here hx rfl (hb hby d9_161) rfl rfl ?_
    refine XS.iload X697.here hx rfl (hb hby d9_162) rfl ?_
    exact kt
  clear R698
  obtain ⟨cl701, d701, Ar701, hin701, hat701, G701⟩ := VB_685.at (j := (1 : Int32)) (k := 1) (by decide) rfl (by decide)
  have H701 : DR 2 o1 d701 := G701
  have R702 : ∀ tg, Steps p.tables e below (T697.setTop (mkF m 165 #[vR a1, vR a2, vR nw, vI (0 : Int32), vD d689, .second, vI (1 : Int32)] [(.double d701), (.double d699), (.double d689)])) tg → Steps p.tables e below (s₁.setTop (mkF m 0 #[vR a1, vR a2, .unset, .unset, .unset, .unset, .unset] [])) tg := by
    intro tg kt
    refine R700 _ ?_
    show Steps p.tables e below (T697.setTop (mkF m 164 #[vR a1, vR a2, vR nw, vI (0 : Int32), vD d689, .second, vI (1 : Int32)] [(.int (1 : Int32)), (.ref nw), (.double d699), (.double d689)])) _
    refine X697.daload hx (j := (1 : Int32)) (v := (.double d701)) (by rw [e697]; exact Ar701.1) (State.isArrayOf_alike hZ.alike Ar701.2.1) Ar701.2.2 hin701 hat701 (g := (mkF m 164 #[vR a1, vR a2, vR nw, vI (0 : Int32), vD d689, .second, vI (1 : Int32)] [(.int (1 : Int32)), (.ref nw), (.double d699), (.double d689)])) rfl rfl (hb hby d9_164) _ ?_
    exact kt
  clear R700
  obtain ⟨nm703, d703, hv703, nn703, H703⟩ := own_ms (t := py) H689 H699 H701 q7.1 q7.2.1 q7.2.2
  have R704 : ∀ tg, Steps p.tables e below (T697.setTop (mkF m 136 #[vR a1, vR a2, vR nw, vI (0 : Int32), vD d703, .second, vI ((1 : Int32) + (1 : Int32))] [])) tg → Steps p.tables e below (s₁.setTop (mkF m 0 #[vR a1, vR a2, .unset, .unset, .unset, .unset, .unset] [])) tg := by
    intro tg kt
    refine R702 _ ?_
    show Steps p.tables e below (T697.setTop (mkF m 165 #[vR a1, vR a2, vR nw, vI (0 : Int32), vD d689, .second, vI (1 : Int32)] [(.double d701), (.double d699), (.double d689)])) _
    refine XS.dmulS X697.here hx rfl (hb hby d9_165) rfl nm703 rfl ?_
    show Steps p.tables e below (T697.setTop (mkF m 166 #[vR a1, vR a2, vR nw, vI (0 : Int32), vD d689, .second, vI (1 : Int32)] [(.double (Jvm.FP.dmul d699 d701)), (.double d689)])) _
    refine XS.dsubS X697.here hx rfl (hb hby d9_166) rfl nn703 hv703 ?_
    show Steps p.tables e below (T697.setTop (mkF m 167 #[vR a1, vR a2, vR nw, vI (0 : Int32), vD d689, .second, vI (1 : Int32)] [(.double d703)])) _
    refine XS.dstore X697.here hx rfl (hb hby d9_167) rfl (l' := #[vR a1, vR a2, vR nw, vI (0 : Int32), vD d703, .second, vI (1 : Int32)]) rfl ?_
    show Steps p.tables e below (T697.setTop (mkF m 169 #[vR a1, vR a2, vR nw, vI (0 : Int32), vD d703, .second, vI (1 : Int32)] [])) _
    refine XS.iinc X697.here hx rfl (hb hby d9_169) rfl (l' := #[vR a1, vR a2, vR nw, vI (0 : Int32), vD d703, .second, vI ((1 : Int32) + (1 : Int32))]) rfl ?_
    show Steps p.tables e below (T697.setTop (mkF m 172 #[vR a1, vR a2, vR nw, vI (0 : Int32), vD d703, .second, vI ((1 : Int32) + (1 : Int32))] [])) _
    refine XS.goto X697.here hx rfl (pc0 := 172) (pc' := 136) rfl (hb hby d9_172) (by decide) (by decide) ?_
    exact kt
  clear R702
  have R705 : ∀ tg, Steps p.tables e below (T697.setTop (mkF m 136 #[vR a1, vR a2, vR nw, vI (0 : Int32), vD d703, .second, vI (2 : Int32)] [])) tg → Steps p.tables e below (s₁.setTop (mkF m 0 #[vR a1, vR a2, .unset, .unset, .unset, .unset, .unset] [])) tg := R704
  have R706 : ∀ tg, Steps p.tables e below (T697.setTop (mkF m 139 #[vR a1, vR a2, vR nw, vI (0 : Int32), vD d703, .second, vI (2 : Int32)] [(.ref a1), (.int (2 : Int32))])) tg → Steps p.tables e below (s₁.setTop (mkF m 0 #[vR a1, vR a2, .unset, .unset, .unset, .unset, .unset] [])) tg := by
    intro tg kt
    refine R705 _ ?_
    show Steps p.tables e below (T697.setTop (mkF m 136 #[vR a1, vR a2, vR nw, vI (0 : Int32), vD d703, .second, vI (2 : Int32)] [])) _
    refine XS.iload X697.here hx rfl (hb hby d9_136) rfl ?_
    refine XS.aloadN X697.here hx rfl (hb hby d9_138) rfl rfl ?_
    exact kt
  clear R705
  obtain ⟨T707, X707, e707, st707⟩ := getF X697 hx hZ hown (host := "") (Or.inl (hw _ (List.mem_of_getElem? (i := 26) rfl))) Via.refl e697 Fs_685 (g := (mkF m 139 #[vR a1, vR a2, vR nw, vI (0 : Int32), vD d703, .second, vI (2 : Int32)] [(.ref a1), (.int (2 : Int32))])) rfl rfl (hb hby d9_139)
  have R708 : ∀ tg, Steps p.tables e below (T707.setTop (mkF m 148 #[vR a1, vR a2, vR nw, vI (0 : Int32), vD d703, .second, vI (2 : Int32)] [(.ref a1), (.double d703)])) tg → Steps p.tables e below (s₁.setTop (mkF m 0 #[vR a1, vR a2, .unset, .unset, .unset, .unset, .unset] [])) tg := by
    intro tg kt
    refine R706 _ ?_
    refine st707 _ ?_
    show Steps p.tables e below (T707.setTop (mkF m 142 #[vR a1, vR a2, vR nw, vI (0 : Int32), vD d703, .second, vI (2 : Int32)] [(.int (3 : Int32)), (.int (2 : Int32))])) _
    refine XS.icmpNo X707.here hx rfl (hb hby d9_142) rfl (tlt (by decide : (2 : Int32) < (3 : Int32))).2.1 ?_
    show Steps p.tables e below (T707.setTop (mkF m 145 #[vR a1, vR a2, vR nw, vI (0 : Int32), vD d703, .second, vI (2 : Int32)] [])) _
    refine XS.dload X707.here hx rfl (hb hby d9_145) rfl ?_
    refine XS.aloadN X707.here hx rfl (hb hby d9_147) rfl rfl ?_
    exact kt
  clear R706 st707
  obtain ⟨T709, X709, e709, st709⟩ := getF X707 hx hZ hown (host := "") (Or.inl (hw _ (List.mem_of_getElem? (i := 28) rfl))) Via.refl e707 Fl_685 (g := (mkF m 148 #[vR a1, vR a2, vR nw, vI (0 : Int32), vD d703, .second, vI (2 : Int32)] [(.ref a1), (.double d703)])) rfl rfl (hb hby d9_148)
  have R710 : ∀ tg, Steps p.tables e below (T709.setTop (mkF m 153 #[vR a1, vR a2, vR nw, vI (0 : Int32), vD d703, .second, vI (2 : Int32)] [(.ref a1), (.int (0 : Int32)), (.ref a3), (.double d703)])) tg → Steps p.tables e below (s₁.setTop (mkF m 0 #[vR a1, vR a2, .unset, .unset, .unset, .unset, .unset] [])) tg := by
    intro tg kt
    refine R708 _ ?_
    refine st709 _ ?_
    refine XS.iloadN X709.here hx rfl (hb hby d9_151) rfl ?_
    show Steps p.tables e below (T709.setTop (mkF m 152 #[vR a1, vR a2, vR nw, vI (0 : Int32), vD d703, .second, vI (2 : Int32)] [(.int (0 : Int32)), (.ref a3), (.double d703)])) _
    refine XS.aloadN X709.here hx rfl (hb hby d9_152) rfl rfl ?_
    exact kt
  clear R708 st709
  obtain ⟨T711, X711, e711, st711⟩ := getF X709 hx hZ hown (host := "") (Or.inl (hw _ (List.mem_of_getElem? (i := 26) rfl))) Via.refl e709 Fs_685 (g := (mkF m 153 #[vR a1, vR a2, vR nw, vI (0 : Int32), vD d703, .second, vI (2 : Int32)] [(.ref a1), (.int (0 : Int32)), (.ref a3), (.double d703)])) rfl rfl (hb hby d9_153)
  have R712 : ∀ tg, Steps p.tables e below (T711.setTop (mkF m 160 #[vR a1, vR a2, vR nw, vI (0 : Int32), vD d703, .second, vI (2 : Int32)] [(.int (((0 : Int32) * (3 : Int32)) + (2 : Int32))), (.ref a3), (.double d703)])) tg → Steps p.tables e below (s₁.setTop (mkF m 0 #[vR a1, vR a2, .unset, .unset, .unset, .unset, .unset] [])) tg := by
    intro tg kt
    refine R710 _ ?_
    refine st711 _ ?_
    show Steps p.tables e below (T711.setTop (mkF m 156 #[vR a1, vR a2, vR nw, vI (0 : Int32), vD d703, .second, vI (2 : Int32)] [(.int (3 : Int32)), (.int (0 : Int32)), (.ref a3), (.double d703)])) _
    refine XS.imul X711.here hx rfl (hb hby d9_156) rfl ?_
    refine XS.iload X711.here hx rfl (hb hby d9_157) rfl ?_
    show Steps p.tables e below (T711.setTop (mkF m 159 #[vR a1, vR a2, vR nw, vI (0 : Int32), vD d703, .second, vI (2 : Int32)] [(.int (2 : Int32)), (.int ((0 : Int32) * (3 : Int32))), (.ref a3), (.double d703)])) _
    refine XS.iadd X711.here hx rfl (hb hby d9_159) rfl ?_
    exact kt
  clear R710 st711
  obtain ⟨cl713, d713, Ar713, hin713, hat713, G713⟩ := VL_685.at (j := (((0 : Int32) * (3 : Int32)) + (2 : Int32))) (k := 2) (by decide) (by decide) (by decide)
  have H713 : DR 2 c2 d713 := G713
  have R714 : ∀ tg, Steps p.tables e below (T711.setTop (mkF m 164 #[vR a1, vR a2, vR nw, vI (0 : Int32), vD d703, .second, vI (2 : Int32)] [(.int (2 : Int32)), (.ref nw), (.double d713), (.double d703)])) tg → Steps p.tables e below (s₁.setTop (mkF m 0 #[vR a1, vR a2, .unset, .unset, .unset, .unset, .unset] [])) tg := by
    intro tg kt
    refine R712 _ ?_
    show Steps p.tables e below (T711.setTop (mkF m 160 #[vR a1, vR a2, vR nw, vI (0 : Int32), vD d703, .second, vI (2 : Int32)] [(.int (((0 : Int32) * (3 : Int32)) + (2 : Int32))), (.ref a3), (.double d703)])) _
    refine X711.daload hx (j := (((0 : Int32) * (3 : Int32)) + (2 : Int32))) (v := (.double d713)) (by rw [e711]; exact Ar713.1) (State.isArrayOf_alike hZ.alike Ar713.2.1) Ar713.2.2 hin713 hat713 (g := (mkF m 160 #[vR a1, vR a2, vR nw, vI (0 : Int32), vD d703, .second, vI (2 : Int32)] [(.int (((0 : Int32) * (3 : Int32)) + (2 : Int32))), (.ref a3), (.double d703)])) rfl rfl (hb hby d9_160) _ ?_
    refine XS.aloadN X711.here hx rfl (hb hby d9_161) rfl rfl ?_
    refine XS.iload X711.here hx rfl (hb hby d9_162) rfl ?_
    exact kt
  clear R712
  obtain ⟨cl715, d715, Ar715, hin715, hat715, G715⟩ := VB_685.at (j := (2 : Int32)) (k := 2) (by decide) rfl (by decide)
  have H715 : DR 2 o2 d715 := G715
  have R716 : ∀ tg, Steps p.tables e below (T711.setTop (mkF m 165 #[vR a1, vR a2, vR nw, vI (0 : Int32), vD d703, .second, vI (2 : Int32)] [(.double d715), (.double d713), (.double d703)])) tg → Steps p.tables e below (s₁.setTop (mkF m 0 #[vR a1, vR a2, .unset, .unset, .unset, .unset, .unset] [])) tg := by
    intro tg kt
    refine R714 _ ?_
    show Steps p.tables e below (T711.setTop (mkF m 164 #[vR a1, vR a2, vR nw, vI (0 : Int32), vD d703, .second, vI (2 : Int32)] [(.int (2 : Int32)), (.ref nw), (.double d713), (.double d703)])) _
    refine X711.daload hx (j := (2 : Int32)) (v := (.double d715)) (by rw [e711]; exact Ar715.1) (State.isArrayOf_alike hZ.alike Ar715.2.1) Ar715.2.2 hin715 hat715 (g := (mkF m 164 #[vR a1, vR a2, vR nw, vI (0 : Int32), vD d703, .second, vI (2 : Int32)] [(.int (2 : Int32)), (.ref nw), (.double d713), (.double d703)])) rfl rfl (hb hby d9_164) _ ?_
    exact kt
  clear R714
  obtain ⟨nm717, d717, hv717, nn717, H717⟩ := own_ms (t := pz) H703 H713 H715 q8.1 q8.2.1 q8.2.2
  have R718 : ∀ tg, Steps p.tables e below (T711.setTop (mkF m 136 #[vR a1, vR a2, vR nw, vI (0 : Int32), vD d717, .second, vI ((2 : Int32) + (1 : Int32))] [])) tg → Steps p.tables e below (s₁.setTop (mkF m 0 #[vR a1, vR a2, .unset, .unset, .unset, .unset, .unset] [])) tg := by
    intro tg kt
    refine R716 _ ?_
    show Steps p.tables e below (T711.setTop (mkF m 165 #[vR a1, vR a2, vR nw, vI (0 : Int32), vD d703, .second, vI (2 : Int32)] [(.double d715), (.double d713), (.double d703)])) _
    refine XS.dmulS X711.here hx rfl (hb hby d9_165) rfl nm717 rfl ?_
    show Steps p.tables e below (T711.setTop (mkF m 166 #[vR a1, vR a2, vR nw, vI (0 : Int32), vD d703, .second, vI (2 : Int32)] [(.double (Jvm.FP.dmul d713 d715)), (.double d703)])) _
    refine XS.dsubS X711.here hx rfl (hb hby d9_166) rfl nn717 hv717 ?_
    show Steps p.tables e below (T711.setTop (mkF m 167 #[vR a1, vR a2, vR nw, vI (0 : Int32), vD d703, .second, vI (2 : Int32)] [(.double d717)])) _
    refine XS.dstore X711.here hx rfl (hb hby d9_167) rfl (l' := #[vR a1, vR a2, vR nw, vI (0 : Int32), vD d717, .second, vI (2 : Int32)]) rfl ?_
    show Steps p.tables e below (T711.setTop (mkF m 169 #[vR a1, vR a2, vR nw, vI (0 : Int32), vD d717, .second, vI (2 : Int32)] [])) _
    refine XS.iinc X711.here hx rfl (hb hby d9_169) rfl (l' := #[vR a1, vR a2, vR nw, vI (0 : Int32), vD d717, .second, vI ((2 : Int32) + (1 : Int32))]) rfl ?_
    show Steps p.tables e below (T711.setTop (mkF m 172 #[vR a1, vR a2, vR nw, vI (0 : Int32), vD d717, .second, vI ((2 : Int32) + (1 : Int32))] [])) _
    refine XS.goto X711.here hx rfl (pc0 := 172) (pc' := 136) rfl (hb hby d9_172) (by decide) (by decide) ?_
    exact kt
  clear R716
  have R719 : ∀ tg, Steps p.tables e below (T711.setTop (mkF m 136 #[vR a1, vR a2, vR nw, vI (0 : Int32), vD d717, .second, vI (3 : Int32)] [])) tg → Steps p.tables e below (s₁.setTop (mkF m 0 #[vR a1, vR a2, .unset, .unset, .unset, .unset, .unset] [])) tg := R718
  have R720 : ∀ tg, Steps p.tables e below (T711.setTop (mkF m 139 #[vR a1, vR a2, vR nw, vI (0 : Int32), vD d717, .second, vI (3 : Int32)] [(.ref a1), (.int (3 : Int32))])) tg → Steps p.tables e below (s₁.setTop (mkF m 0 #[vR a1, vR a2, .unset, .unset, .unset, .unset, .unset] [])) tg := by
    intro tg kt
    refine R719 _ ?_
    show Steps p.tables e below (T711.setTop (mkF m 136 #[vR a1, vR a2, vR nw, vI (0 : Int32), vD d717, .second, vI (3 : Int32)] [])) _
    refine XS.iload X711.here hx rfl (hb hby d9_136) rfl ?_
    refine XS.aloadN X711.here hx rfl (hb hby d9_138) rfl rfl ?_
    exact kt
  clear R719
  obtain ⟨T721, X721, e721, st721⟩ := getF X711 hx hZ hown (host := "") (Or.inl (hw _ (List.mem_of_getElem? (i := 26) rfl))) Via.refl e711 Fs_685 (g := (mkF m 139 #[vR a1, vR a2, vR nw, vI (0 : Int32), vD d717, .second, vI (3 : Int32)] [(.ref a1), (.int (3 : Int32))])) rfl rfl (hb hby d9_139)
  have R722 : ∀ tg, Steps p.tables e below (T721.setTop (mkF m 180 #[vR a1, vR a2, vR nw, vI (0 : Int32), vD d717, .second, vI (3 : Int32)] [(.ref a1), (.double d717), (.int (0 : Int32)), (.ref nw)])) tg → Steps p.tables e below (s₁.setTop (mkF m 0 #[vR a1, vR a2, .unset, .unset, .unset, .unset, .unset] [])) tg := by
    intro tg kt
    refine R720 _ ?_
    refine st721 _ ?_
    show Steps p.tables e below (T721.setTop (mkF m 142 #[vR a1, vR a2, vR nw, vI (0 : Int32), vD d717, .second, vI (3 : Int32)] [(.int (3 : Int32)), (.int (3 : Int32))])) _
    refine XS.icmpYes X721.here hx rfl (pc0 := 142) (pc' := 175) rfl (hb hby d9_142) rfl (flt (by decide : ¬ ((3 : Int32) < (3 : Int32)))).2.1 (by decide) (by decide) ?_
    refine XS.aloadN X721.here hx rfl (hb hby d9_175) rfl rfl ?_
    refine XS.iloadN X721.here hx rfl (hb hby d9_176) rfl ?_
    show Steps p.tables e below (T721.setTop (mkF m 177 #[vR a1, vR a2, vR nw, vI (0 : Int32), vD d717, .second, vI (3 : Int32)] [(.int (0 : Int32)), (.ref nw)])) _
    refine XS.dload X721.here hx rfl (hb hby d9_177) rfl ?_
    refine XS.aloadN X721.here hx rfl (hb hby d9_179) rfl rfl ?_
    exact kt
  clear R720 st721
  obtain ⟨T723, X723, e723, st723⟩ := getF X721 hx hZ hown (host := "") (Or.inl (hw _ (List.mem_of_getElem? (i := 28) rfl))) Via.refl e721 Fl_685 (g := (mkF m 180 #[vR a1, vR a2, vR nw, vI (0 : Int32), vD d717, .second, vI (3 : Int32)] [(.ref a1), (.double d717), (.int (0 : Int32)), (.ref nw)])) rfl rfl (hb hby d9_180)
  have R724 : ∀ tg, Steps p.tables e below (T723.setTop (mkF m 185 #[vR a1, vR a2, vR nw, vI (0 : Int32), vD d717, .second, vI (3 : Int32)] [(.ref a1), (.int (0 : Int32)), (.ref a3), (.double d717), (.int (0 : Int32)), (.ref nw)])) tg → Steps p.tables e below (s₁.setTop (mkF m 0 #[vR a1, vR a2, .unset, .unset, .unset, .unset, .unset] [])) tg := by
    intro tg kt
    refine R722 _ ?_
    refine st723 _ ?_
    refine XS.iloadN X723.here hx rfl (hb hby d9_183) rfl ?_
    show Steps p.tables e below (T723.setTop (mkF m 184 #[vR a1, vR a2, vR nw, vI (0 : Int32), vD d717, .second, vI (3 : Int32)] [(.int (0 : Int32)), (.ref a3), (.double d717), (.int (0 : Int32)), (.ref nw)])) _
    refine XS.aloadN X723.here hx rfl (hb hby d9_184) rfl rfl ?_
    exact kt
  clear R722 st723
  obtain ⟨T725, X725, e725, st725⟩ := getF X723 hx hZ hown (host := "") (Or.inl (hw _ (List.mem_of_getElem? (i := 26) rfl))) Via.refl e723 Fs_685 (g := (mkF m 185 #[vR a1, vR a2, vR nw, vI (0 : Int32), vD d717, .second, vI (3 : Int32)] [(.ref a1), (.int (0 : Int32)), (.ref a3), (.double d717), (.int (0 : Int32)), (.ref nw)])) rfl rfl (hb hby d9_185)
  have R726 : ∀ tg, Steps p.tables e below (T725.setTop (mkF m 191 #[vR a1, vR a2, vR nw, vI (0 : Int32), vD d717, .second, vI (3 : Int32)] [(.int (((0 : Int32) * (3 : Int32)) + (0 : Int32))), (.ref a3), (.double d717), (.int (0 : Int32)), (.ref nw)])) tg → Steps p.tables e below (s₁.setTop (mkF m 0 #[vR a1, vR a2, .unset, .unset, .unset, .unset, .unset] [])) tg := by
    intro tg kt
    refine R724 _ ?_
    refine st725 _ ?_
    show Steps p.tables e below (T725.setTop (mkF m 188 #[vR a1, vR a2, vR nw, vI (0 : Int32), vD d717, .second, vI (3 : Int32)] [(.int (3 : Int32)), (.int (0 : Int32)), (.ref a3), (.double d717), (.int (0 : Int32)), (.ref nw)])) _
    refine XS.imul X725.here hx rfl (hb hby d9_188) rfl ?_
    refine XS.iloadN X725.here hx rfl (hb hby d9_189) rfl ?_
    show Steps p.tables e below (T725.setTop (mkF m 190 #[vR a1, vR a2, vR nw, vI (0 : Int32), vD d717, .second, vI (3 : Int32)] [(.int (0 : Int32)), (.int ((0 : Int32) * (3 : Int32))), (.ref a3), (.double d717), (.int (0 : Int32)), (.ref nw)])) _
    refine XS.iadd X725.here hx rfl (hb hby d9_190) rfl ?_
    exact kt
  clear R724 st725
  obtain ⟨cl727, d727, Ar727, hin727, hat727, G727⟩ := VL_685.at (j := (((0 : Int32) * (3 : Int32)) + (0 : Int32))) (k := 0) (by decide) (by decide) (by decide)
  have H727 : DR 2 c0 d727 := G727
  have R728 : ∀ tg, Steps p.tables e below (T725.setTop (mkF m 192 #[vR a1, vR a2, vR nw, vI (0 : Int32), vD d717, .second, vI (3 : Int32)] [(.double d727), (.double d717), (.int (0 : Int32)), (.ref nw)])) tg → Steps p.tables e below (s₁.setTop (mkF m 0 #[vR a1, vR a2, .unset, .unset, .unset, .unset, .unset] [])) tg := by
    intro tg kt
    refine R726 _ ?_
    show Steps p.tables e below (T725.setTop (mkF m 191 #[vR a1, vR a2, vR nw, vI (0 : Int32), vD d717, .second, vI (3 : Int32)] [(.int (((0 : Int32) * (3 : Int32)) + (0 : Int32))), (.ref a3), (.double d717), (.int (0 : Int32)), (.ref nw)])) _
    refine X725.daload hx (j := (((0 : Int32) * (3 : Int32)) + (0 : Int32))) (v := (.double d727)) (by rw [e725]; exact Ar727.1) (State.isArrayOf_alike hZ.alike Ar727.2.1) Ar727.2.2 hin727 hat727 (g := (mkF m 191 #[vR a1, vR a2, vR nw, vI (0 : Int32), vD d717, .second, vI (3 : Int32)] [(.int (((0 : Int32) * (3 : Int32)) + (0 : Int32))), (.ref a3), (.double d717), (.int (0 : Int32)), (.ref nw)])) rfl rfl (hb hby d9_191) _ ?_
    exact kt
  clear R726
  obtain ⟨d729, hv729, nn729, H729⟩ := own_dv (c := o0) H717 H727 q9.1 q9.2.1 q9.2.2
  have R730 : ∀ tg, Steps p.tables e below (T725.setTop (mkF m 193 #[vR a1, vR a2, vR nw, vI (0 : Int32), vD d717, .second, vI (3 : Int32)] [(.double d729), (.int (0 : Int32)), (.ref nw)])) tg → Steps p.tables e below (s₁.setTop (mkF m 0 #[vR a1, vR a2, .unset, .unset, .unset, .unset, .unset] [])) tg := by
    intro tg kt
    refine R728 _ ?_
    show Steps p.tables e below (T725.setTop (mkF m 192 #[vR a1, vR a2, vR nw, vI (0 : Int32), vD d717, .second, vI (3 : Int32)] [(.double d727), (.double d717), (.int (0 : Int32)), (.ref nw)])) _
    refine XS.ddivS X725.here hx rfl (hb hby d9_192) rfl nn729 hv729 ?_
    exact kt
  clear R728
  obtain ⟨cl731, -, Ar731, hin731, -, -⟩ := VB_685.at (j := (0 : Int32)) (k := 0) (by decide) rfl (by decide)
  obtain ⟨T732, h732, X732, e732, W732, st732⟩ := stD X725 hx hZ e725 Ar731 (j := (0 : Int32)) hin731 (g := (mkF m 193 #[vR a1, vR a2, vR nw, vI (0 : Int32), vD d717, .second, vI (3 : Int32)] [(.double d729), (.int (0 : Int32)), (.ref nw)])) rfl rfl (hb hby d9_193)
  have N732 := Fr.snoc X732 N685 g_nw
  rw [show ((0 : Int32) : Int32).toNatClampNeg = 0 from rfl] at W732
  have VB_732 : VD Z h732 nw 3 [o0, o1, o2] := VB_685.set W732 H729
  have Fs_732 := Fs_685.other W732 (Or.inl ne_a1_nw)
  have Fl_732 := Fl_685.other W732 (Or.inl ne_a1_nw)
  have Fp_732 := Fp_685.other W732 (Or.inl ne_a1_nw)
  have VL_732 := VL_685.other W732 ne_a3_nw
  have VP_732 := VP_685.other W732 ne_a4_nw
  clear Fs_685 Fl_685 Fp_685 VL_685 VP_685
  have Zs732 : n0 ≤ h732.size := Nat.le_trans Zs685 (Keep.of_wr W732).1
  have Kw732 : Keep h0 h732 [] := Keep.wr Kw685 W732 (Or.inr sz_nw)
  have R733 : ∀ tg, Steps p.tables e below (T732.setTop (mkF m 122 #[vR a1, vR a2, vR nw, vI ((0 : Int32) + (-1 : Int32)), vD d717, .second, vI (3 : Int32)] [])) tg → Steps p.tables e below (s₁.setTop (mkF m 0 #[vR a1, vR a2, .unset, .unset, .unset, .unset, .unset] [])) tg := by
    intro tg kt
    refine R730 _ ?_
    refine st732 _ ?_
    show Steps p.tables e below (T732.setTop (mkF m 194 #[vR a1, vR a2, vR nw, vI (0 : Int32), vD d717, .second, vI (3 : Int32)] [])) _
    refine XS.iinc X732.here hx rfl (hb hby d9_194) rfl (l' := #[vR a1, vR a2, vR nw, vI ((0 : Int32) + (-1 : Int32)), vD d717, .second, vI (3 : Int32)]) rfl ?_
    show Steps p.tables e below (T732.setTop (mkF m 197 #[vR a1, vR a2, vR nw, vI ((0 : Int32) + (-1 : Int32)), vD d717, .second, vI (3 : Int32)] [])) _
    refine XS.goto X732.here hx rfl (pc0 := 197) (pc' := 122) rfl (hb hby d9_197) (by decide) (by decide) ?_
    exact kt
  clear R730 st732
  have R734 : ∀ tg, Steps p.tables e below (T732.setTop (mkF m 122 #[vR a1, vR a2, vR nw, vI (-1 : Int32), vD d717, .second, vI (3 : Int32)] [])) tg → Steps p.tables e below (s₁.setTop (mkF m 0 #[vR a1, vR a2, .unset, .unset, .unset, .unset, .unset] [])) tg := R733
  have R735 : ∀ tg, Steps p.tables e below (T732.setTop (mkF m 201 #[vR a1, vR a2, vR nw, vI (-1 : Int32), vD d717, .second, vI (3 : Int32)] [(.ref nw)])) tg → Steps p.tables e below (s₁.setTop (mkF m 0 #[vR a1, vR a2, .unset, .unset, .unset, .unset, .unset] [])) tg := by
    intro tg kt
    refine R734 _ ?_
    show Steps p.tables e below (T732.setTop (mkF m 122 #[vR a1, vR a2, vR nw, vI (-1 : Int32), vD d717, .second, vI (3 : Int32)] [])) _
    refine XS.iloadN X732.here hx rfl (hb hby d9_122) rfl ?_
    show Steps p.tables e below (T732.setTop (mkF m 123 #[vR a1, vR a2, vR nw, vI (-1 : Int32), vD d717, .second, vI (3 : Int32)] [(.int (-1 : Int32))])) _
    refine XS.ifYes X732.here hx rfl (pc0 := 123) (pc' := 200) rfl (hb hby d9_123) rfl ((if0 _ _).trans (tlt (by decide : (-1 : Int32) < (0 : Int32))).1) (by decide) (by decide) ?_
    refine XS.aloadN X732.here hx rfl (hb hby d9_200) rfl rfl ?_
    exact kt
  clear R734
  obtain ⟨fs, hr, hrun, hended, hW, hsame⟩ := X732.leave (v := some (.ref nw)) (fun h => by rw [Bd.returns] at h; cases h)
  refine ⟨_, _, pre0 _ (R735 _ ?_), hrun, hended, _, _, rfl, ?_, ⟨_, rfl⟩, hW, hsame.mono (by decide) (by decide)⟩
  · show Steps p.tables e below (T732.setTop (mkF m 201 #[vR a1, vR a2, vR nw, vI (-1 : Int32), vD d717, .second, vI (3 : Int32)] [(.ref nw)])) _
    jvm_step X732.here [X732.here.top, hx, (hb hby d9_201), X732.method', Bd.returns, Value.isRef, FieldType.isReference]
    first | (intro acts; rw [hr _ acts rfl rfl rfl]) | rw [hr _ _ rfl rfl rfl]
    exact Steps.refl _
  · show Q_rm_so Z a1 a2 a3 a4 c0 c1 c2 c3 c4 c5 c6 c7 c8 r0 r1 r2 w0 w1 w2 g1 gx g2 o2 px o1 py pz o0 ka kb h0 n0 _ T732.heap _
    rw [e732]
    exact ⟨nw, rfl, N732, sz_nw, Kw732, VB_732⟩
theorem pd_3 : parseMethodDescriptor "(I)I" = some ⟨[.int], some .int⟩ := by decide +kernel
theorem pd_4 : parseMethodDescriptor "([D[DIJJJIII)V" = some ⟨[(.array .double), (.array .double), .int, .long, .long, .long, .int, .int, .int], none⟩ := by decide +kernel
theorem pd_5 : parseMethodDescriptor "(I[D)V" = some ⟨[.int, (.array .double)], none⟩ := by decide +kernel
theorem pd_6 : parseMethodDescriptor "([D)[D" = some ⟨[(.array .double)], some (.array .double)⟩ := by decide +kernel
theorem ef_rm_law (m : MethodId) (p1 : Int32) (p2 : Int32) (p3 : Int32) (q4 : Int64) (q5 : Int64) (p6 : Int32) : entryFrame m #[(.int p1), (.int p2), (.int p3), (.long q4), (.long q5), (.int p6)] maxLocals = mkF m 0 #[vI p1, vI p2, vI p3, vJ q4, .second, vJ q5, .second, vI p6, .unset, .unset, .unset, .unset, .unset, .unset, .unset, .unset, .unset, .unset, .unset, .unset, .unset, .unset, .unset, .unset, .unset, .unset, .unset, .unset, .unset, .unset, .unset, .unset, .unset] [] := by first | (simp [entryFrame, mkF, argsToLocals, Value.category, maxLocals]; done) | rfl
def Q_rm_law (Z : State) (p1 : Int32) (p2 : Int32) (p3 : Int32) (q4 : Int64) (q5 : Int64) (p6 : Int32) (h0 : Heap) (n0 : Nat) (v : Option Value) (h : Heap) (L : List Loc) : Prop := v = some (.int (1 : Int32)) ∧ Fr n0 L
set_option maxRecDepth 65536 in
set_option maxHeartbeats 40000000 in
theorem rm_law (l : Launch) (Z : State) (a0 : Array Value) (hw : ∀ d ∈ tables_1, d.before a0 Z = true) (ws : List Jvm.Cond) (p1 : Int32) (p2 : Int32) (p3 : Int32) (q4 : Int64) (q5 : Int64) (p6 : Int32) (h0 : Heap) (n0 : Nat) (Z0 : n0 ≤ h0.size) :
    MetFree l x (head1 (Jvm.Cond.code x code maxLocals ret :: ws) room_1) (fun a U => a = #[(.int p1), (.int p2), (.int p3), (.long q4), (.long q5), (.int p6)] ∧ Z.Warmed39 U.vm ∧ U.heap = h0) (fun _ _ _ _ _ => True) (fun _ U oC U' => ∃ v L, oC = .returned v ∧ Q_rm_law Z p1 p2 p3 q4 q5 p6 h0 n0 v U'.heap L ∧ FrameEnd U oC U' L room_1.cells room_1.slots) := by
  refine MetFree.of_bodySF (plainFor_of_name pn_0) hisR ?_
  intro p e s m args below meth c s₁ Bd hml0 hP hK
  obtain ⟨rfl, hZ, hh⟩ := hP
  have hx := Bd.exec
  have hby := Bd.bytes
  have hml : c.maxLocals = 33 := hml0
  have hown : s.vm.findClass "com/example/inexact_odds/inexactodds/reach/DenseLuSolvePinLaw" = some m.cls := findClass_of_methodNamed Bd.named
  have hnm := (name_of_methodNamed Bd.named Bd.method).1
  have X0 : Stand p l e room_1 s m #[(.int p1), (.int p2), (.int p3), (.long q4), (.long q5), (.int p6)] below meth c s₁ [] 0 0 := Stand.of_body Bd
  have e0 : s₁.heap = h0 := by rw [← hh, Bd.state]; rfl
  have N0 := Fr.nil n0
  have pre0 : ∀ tg, Steps p.tables e below (s₁.setTop (mkF m 0 #[vI p1, vI p2, vI p3, vJ q4, .second, vJ q5, .second, vI p6, .unset, .unset, .unset, .unset, .unset, .unset, .unset, .unset, .unset, .unset, .unset, .unset, .unset, .unset, .unset, .unset, .unset, .unset, .unset, .unset, .unset, .unset, .unset, .unset, .unset] [])) tg → Steps p.tables e below (s₁.setTop (entryFrame m #[(.int p1), (.int p2), (.int p3), (.long q4), (.long q5), (.int p6)] maxLocals)) tg := fun t k => castTop (ef_rm_law m p1 p2 p3 q4 q5 p6) k
  have pre00 : ∀ tg, Steps p.tables e below (s₁.setTop (mkF m 0 #[vI p1, vI p2, vI p3, vJ q4, .second, vJ q5, .second, vI p6, .unset, .unset, .unset, .unset, .unset, .unset, .unset, .unset, .unset, .unset, .unset, .unset, .unset, .unset, .unset, .unset, .unset, .unset, .unset, .unset, .unset, .unset, .unset, .unset, .unset] [])) tg → Steps p.tables e below (s₁.setTop (mkF m 0 #[vI p1, vI p2, vI p3, vJ q4, .second, vJ q5, .second, vI p6, .unset, .unset, .unset, .unset, .unset, .unset, .unset, .unset, .unset, .unset, .unset, .unset, .unset, .unset, .unset, .unset, .unset, .unset, .unset, .unset, .unset, .unset, .unset, .unset, .unset] [])) tg := fun _ k => k
  have R736 : ∀ tg, Steps p.tables e below (s₁.setTop (mkF m 2 #[vI p1, vI p2, vI p3, vJ q4, .second, vJ q5, .second, vI p6, .unset, .unset, .unset, .unset, .unset, .unset, .unset, .unset, .unset, .unset, .unset, .unset, .unset, .unset, .unset, .unset, .unset, .unset, .unset, .unset, .unset, .unset, .unset, .unset, .unset] [(.long q5)])) tg → Steps p.tables e below (s₁.setTop (mkF m 0 #[vI p1, vI p2, vI p3, vJ q4, .second, vJ q5, .second, vI p6, .unset, .unset, .unset, .unset, .unset, .unset, .unset, .unset, .unset, .unset, .unset, .unset, .unset, .unset, .unset, .unset, .unset, .unset, .unset, .unset, .unset, .unset, .unset, .unset, .unset] [])) tg := by
    intro tg kt
    refine pre00 _ ?_
    show Steps p.tables e below (s₁.setTop (mkF m 0 #[vI p1, vI p2, vI p3, vJ q4, .second, vJ q5, .second, vI p6, .unset, .unset, .unset, .unset, .unset, .unset, .unset, .unset, .unset, .unset, .unset, .unset, .unset, .unset, .unset, .unset, .unset, .unset, .unset, .unset, .unset, .unset, .unset, .unset, .unset] [])) _
    refine XS.lload X0.here hx rfl (hb hby at_0) rfl ?_
    exact kt
  obtain ⟨_, _, ⟨T737, L737, k737, n737⟩, -, X737, ⟨Lc737, hQ737, l737, y737, z737⟩, st737⟩ := Jvm.LawKit.callS X0 hx (y := (⟨"com/example/inexact_odds/inexactodds/reach/DenseLuSolvePinLaw", "nz12", "(J)I"⟩ : MethodName)) hown (mvT hZ (hw _ (List.mem_of_getElem? (i := 0) rfl))) (mvT hZ (hw _ (List.mem_of_getElem? (i := 1) rfl))) (mvT hZ (hw _ (List.mem_of_getElem? (i := 2) rfl))) (mvT hZ (hw _ (List.mem_of_getElem? (i := 3) rfl))) (by decide) (backOf (W := 0) (rm_nz l Z a0 hw [] q5 h0 n0 Z0) hZ (hw _ (List.mem_of_getElem? (i := 3) rfl)) (hw _ (List.mem_of_getElem? (i := 2) rfl)) (by decide) (by decide)) (g := (mkF m 2 #[vI p1, vI p2, vI p3, vJ q4, .second, vJ q5, .second, vI p6, .unset, .unset, .unset, .unset, .unset, .unset, .unset, .unset, .unset, .unset, .unset, .unset, .unset, .unset, .unset, .unset, .unset, .unset, .unset, .unset, .unset, .unset, .unset, .unset, .unset] [(.long q5)])) rfl (by rw [hml]; rfl) (argsL := [(.long q5)]) (rest := []) (lenOf pd_0 rfl) rfl (by show 2 * 0 + _ ≤ _; exact Nat.le_of_eq rfl) (hb hby at_2) (fun _ _ => ⟨rfl, e0, (by decide : 0 + 0 ≤ _), (by decide : 0 + 0 ≤ _)⟩)
  dsimp only [Pt.U, Pt.locs, Pt.cells, Pt.slots] at X737 l737 y737 z737 st737 hQ737
  rw [l737, y737, z737] at X737
  obtain ⟨ua, rfl, N737q, hh737, ne_ua, bd_ua⟩ := hQ737
  have N737 := Fr.app N0 N737q
  have b_ua := own_toB bd_ua
  have R738 : ∀ tg, Steps p.tables e below (T737.setTop (mkF m 12 #[vI p1, vI p2, vI p3, vJ q4, .second, vJ q5, .second, vI p6, vI ua, .unset, .unset, .unset, .unset, .unset, .unset, .unset, .unset, .unset, .unset, .unset, .unset, .unset, .unset, .unset, .unset, .unset, .unset, .unset, .unset, .unset, .unset, .unset, .unset] [(.long ((q5.toUInt64 >>> ((12 : Int32) &&& 0x3f).toInt64.toUInt64).toInt64))])) tg → Steps p.tables e below (s₁.setTop (mkF m 0 #[vI p1, vI p2, vI p3, vJ q4, .second, vJ q5, .second, vI p6, .unset, .unset, .unset, .unset, .unset, .unset, .unset, .unset, .unset, .unset, .unset, .unset, .unset, .unset, .unset, .unset, .unset, .unset, .unset, .unset, .unset, .unset, .unset, .unset, .unset] [])) tg := by
    intro tg kt
    refine R736 _ ?_
    refine st737 _ ?_
    show Steps p.tables e below (T737.setTop (mkF m 5 #[vI p1, vI p2, vI p3, vJ q4, .second, vJ q5, .second, vI p6, .unset, .unset, .unset, .unset, .unset, .unset, .unset, .unset, .unset, .unset, .unset, .unset, .unset, .unset, .unset, .unset, .unset, .unset, .unset, .unset, .unset, .unset, .unset, .unset, .unset] [(.int ua)])) _
    refine XS.istore X737.here hx rfl (hb hby at_5) rfl (l' := #[vI p1, vI p2, vI p3, vJ q4, .second, vJ q5, .second, vI p6, vI ua, .unset, .unset, .unset, .unset, .unset, .unset, .unset, .unset, .unset, .unset, .unset, .unset, .unset, .unset, .unset, .unset, .unset, .unset, .unset, .unset, .unset, .unset, .unset, .unset]) rfl ?_
    refine XS.lload X737.here hx rfl (hb hby at_7) rfl ?_
    refine XS.bipush X737.here hx rfl (hb hby at_9) ?_
    show Steps p.tables e below (T737.setTop (mkF m 11 #[vI p1, vI p2, vI p3, vJ q4, .second, vJ q5, .second, vI p6, vI ua, .unset, .unset, .unset, .unset, .unset, .unset, .unset, .unset, .unset, .unset, .unset, .unset, .unset, .unset, .unset, .unset, .unset, .unset, .unset, .unset, .unset, .unset, .unset, .unset] [(.int (12 : Int32)), (.long q5)])) _
    refine XS.lushr X737.here hx rfl (hb hby at_11) rfl ?_
    exact kt
  clear R736 st737
  obtain ⟨_, _, ⟨T739, L739, k739, n739⟩, -, X739, ⟨Lc739, hQ739, l739, y739, z739⟩, st739⟩ := Jvm.LawKit.callS X737 hx (y := (⟨"com/example/inexact_odds/inexactodds/reach/DenseLuSolvePinLaw", "nz12", "(J)I"⟩ : MethodName)) hown (mvT hZ (hw _ (List.mem_of_getElem? (i := 0) rfl))) (mvT hZ (hw _ (List.mem_of_getElem? (i := 1) rfl))) (mvT hZ (hw _ (List.mem_of_getElem? (i := 2) rfl))) (mvT hZ (hw _ (List.mem_of_getElem? (i := 3) rfl))) (by decide) (backOf (W := 0) (rm_nz l Z a0 hw [] ((q5.toUInt64 >>> ((12 : Int32) &&& 0x3f).toInt64.toUInt64).toInt64) h0 n0 Z0) hZ (hw _ (List.mem_of_getElem? (i := 3) rfl)) (hw _ (List.mem_of_getElem? (i := 2) rfl)) (by decide) (by decide)) (g := (mkF m 12 #[vI p1, vI p2, vI p3, vJ q4, .second, vJ q5, .second, vI p6, vI ua, .unset, .unset, .unset, .unset, .unset, .unset, .unset, .unset, .unset, .unset, .unset, .unset, .unset, .unset, .unset, .unset, .unset, .unset, .unset, .unset, .unset, .unset, .unset, .unset] [(.long ((q5.toUInt64 >>> ((12 : Int32) &&& 0x3f).toInt64.toUInt64).toInt64))])) rfl (by rw [hml]; rfl) (argsL := [(.long ((q5.toUInt64 >>> ((12 : Int32) &&& 0x3f).toInt64.toUInt64).toInt64))]) (rest := []) (lenOf pd_0 rfl) rfl (by show 2 * 0 + _ ≤ _; exact Nat.le_of_eq rfl) (hb hby at_12) (fun _ _ => ⟨rfl, hh737, (by decide : 0 + 0 ≤ _), (by decide : 0 + 0 ≤ _)⟩)
  dsimp only [Pt.U, Pt.locs, Pt.cells, Pt.slots] at X739 l739 y739 z739 st739 hQ739
  rw [l739, y739, z739] at X739
  obtain ⟨ub, rfl, N739q, hh739, ne_ub, bd_ub⟩ := hQ739
  have N739 := Fr.app N737 N739q
  have b_ub := own_toB bd_ub
  have R740 : ∀ tg, Steps p.tables e below (T739.setTop (mkF m 22 #[vI p1, vI p2, vI p3, vJ q4, .second, vJ q5, .second, vI p6, vI ua, vI ub, .unset, .unset, .unset, .unset, .unset, .unset, .unset, .unset, .unset, .unset, .unset, .unset, .unset, .unset, .unset, .unset, .unset, .unset, .unset, .unset, .unset, .unset, .unset] [(.long ((q5.toUInt64 >>> ((24 : Int32) &&& 0x3f).toInt64.toUInt64).toInt64))])) tg → Steps p.tables e below (s₁.setTop (mkF m 0 #[vI p1, vI p2, vI p3, vJ q4, .second, vJ q5, .second, vI p6, .unset, .unset, .unset, .unset, .unset, .unset, .unset, .unset, .unset, .unset, .unset, .unset, .unset, .unset, .unset, .unset, .unset, .unset, .unset, .unset, .unset, .unset, .unset, .unset, .unset] [])) tg := by
    intro tg kt
    refine R738 _ ?_
    refine st739 _ ?_
    show Steps p.tables e below (T739.setTop (mkF m 15 #[vI p1, vI p2, vI p3, vJ q4, .second, vJ q5, .second, vI p6, vI ua, .unset, .unset, .unset, .unset, .unset, .unset, .unset, .unset, .unset, .unset, .unset, .unset, .unset, .unset, .unset, .unset, .unset, .unset, .unset, .unset, .unset, .unset, .unset, .unset] [(.int ub)])) _
    refine XS.istore X739.here hx rfl (hb hby at_15) rfl (l' := #[vI p1, vI p2, vI p3, vJ q4, .second, vJ q5, .second, vI p6, vI ua, vI ub, .unset, .unset, .unset, .unset, .unset, .unset, .unset, .unset, .unset, .unset, .unset, .unset, .unset, .unset, .unset, .unset, .unset, .unset, .unset, .unset, .unset, .unset, .unset]) rfl ?_
    refine XS.lload X739.here hx rfl (hb hby at_17) rfl ?_
    refine XS.bipush X739.here hx rfl (hb hby at_19) ?_
    show Steps p.tables e below (T739.setTop (mkF m 21 #[vI p1, vI p2, vI p3, vJ q4, .second, vJ q5, .second, vI p6, vI ua, vI ub, .unset, .unset, .unset, .unset, .unset, .unset, .unset, .unset, .unset, .unset, .unset, .unset, .unset, .unset, .unset, .unset, .unset, .unset, .unset, .unset, .unset, .unset, .unset] [(.int (24 : Int32)), (.long q5)])) _
    refine XS.lushr X739.here hx rfl (hb hby at_21) rfl ?_
    exact kt
  clear R738 st739
  obtain ⟨_, _, ⟨T741, L741, k741, n741⟩, -, X741, ⟨Lc741, hQ741, l741, y741, z741⟩, st741⟩ := Jvm.LawKit.callS X739 hx (y := (⟨"com/example/inexact_odds/inexactodds/reach/DenseLuSolvePinLaw", "nz12", "(J)I"⟩ : MethodName)) hown (mvT hZ (hw _ (List.mem_of_getElem? (i := 0) rfl))) (mvT hZ (hw _ (List.mem_of_getElem? (i := 1) rfl))) (mvT hZ (hw _ (List.mem_of_getElem? (i := 2) rfl))) (mvT hZ (hw _ (List.mem_of_getElem? (i := 3) rfl))) (by decide) (backOf (W := 0) (rm_nz l Z a0 hw [] ((q5.toUInt64 >>> ((24 : Int32) &&& 0x3f).toInt64.toUInt64).toInt64) h0 n0 Z0) hZ (hw _ (List.mem_of_getElem? (i := 3) rfl)) (hw _ (List.mem_of_getElem? (i := 2) rfl)) (by decide) (by decide)) (g := (mkF m 22 #[vI p1, vI p2, vI p3, vJ q4, .second, vJ q5, .second, vI p6, vI ua, vI ub, .unset, .unset, .unset, .unset, .unset, .unset, .unset, .unset, .unset, .unset, .unset, .unset, .unset, .unset, .unset, .unset, .unset, .unset, .unset, .unset, .unset, .unset, .unset] [(.long ((q5.toUInt64 >>> ((24 : Int32) &&& 0x3f).toInt64.toUInt64).toInt64))])) rfl (by rw [hml]; rfl) (argsL := [(.long ((q5.toUInt64 >>> ((24 : Int32) &&& 0x3f).toInt64.toUInt64).toInt64))]) (rest := []) (lenOf pd_0 rfl) rfl (by show 2 * 0 + _ ≤ _; exact Nat.le_of_eq rfl) (hb hby at_22) (fun _ _ => ⟨rfl, hh739, (by decide : 0 + 0 ≤ _), (by decide : 0 + 0 ≤ _)⟩)
  dsimp only [Pt.U, Pt.locs, Pt.cells, Pt.slots] at X741 l741 y741 z741 st741 hQ741
  rw [l741, y741, z741] at X741
  obtain ⟨uc, rfl, N741q, hh741, ne_uc, bd_uc⟩ := hQ741
  have N741 := Fr.app N739 N741q
  have b_uc := own_toB bd_uc
  have R742 : ∀ tg, Steps p.tables e below (T741.setTop (mkF m 28 #[vI p1, vI p2, vI p3, vJ q4, .second, vJ q5, .second, vI p6, vI ua, vI ub, vI uc, .unset, .unset, .unset, .unset, .unset, .unset, .unset, .unset, .unset, .unset, .unset, .unset, .unset, .unset, .unset, .unset, .unset, .unset, .unset, .unset, .unset, .unset] [(.long q4)])) tg → Steps p.tables e below (s₁.setTop (mkF m 0 #[vI p1, vI p2, vI p3, vJ q4, .second, vJ q5, .second, vI p6, .unset, .unset, .unset, .unset, .unset, .unset, .unset, .unset, .unset, .unset, .unset, .unset, .unset, .unset, .unset, .unset, .unset, .unset, .unset, .unset, .unset, .unset, .unset, .unset, .unset] [])) tg := by
    intro tg kt
    refine R740 _ ?_
    refine st741 _ ?_
    show Steps p.tables e below (T741.setTop (mkF m 25 #[vI p1, vI p2, vI p3, vJ q4, .second, vJ q5, .second, vI p6, vI ua, vI ub, .unset, .unset, .unset, .unset, .unset, .unset, .unset, .unset, .unset, .unset, .unset, .unset, .unset, .unset, .unset, .unset, .unset, .unset, .unset, .unset, .unset, .unset, .unset] [(.int uc)])) _
    refine XS.istore X741.here hx rfl (hb hby at_25) rfl (l' := #[vI p1, vI p2, vI p3, vJ q4, .second, vJ q5, .second, vI p6, vI ua, vI ub, vI uc, .unset, .unset, .unset, .unset, .unset, .unset, .unset, .unset, .unset, .unset, .unset, .unset, .unset, .unset, .unset, .unset, .unset, .unset, .unset, .unset, .unset, .unset]) rfl ?_
    refine XS.lloadN X741.here hx rfl (hb hby at_27) rfl ?_
    exact kt
  clear R740 st741
  obtain ⟨_, _, ⟨T743, L743, k743, n743⟩, -, X743, ⟨Lc743, hQ743, l743, y743, z743⟩, st743⟩ := Jvm.LawKit.callS X741 hx (y := (⟨"com/example/inexact_odds/inexactodds/reach/DenseLuSolvePinLaw", "s12", "(J)I"⟩ : MethodName)) hown (mvT hZ (hw _ (List.mem_of_getElem? (i := 4) rfl))) (mvT hZ (hw _ (List.mem_of_getElem? (i := 5) rfl))) (mvT hZ (hw _ (List.mem_of_getElem? (i := 2) rfl))) (mvT hZ (hw _ (List.mem_of_getElem? (i := 6) rfl))) (by decide) (backOf (W := 0) (rm_s12 l Z a0 hw [] q4 h0 n0 Z0) hZ (hw _ (List.mem_of_getElem? (i := 6) rfl)) (hw _ (List.mem_of_getElem? (i := 2) rfl)) (by decide) (by decide)) (g := (mkF m 28 #[vI p1, vI p2, vI p3, vJ q4, .second, vJ q5, .second, vI p6, vI ua, vI ub, vI uc, .unset, .unset, .unset, .unset, .unset, .unset, .unset, .unset, .unset, .unset, .unset, .unset, .unset, .unset, .unset, .unset, .unset, .unset, .unset, .unset, .unset, .unset] [(.long q4)])) rfl (by rw [hml]; rfl) (argsL := [(.long q4)]) (rest := []) (lenOf pd_0 rfl) rfl (by show 2 * 0 + _ ≤ _; exact Nat.le_of_eq rfl) (hb hby at_28) (fun _ _ => ⟨rfl, hh741, (by decide : 0 + 0 ≤ _), (by decide : 0 + 0 ≤ _)⟩)
  dsimp only [Pt.U, Pt.locs, Pt.cells, Pt.slots] at X743 l743 y743 z743 st743 hQ743
  rw [l743, y743, z743] at X743
  obtain ⟨su, rfl, N743q, hh743, bd_su⟩ := hQ743
  have N743 := Fr.app N741 N743q
  have b_su := own_toC bd_su
  have R744 : ∀ tg, Steps p.tables e below (T743.setTop (mkF m 37 #[vI p1, vI p2, vI p3, vJ q4, .second, vJ q5, .second, vI p6, vI ua, vI ub, vI uc, vI su, .unset, .unset, .unset, .unset, .unset, .unset, .unset, .unset, .unset, .unset, .unset, .unset, .unset, .unset, .unset, .unset, .unset, .unset, .unset, .unset, .unset] [(.long ((q4.toUInt64 >>> ((12 : Int32) &&& 0x3f).toInt64.toUInt64).toInt64))])) tg → Steps p.tables e below (s₁.setTop (mkF m 0 #[vI p1, vI p2, vI p3, vJ q4, .second, vJ q5, .second, vI p6, .unset, .unset, .unset, .unset, .unset, .unset, .unset, .unset, .unset, .unset, .unset, .unset, .unset, .unset, .unset, .unset, .unset, .unset, .unset, .unset, .unset, .unset, .unset, .unset, .unset] [])) tg := by
    intro tg kt
    refine R742 _ ?_
    refine st743 _ ?_
    show Steps p.tables e below (T743.setTop (mkF m 31 #[vI p1, vI p2, vI p3, vJ q4, .second, vJ q5, .second, vI p6, vI ua, vI ub, vI uc, .unset, .unset, .unset, .unset, .unset, .unset, .unset, .unset, .unset, .unset, .unset, .unset, .unset, .unset, .unset, .unset, .unset, .unset, .unset, .unset, .unset, .unset] [(.int su)])) _
    refine XS.istore X743.here hx rfl (hb hby at_31) rfl (l' := #[vI p1, vI p2, vI p3, vJ q4, .second, vJ q5, .second, vI p6, vI ua, vI ub, vI uc, vI su, .unset, .unset, .unset, .unset, .unset, .unset, .unset, .unset, .unset, .unset, .unset, .unset, .unset, .unset, .unset, .unset, .unset, .unset, .unset, .unset, .unset]) rfl ?_
    refine XS.lloadN X743.here hx rfl (hb hby at_33) rfl ?_
    refine XS.bipush X743.here hx rfl (hb hby at_34) ?_
    show Steps p.tables e below (T743.setTop (mkF m 36 #[vI p1, vI p2, vI p3, vJ q4, .second, vJ q5, .second, vI p6, vI ua, vI ub, vI uc, vI su, .unset, .unset, .unset, .unset, .unset, .unset, .unset, .unset, .unset, .unset, .unset, .unset, .unset, .unset, .unset, .unset, .unset, .unset, .unset, .unset, .unset] [(.int (12 : Int32)), (.long q4)])) _
    refine XS.lushr X743.here hx rfl (hb hby at_36) rfl ?_
    exact kt
  clear R742 st743
  obtain ⟨_, _, ⟨T745, L745, k745, n745⟩, -, X745, ⟨Lc745, hQ745, l745, y745, z745⟩, st745⟩ := Jvm.LawKit.callS X743 hx (y := (⟨"com/example/inexact_odds/inexactodds/reach/DenseLuSolvePinLaw", "s12", "(J)I"⟩ : MethodName)) hown (mvT hZ (hw _ (List.mem_of_getElem? (i := 4) rfl))) (mvT hZ (hw _ (List.mem_of_getElem? (i := 5) rfl))) (mvT hZ (hw _ (List.mem_of_getElem? (i := 2) rfl))) (mvT hZ (hw _ (List.mem_of_getElem? (i := 6) rfl))) (by decide) (backOf (W := 0) (rm_s12 l Z a0 hw [] ((q4.toUInt64 >>> ((12 : Int32) &&& 0x3f).toInt64.toUInt64).toInt64) h0 n0 Z0) hZ (hw _ (List.mem_of_getElem? (i := 6) rfl)) (hw _ (List.mem_of_getElem? (i := 2) rfl)) (by decide) (by decide)) (g := (mkF m 37 #[vI p1, vI p2, vI p3, vJ q4, .second, vJ q5, .second, vI p6, vI ua, vI ub, vI uc, vI su, .unset, .unset, .unset, .unset, .unset, .unset, .unset, .unset, .unset, .unset, .unset, .unset, .unset, .unset, .unset, .unset, .unset, .unset, .unset, .unset, .unset] [(.long ((q4.toUInt64 >>> ((12 : Int32) &&& 0x3f).toInt64.toUInt64).toInt64))])) rfl (by rw [hml]; rfl) (argsL := [(.long ((q4.toUInt64 >>> ((12 : Int32) &&& 0x3f).toInt64.toUInt64).toInt64))]) (rest := []) (lenOf pd_0 rfl) rfl (by show 2 * 0 + _ ≤ _; exact Nat.le_of_eq rfl) (hb hby at_37) (fun _ _ => ⟨rfl, hh743, (by decide : 0 + 0 ≤ _), (by decide : 0 + 0 ≤ _)⟩)
  dsimp only [Pt.U, Pt.locs, Pt.cells, Pt.slots] at X745 l745 y745 z745 st745 hQ745
  rw [l745, y745, z745] at X745
  obtain ⟨sv, rfl, N745q, hh745, bd_sv⟩ := hQ745
  have N745 := Fr.app N743 N745q
  have b_sv := own_toC bd_sv
  have R746 : ∀ tg, Steps p.tables e below (T745.setTop (mkF m 46 #[vI p1, vI p2, vI p3, vJ q4, .second, vJ q5, .second, vI p6, vI ua, vI ub, vI uc, vI su, vI sv, .unset, .unset, .unset, .unset, .unset, .unset, .unset, .unset, .unset, .unset, .unset, .unset, .unset, .unset, .unset, .unset, .unset, .unset, .unset, .unset] [(.long ((q4.toUInt64 >>> ((24 : Int32) &&& 0x3f).toInt64.toUInt64).toInt64))])) tg → Steps p.tables e below (s₁.setTop (mkF m 0 #[vI p1, vI p2, vI p3, vJ q4, .second, vJ q5, .second, vI p6, .unset, .unset, .unset, .unset, .unset, .unset, .unset, .unset, .unset, .unset, .unset, .unset, .unset, .unset, .unset, .unset, .unset, .unset, .unset, .unset, .unset, .unset, .unset, .unset, .unset] [])) tg := by
    intro tg kt
    refine R744 _ ?_
    refine st745 _ ?_
    show Steps p.tables e below (T745.setTop (mkF m 40 #[vI p1, vI p2, vI p3, vJ q4, .second, vJ q5, .second, vI p6, vI ua, vI ub, vI uc, vI su, .unset, .unset, .unset, .unset, .unset, .unset, .unset, .unset, .unset, .unset, .unset, .unset, .unset, .unset, .unset, .unset, .unset, .unset, .unset, .unset, .unset] [(.int sv)])) _
    refine XS.istore X745.here hx rfl (hb hby at_40) rfl (l' := #[vI p1, vI p2, vI p3, vJ q4, .second, vJ q5, .second, vI p6, vI ua, vI ub, vI uc, vI su, vI sv, .unset, .unset, .unset, .unset, .unset, .unset, .unset, .unset, .unset, .unset, .unset, .unset, .unset, .unset, .unset, .unset, .unset, .unset, .unset, .unset]) rfl ?_
    refine XS.lloadN X745.here hx rfl (hb hby at_42) rfl ?_
    refine XS.bipush X745.here hx rfl (hb hby at_43) ?_
    show Steps p.tables e below (T745.setTop (mkF m 45 #[vI p1, vI p2, vI p3, vJ q4, .second, vJ q5, .second, vI p6, vI ua, vI ub, vI uc, vI su, vI sv, .unset, .unset, .unset, .unset, .unset, .unset, .unset, .unset, .unset, .unset, .unset, .unset, .unset, .unset, .unset, .unset, .unset, .unset, .unset, .unset] [(.int (24 : Int32)), (.long q4)])) _
    refine XS.lushr X745.here hx rfl (hb hby at_45) rfl ?_
    exact kt
  clear R744 st745
  obtain ⟨_, _, ⟨T747, L747, k747, n747⟩, -, X747, ⟨Lc747, hQ747, l747, y747, z747⟩, st747⟩ := Jvm.LawKit.callS X745 hx (y := (⟨"com/example/inexact_odds/inexactodds/reach/DenseLuSolvePinLaw", "s12", "(J)I"⟩ : MethodName)) hown (mvT hZ (hw _ (List.mem_of_getElem? (i := 4) rfl))) (mvT hZ (hw _ (List.mem_of_getElem? (i := 5) rfl))) (mvT hZ (hw _ (List.mem_of_getElem? (i := 2) rfl))) (mvT hZ (hw _ (List.mem_of_getElem? (i := 6) rfl))) (by decide) (backOf (W := 0) (rm_s12 l Z a0 hw [] ((q4.toUInt64 >>> ((24 : Int32) &&& 0x3f).toInt64.toUInt64).toInt64) h0 n0 Z0) hZ (hw _ (List.mem_of_getElem? (i := 6) rfl)) (hw _ (List.mem_of_getElem? (i := 2) rfl)) (by decide) (by decide)) (g := (mkF m 46 #[vI p1, vI p2, vI p3, vJ q4, .second, vJ q5, .second, vI p6, vI ua, vI ub, vI uc, vI su, vI sv, .unset, .unset, .unset, .unset, .unset, .unset, .unset, .unset, .unset, .unset, .unset, .unset, .unset, .unset, .unset, .unset, .unset, .unset, .unset, .unset] [(.long ((q4.toUInt64 >>> ((24 : Int32) &&& 0x3f).toInt64.toUInt64).toInt64))])) rfl (by rw [hml]; rfl) (argsL := [(.long ((q4.toUInt64 >>> ((24 : Int32) &&& 0x3f).toInt64.toUInt64).toInt64))]) (rest := []) (lenOf pd_0 rfl) rfl (by show 2 * 0 + _ ≤ _; exact Nat.le_of_eq rfl) (hb hby at_46) (fun _ _ => ⟨rfl, hh745, (by decide : 0 + 0 ≤ _), (by decide : 0 + 0 ≤ _)⟩)
  dsimp only [Pt.U, Pt.locs, Pt.cells, Pt.slots] at X747 l747 y747 z747 st747 hQ747
  rw [l747, y747, z747] at X747
  obtain ⟨sw, rfl, N747q, hh747, bd_sw⟩ := hQ747
  have N747 := Fr.app N745 N747q
  have b_sw := own_toC bd_sw
  have R748 : ∀ tg, Steps p.tables e below (T747.setTop (mkF m 56 #[vI p1, vI p2, vI p3, vJ q4, .second, vJ q5, .second, vI p6, vI ua, vI ub, vI uc, vI su, vI sv, vI sw, .unset, .unset, .unset, .unset, .unset, .unset, .unset, .unset, .unset, .unset, .unset, .unset, .unset, .unset, .unset, .unset, .unset, .unset, .unset] [(.int ((p6.toUInt32 >>> ((8 : Int32) &&& 31).toUInt32).toInt32))])) tg → Steps p.tables e below (s₁.setTop (mkF m 0 #[vI p1, vI p2, vI p3, vJ q4, .second, vJ q5, .second, vI p6, .unset, .unset, .unset, .unset, .unset, .unset, .unset, .unset, .unset, .unset, .unset, .unset, .unset, .unset, .unset, .unset, .unset, .unset, .unset, .unset, .unset, .unset, .unset, .unset, .unset] [])) tg := by
    intro tg kt
    refine R746 _ ?_
    refine st747 _ ?_
    show Steps p.tables e below (T747.setTop (mkF m 49 #[vI p1, vI p2, vI p3, vJ q4, .second, vJ q5, .second, vI p6, vI ua, vI ub, vI uc, vI su, vI sv, .unset, .unset, .unset, .unset, .unset, .unset, .unset, .unset, .unset, .unset, .unset, .unset, .unset, .unset, .unset, .unset, .unset, .unset, .unset, .unset] [(.int sw)])) _
    refine XS.istore X747.here hx rfl (hb hby at_49) rfl (l' := #[vI p1, vI p2, vI p3, vJ q4, .second, vJ q5, .second, vI p6, vI ua, vI ub, vI uc, vI su, vI sv, vI sw, .unset, .unset, .unset, .unset, .unset, .unset, .unset, .unset, .unset, .unset, .unset, .unset, .unset, .unset, .unset, .unset, .unset, .unset, .unset]) rfl ?_
    refine XS.iload X747.here hx rfl (hb hby at_51) rfl ?_
    refine XS.bipush X747.here hx rfl (hb hby at_53) ?_
    show Steps p.tables e below (T747.setTop (mkF m 55 #[vI p1, vI p2, vI p3, vJ q4, .second, vJ q5, .second, vI p6, vI ua, vI ub, vI uc, vI su, vI sv, vI sw, .unset, .unset, .unset, .unset, .unset, .unset, .unset, .unset, .unset, .unset, .unset, .unset, .unset, .unset, .unset, .unset, .unset, .unset, .unset] [(.int (8 : Int32)), (.int p6)])) _
    refine XS.iushr X747.here hx rfl (hb hby at_55) rfl ?_
    exact kt
  clear R746 st747
  obtain ⟨_, _, ⟨T749, L749, k749, n749⟩, -, X749, ⟨Lc749, hQ749, l749, y749, z749⟩, st749⟩ := Jvm.LawKit.callS X747 hx (y := (⟨"com/example/inexact_odds/inexactodds/reach/DenseLuSolvePinLaw", "lk", "(I)I"⟩ : MethodName)) hown (mvT hZ (hw _ (List.mem_of_getElem? (i := 8) rfl))) (mvT hZ (hw _ (List.mem_of_getElem? (i := 9) rfl))) (mvT hZ (hw _ (List.mem_of_getElem? (i := 2) rfl))) (mvT hZ (hw _ (List.mem_of_getElem? (i := 10) rfl))) (by decide) (backOf (W := 0) (rm_lk l Z a0 hw [] ((p6.toUInt32 >>> ((8 : Int32) &&& 31).toUInt32).toInt32) h0 n0 Z0) hZ (hw _ (List.mem_of_getElem? (i := 10) rfl)) (hw _ (List.mem_of_getElem? (i := 2) rfl)) (by decide) (by decide)) (g := (mkF m 56 #[vI p1, vI p2, vI p3, vJ q4, .second, vJ q5, .second, vI p6, vI ua, vI ub, vI uc, vI su, vI sv, vI sw, .unset, .unset, .unset, .unset, .unset, .unset, .unset, .unset, .unset, .unset, .unset, .unset, .unset, .unset, .unset, .unset, .unset, .unset, .unset] [(.int ((p6.toUInt32 >>> ((8 : Int32) &&& 31).toUInt32).toInt32))])) rfl (by rw [hml]; rfl) (argsL := [(.int ((p6.toUInt32 >>> ((8 : Int32) &&& 31).toUInt32).toInt32))]) (rest := []) (lenOf pd_3 rfl) rfl (by show 2 * 0 + _ ≤ _; exact Nat.le_of_eq rfl) (hb hby at_56) (fun _ _ => ⟨rfl, hh747, (by decide : 0 + 0 ≤ _), (by decide : 0 + 0 ≤ _)⟩)
  dsimp only [Pt.U, Pt.locs, Pt.cells, Pt.slots] at X749 l749 y749 z749 st749 hQ749
  rw [l749, y749, z749] at X749
  obtain ⟨ku, rfl, N749q, hh749, bd_ku⟩ := hQ749
  have N749 := Fr.app N747 N749q
  have b_ku := own_toK bd_ku
  have R750 : ∀ tg, Steps p.tables e below (T749.setTop (mkF m 66 #[vI p1, vI p2, vI p3, vJ q4, .second, vJ q5, .second, vI p6, vI ua, vI ub, vI uc, vI su, vI sv, vI sw, vI ku, .unset, .unset, .unset, .unset, .unset, .unset, .unset, .unset, .unset, .unset, .unset, .unset, .unset, .unset, .unset, .unset, .unset, .unset] [(.int ((p6.toUInt32 >>> ((12 : Int32) &&& 31).toUInt32).toInt32))])) tg → Steps p.tables e below (s₁.setTop (mkF m 0 #[vI p1, vI p2, vI p3, vJ q4, .second, vJ q5, .second, vI p6, .unset, .unset, .unset, .unset, .unset, .unset, .unset, .unset, .unset, .unset, .unset, .unset, .unset, .unset, .unset, .unset, .unset, .unset, .unset, .unset, .unset, .unset, .unset, .unset, .unset] [])) tg := by
    intro tg kt
    refine R748 _ ?_
    refine st749 _ ?_
    show Steps p.tables e below (T749.setTop (mkF m 59 #[vI p1, vI p2, vI p3, vJ q4, .second, vJ q5, .second, vI p6, vI ua, vI ub, vI uc, vI su, vI sv, vI sw, .unset, .unset, .unset, .unset, .unset, .unset, .unset, .unset, .unset, .unset, .unset, .unset, .unset, .unset, .unset, .unset, .unset, .unset, .unset] [(.int ku)])) _
    refine XS.istore X749.here hx rfl (hb hby at_59) rfl (l' := #[vI p1, vI p2, vI p3, vJ q4, .second, vJ q5, .second, vI p6, vI ua, vI ub, vI uc, vI su, vI sv, vI sw, vI ku, .unset, .unset, .unset, .unset, .unset, .unset, .unset, .unset, .unset, .unset, .unset, .unset, .unset, .unset, .unset, .unset, .unset, .unset]) rfl ?_
    refine XS.iload X749.here hx rfl (hb hby at_61) rfl ?_
    refine XS.bipush X749.here hx rfl (hb hby at_63) ?_
    show Steps p.tables e below (T749.setTop (mkF m 65 #[vI p1, vI p2, vI p3, vJ q4, .second, vJ q5, .second, vI p6, vI ua, vI ub, vI uc, vI su, vI sv, vI sw, vI ku, .unset, .unset, .unset, .unset, .unset, .unset, .unset, .unset, .unset, .unset, .unset, .unset, .unset, .unset, .unset, .unset, .unset, .unset] [(.int (12 : Int32)), (.int p6)])) _
    refine XS.iushr X749.here hx rfl (hb hby at_65) rfl ?_
    exact kt
  clear R748 st749
  obtain ⟨_, _, ⟨T751, L751, k751, n751⟩, -, X751, ⟨Lc751, hQ751, l751, y751, z751⟩, st751⟩ := Jvm.LawKit.callS X749 hx (y := (⟨"com/example/inexact_odds/inexactodds/reach/DenseLuSolvePinLaw", "lk", "(I)I"⟩ : MethodName)) hown (mvT hZ (hw _ (List.mem_of_getElem? (i := 8) rfl))) (mvT hZ (hw _ (List.mem_of_getElem? (i := 9) rfl))) (mvT hZ (hw _ (List.mem_of_getElem? (i := 2) rfl))) (mvT hZ (hw _ (List.mem_of_getElem? (i := 10) rfl))) (by decide) (backOf (W := 0) (rm_lk l Z a0 hw [] ((p6.toUInt32 >>> ((12 : Int32) &&& 31).toUInt32).toInt32) h0 n0 Z0) hZ (hw _ (List.mem_of_getElem? (i := 10) rfl)) (hw _ (List.mem_of_getElem? (i := 2) rfl)) (by decide) (by decide)) (g := (mkF m 66 #[vI p1, vI p2, vI p3, vJ q4, .second, vJ q5, .second, vI p6, vI ua, vI ub, vI uc, vI su, vI sv, vI sw, vI ku, .unset, .unset, .unset, .unset, .unset, .unset, .unset, .unset, .unset, .unset, .unset, .unset, .unset, .unset, .unset, .unset, .unset, .unset] [(.int ((p6.toUInt32 >>> ((12 : Int32) &&& 31).toUInt32).toInt32))])) rfl (by rw [hml]; rfl) (argsL := [(.int ((p6.toUInt32 >>> ((12 : Int32) &&& 31).toUInt32).toInt32))]) (rest := []) (lenOf pd_3 rfl) rfl (by show 2 * 0 + _ ≤ _; exact Nat.le_of_eq rfl) (hb hby at_66) (fun _ _ => ⟨rfl, hh749, (by decide : 0 + 0 ≤ _), (by decide : 0 + 0 ≤ _)⟩)
  dsimp only [Pt.U, Pt.locs, Pt.cells, Pt.slots] at X751 l751 y751 z751 st751 hQ751
  rw [l751, y751, z751] at X751
  obtain ⟨kv, rfl, N751q, hh751, bd_kv⟩ := hQ751
  have N751 := Fr.app N749 N751q
  have b_kv := own_toK bd_kv
  have R752 : ∀ tg, Steps p.tables e below (T751.setTop (mkF m 76 #[vI p1, vI p2, vI p3, vJ q4, .second, vJ q5, .second, vI p6, vI ua, vI ub, vI uc, vI su, vI sv, vI sw, vI ku, vI kv, .unset, .unset, .unset, .unset, .unset, .unset, .unset, .unset, .unset, .unset, .unset, .unset, .unset, .unset, .unset, .unset, .unset] [(.int ((p6.toUInt32 >>> ((16 : Int32) &&& 31).toUInt32).toInt32))])) tg → Steps p.tables e below (s₁.setTop (mkF m 0 #[vI p1, vI p2, vI p3, vJ q4, .second, vJ q5, .second, vI p6, .unset, .unset, .unset, .unset, .unset, .unset, .unset, .unset, .unset, .unset, .unset, .unset, .unset, .unset, .unset, .unset, .unset, .unset, .unset, .unset, .unset, .unset, .unset, .unset, .unset] [])) tg := by
    intro tg kt
    refine R750 _ ?_
    refine st751 _ ?_
    show Steps p.tables e below (T751.setTop (mkF m 69 #[vI p1, vI p2, vI p3, vJ q4, .second, vJ q5, .second, vI p6, vI ua, vI ub, vI uc, vI su, vI sv, vI sw, vI ku, .unset, .unset, .unset, .unset, .unset, .unset, .unset, .unset, .unset, .unset, .unset, .unset, .unset, .unset, .unset, .unset, .unset, .unset] [(.int kv)])) _
    refine XS.istore X751.here hx rfl (hb hby at_69) rfl (l' := #[vI p1, vI p2, vI p3, vJ q4, .second, vJ q5, .second, vI p6, vI ua, vI ub, vI uc, vI su, vI sv, vI sw, vI ku, vI kv, .unset, .unset, .unset, .unset, .unset, .unset, .unset, .unset, .unset, .unset, .unset, .unset, .unset, .unset, .unset, .unset, .unset]) rfl ?_
    refine XS.iload X751.here hx rfl (hb hby at_71) rfl ?_
    refine XS.bipush X751.here hx rfl (hb hby at_73) ?_
    show Steps p.tables e below (T751.setTop (mkF m 75 #[vI p1, vI p2, vI p3, vJ q4, .second, vJ q5, .second, vI p6, vI ua, vI ub, vI uc, vI su, vI sv, vI sw, vI ku, vI kv, .unset, .unset, .unset, .unset, .unset, .unset, .unset, .unset, .unset, .unset, .unset, .unset, .unset, .unset, .unset, .unset, .unset] [(.int (16 : Int32)), (.int p6)])) _
    refine XS.iushr X751.here hx rfl (hb hby at_75) rfl ?_
    exact kt
  clear R750 st751
  obtain ⟨_, _, ⟨T753, L753, k753, n753⟩, -, X753, ⟨Lc753, hQ753, l753, y753, z753⟩, st753⟩ := Jvm.LawKit.callS X751 hx (y := (⟨"com/example/inexact_odds/inexactodds/reach/DenseLuSolvePinLaw", "lk", "(I)I"⟩ : MethodName)) hown (mvT hZ (hw _ (List.mem_of_getElem? (i := 8) rfl))) (mvT hZ (hw _ (List.mem_of_getElem? (i := 9) rfl))) (mvT hZ (hw _ (List.mem_of_getElem? (i := 2) rfl))) (mvT hZ (hw _ (List.mem_of_getElem? (i := 10) rfl))) (by decide) (backOf (W := 0) (rm_lk l Z a0 hw [] ((p6.toUInt32 >>> ((16 : Int32) &&& 31).toUInt32).toInt32) h0 n0 Z0) hZ (hw _ (List.mem_of_getElem? (i := 10) rfl)) (hw _ (List.mem_of_getElem? (i := 2) rfl)) (by decide) (by decide)) (g := (mkF m 76 #[vI p1, vI p2, vI p3, vJ q4, .second, vJ q5, .second, vI p6, vI ua, vI ub, vI uc, vI su, vI sv, vI sw, vI ku, vI kv, .unset, .unset, .unset, .unset, .unset, .unset, .unset, .unset, .unset, .unset, .unset, .unset, .unset, .unset, .unset, .unset, .unset] [(.int ((p6.toUInt32 >>> ((16 : Int32) &&& 31).toUInt32).toInt32))])) rfl (by rw [hml]; rfl) (argsL := [(.int ((p6.toUInt32 >>> ((16 : Int32) &&& 31).toUInt32).toInt32))]) (rest := []) (lenOf pd_3 rfl) rfl (by show 2 * 0 + _ ≤ _; exact Nat.le_of_eq rfl) (hb hby at_76) (fun _ _ => ⟨rfl, hh751, (by decide : 0 + 0 ≤ _), (by decide : 0 + 0 ≤ _)⟩)
  dsimp only [Pt.U, Pt.locs, Pt.cells, Pt.slots] at X753 l753 y753 z753 st753 hQ753
  rw [l753, y753, z753] at X753
  obtain ⟨kw, rfl, N753q, hh753, bd_kw⟩ := hQ753
  have N753 := Fr.app N751 N753q
  have b_kw := own_toK bd_kw
  have R754 : ∀ tg, Steps p.tables e below (T753.setTop (mkF m 90 #[vI p1, vI p2, vI p3, vJ q4, .second, vJ q5, .second, vI p6, vI ua, vI ub, vI uc, vI su, vI sv, vI sw, vI ku, vI kv, vI kw, .unset, .unset, .unset, .unset, .unset, .unset, .unset, .unset, .unset, .unset, .unset, .unset, .unset, .unset, .unset, .unset] [(.int ((p6 &&& (255 : Int32)) - ((p6 &&& (255 : Int32)) / (6 : Int32)) * (6 : Int32)))])) tg → Steps p.tables e below (s₁.setTop (mkF m 0 #[vI p1, vI p2, vI p3, vJ q4, .second, vJ q5, .second, vI p6, .unset, .unset, .unset, .unset, .unset, .unset, .unset, .unset, .unset, .unset, .unset, .unset, .unset, .unset, .unset, .unset, .unset, .unset, .unset, .unset, .unset, .unset, .unset, .unset, .unset] [])) tg := by
    intro tg kt
    refine R752 _ ?_
    refine st753 _ ?_
    show Steps p.tables e below (T753.setTop (mkF m 79 #[vI p1, vI p2, vI p3, vJ q4, .second, vJ q5, .second, vI p6, vI ua, vI ub, vI uc, vI su, vI sv, vI sw, vI ku, vI kv, .unset, .unset, .unset, .unset, .unset, .unset, .unset, .unset, .unset, .unset, .unset, .unset, .unset, .unset, .unset, .unset, .unset] [(.int kw)])) _
    refine XS.istore X753.here hx rfl (hb hby at_79) rfl (l' := #[vI p1, vI p2, vI p3, vJ q4, .second, vJ q5, .second, vI p6, vI ua, vI ub, vI uc, vI su, vI sv, vI sw, vI ku, vI kv, vI kw, .unset, .unset, .unset, .unset, .unset, .unset, .unset, .unset, .unset, .unset, .unset, .unset, .unset, .unset, .unset, .unset]) rfl ?_
    refine XS.iload X753.here hx rfl (hb hby at_81) rfl ?_
    refine XS.sipush X753.here hx rfl (hb hby at_83) ?_
    show Steps p.tables e below (T753.setTop (mkF m 86 #[vI p1, vI p2, vI p3, vJ q4, .second, vJ q5, .second, vI p6, vI ua, vI ub, vI uc, vI su, vI sv, vI sw, vI ku, vI kv, vI kw, .unset, .unset, .unset, .unset, .unset, .unset, .unset, .unset, .unset, .unset, .unset, .unset, .unset, .unset, .unset, .unset] [(.int (255 : Int32)), (.int p6)])) _
    refine XS.iand X753.here hx rfl (hb hby at_86) rfl ?_
    refine XS.bipush X753.here hx rfl (hb hby at_87) ?_
    show Steps p.tables e below (T753.setTop (mkF m 89 #[vI p1, vI p2, vI p3, vJ q4, .second, vJ q5, .second, vI p6, vI ua, vI ub, vI uc, vI su, vI sv, vI sw, vI ku, vI kv, vI kw, .unset, .unset, .unset, .unset, .unset, .unset, .unset, .unset, .unset, .unset, .unset, .unset, .unset, .unset, .unset, .unset] [(.int (6 : Int32)), (.int (p6 &&& (255 : Int32)))])) _
    refine XS.irem X753.here hx rfl (hb hby at_89) rfl (by decide) ?_
    exact kt
  clear R752 st753
  have R755 : ∀ tg, Steps p.tables e below (T753.setTop (mkF m 90 #[vI p1, vI p2, vI p3, vJ q4, .second, vJ q5, .second, vI p6, vI ua, vI ub, vI uc, vI su, vI sv, vI sw, vI ku, vI kv, vI kw, .unset, .unset, .unset, .unset, .unset, .unset, .unset, .unset, .unset, .unset, .unset, .unset, .unset, .unset, .unset, .unset] [(.int (own_pp p6))])) tg → Steps p.tables e below (s₁.setTop (mkF m 0 #[vI p1, vI p2, vI p3, vJ q4, .second, vJ q5, .second, vI p6, .unset, .unset, .unset, .unset, .unset, .unset, .unset, .unset, .unset, .unset, .unset, .unset, .unset, .unset, .unset, .unset, .unset, .unset, .unset, .unset, .unset, .unset, .unset, .unset, .unset] [])) tg := R754
  have R756 : ∀ tg, Steps p.tables e below (T753.setTop (mkF m 96 #[vI p1, vI p2, vI p3, vJ q4, .second, vJ q5, .second, vI p6, vI ua, vI ub, vI uc, vI su, vI sv, vI sw, vI ku, vI kv, vI kw, vI (own_pp p6), .unset, .unset, .unset, .unset, .unset, .unset, .unset, .unset, .unset, .unset, .unset, .unset, .unset, .unset, .unset] [(.int ((own_pp p6) / (2 : Int32)))])) tg → Steps p.tables e below (s₁.setTop (mkF m 0 #[vI p1, vI p2, vI p3, vJ q4, .second, vJ q5, .second, vI p6, .unset, .unset, .unset, .unset, .unset, .unset, .unset, .unset, .unset, .unset, .unset, .unset, .unset, .unset, .unset, .unset, .unset, .unset, .unset, .unset, .unset, .unset, .unset, .unset, .unset] [])) tg := by
    intro tg kt
    refine R755 _ ?_
    show Steps p.tables e below (T753.setTop (mkF m 90 #[vI p1, vI p2, vI p3, vJ q4, .second, vJ q5, .second, vI p6, vI ua, vI ub, vI uc, vI su, vI sv, vI sw, vI ku, vI kv, vI kw, .unset, .unset, .unset, .unset, .unset, .unset, .unset, .unset, .unset, .unset, .unset, .unset, .unset, .unset, .unset, .unset] [(.int (own_pp p6))])) _
    refine XS.istore X753.here hx rfl (hb hby at_90) rfl (l' := #[vI p1, vI p2, vI p3, vJ q4, .second, vJ q5, .second, vI p6, vI ua, vI ub, vI uc, vI su, vI sv, vI sw, vI ku, vI kv, vI kw, vI (own_pp p6), .unset, .unset, .unset, .unset, .unset, .unset, .unset, .unset, .unset, .unset, .unset, .unset, .unset, .unset, .unset]) rfl ?_
    refine XS.iload X753.here hx rfl (hb hby at_92) rfl ?_
    refine XS.iconst X753.here hx rfl (hb hby at_94) ?_
    show Steps p.tables e below (T753.setTop (mkF m 95 #[vI p1, vI p2, vI p3, vJ q4, .second, vJ q5, .second, vI p6, vI ua, vI ub, vI uc, vI su, vI sv, vI sw, vI ku, vI kv, vI kw, vI (own_pp p6), .unset, .unset, .unset, .unset, .unset, .unset, .unset, .unset, .unset, .unset, .unset, .unset, .unset, .unset, .unset] [(.int (2 : Int32)), (.int (own_pp p6))])) _
    refine XS.idiv X753.here hx rfl (hb hby at_95) rfl (by decide) ?_
    exact kt
  clear R755
  have R757 : ∀ tg, Steps p.tables e below (T753.setTop (mkF m 96 #[vI p1, vI p2, vI p3, vJ q4, .second, vJ q5, .second, vI p6, vI ua, vI ub, vI uc, vI su, vI sv, vI sw, vI ku, vI kv, vI kw, vI (own_pp p6), .unset, .unset, .unset, .unset, .unset, .unset, .unset, .unset, .unset, .unset, .unset, .unset, .unset, .unset, .unset] [(.int (own_t0 p6))])) tg → Steps p.tables e below (s₁.setTop (mkF m 0 #[vI p1, vI p2, vI p3, vJ q4, .second, vJ q5, .second, vI p6, .unset, .unset, .unset, .unset, .unset, .unset, .unset, .unset, .unset, .unset, .unset, .unset, .unset, .unset, .unset, .unset, .unset, .unset, .unset, .unset, .unset, .unset, .unset, .unset, .unset] [])) tg := R756
  have R758 : ∀ tg, Steps p.tables e below (T753.setTop (mkF m 100 #[vI p1, vI p2, vI p3, vJ q4, .second, vJ q5, .second, vI p6, vI ua, vI ub, vI uc, vI su, vI sv, vI sw, vI ku, vI kv, vI kw, vI (own_pp p6), vI (own_t0 p6), .unset, .unset, .unset, .unset, .unset, .unset, .unset, .unset, .unset, .unset, .unset, .unset, .unset, .unset] [(.int (own_t0 p6))])) tg → Steps p.tables e below (s₁.setTop (mkF m 0 #[vI p1, vI p2, vI p3, vJ q4, .second, vJ q5, .second, vI p6, .unset, .unset, .unset, .unset, .unset, .unset, .unset, .unset, .unset, .unset, .unset, .unset, .unset, .unset, .unset, .unset, .unset, .unset, .unset, .unset, .unset, .unset, .unset, .unset, .unset] [])) tg := by
    intro tg kt
    refine R757 _ ?_
    show Steps p.tables e below (T753.setTop (mkF m 96 #[vI p1, vI p2, vI p3, vJ q4, .second, vJ q5, .second, vI p6, vI ua, vI ub, vI uc, vI su, vI sv, vI sw, vI ku, vI kv, vI kw, vI (own_pp p6), .unset, .unset, .unset, .unset, .unset, .unset, .unset, .unset, .unset, .unset, .unset, .unset, .unset, .unset, .unset] [(.int (own_t0 p6))])) _
    refine XS.istore X753.here hx rfl (hb hby at_96) rfl (l' := #[vI p1, vI p2, vI p3, vJ q4, .second, vJ q5, .second, vI p6, vI ua, vI ub, vI uc, vI su, vI sv, vI sw, vI ku, vI kv, vI kw, vI (own_pp p6), vI (own_t0 p6), .unset, .unset, .unset, .unset, .unset, .unset, .unset, .unset, .unset, .unset, .unset, .unset, .unset, .unset]) rfl ?_
    refine XS.iload X753.here hx rfl (hb hby at_98) rfl ?_
    exact kt
  clear R757
  have R759 : ∀ tg, Steps p.tables e below (T753.setTop (mkF m 108 #[vI p1, vI p2, vI p3, vJ q4, .second, vJ q5, .second, vI p6, vI ua, vI ub, vI uc, vI su, vI sv, vI sw, vI ku, vI kv, vI kw, vI (own_pp p6), vI (own_t0 p6), .unset, .unset, .unset, .unset, .unset, .unset, .unset, .unset, .unset, .unset, .unset, .unset, .unset, .unset] [(.int (own_low (own_t0 p6)))])) tg → Steps p.tables e below (s₁.setTop (mkF m 0 #[vI p1, vI p2, vI p3, vJ q4, .second, vJ q5, .second, vI p6, .unset, .unset, .unset, .unset, .unset, .unset, .unset, .unset, .unset, .unset, .unset, .unset, .unset, .unset, .unset, .unset, .unset, .unset, .unset, .unset, .unset, .unset, .unset, .unset, .unset] [])) tg := by
    intro tg kt
    refine R758 _ ?_
    by_cases hd1 : (own_t0 p6) = (0 : Int32)
    · rw [show (own_low (own_t0 p6)) = (1 : Int32) from if_pos hd1] at kt
      show Steps p.tables e below (T753.setTop (mkF m 100 #[vI p1, vI p2, vI p3, vJ q4, .second, vJ q5, .second, vI p6, vI ua, vI ub, vI uc, vI su, vI sv, vI sw, vI ku, vI kv, vI kw, vI (own_pp p6), vI (own_t0 p6), .unset, .unset, .unset, .unset, .unset, .unset, .unset, .unset, .unset, .unset, .unset, .unset, .unset, .unset] [(.int (own_t0 p6))])) _
      refine XS.ifNo X753.here hx rfl (hb hby at_100) rfl ((if0 _ _).trans (teq (hd1 : (own_t0 p6) = (0 : Int32))).2) ?_
      refine XS.iconst X753.here hx rfl (hb hby at_103) ?_
      show Steps p.tables e below (T753.setTop (mkF m 104 #[vI p1, vI p2, vI p3, vJ q4, .second, vJ q5, .second, vI p6, vI ua, vI ub, vI uc, vI su, vI sv, vI sw, vI ku, vI kv, vI kw, vI (own_pp p6), vI (own_t0 p6), .unset, .unset, .unset, .unset, .unset, .unset, .unset, .unset, .unset, .unset, .unset, .unset, .unset, .unset] [(.int (1 : Int32))])) _
      refine XS.goto X753.here hx rfl (pc0 := 104) (pc' := 108) rfl (hb hby at_104) (by decide) (by decide) ?_
      exact kt
    · rw [show (own_low (own_t0 p6)) = (0 : Int32) from if_neg hd1] at kt
      show Steps p.tables e below (T753.setTop (mkF m 100 #[vI p1, vI p2, vI p3, vJ q4, .second, vJ q5, .second, vI p6, vI ua, vI ub, vI uc, vI su, vI sv, vI sw, vI ku, vI kv, vI kw, vI (own_pp p6), vI (own_t0 p6), .unset, .unset, .unset, .unset, .unset, .unset, .unset, .unset, .unset, .unset, .unset, .unset, .unset, .unset] [(.int (own_t0 p6))])) _
      refine XS.ifYes X753.here hx rfl (pc0 := 100) (pc' := 107) rfl (hb hby at_100) rfl ((if0 _ _).trans (feq (hd1 : ¬ ((own_t0 p6) = (0 : Int32)))).2) (by decide) (by decide) ?_
      refine XS.iconst X753.here hx rfl (hb hby at_107) ?_
      exact kt
  clear R758
  have R760 : ∀ tg, Steps p.tables e below (T753.setTop (mkF m 113 #[vI p1, vI p2, vI p3, vJ q4, .second, vJ q5, .second, vI p6, vI ua, vI ub, vI uc, vI su, vI sv, vI sw, vI ku, vI kv, vI kw, vI (own_pp p6), vI (own_t0 p6), vI (own_low (own_t0 p6)), .unset, .unset, .unset, .unset, .unset, .unset, .unset, .unset, .unset, .unset, .unset, .unset, .unset] [(.int (2 : Int32)), (.int (own_t0 p6))])) tg → Steps p.tables e below (s₁.setTop (mkF m 0 #[vI p1, vI p2, vI p3, vJ q4, .second, vJ q5, .second, vI p6, .unset, .unset, .unset, .unset, .unset, .unset, .unset, .unset, .unset, .unset, .unset, .unset, .unset, .unset, .unset, .unset, .unset, .unset, .unset, .unset, .unset, .unset, .unset, .unset, .unset] [])) tg := by
    intro tg kt
    refine R759 _ ?_
    show Steps p.tables e below (T753.setTop (mkF m 108 #[vI p1, vI p2, vI p3, vJ q4, .second, vJ q5, .second, vI p6, vI ua, vI ub, vI uc, vI su, vI sv, vI sw, vI ku, vI kv, vI kw, vI (own_pp p6), vI (own_t0 p6), .unset, .unset, .unset, .unset, .unset, .unset, .unset, .unset, .unset, .unset, .unset, .unset, .unset, .unset] [(.int (own_low (own_t0 p6)))])) _
    refine XS.istore X753.here hx rfl (hb hby at_108) rfl (l' := #[vI p1, vI p2, vI p3, vJ q4, .second, vJ q5, .second, vI p6, vI ua, vI ub, vI uc, vI su, vI sv, vI sw, vI ku, vI kv, vI kw, vI (own_pp p6), vI (own_t0 p6), vI (own_low (own_t0 p6)), .unset, .unset, .unset, .unset, .unset, .unset, .unset, .unset, .unset, .unset, .unset, .unset, .unset]) rfl ?_
    refine XS.iload X753.here hx rfl (hb hby at_110) rfl ?_
    refine XS.iconst X753.here hx rfl (hb hby at_112) ?_
    exact kt
  clear R759
  have R761 : ∀ tg, Steps p.tables e below (T753.setTop (mkF m 121 #[vI p1, vI p2, vI p3, vJ q4, .second, vJ q5, .second, vI p6, vI ua, vI ub, vI uc, vI su, vI sv, vI sw, vI ku, vI kv, vI kw, vI (own_pp p6), vI (own_t0 p6), vI (own_low (own_t0 p6)), .unset, .unset, .unset, .unset, .unset, .unset, .unset, .unset, .unset, .unset, .unset, .unset, .unset] [(.int (own_hig (own_t0 p6)))])) tg → Steps p.tables e below (s₁.setTop (mkF m 0 #[vI p1, vI p2, vI p3, vJ q4, .second, vJ q5, .second, vI p6, .unset, .unset, .unset, .unset, .unset, .unset, .unset, .unset, .unset, .unset, .unset, .unset, .unset, .unset, .unset, .unset, .unset, .unset, .unset, .unset, .unset, .unset, .unset, .unset, .unset] [])) tg := by
    intro tg kt
    refine R760 _ ?_
    by_cases hd2 : (own_t0 p6) = (2 : Int32)
    · rw [show (own_hig (own_t0 p6)) = (1 : Int32) from if_pos hd2] at kt
      show Steps p.tables e below (T753.setTop (mkF m 113 #[vI p1, vI p2, vI p3, vJ q4, .second, vJ q5, .second, vI p6, vI ua, vI ub, vI uc, vI su, vI sv, vI sw, vI ku, vI kv, vI kw, vI (own_pp p6), vI (own_t0 p6), vI (own_low (own_t0 p6)), .unset, .unset, .unset, .unset, .unset, .unset, .unset, .unset, .unset, .unset, .unset, .unset, .unset] [(.int (2 : Int32)), (.int (own_t0 p6))])) _
      refine XS.icmpNo X753.here hx rfl (hb hby at_113) rfl (teq (hd2 : (own_t0 p6) = (2 : Int32))).2 ?_
      refine XS.iconst X753.here hx rfl (hb hby at_116) ?_
      show Steps p.tables e below (T753.setTop (mkF m 117 #[vI p1, vI p2, vI p3, vJ q4, .second, vJ q5, .second, vI p6, vI ua, vI ub, vI uc, vI su, vI sv, vI sw, vI ku, vI kv, vI kw, vI (own_pp p6), vI (own_t0 p6), vI (own_low (own_t0 p6)), .unset, .unset, .unset, .unset, .unset, .unset, .unset, .unset, .unset, .unset, .unset, .unset, .unset] [(.int (1 : Int32))])) _
      refine XS.goto X753.here hx rfl (pc0 := 117) (pc' := 121) rfl (hb hby at_117) (by decide) (by decide) ?_
      exact kt
    · rw [show (own_hig (own_t0 p6)) = (2 : Int32) from if_neg hd2] at kt
      show Steps p.tables e below (T753.setTop (mkF m 113 #[vI p1, vI p2, vI p3, vJ q4, .second, vJ q5, .second, vI p6, vI ua, vI ub, vI uc, vI su, vI sv, vI sw, vI ku, vI kv, vI kw, vI (own_pp p6), vI (own_t0 p6), vI (own_low (own_t0 p6)), .unset, .unset, .unset, .unset, .unset, .unset, .unset, .unset, .unset, .unset, .unset, .unset, .unset] [(.int (2 : Int32)), (.int (own_t0 p6))])) _
      refine XS.icmpYes X753.here hx rfl (pc0 := 113) (pc' := 120) rfl (hb hby at_113) rfl (feq (hd2 : ¬ ((own_t0 p6) = (2 : Int32)))).2 (by decide) (by decide) ?_
      refine XS.iconst X753.here hx rfl (hb hby at_120) ?_
      exact kt
  clear R760
  have R762 : ∀ tg, Steps p.tables e below (T753.setTop (mkF m 127 #[vI p1, vI p2, vI p3, vJ q4, .second, vJ q5, .second, vI p6, vI ua, vI ub, vI uc, vI su, vI sv, vI sw, vI ku, vI kv, vI kw, vI (own_pp p6), vI (own_t0 p6), vI (own_low (own_t0 p6)), vI (own_hig (own_t0 p6)), .unset, .unset, .unset, .unset, .unset, .unset, .unset, .unset, .unset, .unset, .unset, .unset] [(.int ((own_pp p6) &&& (1 : Int32)))])) tg → Steps p.tables e below (s₁.setTop (mkF m 0 #[vI p1, vI p2, vI p3, vJ q4, .second, vJ q5, .second, vI p6, .unset, .unset, .unset, .unset, .unset, .unset, .unset, .unset, .unset, .unset, .unset, .unset, .unset, .unset, .unset, .unset, .unset, .unset, .unset, .unset, .unset, .unset, .unset, .unset, .unset] [])) tg := by
    intro tg kt
    refine R761 _ ?_
    show Steps p.tables e below (T753.setTop (mkF m 121 #[vI p1, vI p2, vI p3, vJ q4, .second, vJ q5, .second, vI p6, vI ua, vI ub, vI uc, vI su, vI sv, vI sw, vI ku, vI kv, vI kw, vI (own_pp p6), vI (own_t0 p6), vI (own_low (own_t0 p6)), .unset, .unset, .unset, .unset, .unset, .unset, .unset, .unset, .unset, .unset, .unset, .unset, .unset] [(.int (own_hig (own_t0 p6)))])) _
    refine XS.istore X753.here hx rfl (hb hby at_121) rfl (l' := #[vI p1, vI p2, vI p3, vJ q4, .second, vJ q5, .second, vI p6, vI ua, vI ub, vI uc, vI su, vI sv, vI sw, vI ku, vI kv, vI kw, vI (own_pp p6), vI (own_t0 p6), vI (own_low (own_t0 p6)), vI (own_hig (own_t0 p6)), .unset, .unset, .unset, .unset, .unset, .unset, .unset, .unset, .unset, .unset, .unset, .unset]) rfl ?_
    refine XS.iload X753.here hx rfl (hb hby at_123) rfl ?_
    refine XS.iconst X753.here hx rfl (hb hby at_125) ?_
    show Steps p.tables e below (T753.setTop (mkF m 126 #[vI p1, vI p2, vI p3, vJ q4, .second, vJ q5, .second, vI p6, vI ua, vI ub, vI uc, vI su, vI sv, vI sw, vI ku, vI kv, vI kw, vI (own_pp p6), vI (own_t0 p6), vI (own_low (own_t0 p6)), vI (own_hig (own_t0 p6)), .unset, .unset, .unset, .unset, .unset, .unset, .unset, .unset, .unset, .unset, .unset, .unset] [(.int (1 : Int32)), (.int (own_pp p6))])) _
    refine XS.iand X753.here hx rfl (hb hby at_126) rfl ?_
    exact kt
  clear R761
  have R763 : ∀ tg, Steps p.tables e below (T753.setTop (mkF m 137 #[vI p1, vI p2, vI p3, vJ q4, .second, vJ q5, .second, vI p6, vI ua, vI ub, vI uc, vI su, vI sv, vI sw, vI ku, vI kv, vI kw, vI (own_pp p6), vI (own_t0 p6), vI (own_low (own_t0 p6)), vI (own_hig (own_t0 p6)), .unset, .unset, .unset, .unset, .unset, .unset, .unset, .unset, .unset, .unset, .unset, .unset] [(.int (own_t1 p6))])) tg → Steps p.tables e below (s₁.setTop (mkF m 0 #[vI p1, vI p2, vI p3, vJ q4, .second, vJ q5, .second, vI p6, .unset, .unset, .unset, .unset, .unset, .unset, .unset, .unset, .unset, .unset, .unset, .unset, .unset, .unset, .unset, .unset, .unset, .unset, .unset, .unset, .unset, .unset, .unset, .unset, .unset] [])) tg := by
    intro tg kt
    refine R762 _ ?_
    by_cases hd3 : ((own_pp p6) &&& (1 : Int32)) = (0 : Int32)
    · rw [show (own_t1 p6) = (own_low (own_t0 p6)) from if_pos hd3] at kt
      show Steps p.tables e below (T753.setTop (mkF m 127 #[vI p1, vI p2, vI p3, vJ q4, .second, vJ q5, .second, vI p6, vI ua, vI ub, vI uc, vI su, vI sv, vI sw, vI ku, vI kv, vI kw, vI (own_pp p6), vI (own_t0 p6), vI (own_low (own_t0 p6)), vI (own_hig (own_t0 p6)), .unset, .unset, .unset, .unset, .unset, .unset, .unset, .unset, .unset, .unset, .unset, .unset] [(.int ((own_pp p6) &&& (1 : Int32)))])) _
      refine XS.ifNo X753.here hx rfl (hb hby at_127) rfl ((if0 _ _).trans (teq (hd3 : ((own_pp p6) &&& (1 : Int32)) = (0 : Int32))).2) ?_
      refine XS.iload X753.here hx rfl (hb hby at_130) rfl ?_
      show Steps p.tables e below (T753.setTop (mkF m 132 #[vI p1, vI p2, vI p3, vJ q4, .second, vJ q5, .second, vI p6, vI ua, vI ub, vI uc, vI su, vI sv, vI sw, vI ku, vI kv, vI kw, vI (own_pp p6), vI (own_t0 p6), vI (own_low (own_t0 p6)), vI (own_hig (own_t0 p6)), .unset, .unset, .unset, .unset, .unset, .unset, .unset, .unset, .unset, .unset, .unset, .unset] [(.int (own_low (own_t0 p6)))])) _
      refine XS.goto X753.here hx rfl (pc0 := 132) (pc' := 137) rfl (hb hby at_132) (by decide) (by decide) ?_
      exact kt
    · rw [show (own_t1 p6) = (own_hig (own_t0 p6)) from if_neg hd3] at kt
      show Steps p.tables e below (T753.setTop (mkF m 127 #[vI p1, vI p2, vI p3, vJ q4, .second, vJ q5, .second, vI p6, vI ua, vI ub, vI uc, vI su, vI sv, vI sw, vI ku, vI kv, vI kw, vI (own_pp p6), vI (own_t0 p6), vI (own_low (own_t0 p6)), vI (own_hig (own_t0 p6)), .unset, .unset, .unset, .unset, .unset, .unset, .unset, .unset, .unset, .unset, .unset, .unset] [(.int ((own_pp p6) &&& (1 : Int32)))])) _
      refine XS.ifYes X753.here hx rfl (pc0 := 127) (pc' := 135) rfl (hb hby at_127) rfl ((if0 _ _).trans (feq (hd3 : ¬ (((own_pp p6) &&& (1 : Int32)) = (0 : Int32)))).2) (by decide) (by decide) ?_
      refine XS.iload X753.here hx rfl (hb hby at_135) rfl ?_
      exact kt
  clear R762
  have R764 : ∀ tg, Steps p.tables e below (T753.setTop (mkF m 146 #[vI p1, vI p2, vI p3, vJ q4, .second, vJ q5, .second, vI p6, vI ua, vI ub, vI uc, vI su, vI sv, vI sw, vI ku, vI kv, vI kw, vI (own_pp p6), vI (own_t0 p6), vI (own_low (own_t0 p6)), vI (own_hig (own_t0 p6)), vI (own_t1 p6), .unset, .unset, .unset, .unset, .unset, .unset, .unset, .unset, .unset, .unset, .unset] [(.int (((3 : Int32) - (own_t0 p6)) - (own_t1 p6)))])) tg → Steps p.tables e below (s₁.setTop (mkF m 0 #[vI p1, vI p2, vI p3, vJ q4, .second, vJ q5, .second, vI p6, .unset, .unset, .unset, .unset, .unset, .unset, .unset, .unset, .unset, .unset, .unset, .unset, .unset, .unset, .unset, .unset, .unset, .unset, .unset, .unset, .unset, .unset, .unset, .unset, .unset] [])) tg := by
    intro tg kt
    refine R763 _ ?_
    show Steps p.tables e below (T753.setTop (mkF m 137 #[vI p1, vI p2, vI p3, vJ q4, .second, vJ q5, .second, vI p6, vI ua, vI ub, vI uc, vI su, vI sv, vI sw, vI ku, vI kv, vI kw, vI (own_pp p6), vI (own_t0 p6), vI (own_low (own_t0 p6)), vI (own_hig (own_t0 p6)), .unset, .unset, .unset, .unset, .unset, .unset, .unset, .unset, .unset, .unset, .unset, .unset] [(.int (own_t1 p6))])) _
    refine XS.istore X753.here hx rfl (hb hby at_137) rfl (l' := #[vI p1, vI p2, vI p3, vJ q4, .second, vJ q5, .second, vI p6, vI ua, vI ub, vI uc, vI su, vI sv, vI sw, vI ku, vI kv, vI kw, vI (own_pp p6), vI (own_t0 p6), vI (own_low (own_t0 p6)), vI (own_hig (own_t0 p6)), vI (own_t1 p6), .unset, .unset, .unset, .unset, .unset, .unset, .unset, .unset, .unset, .unset, .unset]) rfl ?_
    refine XS.iconst X753.here hx rfl (hb hby at_139) ?_
    refine XS.iload X753.here hx rfl (hb hby at_140) rfl ?_
    show Steps p.tables e below (T753.setTop (mkF m 142 #[vI p1, vI p2, vI p3, vJ q4, .second, vJ q5, .second, vI p6, vI ua, vI ub, vI uc, vI su, vI sv, vI sw, vI ku, vI kv, vI kw, vI (own_pp p6), vI (own_t0 p6), vI (own_low (own_t0 p6)), vI (own_hig (own_t0 p6)), vI (own_t1 p6), .unset, .unset, .unset, .unset, .unset, .unset, .unset, .unset, .unset, .unset, .unset] [(.int (own_t0 p6)), (.int (3 : Int32))])) _
    refine XS.isub X753.here hx rfl (hb hby at_142) rfl ?_
    refine XS.iload X753.here hx rfl (hb hby at_143) rfl ?_
    show Steps p.tables e below (T753.setTop (mkF m 145 #[vI p1, vI p2, vI p3, vJ q4, .second, vJ q5, .second, vI p6, vI ua, vI ub, vI uc, vI su, vI sv, vI sw, vI ku, vI kv, vI kw, vI (own_pp p6), vI (own_t0 p6), vI (own_low (own_t0 p6)), vI (own_hig (own_t0 p6)), vI (own_t1 p6), .unset, .unset, .unset, .unset, .unset, .unset, .unset, .unset, .unset, .unset, .unset] [(.int (own_t1 p6)), (.int ((3 : Int32) - (own_t0 p6)))])) _
    refine XS.isub X753.here hx rfl (hb hby at_145) rfl ?_
    exact kt
  clear R763
  have R765 : ∀ tg, Steps p.tables e below (T753.setTop (mkF m 146 #[vI p1, vI p2, vI p3, vJ q4, .second, vJ q5, .second, vI p6, vI ua, vI ub, vI uc, vI su, vI sv, vI sw, vI ku, vI kv, vI kw, vI (own_pp p6), vI (own_t0 p6), vI (own_low (own_t0 p6)), vI (own_hig (own_t0 p6)), vI (own_t1 p6), .unset, .unset, .unset, .unset, .unset, .unset, .unset, .unset, .unset, .unset, .unset] [(.int (own_t2 p6))])) tg → Steps p.tables e below (s₁.setTop (mkF m 0 #[vI p1, vI p2, vI p3, vJ q4, .second, vJ q5, .second, vI p6, .unset, .unset, .unset, .unset, .unset, .unset, .unset, .unset, .unset, .unset, .unset, .unset, .unset, .unset, .unset, .unset, .unset, .unset, .unset, .unset, .unset, .unset, .unset, .unset, .unset] [])) tg := R764
  have R766 : ∀ tg, Steps p.tables e below (T753.setTop (mkF m 150 #[vI p1, vI p2, vI p3, vJ q4, .second, vJ q5, .second, vI p6, vI ua, vI ub, vI uc, vI su, vI sv, vI sw, vI ku, vI kv, vI kw, vI (own_pp p6), vI (own_t0 p6), vI (own_low (own_t0 p6)), vI (own_hig (own_t0 p6)), vI (own_t1 p6), vI (own_t2 p6), .unset, .unset, .unset, .unset, .unset, .unset, .unset, .unset, .unset, .unset] [(.int (9 : Int32))])) tg → Steps p.tables e below (s₁.setTop (mkF m 0 #[vI p1, vI p2, vI p3, vJ q4, .second, vJ q5, .second, vI p6, .unset, .unset, .unset, .unset, .unset, .unset, .unset, .unset, .unset, .unset, .unset, .unset, .unset, .unset, .unset, .unset, .unset, .unset, .unset, .unset, .unset, .unset, .unset, .unset, .unset] [])) tg := by
    intro tg kt
    refine R765 _ ?_
    show Steps p.tables e below (T753.setTop (mkF m 146 #[vI p1, vI p2, vI p3, vJ q4, .second, vJ q5, .second, vI p6, vI ua, vI ub, vI uc, vI su, vI sv, vI sw, vI ku, vI kv, vI kw, vI (own_pp p6), vI (own_t0 p6), vI (own_low (own_t0 p6)), vI (own_hig (own_t0 p6)), vI (own_t1 p6), .unset, .unset, .unset, .unset, .unset, .unset, .unset, .unset, .unset, .unset, .unset] [(.int (own_t2 p6))])) _
    refine XS.istore X753.here hx rfl (hb hby at_146) rfl (l' := #[vI p1, vI p2, vI p3, vJ q4, .second, vJ q5, .second, vI p6, vI ua, vI ub, vI uc, vI su, vI sv, vI sw, vI ku, vI kv, vI kw, vI (own_pp p6), vI (own_t0 p6), vI (own_low (own_t0 p6)), vI (own_hig (own_t0 p6)), vI (own_t1 p6), vI (own_t2 p6), .unset, .unset, .unset, .unset, .unset, .unset, .unset, .unset, .unset, .unset]) rfl ?_
    refine XS.bipush X753.here hx rfl (hb hby at_148) ?_
    exact kt
  clear R765
  obtain ⟨i0, j0, k0, hi0, hj0, hk0, hi3, hj3, hk3, hPM⟩ := own_perm p6
  obtain ⟨T767, h767, k767, X767, e767, E767, A767, st767⟩ := newP X753 hx hZ (hw _ (List.mem_of_getElem? (i := 11) rfl)) hh753 (g := (mkF m 150 #[vI p1, vI p2, vI p3, vJ q4, .second, vJ q5, .second, vI p6, vI ua, vI ub, vI uc, vI su, vI sv, vI sw, vI ku, vI kv, vI kw, vI (own_pp p6), vI (own_t0 p6), vI (own_low (own_t0 p6)), vI (own_hig (own_t0 p6)), vI (own_t1 p6), vI (own_t2 p6), .unset, .unset, .unset, .unset, .unset, .unset, .unset, .unset, .unset, .unset] [(.int (9 : Int32))])) rfl (hb hby at_150) rfl (by decide) (cap := 9) (by decide) (by decide) (by decide) (by decide)
  obtain ⟨mm, g767⟩ : ∃ z, z = h0.size := ⟨_, rfl⟩
  rw [← g767] at A767 st767
  have g_mm : n0 ≤ mm := Nat.le_trans Z0 (Nat.le_of_eq g767.symm)
  have Zs767 : n0 ≤ h767.size := Nat.le_trans Z0 E767.1
  have VMr : AV Z h767 mm .double 9 (fun _ => defaultValue .double) := AV.new A767 rfl rfl
  have VM : VD Z h767 mm 9 [0, 0, 0, 0, 0, 0, 0, 0, 0] := VD.new VMr
  have R768 : ∀ tg, Steps p.tables e below (T767.setTop (mkF m 155 #[vI p1, vI p2, vI p3, vJ q4, .second, vJ q5, .second, vI p6, vI ua, vI ub, vI uc, vI su, vI sv, vI sw, vI ku, vI kv, vI kw, vI (own_pp p6), vI (own_t0 p6), vI (own_low (own_t0 p6)), vI (own_hig (own_t0 p6)), vI (own_t1 p6), vI (own_t2 p6), vR mm, .unset, .unset, .unset, .unset, .unset, .unset, .unset, .unset, .unset] [(.int (3 : Int32))])) tg → Steps p.tables e below (s₁.setTop (mkF m 0 #[vI p1, vI p2, vI p3, vJ q4, .second, vJ q5, .second, vI p6, .unset, .unset, .unset, .unset, .unset, .unset, .unset, .unset, .unset, .unset, .unset, .unset, .unset, .unset, .unset, .unset, .unset, .unset, .unset, .unset, .unset, .unset, .unset, .unset, .unset] [])) tg := by
    intro tg kt
    refine R766 _ ?_
    refine st767 _ ?_
    show Steps p.tables e below (T767.setTop (mkF m 152 #[vI p1, vI p2, vI p3, vJ q4, .second, vJ q5, .second, vI p6, vI ua, vI ub, vI uc, vI su, vI sv, vI sw, vI ku, vI kv, vI kw, vI (own_pp p6), vI (own_t0 p6), vI (own_low (own_t0 p6)), vI (own_hig (own_t0 p6)), vI (own_t1 p6), vI (own_t2 p6), .unset, .unset, .unset, .unset, .unset, .unset, .unset, .unset, .unset, .unset] [(.ref mm)])) _
    refine XS.astore X767.here hx rfl (hb hby at_152) rfl rfl (l' := #[vI p1, vI p2, vI p3, vJ q4, .second, vJ q5, .second, vI p6, vI ua, vI ub, vI uc, vI su, vI sv, vI sw, vI ku, vI kv, vI kw, vI (own_pp p6), vI (own_t0 p6), vI (own_low (own_t0 p6)), vI (own_hig (own_t0 p6)), vI (own_t1 p6), vI (own_t2 p6), vR mm, .unset, .unset, .unset, .unset, .unset, .unset, .unset, .unset, .unset]) rfl ?_
    refine XS.iconst X767.here hx rfl (hb hby at_154) ?_
    exact kt
  clear R766 st767
  obtain ⟨T769, h769, k769, X769, e769, E769, A769, Q769, st769⟩ := newPE X767 hx hZ (hw _ (List.mem_of_getElem? (i := 11) rfl)) e767 (g := (mkF m 155 #[vI p1, vI p2, vI p3, vJ q4, .second, vJ q5, .second, vI p6, vI ua, vI ub, vI uc, vI su, vI sv, vI sw, vI ku, vI kv, vI kw, vI (own_pp p6), vI (own_t0 p6), vI (own_low (own_t0 p6)), vI (own_hig (own_t0 p6)), vI (own_t1 p6), vI (own_t2 p6), vR mm, .unset, .unset, .unset, .unset, .unset, .unset, .unset, .unset, .unset] [(.int (3 : Int32))])) rfl (hb hby at_155) rfl (by decide) (cap := 3) (by decide) (by decide) (by decide) (by decide) (ad := "[D") (by decide)
  obtain ⟨rr, g769⟩ : ∃ z, z = h767.size := ⟨_, rfl⟩
  rw [← g769] at A769 Q769 st769
  have g_rr : n0 ≤ rr := Nat.le_trans Zs767 (Nat.le_of_eq g769.symm)
  have ne_mm_rr : mm ≠ rr := Nat.ne_of_lt (Nat.lt_of_lt_of_le VM.lt (Nat.le_of_eq g769.symm))
  have VM_769 := VM.ext E769
  have Zs769 : n0 ≤ h769.size := Nat.le_trans Zs767 E769.1
  have VRr : AV Z h769 rr .double 3 (fun _ => defaultValue .double) := AV.new A769 rfl rfl
  have E_rr := Q769
  have VR : VD Z h769 rr 3 [0, 0, 0] := VD.new VRr
  have R770 : ∀ tg, Steps p.tables e below (T769.setTop (mkF m 189 #[vI p1, vI p2, vI p3, vJ q4, .second, vJ q5, .second, vI p6, vI ua, vI ub, vI uc, vI su, vI sv, vI sw, vI ku, vI kv, vI kw, vI (own_pp p6), vI (own_t0 p6), vI (own_low (own_t0 p6)), vI (own_hig (own_t0 p6)), vI (own_t1 p6), vI (own_t2 p6), vR mm, vR rr, .unset, .unset, .unset, .unset, .unset, .unset, .unset, .unset] [(.int p3), (.int p2), (.int p1), (.long ((4 : Int64) * (sv.toInt64))), (.long ((4 : Int64) * (su.toInt64))), (.long ((4 : Int64) * (ua.toInt64))), (.int (own_t0 p6)), (.ref rr), (.ref mm)])) tg → Steps p.tables e below (s₁.setTop (mkF m 0 #[vI p1, vI p2, vI p3, vJ q4, .second, vJ q5, .second, vI p6, .unset, .unset, .unset, .unset, .unset, .unset, .unset, .unset, .unset, .unset, .unset, .unset, .unset, .unset, .unset, .unset, .unset, .unset, .unset, .unset, .unset, .unset, .unset, .unset, .unset] [])) tg := by
    intro tg kt
    refine R768 _ ?_
    refine st769 _ ?_
    show Steps p.tables e below (T769.setTop (mkF m 157 #[vI p1, vI p2, vI p3, vJ q4, .second, vJ q5, .second, vI p6, vI ua, vI ub, vI uc, vI su, vI sv, vI sw, vI ku, vI kv, vI kw, vI (own_pp p6), vI (own_t0 p6), vI (own_low (own_t0 p6)), vI (own_hig (own_t0 p6)), vI (own_t1 p6), vI (own_t2 p6), vR mm, .unset, .unset, .unset, .unset, .unset, .unset, .unset, .unset, .unset] [(.ref rr)])) _
    refine XS.astore X769.here hx rfl (hb hby at_157) rfl rfl (l' := #[vI p1, vI p2, vI p3, vJ q4, .second, vJ q5, .second, vI p6, vI ua, vI ub, vI uc, vI su, vI sv, vI sw, vI ku, vI kv, vI kw, vI (own_pp p6), vI (own_t0 p6), vI (own_low (own_t0 p6)), vI (own_hig (own_t0 p6)), vI (own_t1 p6), vI (own_t2 p6), vR mm, vR rr, .unset, .unset, .unset, .unset, .unset, .unset, .unset, .unset]) rfl ?_
    refine XS.aload X769.here hx rfl (hb hby at_159) rfl rfl ?_
    refine XS.aload X769.here hx rfl (hb hby at_161) rfl rfl ?_
    show Steps p.tables e below (T769.setTop (mkF m 163 #[vI p1, vI p2, vI p3, vJ q4, .second, vJ q5, .second, vI p6, vI ua, vI ub, vI uc, vI su, vI sv, vI sw, vI ku, vI kv, vI kw, vI (own_pp p6), vI (own_t0 p6), vI (own_low (own_t0 p6)), vI (own_hig (own_t0 p6)), vI (own_t1 p6), vI (own_t2 p6), vR mm, vR rr, .unset, .unset, .unset, .unset, .unset, .unset, .unset, .unset] [(.ref rr), (.ref mm)])) _
    refine XS.iload X769.here hx rfl (hb hby at_163) rfl ?_
    show Steps p.tables e below (T769.setTop (mkF m 165 #[vI p1, vI p2, vI p3, vJ q4, .second, vJ q5, .second, vI p6, vI ua, vI ub, vI uc, vI su, vI sv, vI sw, vI ku, vI kv, vI kw, vI (own_pp p6), vI (own_t0 p6), vI (own_low (own_t0 p6)), vI (own_hig (own_t0 p6)), vI (own_t1 p6), vI (own_t2 p6), vR mm, vR rr, .unset, .unset, .unset, .unset, .unset, .unset, .unset, .unset] [(.int (own_t0 p6)), (.ref rr), (.ref mm)])) _
    refine X769.ldc2Long hx hown (mvT hZ (hw _ (List.mem_of_getElem? (i := 12) rfl))) (g := (mkF m 165 #[vI p1, vI p2, vI p3, vJ q4, .second, vJ q5, .second, vI p6, vI ua, vI ub, vI uc, vI su, vI sv, vI sw, vI ku, vI kv, vI kw, vI (own_pp p6), vI (own_t0 p6), vI (own_low (own_t0 p6)), vI (own_hig (own_t0 p6)), vI (own_t1 p6), vI (own_t2 p6), vR mm, vR rr, .unset, .unset, .unset, .unset, .unset, .unset, .unset, .unset] [(.int (own_t0 p6)), (.ref rr), (.ref mm)])) rfl (hb hby at_165) _ ?_
    refine XS.iload X769.here hx rfl (hb hby at_168) rfl ?_
    show Steps p.tables e below (T769.setTop (mkF m 170 #[vI p1, vI p2, vI p3, vJ q4, .second, vJ q5, .second, vI p6, vI ua, vI ub, vI uc, vI su, vI sv, vI sw, vI ku, vI kv, vI kw, vI (own_pp p6), vI (own_t0 p6), vI (own_low (own_t0 p6)), vI (own_hig (own_t0 p6)), vI (own_t1 p6), vI (own_t2 p6), vR mm, vR rr, .unset, .unset, .unset, .unset, .unset, .unset, .unset, .unset] [(.int ua), (.long (4 : Int64)), (.int (own_t0 p6)), (.ref rr), (.ref mm)])) _
    refine XS.i2l X769.here hx rfl (hb hby at_170) rfl ?_
    show Steps p.tables e below (T769.setTop (mkF m 171 #[vI p1, vI p2, vI p3, vJ q4, .second, vJ q5, .second, vI p6, vI ua, vI ub, vI uc, vI su, vI sv, vI sw, vI ku, vI kv, vI kw, vI (own_pp p6), vI (own_t0 p6), vI (own_low (own_t0 p6)), vI (own_hig (own_t0 p6)), vI (own_t1 p6), vI (own_t2 p6), vR mm, vR rr, .unset, .unset, .unset, .unset, .unset, .unset, .unset, .unset] [(.long (ua.toInt64)), (.long (4 : Int64)), (.int (own_t0 p6)), (.ref rr), (.ref mm)])) _
    refine XS.lmul X769.here hx rfl (hb hby at_171) rfl ?_
    show Steps p.tables e below (T769.setTop (mkF m 172 #[vI p1, vI p2, vI p3, vJ q4, .second, vJ q5, .second, vI p6, vI ua, vI ub, vI uc, vI su, vI sv, vI sw, vI ku, vI kv, vI kw, vI (own_pp p6), vI (own_t0 p6), vI (own_low (own_t0 p6)), vI (own_hig (own_t0 p6)), vI (own_t1 p6), vI (own_t2 p6), vR mm, vR rr, .unset, .unset, .unset, .unset, .unset, .unset, .unset, .unset] [(.long ((4 : Int64) * (ua.toInt64))), (.int (own_t0 p6)), (.ref rr), (.ref mm)])) _
    refine X769.ldc2Long hx hown (mvT hZ (hw _ (List.mem_of_getElem? (i := 12) rfl))) (g := (mkF m 172 #[vI p1, vI p2, vI p3, vJ q4, .second, vJ q5, .second, vI p6, vI ua, vI ub, vI uc, vI su, vI sv, vI sw, vI ku, vI kv, vI kw, vI (own_pp p6), vI (own_t0 p6), vI (own_low (own_t0 p6)), vI (own_hig (own_t0 p6)), vI (own_t1 p6), vI (own_t2 p6), vR mm, vR rr, .unset, .unset, .unset, .unset, .unset, .unset, .unset, .unset] [(.long ((4 : Int64) * (ua.toInt64))), (.int (own_t0 p6)), (.ref rr), (.ref mm)])) rfl (hb hby at_172) _ ?_
    refine XS.iload X769.here hx rfl (hb hby at_175) rfl ?_
    show Steps p.tables e below (T769.setTop (mkF m 177 #[vI p1, vI p2, vI p3, vJ q4, .second, vJ q5, .second, vI p6, vI ua, vI ub, vI uc, vI su, vI sv, vI sw, vI ku, vI kv, vI kw, vI (own_pp p6), vI (own_t0 p6), vI (own_low (own_t0 p6)), vI (own_hig (own_t0 p6)), vI (own_t1 p6), vI (own_t2 p6), vR mm, vR rr, .unset, .unset, .unset, .unset, .unset, .unset, .unset, .unset] [(.int su), (.long (4 : Int64)), (.long ((4 : Int64) * (ua.toInt64))), (.int (own_t0 p6)), (.ref rr), (.ref mm)])) _
    refine XS.i2l X769.here hx rfl (hb hby at_177) rfl ?_
    show Steps p.tables e below (T769.setTop (mkF m 178 #[vI p1, vI p2, vI p3, vJ q4, .second, vJ q5, .second, vI p6, vI ua, vI ub, vI uc, vI su, vI sv, vI sw, vI ku, vI kv, vI kw, vI (own_pp p6), vI (own_t0 p6), vI (own_low (own_t0 p6)), vI (own_hig (own_t0 p6)), vI (own_t1 p6), vI (own_t2 p6), vR mm, vR rr, .unset, .unset, .unset, .unset, .unset, .unset, .unset, .unset] [(.long (su.toInt64)), (.long (4 : Int64)), (.long ((4 : Int64) * (ua.toInt64))), (.int (own_t0 p6)), (.ref rr), (.ref mm)])) _
    refine XS.lmul X769.here hx rfl (hb hby at_178) rfl ?_
    show Steps p.tables e below (T769.setTop (mkF m 179 #[vI p1, vI p2, vI p3, vJ q4, .second, vJ q5, .second, vI p6, vI ua, vI ub, vI uc, vI su, vI sv, vI sw, vI ku, vI kv, vI kw, vI (own_pp p6), vI (own_t0 p6), vI (own_low (own_t0 p6)), vI (own_hig (own_t0 p6)), vI (own_t1 p6), vI (own_t2 p6), vR mm, vR rr, .unset, .unset, .unset, .unset, .unset, .unset, .unset, .unset] [(.long ((4 : Int64) * (su.toInt64))), (.long ((4 : Int64) * (ua.toInt64))), (.int (own_t0 p6)), (.ref rr), (.ref mm)])) _
    refine X769.ldc2Long hx hown (mvT hZ (hw _ (List.mem_of_getElem? (i := 12) rfl))) (g := (mkF m 179 #[vI p1, vI p2, vI p3, vJ q4, .second, vJ q5, .second, vI p6, vI ua, vI ub, vI uc, vI su, vI sv, vI sw, vI ku, vI kv, vI kw, vI (own_pp p6), vI (own_t0 p6), vI (own_low (own_t0 p6)), vI (own_hig (own_t0 p6)), vI (own_t1 p6), vI (own_t2 p6), vR mm, vR rr, .unset, .unset, .unset, .unset, .unset, .unset, .unset, .unset] [(.long ((4 : Int64) * (su.toInt64))), (.long ((4 : Int64) * (ua.toInt64))), (.int (own_t0 p6)), (.ref rr), (.ref mm)])) rfl (hb hby at_179) _ ?_
    refine XS.iload X769.here hx rfl (hb hby at_182) rfl ?_
    show Steps p.tables e below (T769.setTop (mkF m 184 #[vI p1, vI p2, vI p3, vJ q4, .second, vJ q5, .second, vI p6, vI ua, vI ub, vI uc, vI su, vI sv, vI sw, vI ku, vI kv, vI kw, vI (own_pp p6), vI (own_t0 p6), vI (own_low (own_t0 p6)), vI (own_hig (own_t0 p6)), vI (own_t1 p6), vI (own_t2 p6), vR mm, vR rr, .unset, .unset, .unset, .unset, .unset, .unset, .unset, .unset] [(.int sv), (.long (4 : Int64)), (.long ((4 : Int64) * (su.toInt64))), (.long ((4 : Int64) * (ua.toInt64))), (.int (own_t0 p6)), (.ref rr), (.ref mm)])) _
    refine XS.i2l X769.here hx rfl (hb hby at_184) rfl ?_
    show Steps p.tables e below (T769.setTop (mkF m 185 #[vI p1, vI p2, vI p3, vJ q4, .second, vJ q5, .second, vI p6, vI ua, vI ub, vI uc, vI su, vI sv, vI sw, vI ku, vI kv, vI kw, vI (own_pp p6), vI (own_t0 p6), vI (own_low (own_t0 p6)), vI (own_hig (own_t0 p6)), vI (own_t1 p6), vI (own_t2 p6), vR mm, vR rr, .unset, .unset, .unset, .unset, .unset, .unset, .unset, .unset] [(.long (sv.toInt64)), (.long (4 : Int64)), (.long ((4 : Int64) * (su.toInt64))), (.long ((4 : Int64) * (ua.toInt64))), (.int (own_t0 p6)), (.ref rr), (.ref mm)])) _
    refine XS.lmul X769.here hx rfl (hb hby at_185) rfl ?_
    refine XS.iloadN X769.here hx rfl (hb hby at_186) rfl ?_
    refine XS.iloadN X769.here hx rfl (hb hby at_187) rfl ?_
    show Steps p.tables e below (T769.setTop (mkF m 188 #[vI p1, vI p2, vI p3, vJ q4, .second, vJ q5, .second, vI p6, vI ua, vI ub, vI uc, vI su, vI sv, vI sw, vI ku, vI kv, vI kw, vI (own_pp p6), vI (own_t0 p6), vI (own_low (own_t0 p6)), vI (own_hig (own_t0 p6)), vI (own_t1 p6), vI (own_t2 p6), vR mm, vR rr, .unset, .unset, .unset, .unset, .unset, .unset, .unset, .unset] [(.int p2), (.int p1), (.long ((4 : Int64) * (sv.toInt64))), (.long ((4 : Int64) * (su.toInt64))), (.long ((4 : Int64) * (ua.toInt64))), (.int (own_t0 p6)), (.ref rr), (.ref mm)])) _
    refine XS.iloadN X769.here hx rfl (hb hby at_188) rfl ?_
    exact kt
  clear R768 st769
  have a0e : ((4 : Int64) * (ua.toInt64)).toInt = 4 * ua.toInt ∧ own_B 32768 ((4 : Int64) * (ua.toInt64)).toInt := own_bb (own_4l b_ua (by decide)) (by decide)
  have a1e : ((4 : Int64) * (su.toInt64)).toInt = 4 * su.toInt ∧ own_B 32768 ((4 : Int64) * (su.toInt64)).toInt := own_bb (own_4l b_su (by decide)) (by decide)
  have a2e : ((4 : Int64) * (sv.toInt64)).toInt = 4 * sv.toInt ∧ own_B 32768 ((4 : Int64) * (sv.toInt64)).toInt := own_bb (own_4l b_sv (by decide)) (by decide)
  have ase := own_lsum p1 p2 p3 a0e a1e a2e
  obtain ⟨_, _, ⟨T771, L771, k771, n771⟩, -, X771, ⟨Lc771, hQ771, l771, y771, z771⟩, st771⟩ := Jvm.LawKit.callS X769 hx (y := (⟨"com/example/inexact_odds/inexactodds/reach/DenseLuSolvePinLaw", "place", "([D[DIJJJIII)V"⟩ : MethodName)) hown (mvT hZ (hw _ (List.mem_of_getElem? (i := 13) rfl))) (mvT hZ (hw _ (List.mem_of_getElem? (i := 14) rfl))) (mvT hZ (hw _ (List.mem_of_getElem? (i := 2) rfl))) (mvT hZ (hw _ (List.mem_of_getElem? (i := 15) rfl))) (by decide) (backOf (W := 0) (rm_pl l Z a0 hw [] mm rr (own_t0 p6) ((4 : Int64) * (ua.toInt64)) ((4 : Int64) * (su.toInt64)) ((4 : Int64) * (sv.toInt64)) p1 p2 p3 [0, 0, 0, 0, 0, 0, 0, 0, 0] [0, 0, 0] i0 h769 n0 Zs769 VM_769 VR g_mm g_rr ne_mm_rr hi0 hi3 (own_b53 a0e) (own_b53 a1e) (own_b53 a2e) ase.2) hZ (hw _ (List.mem_of_getElem? (i := 15) rfl)) (hw _ (List.mem_of_getElem? (i := 2) rfl)) (by decide) (by decide)) (g := (mkF m 189 #[vI p1, vI p2, vI p3, vJ q4, .second, vJ q5, .second, vI p6, vI ua, vI ub, vI uc, vI su, vI sv, vI sw, vI ku, vI kv, vI kw, vI (own_pp p6), vI (own_t0 p6), vI (own_low (own_t0 p6)), vI (own_hig (own_t0 p6)), vI (own_t1 p6), vI (own_t2 p6), vR mm, vR rr, .unset, .unset, .unset, .unset, .unset, .unset, .unset, .unset] [(.int p3), (.int p2), (.int p1), (.long ((4 : Int64) * (sv.toInt64))), (.long ((4 : Int64) * (su.toInt64))), (.long ((4 : Int64) * (ua.toInt64))), (.int (own_t0 p6)), (.ref rr), (.ref mm)])) rfl (by rw [hml]; rfl) (argsL := [(.ref mm), (.ref rr), (.int (own_t0 p6)), (.long ((4 : Int64) * (ua.toInt64))), (.long ((4 : Int64) * (su.toInt64))), (.long ((4 : Int64) * (sv.toInt64))), (.int p1), (.int p2), (.int p3)]) (rest := []) (lenOf pd_4 rfl) rfl (by show 2 * 0 + _ ≤ _; exact Nat.le_of_eq rfl) (hb hby at_189) (fun _ _ => ⟨rfl, e769, (by decide : 2 + 0 ≤ _), (by decide : 12 + 0 ≤ _)⟩)
  dsimp only [Pt.U, Pt.locs, Pt.cells, Pt.slots] at X771 l771 y771 z771 st771 hQ771
  rw [l771, y771, z771] at X771
  obtain ⟨rfl, N771q, K771, V771, U771⟩ := hQ771
  have N771 := Fr.app N753 N771q
  rw [a0e.1, a1e.1, a2e.1] at V771
  rw [ase.1] at U771
  have E_rr_772 := E_rr.keep K771
  have Zs772 : n0 ≤ T771.heap.size := Nat.le_trans Zs769 K771.1
  have R773 : ∀ tg, Steps p.tables e below (T771.setTop (mkF m 238 #[vI p1, vI p2, vI p3, vJ q4, .second, vJ q5, .second, vI p6, vI ua, vI ub, vI uc, vI su, vI sv, vI sw, vI ku, vI kv, vI kw, vI (own_pp p6), vI (own_t0 p6), vI (own_low (own_t0 p6)), vI (own_hig (own_t0 p6)), vI (own_t1 p6), vI (own_t2 p6), vR mm, vR rr, .unset, .unset, .unset, .unset, .unset, .unset, .unset, .unset] [(.int p3), (.int p2), (.int p1), (.long (((ku.toInt64) * (sv.toInt64)) + ((4 : Int64) * (sw.toInt64)))), (.long (((ku.toInt64) * (su.toInt64)) + ((4 : Int64) * (ub.toInt64)))), (.long ((ku.toInt64) * (ua.toInt64))), (.int (own_t1 p6)), (.ref rr), (.ref mm)])) tg → Steps p.tables e below (s₁.setTop (mkF m 0 #[vI p1, vI p2, vI p3, vJ q4, .second, vJ q5, .second, vI p6, .unset, .unset, .unset, .unset, .unset, .unset, .unset, .unset, .unset, .unset, .unset, .unset, .unset, .unset, .unset, .unset, .unset, .unset, .unset, .unset, .unset, .unset, .unset, .unset, .unset] [])) tg := by
    intro tg kt
    refine R770 _ ?_
    refine st771 _ ?_
    refine XS.aload X771.here hx rfl (hb hby at_192) rfl rfl ?_
    refine XS.aload X771.here hx rfl (hb hby at_194) rfl rfl ?_
    show Steps p.tables e below (T771.setTop (mkF m 196 #[vI p1, vI p2, vI p3, vJ q4, .second, vJ q5, .second, vI p6, vI ua, vI ub, vI uc, vI su, vI sv, vI sw, vI ku, vI kv, vI kw, vI (own_pp p6), vI (own_t0 p6), vI (own_low (own_t0 p6)), vI (own_hig (own_t0 p6)), vI (own_t1 p6), vI (own_t2 p6), vR mm, vR rr, .unset, .unset, .unset, .unset, .unset, .unset, .unset, .unset] [(.ref rr), (.ref mm)])) _
    refine XS.iload X771.here hx rfl (hb hby at_196) rfl ?_
    refine XS.iload X771.here hx rfl (hb hby at_198) rfl ?_
    show Steps p.tables e below (T771.setTop (mkF m 200 #[vI p1, vI p2, vI p3, vJ q4, .second, vJ q5, .second, vI p6, vI ua, vI ub, vI uc, vI su, vI sv, vI sw, vI ku, vI kv, vI kw, vI (own_pp p6), vI (own_t0 p6), vI (own_low (own_t0 p6)), vI (own_hig (own_t0 p6)), vI (own_t1 p6), vI (own_t2 p6), vR mm, vR rr, .unset, .unset, .unset, .unset, .unset, .unset, .unset, .unset] [(.int ku), (.int (own_t1 p6)), (.ref rr), (.ref mm)])) _
    refine XS.i2l X771.here hx rfl (hb hby at_200) rfl ?_
    refine XS.iload X771.here hx rfl (hb hby at_201) rfl ?_
    show Steps p.tables e below (T771.setTop (mkF m 203 #[vI p1, vI p2, vI p3, vJ q4, .second, vJ q5, .second, vI p6, vI ua, vI ub, vI uc, vI su, vI sv, vI sw, vI ku, vI kv, vI kw, vI (own_pp p6), vI (own_t0 p6), vI (own_low (own_t0 p6)), vI (own_hig (own_t0 p6)), vI (own_t1 p6), vI (own_t2 p6), vR mm, vR rr, .unset, .unset, .unset, .unset, .unset, .unset, .unset, .unset] [(.int ua), (.long (ku.toInt64)), (.int (own_t1 p6)), (.ref rr), (.ref mm)])) _
    refine XS.i2l X771.here hx rfl (hb hby at_203) rfl ?_
    show Steps p.tables e below (T771.setTop (mkF m 204 #[vI p1, vI p2, vI p3, vJ q4, .second, vJ q5, .second, vI p6, vI ua, vI ub, vI uc, vI su, vI sv, vI sw, vI ku, vI kv, vI kw, vI (own_pp p6), vI (own_t0 p6), vI (own_low (own_t0 p6)), vI (own_hig (own_t0 p6)), vI (own_t1 p6), vI (own_t2 p6), vR mm, vR rr, .unset, .unset, .unset, .unset, .unset, .unset, .unset, .unset] [(.long (ua.toInt64)), (.long (ku.toInt64)), (.int (own_t1 p6)), (.ref rr), (.ref mm)])) _
    refine XS.lmul X771.here hx rfl (hb hby at_204) rfl ?_
    refine XS.iload X771.here hx rfl (hb hby at_205) rfl ?_
    show Steps p.tables e below (T771.setTop (mkF m 207 #[vI p1, vI p2, vI p3, vJ q4, .second, vJ q5, .second, vI p6, vI ua, vI ub, vI uc, vI su, vI sv, vI sw, vI ku, vI kv, vI kw, vI (own_pp p6), vI (own_t0 p6), vI (own_low (own_t0 p6)), vI (own_hig (own_t0 p6)), vI (own_t1 p6), vI (own_t2 p6), vR mm, vR rr, .unset, .unset, .unset, .unset, .unset, .unset, .unset, .unset] [(.int ku), (.long ((ku.toInt64) * (ua.toInt64))), (.int (own_t1 p6)), (.ref rr), (.ref mm)])) _
    refine XS.i2l X771.here hx rfl (hb hby at_207) rfl ?_
    refine XS.iload X771.here hx rfl (hb hby at_208) rfl ?_
    show Steps p.tables e below (T771.setTop (mkF m 210 #[vI p1, vI p2, vI p3, vJ q4, .second, vJ q5, .second, vI p6, vI ua, vI ub, vI uc, vI su, vI sv, vI sw, vI ku, vI kv, vI kw, vI (own_pp p6), vI (own_t0 p6), vI (own_low (own_t0 p6)), vI (own_hig (own_t0 p6)), vI (own_t1 p6), vI (own_t2 p6), vR mm, vR rr, .unset, .unset, .unset, .unset, .unset, .unset, .unset, .unset] [(.int su), (.long (ku.toInt64)), (.long ((ku.toInt64) * (ua.toInt64))), (.int (own_t1 p6)), (.ref rr), (.ref mm)])) _
    refine XS.i2l X771.here hx rfl (hb hby at_210) rfl ?_
    show Steps p.tables e below (T771.setTop (mkF m 211 #[vI p1, vI p2, vI p3, vJ q4, .second, vJ q5, .second, vI p6, vI ua, vI ub, vI uc, vI su, vI sv, vI sw, vI ku, vI kv, vI kw, vI (own_pp p6), vI (own_t0 p6), vI (own_low (own_t0 p6)), vI (own_hig (own_t0 p6)), vI (own_t1 p6), vI (own_t2 p6), vR mm, vR rr, .unset, .unset, .unset, .unset, .unset, .unset, .unset, .unset] [(.long (su.toInt64)), (.long (ku.toInt64)), (.long ((ku.toInt64) * (ua.toInt64))), (.int (own_t1 p6)), (.ref rr), (.ref mm)])) _
    refine XS.lmul X771.here hx rfl (hb hby at_211) rfl ?_
    show Steps p.tables e below (T771.setTop (mkF m 212 #[vI p1, vI p2, vI p3, vJ q4, .second, vJ q5, .second, vI p6, vI ua, vI ub, vI uc, vI su, vI sv, vI sw, vI ku, vI kv, vI kw, vI (own_pp p6), vI (own_t0 p6), vI (own_low (own_t0 p6)), vI (own_hig (own_t0 p6)), vI (own_t1 p6), vI (own_t2 p6), vR mm, vR rr, .unset, .unset, .unset, .unset, .unset, .unset, .unset, .unset] [(.long ((ku.toInt64) * (su.toInt64))), (.long ((ku.toInt64) * (ua.toInt64))), (.int (own_t1 p6)), (.ref rr), (.ref mm)])) _
    refine X771.ldc2Long hx hown (mvT hZ (hw _ (List.mem_of_getElem? (i := 12) rfl))) (g := (mkF m 212 #[vI p1, vI p2, vI p3, vJ q4, .second, vJ q5, .second, vI p6, vI ua, vI ub, vI uc, vI su, vI sv, vI sw, vI ku, vI kv, vI kw, vI (own_pp p6), vI (own_t0 p6), vI (own_low (own_t0 p6)), vI (own_hig (own_t0 p6)), vI (own_t1 p6), vI (own_t2 p6), vR mm, vR rr, .unset, .unset, .unset, .unset, .unset, .unset, .unset, .unset] [(.long ((ku.toInt64) * (su.toInt64))), (.long ((ku.toInt64) * (ua.toInt64))), (.int (own_t1 p6)), (.ref rr), (.ref mm)])) rfl (hb hby at_212) _ ?_
    refine XS.iload X771.here hx rfl (hb hby at_215) rfl ?_
    show Steps p.tables e below (T771.setTop (mkF m 217 #[vI p1, vI p2, vI p3, vJ q4, .second, vJ q5, .second, vI p6, vI ua, vI ub, vI uc, vI su, vI sv, vI sw, vI ku, vI kv, vI kw, vI (own_pp p6), vI (own_t0 p6), vI (own_low (own_t0 p6)), vI (own_hig (own_t0 p6)), vI (own_t1 p6), vI (own_t2 p6), vR mm, vR rr, .unset, .unset, .unset, .unset, .unset, .unset, .unset, .unset] [(.int ub), (.long (4 : Int64)), (.long ((ku.toInt64) * (su.toInt64))), (.long ((ku.toInt64) * (ua.toInt64))), (.int (own_t1 p6)), (.ref rr), (.ref mm)])) _
    refine XS.i2l X771.here hx rfl (hb hby at_217) rfl ?_
    show Steps p.tables e below (T771.setTop (mkF m 218 #[vI p1, vI p2, vI p3, vJ q4, .second, vJ q5, .second, vI p6, vI ua, vI ub, vI uc, vI su, vI sv, vI sw, vI ku, vI kv, vI kw, vI (own_pp p6), vI (own_t0 p6), vI (own_low (own_t0 p6)), vI (own_hig (own_t0 p6)), vI (own_t1 p6), vI (own_t2 p6), vR mm, vR rr, .unset, .unset, .unset, .unset, .unset, .unset, .unset, .unset] [(.long (ub.toInt64)), (.long (4 : Int64)), (.long ((ku.toInt64) * (su.toInt64))), (.long ((ku.toInt64) * (ua.toInt64))), (.int (own_t1 p6)), (.ref rr), (.ref mm)])) _
    refine XS.lmul X771.here hx rfl (hb hby at_218) rfl ?_
    show Steps p.tables e below (T771.setTop (mkF m 219 #[vI p1, vI p2, vI p3, vJ q4, .second, vJ q5, .second, vI p6, vI ua, vI ub, vI uc, vI su, vI sv, vI sw, vI ku, vI kv, vI kw, vI (own_pp p6), vI (own_t0 p6), vI (own_low (own_t0 p6)), vI (own_hig (own_t0 p6)), vI (own_t1 p6), vI (own_t2 p6), vR mm, vR rr, .unset, .unset, .unset, .unset, .unset, .unset, .unset, .unset] [(.long ((4 : Int64) * (ub.toInt64))), (.long ((ku.toInt64) * (su.toInt64))), (.long ((ku.toInt64) * (ua.toInt64))), (.int (own_t1 p6)), (.ref rr), (.ref mm)])) _
    refine XS.ladd X771.here hx rfl (hb hby at_219) rfl ?_
    refine XS.iload X771.here hx rfl (hb hby at_220) rfl ?_
    show Steps p.tables e below (T771.setTop (mkF m 222 #[vI p1, vI p2, vI p3, vJ q4, .second, vJ q5, .second, vI p6, vI ua, vI ub, vI uc, vI su, vI sv, vI sw, vI ku, vI kv, vI kw, vI (own_pp p6), vI (own_t0 p6), vI (own_low (own_t0 p6)), vI (own_hig (own_t0 p6)), vI (own_t1 p6), vI (own_t2 p6), vR mm, vR rr, .unset, .unset, .unset, .unset, .unset, .unset, .unset, .unset] [(.int ku), (.long (((ku.toInt64) * (su.toInt64)) + ((4 : Int64) * (ub.toInt64)))), (.long ((ku.toInt64) * (ua.toInt64))), (.int (own_t1 p6)), (.ref rr), (.ref mm)])) _
    refine XS.i2l X771.here hx rfl (hb hby at_222) rfl ?_
    refine XS.iload X771.here hx rfl (hb hby at_223) rfl ?_
    show Steps p.tables e below (T771.setTop (mkF m 225 #[vI p1, vI p2, vI p3, vJ q4, .second, vJ q5, .second, vI p6, vI ua, vI ub, vI uc, vI su, vI sv, vI sw, vI ku, vI kv, vI kw, vI (own_pp p6), vI (own_t0 p6), vI (own_low (own_t0 p6)), vI (own_hig (own_t0 p6)), vI (own_t1 p6), vI (own_t2 p6), vR mm, vR rr, .unset, .unset, .unset, .unset, .unset, .unset, .unset, .unset] [(.int sv), (.long (ku.toInt64)), (.long (((ku.toInt64) * (su.toInt64)) + ((4 : Int64) * (ub.toInt64)))), (.long ((ku.toInt64) * (ua.toInt64))), (.int (own_t1 p6)), (.ref rr), (.ref mm)])) _
    refine XS.i2l X771.here hx rfl (hb hby at_225) rfl ?_
    show Steps p.tables e below (T771.setTop (mkF m 226 #[vI p1, vI p2, vI p3, vJ q4, .second, vJ q5, .second, vI p6, vI ua, vI ub, vI uc, vI su, vI sv, vI sw, vI ku, vI kv, vI kw, vI (own_pp p6), vI (own_t0 p6), vI (own_low (own_t0 p6)), vI (own_hig (own_t0 p6)), vI (own_t1 p6), vI (own_t2 p6), vR mm, vR rr, .unset, .unset, .unset, .unset, .unset, .unset, .unset, .unset] [(.long (sv.toInt64)), (.long (ku.toInt64)), (.long (((ku.toInt64) * (su.toInt64)) + ((4 : Int64) * (ub.toInt64)))), (.long ((ku.toInt64) * (ua.toInt64))), (.int (own_t1 p6)), (.ref rr), (.ref mm)])) _
    refine XS.lmul X771.here hx rfl (hb hby at_226) rfl ?_
    show Steps p.tables e below (T771.setTop (mkF m 227 #[vI p1, vI p2, vI p3, vJ q4, .second, vJ q5, .second, vI p6, vI ua, vI ub, vI uc, vI su, vI sv, vI sw, vI ku, vI kv, vI kw, vI (own_pp p6), vI (own_t0 p6), vI (own_low (own_t0 p6)), vI (own_hig (own_t0 p6)), vI (own_t1 p6), vI (own_t2 p6), vR mm, vR rr, .unset, .unset, .unset, .unset, .unset, .unset, .unset, .unset] [(.long ((ku.toInt64) * (sv.toInt64))), (.long (((ku.toInt64) * (su.toInt64)) + ((4 : Int64) * (ub.toInt64)))), (.long ((ku.toInt64) * (ua.toInt64))), (.int (own_t1 p6)), (.ref rr), (.ref mm)])) _
    refine X771.ldc2Long hx hown (mvT hZ (hw _ (List.mem_of_getElem? (i := 12) rfl))) (g := (mkF m 227 #[vI p1, vI p2, vI p3, vJ q4, .second, vJ q5, .second, vI p6, vI ua, vI ub, vI uc, vI su, vI sv, vI sw, vI ku, vI kv, vI kw, vI (own_pp p6), vI (own_t0 p6), vI (own_low (own_t0 p6)), vI (own_hig (own_t0 p6)), vI (own_t1 p6), vI (own_t2 p6), vR mm, vR rr, .unset, .unset, .unset, .unset, .unset, .unset, .unset, .unset] [(.long ((ku.toInt64) * (sv.toInt64))), (.long (((ku.toInt64) * (su.toInt64)) + ((4 : Int64) * (ub.toInt64)))), (.long ((ku.toInt64) * (ua.toInt64))), (.int (own_t1 p6)), (.ref rr), (.ref mm)])) rfl (hb hby at_227) _ ?_
    refine XS.iload X771.here hx rfl (hb hby at_230) rfl ?_
    show Steps p.tables e below (T771.setTop (mkF m 232 #[vI p1, vI p2, vI p3, vJ q4, .second, vJ q5, .second, vI p6, vI ua, vI ub, vI uc, vI su, vI sv, vI sw, vI ku, vI kv, vI kw, vI (own_pp p6), vI (own_t0 p6), vI (own_low (own_t0 p6)), vI (own_hig (own_t0 p6)), vI (own_t1 p6), vI (own_t2 p6), vR mm, vR rr, .unset, .unset, .unset, .unset, .unset, .unset, .unset, .unset] [(.int sw), (.long (4 : Int64)), (.long ((ku.toInt64) * (sv.toInt64))), (.long (((ku.toInt64) * (su.toInt64)) + ((4 : Int64) * (ub.toInt64)))), (.long ((ku.toInt64) * (ua.toInt64))), (.int (own_t1 p6)), (.ref rr), (.ref mm)])) _
    refine XS.i2l X771.here hx rfl (hb hby at_232) rfl ?_
    show Steps p.tables e below (T771.setTop (mkF m 233 #[vI p1, vI p2, vI p3, vJ q4, .second, vJ q5, .second, vI p6, vI ua, vI ub, vI uc, vI su, vI sv, vI sw, vI ku, vI kv, vI kw, vI (own_pp p6), vI (own_t0 p6), vI (own_low (own_t0 p6)), vI (own_hig (own_t0 p6)), vI (own_t1 p6), vI (own_t2 p6), vR mm, vR rr, .unset, .unset, .unset, .unset, .unset, .unset, .unset, .unset] [(.long (sw.toInt64)), (.long (4 : Int64)), (.long ((ku.toInt64) * (sv.toInt64))), (.long (((ku.toInt64) * (su.toInt64)) + ((4 : Int64) * (ub.toInt64)))), (.long ((ku.toInt64) * (ua.toInt64))), (.int (own_t1 p6)), (.ref rr), (.ref mm)])) _
    refine XS.lmul X771.here hx rfl (hb hby at_233) rfl ?_
    show Steps p.tables e below (T771.setTop (mkF m 234 #[vI p1, vI p2, vI p3, vJ q4, .second, vJ q5, .second, vI p6, vI ua, vI ub, vI uc, vI su, vI sv, vI sw, vI ku, vI kv, vI kw, vI (own_pp p6), vI (own_t0 p6), vI (own_low (own_t0 p6)), vI (own_hig (own_t0 p6)), vI (own_t1 p6), vI (own_t2 p6), vR mm, vR rr, .unset, .unset, .unset, .unset, .unset, .unset, .unset, .unset] [(.long ((4 : Int64) * (sw.toInt64))), (.long ((ku.toInt64) * (sv.toInt64))), (.long (((ku.toInt64) * (su.toInt64)) + ((4 : Int64) * (ub.toInt64)))), (.long ((ku.toInt64) * (ua.toInt64))), (.int (own_t1 p6)), (.ref rr), (.ref mm)])) _
    refine XS.ladd X771.here hx rfl (hb hby at_234) rfl ?_
    refine XS.iloadN X771.here hx rfl (hb hby at_235) rfl ?_
    refine XS.iloadN X771.here hx rfl (hb hby at_236) rfl ?_
    show Steps p.tables e below (T771.setTop (mkF m 237 #[vI p1, vI p2, vI p3, vJ q4, .second, vJ q5, .second, vI p6, vI ua, vI ub, vI uc, vI su, vI sv, vI sw, vI ku, vI kv, vI kw, vI (own_pp p6), vI (own_t0 p6), vI (own_low (own_t0 p6)), vI (own_hig (own_t0 p6)), vI (own_t1 p6), vI (own_t2 p6), vR mm, vR rr, .unset, .unset, .unset, .unset, .unset, .unset, .unset, .unset] [(.int p2), (.int p1), (.long (((ku.toInt64) * (sv.toInt64)) + ((4 : Int64) * (sw.toInt64)))), (.long (((ku.toInt64) * (su.toInt64)) + ((4 : Int64) * (ub.toInt64)))), (.long ((ku.toInt64) * (ua.toInt64))), (.int (own_t1 p6)), (.ref rr), (.ref mm)])) _
    refine XS.iloadN X771.here hx rfl (hb hby at_237) rfl ?_
    exact kt
  clear R770 st771
  have b0e : ((ku.toInt64) * (ua.toInt64)).toInt = ku.toInt * ua.toInt ∧ own_B 32768 ((ku.toInt64) * (ua.toInt64)).toInt := own_bb (own_kl b_ku b_ua (by decide)) (by decide)
  have b1e : (((ku.toInt64) * (su.toInt64)) + ((4 : Int64) * (ub.toInt64))).toInt = ku.toInt * su.toInt + 4 * ub.toInt ∧ own_B 32768 (((ku.toInt64) * (su.toInt64)) + ((4 : Int64) * (ub.toInt64))).toInt := own_bb (own_al (own_kl b_ku b_su (by decide)) (own_4l b_ub (by decide)) (by decide)) (by decide)
  have b2e : (((ku.toInt64) * (sv.toInt64)) + ((4 : Int64) * (sw.toInt64))).toInt = ku.toInt * sv.toInt + 4 * sw.toInt ∧ own_B 32768 (((ku.toInt64) * (sv.toInt64)) + ((4 : Int64) * (sw.toInt64))).toInt := own_bb (own_al (own_kl b_ku b_sv (by decide)) (own_4l b_sw (by decide)) (by decide)) (by decide)
  have bse := own_lsum p1 p2 p3 b0e b1e b2e
  obtain ⟨_, _, ⟨T774, L774, k774, n774⟩, -, X774, ⟨Lc774, hQ774, l774, y774, z774⟩, st774⟩ := Jvm.LawKit.callS X771 hx (y := (⟨"com/example/inexact_odds/inexactodds/reach/DenseLuSolvePinLaw", "place", "([D[DIJJJIII)V"⟩ : MethodName)) hown (mvT hZ (hw _ (List.mem_of_getElem? (i := 13) rfl))) (mvT hZ (hw _ (List.mem_of_getElem? (i := 14) rfl))) (mvT hZ (hw _ (List.mem_of_getElem? (i := 2) rfl))) (mvT hZ (hw _ (List.mem_of_getElem? (i := 15) rfl))) (by decide) (backOf (W := 0) (rm_pl l Z a0 hw [] mm rr (own_t1 p6) ((ku.toInt64) * (ua.toInt64)) (((ku.toInt64) * (su.toInt64)) + ((4 : Int64) * (ub.toInt64))) (((ku.toInt64) * (sv.toInt64)) + ((4 : Int64) * (sw.toInt64))) p1 p2 p3 (own_row [0, 0, 0, 0, 0, 0, 0, 0, 0] i0 (4 * ua.toInt) (4 * su.toInt) (4 * sv.toInt)) ([0, 0, 0].set i0 ((4 * ua.toInt) * p1.toInt + (4 * su.toInt) * p2.toInt + (4 * sv.toInt) * p3.toInt)) j0 T771.heap n0 Zs772 V771 U771 g_mm g_rr ne_mm_rr hj0 hj3 (own_b53 b0e) (own_b53 b1e) (own_b53 b2e) bse.2) hZ (hw _ (List.mem_of_getElem? (i := 15) rfl)) (hw _ (List.mem_of_getElem? (i := 2) rfl)) (by decide) (by decide)) (g := (mkF m 238 #[vI p1, vI p2, vI p3, vJ q4, .second, vJ q5, .second, vI p6, vI ua, vI ub, vI uc, vI su, vI sv, vI sw, vI ku, vI kv, vI kw, vI (own_pp p6), vI (own_t0 p6), vI (own_low (own_t0 p6)), vI (own_hig (own_t0 p6)), vI (own_t1 p6), vI (own_t2 p6), vR mm, vR rr, .unset, .unset, .unset, .unset, .unset, .unset, .unset, .unset] [(.int p3), (.int p2), (.int p1), (.long (((ku.toInt64) * (sv.toInt64)) + ((4 : Int64) * (sw.toInt64)))), (.long (((ku.toInt64) * (su.toInt64)) + ((4 : Int64) * (ub.toInt64)))), (.long ((ku.toInt64) * (ua.toInt64))), (.int (own_t1 p6)), (.ref rr), (.ref mm)])) rfl (by rw [hml]; rfl) (argsL := [(.ref mm), (.ref rr), (.int (own_t1 p6)), (.long ((ku.toInt64) * (ua.toInt64))), (.long (((ku.toInt64) * (su.toInt64)) + ((4 : Int64) * (ub.toInt64)))), (.long (((ku.toInt64) * (sv.toInt64)) + ((4 : Int64) * (sw.toInt64)))), (.int p1), (.int p2), (.int p3)]) (rest := []) (lenOf pd_4 rfl) rfl (by show 2 * 0 + _ ≤ _; exact Nat.le_of_eq rfl) (hb hby at_238) (fun _ _ => ⟨rfl, rfl, (by decide : 2 + 0 ≤ _), (by decide : 12 + 0 ≤ _)⟩)
  dsimp only [Pt.U, Pt.locs, Pt.cells, Pt.slots] at X774 l774 y774 z774 st774 hQ774
  rw [l774, y774, z774] at X774
  obtain ⟨rfl, N774q, K774, V774, U774⟩ := hQ774
  have N774 := Fr.app N771 N774q
  rw [b0e.1, b1e.1, b2e.1] at V774
  rw [bse.1] at U774
  have E_rr_775 := E_rr_772.keep K774
  clear E_rr_772
  have Zs775 : n0 ≤ T774.heap.size := Nat.le_trans Zs772 K774.1
  have R776 : ∀ tg, Steps p.tables e below (T774.setTop (mkF m 295 #[vI p1, vI p2, vI p3, vJ q4, .second, vJ q5, .second, vI p6, vI ua, vI ub, vI uc, vI su, vI sv, vI sw, vI ku, vI kv, vI kw, vI (own_pp p6), vI (own_t0 p6), vI (own_low (own_t0 p6)), vI (own_hig (own_t0 p6)), vI (own_t1 p6), vI (own_t2 p6), vR mm, vR rr, .unset, .unset, .unset, .unset, .unset, .unset, .unset, .unset] [(.int p3), (.int p2), (.int p1), (.long ((((kv.toInt64) * (sv.toInt64)) + ((kw.toInt64) * (sw.toInt64))) + ((4 : Int64) * (uc.toInt64)))), (.long (((kv.toInt64) * (su.toInt64)) + ((kw.toInt64) * (ub.toInt64)))), (.long ((kv.toInt64) * (ua.toInt64))), (.int (own_t2 p6)), (.ref rr), (.ref mm)])) tg → Steps p.tables e below (s₁.setTop (mkF m 0 #[vI p1, vI p2, vI p3, vJ q4, .second, vJ q5, .second, vI p6, .unset, .unset, .unset, .unset, .unset, .unset, .unset, .unset, .unset, .unset, .unset, .unset, .unset, .unset, .unset, .unset, .unset, .unset, .unset, .unset, .unset, .unset, .unset, .unset, .unset] [])) tg := by
    intro tg kt
    refine R773 _ ?_
    refine st774 _ ?_
    refine XS.aload X774.here hx rfl (hb hby at_241) rfl rfl ?_
    refine XS.aload X774.here hx rfl (hb hby at_243) rfl rfl ?_
    show Steps p.tables e below (T774.setTop (mkF m 245 #[vI p1, vI p2, vI p3, vJ q4, .second, vJ q5, .second, vI p6, vI ua, vI ub, vI uc, vI su, vI sv, vI sw, vI ku, vI kv, vI kw, vI (own_pp p6), vI (own_t0 p6), vI (own_low (own_t0 p6)), vI (own_hig (own_t0 p6)), vI (own_t1 p6), vI (own_t2 p6), vR mm, vR rr, .unset, .unset, .unset, .unset, .unset, .unset, .unset, .unset] [(.ref rr), (.ref mm)])) _
    refine XS.iload X774.here hx rfl (hb hby at_245) rfl ?_
    refine XS.iload X774.here hx rfl (hb hby at_247) rfl ?_
    show Steps p.tables e below (T774.setTop (mkF m 249 #[vI p1, vI p2, vI p3, vJ q4, .second, vJ q5, .second, vI p6, vI ua, vI ub, vI uc, vI su, vI sv, vI sw, vI ku, vI kv, vI kw, vI (own_pp p6), vI (own_t0 p6), vI (own_low (own_t0 p6)), vI (own_hig (own_t0 p6)), vI (own_t1 p6), vI (own_t2 p6), vR mm, vR rr, .unset, .unset, .unset, .unset, .unset, .unset, .unset, .unset] [(.int kv), (.int (own_t2 p6)), (.ref rr), (.ref mm)])) _
    refine XS.i2l X774.here hx rfl (hb hby at_249) rfl ?_
    refine XS.iload X774.here hx rfl (hb hby at_250) rfl ?_
    show Steps p.tables e below (T774.setTop (mkF m 252 #[vI p1, vI p2, vI p3, vJ q4, .second, vJ q5, .second, vI p6, vI ua, vI ub, vI uc, vI su, vI sv, vI sw, vI ku, vI kv, vI kw, vI (own_pp p6), vI (own_t0 p6), vI (own_low (own_t0 p6)), vI (own_hig (own_t0 p6)), vI (own_t1 p6), vI (own_t2 p6), vR mm, vR rr, .unset, .unset, .unset, .unset, .unset, .unset, .unset, .unset] [(.int ua), (.long (kv.toInt64)), (.int (own_t2 p6)), (.ref rr), (.ref mm)])) _
    refine XS.i2l X774.here hx rfl (hb hby at_252) rfl ?_
    show Steps p.tables e below (T774.setTop (mkF m 253 #[vI p1, vI p2, vI p3, vJ q4, .second, vJ q5, .second, vI p6, vI ua, vI ub, vI uc, vI su, vI sv, vI sw, vI ku, vI kv, vI kw, vI (own_pp p6), vI (own_t0 p6), vI (own_low (own_t0 p6)), vI (own_hig (own_t0 p6)), vI (own_t1 p6), vI (own_t2 p6), vR mm, vR rr, .unset, .unset, .unset, .unset, .unset, .unset, .unset, .unset] [(.long (ua.toInt64)), (.long (kv.toInt64)), (.int (own_t2 p6)), (.ref rr), (.ref mm)])) _
    refine XS.lmul X774.here hx rfl (hb hby at_253) rfl ?_
    refine XS.iload X774.here hx rfl (hb hby at_254) rfl ?_
    show Steps p.tables e below (T774.setTop (mkF m 256 #[vI p1, vI p2, vI p3, vJ q4, .second, vJ q5, .second, vI p6, vI ua, vI ub, vI uc, vI su, vI sv, vI sw, vI ku, vI kv, vI kw, vI (own_pp p6), vI (own_t0 p6), vI (own_low (own_t0 p6)), vI (own_hig (own_t0 p6)), vI (own_t1 p6), vI (own_t2 p6), vR mm, vR rr, .unset, .unset, .unset, .unset, .unset, .unset, .unset, .unset] [(.int kv), (.long ((kv.toInt64) * (ua.toInt64))), (.int (own_t2 p6)), (.ref rr), (.ref mm)])) _
    refine XS.i2l X774.here hx rfl (hb hby at_256) rfl ?_
    refine XS.iload X774.here hx rfl (hb hby at_257) rfl ?_
    show Steps p.tables e below (T774.setTop (mkF m 259 #[vI p1, vI p2, vI p3, vJ q4, .second, vJ q5, .second, vI p6, vI ua, vI ub, vI uc, vI su, vI sv, vI sw, vI ku, vI kv, vI kw, vI (own_pp p6), vI (own_t0 p6), vI (own_low (own_t0 p6)), vI (own_hig (own_t0 p6)), vI (own_t1 p6), vI (own_t2 p6), vR mm, vR rr, .unset, .unset, .unset, .unset, .unset, .unset, .unset, .unset] [(.int su), (.long (kv.toInt64)), (.long ((kv.toInt64) * (ua.toInt64))), (.int (own_t2 p6)), (.ref rr), (.ref mm)])) _
    refine XS.i2l X774.here hx rfl (hb hby at_259) rfl ?_
    show Steps p.tables e below (T774.setTop (mkF m 260 #[vI p1, vI p2, vI p3, vJ q4, .second, vJ q5, .second, vI p6, vI ua, vI ub, vI uc, vI su, vI sv, vI sw, vI ku, vI kv, vI kw, vI (own_pp p6), vI (own_t0 p6), vI (own_low (own_t0 p6)), vI (own_hig (own_t0 p6)), vI (own_t1 p6), vI (own_t2 p6), vR mm, vR rr, .unset, .unset, .unset, .unset, .unset, .unset, .unset, .unset] [(.long (su.toInt64)), (.long (kv.toInt64)), (.long ((kv.toInt64) * (ua.toInt64))), (.int (own_t2 p6)), (.ref rr), (.ref mm)])) _
    refine XS.lmul X774.here hx rfl (hb hby at_260) rfl ?_
    refine XS.iload X774.here hx rfl (hb hby at_261) rfl ?_
    show Steps p.tables e below (T774.setTop (mkF m 263 #[vI p1, vI p2, vI p3, vJ q4, .second, vJ q5, .second, vI p6, vI ua, vI ub, vI uc, vI su, vI sv, vI sw, vI ku, vI kv, vI kw, vI (own_pp p6), vI (own_t0 p6), vI (own_low (own_t0 p6)), vI (own_hig (own_t0 p6)), vI (own_t1 p6), vI (own_t2 p6), vR mm, vR rr, .unset, .unset, .unset, .unset, .unset, .unset, .unset, .unset] [(.int kw), (.long ((kv.toInt64) * (su.toInt64))), (.long ((kv.toInt64) * (ua.toInt64))), (.int (own_t2 p6)), (.ref rr), (.ref mm)])) _
    refine XS.i2l X774.here hx rfl (hb hby at_263) rfl ?_
    refine XS.iload X774.here hx rfl (hb hby at_264) rfl ?_
    show Steps p.tables e below (T774.setTop (mkF m 266 #[vI p1, vI p2, vI p3, vJ q4, .second, vJ q5, .second, vI p6, vI ua, vI ub, vI uc, vI su, vI sv, vI sw, vI ku, vI kv, vI kw, vI (own_pp p6), vI (own_t0 p6), vI (own_low (own_t0 p6)), vI (own_hig (own_t0 p6)), vI (own_t1 p6), vI (own_t2 p6), vR mm, vR rr, .unset, .unset, .unset, .unset, .unset, .unset, .unset, .unset] [(.int ub), (.long (kw.toInt64)), (.long ((kv.toInt64) * (su.toInt64))), (.long ((kv.toInt64) * (ua.toInt64))), (.int (own_t2 p6)), (.ref rr), (.ref mm)])) _
    refine XS.i2l X774.here hx rfl (hb hby at_266) rfl ?_
    show Steps p.tables e below (T774.setTop (mkF m 267 #[vI p1, vI p2, vI p3, vJ q4, .second, vJ q5, .second, vI p6, vI ua, vI ub, vI uc, vI su, vI sv, vI sw, vI ku, vI kv, vI kw, vI (own_pp p6), vI (own_t0 p6), vI (own_low (own_t0 p6)), vI (own_hig (own_t0 p6)), vI (own_t1 p6), vI (own_t2 p6), vR mm, vR rr, .unset, .unset, .unset, .unset, .unset, .unset, .unset, .unset] [(.long (ub.toInt64)), (.long (kw.toInt64)), (.long ((kv.toInt64) * (su.toInt64))), (.long ((kv.toInt64) * (ua.toInt64))), (.int (own_t2 p6)), (.ref rr), (.ref mm)])) _
    refine XS.lmul X774.here hx rfl (hb hby at_267) rfl ?_
    show Steps p.tables e below (T774.setTop (mkF m 268 #[vI p1, vI p2, vI p3, vJ q4, .second, vJ q5, .second, vI p6, vI ua, vI ub, vI uc, vI su, vI sv, vI sw, vI ku, vI kv, vI kw, vI (own_pp p6), vI (own_t0 p6), vI (own_low (own_t0 p6)), vI (own_hig (own_t0 p6)), vI (own_t1 p6), vI (own_t2 p6), vR mm, vR rr, .unset, .unset, .unset, .unset, .unset, .unset, .unset, .unset] [(.long ((kw.toInt64) * (ub.toInt64))), (.long ((kv.toInt64) * (su.toInt64))), (.long ((kv.toInt64) * (ua.toInt64))), (.int (own_t2 p6)), (.ref rr), (.ref mm)])) _
    refine XS.ladd X774.here hx rfl (hb hby at_268) rfl ?_
    refine XS.iload X774.here hx rfl (hb hby at_269) rfl ?_
    show Steps p.tables e below (T774.setTop (mkF m 271 #[vI p1, vI p2, vI p3, vJ q4, .second, vJ q5, .second, vI p6, vI ua, vI ub, vI uc, vI su, vI sv, vI sw, vI ku, vI kv, vI kw, vI (own_pp p6), vI (own_t0 p6), vI (own_low (own_t0 p6)), vI (own_hig (own_t0 p6)), vI (own_t1 p6), vI (own_t2 p6), vR mm, vR rr, .unset, .unset, .unset, .unset, .unset, .unset, .unset, .unset] [(.int kv), (.long (((kv.toInt64) * (su.toInt64)) + ((kw.toInt64) * (ub.toInt64)))), (.long ((kv.toInt64) * (ua.toInt64))), (.int (own_t2 p6)), (.ref rr), (.ref mm)])) _
    refine XS.i2l X774.here hx rfl (hb hby at_271) rfl ?_
    refine XS.iload X774.here hx rfl (hb hby at_272) rfl ?_
    show Steps p.tables e below (T774.setTop (mkF m 274 #[vI p1, vI p2, vI p3, vJ q4, .second, vJ q5, .second, vI p6, vI ua, vI ub, vI uc, vI su, vI sv, vI sw, vI ku, vI kv, vI kw, vI (own_pp p6), vI (own_t0 p6), vI (own_low (own_t0 p6)), vI (own_hig (own_t0 p6)), vI (own_t1 p6), vI (own_t2 p6), vR mm, vR rr, .unset, .unset, .unset, .unset, .unset, .unset, .unset, .unset] [(.int sv), (.long (kv.toInt64)), (.long (((kv.toInt64) * (su.toInt64)) + ((kw.toInt64) * (ub.toInt64)))), (.long ((kv.toInt64) * (ua.toInt64))), (.int (own_t2 p6)), (.ref rr), (.ref mm)])) _
    refine XS.i2l X774.here hx rfl (hb hby at_274) rfl ?_
    show Steps p.tables e below (T774.setTop (mkF m 275 #[vI p1, vI p2, vI p3, vJ q4, .second, vJ q5, .second, vI p6, vI ua, vI ub, vI uc, vI su, vI sv, vI sw, vI ku, vI kv, vI kw, vI (own_pp p6), vI (own_t0 p6), vI (own_low (own_t0 p6)), vI (own_hig (own_t0 p6)), vI (own_t1 p6), vI (own_t2 p6), vR mm, vR rr, .unset, .unset, .unset, .unset, .unset, .unset, .unset, .unset] [(.long (sv.toInt64)), (.long (kv.toInt64)), (.long (((kv.toInt64) * (su.toInt64)) + ((kw.toInt64) * (ub.toInt64)))), (.long ((kv.toInt64) * (ua.toInt64))), (.int (own_t2 p6)), (.ref rr), (.ref mm)])) _
    refine XS.lmul X774.here hx rfl (hb hby at_275) rfl ?_
    refine XS.iload X774.here hx rfl (hb hby at_276) rfl ?_
    show Steps p.tables e below (T774.setTop (mkF m 278 #[vI p1, vI p2, vI p3, vJ q4, .second, vJ q5, .second, vI p6, vI ua, vI ub, vI uc, vI su, vI sv, vI sw, vI ku, vI kv, vI kw, vI (own_pp p6), vI (own_t0 p6), vI (own_low (own_t0 p6)), vI (own_hig (own_t0 p6)), vI (own_t1 p6), vI (own_t2 p6), vR mm, vR rr, .unset, .unset, .unset, .unset, .unset, .unset, .unset, .unset] [(.int kw), (.long ((kv.toInt64) * (sv.toInt64))), (.long (((kv.toInt64) * (su.toInt64)) + ((kw.toInt64) * (ub.toInt64)))), (.long ((kv.toInt64) * (ua.toInt64))), (.int (own_t2 p6)), (.ref rr), (.ref mm)])) _
    refine XS.i2l X774.here hx rfl (hb hby at_278) rfl ?_
    refine XS.iload X774.here hx rfl (hb hby at_279) rfl ?_
    show Steps p.tables e below (T774.setTop (mkF m 281 #[vI p1, vI p2, vI p3, vJ q4, .second, vJ q5, .second, vI p6, vI ua, vI ub, vI uc, vI su, vI sv, vI sw, vI ku, vI kv, vI kw, vI (own_pp p6), vI (own_t0 p6), vI (own_low (own_t0 p6)), vI (own_hig (own_t0 p6)), vI (own_t1 p6), vI (own_t2 p6), vR mm, vR rr, .unset, .unset, .unset, .unset, .unset, .unset, .unset, .unset] [(.int sw), (.long (kw.toInt64)), (.long ((kv.toInt64) * (sv.toInt64))), (.long (((kv.toInt64) * (su.toInt64)) + ((kw.toInt64) * (ub.toInt64)))), (.long ((kv.toInt64) * (ua.toInt64))), (.int (own_t2 p6)), (.ref rr), (.ref mm)])) _
    refine XS.i2l X774.here hx rfl (hb hby at_281) rfl ?_
    show Steps p.tables e below (T774.setTop (mkF m 282 #[vI p1, vI p2, vI p3, vJ q4, .second, vJ q5, .second, vI p6, vI ua, vI ub, vI uc, vI su, vI sv, vI sw, vI ku, vI kv, vI kw, vI (own_pp p6), vI (own_t0 p6), vI (own_low (own_t0 p6)), vI (own_hig (own_t0 p6)), vI (own_t1 p6), vI (own_t2 p6), vR mm, vR rr, .unset, .unset, .unset, .unset, .unset, .unset, .unset, .unset] [(.long (sw.toInt64)), (.long (kw.toInt64)), (.long ((kv.toInt64) * (sv.toInt64))), (.long (((kv.toInt64) * (su.toInt64)) + ((kw.toInt64) * (ub.toInt64)))), (.long ((kv.toInt64) * (ua.toInt64))), (.int (own_t2 p6)), (.ref rr), (.ref mm)])) _
    refine XS.lmul X774.here hx rfl (hb hby at_282) rfl ?_
    show Steps p.tables e below (T774.setTop (mkF m 283 #[vI p1, vI p2, vI p3, vJ q4, .second, vJ q5, .second, vI p6, vI ua, vI ub, vI uc, vI su, vI sv, vI sw, vI ku, vI kv, vI kw, vI (own_pp p6), vI (own_t0 p6), vI (own_low (own_t0 p6)), vI (own_hig (own_t0 p6)), vI (own_t1 p6), vI (own_t2 p6), vR mm, vR rr, .unset, .unset, .unset, .unset, .unset, .unset, .unset, .unset] [(.long ((kw.toInt64) * (sw.toInt64))), (.long ((kv.toInt64) * (sv.toInt64))), (.long (((kv.toInt64) * (su.toInt64)) + ((kw.toInt64) * (ub.toInt64)))), (.long ((kv.toInt64) * (ua.toInt64))), (.int (own_t2 p6)), (.ref rr), (.ref mm)])) _
    refine XS.ladd X774.here hx rfl (hb hby at_283) rfl ?_
    show Steps p.tables e below (T774.setTop (mkF m 284 #[vI p1, vI p2, vI p3, vJ q4, .second, vJ q5, .second, vI p6, vI ua, vI ub, vI uc, vI su, vI sv, vI sw, vI ku, vI kv, vI kw, vI (own_pp p6), vI (own_t0 p6), vI (own_low (own_t0 p6)), vI (own_hig (own_t0 p6)), vI (own_t1 p6), vI (own_t2 p6), vR mm, vR rr, .unset, .unset, .unset, .unset, .unset, .unset, .unset, .unset] [(.long (((kv.toInt64) * (sv.toInt64)) + ((kw.toInt64) * (sw.toInt64)))), (.long (((kv.toInt64) * (su.toInt64)) + ((kw.toInt64) * (ub.toInt64)))), (.long ((kv.toInt64) * (ua.toInt64))), (.int (own_t2 p6)), (.ref rr), (.ref mm)])) _
    refine X774.ldc2Long hx hown (mvT hZ (hw _ (List.mem_of_getElem? (i := 12) rfl))) (g := (mkF m 284 #[vI p1, vI p2, vI p3, vJ q4, .second, vJ q5, .second, vI p6, vI ua, vI ub, vI uc, vI su, vI sv, vI sw, vI ku, vI kv, vI kw, vI (own_pp p6), vI (own_t0 p6), vI (own_low (own_t0 p6)), vI (own_hig (own_t0 p6)), vI (own_t1 p6), vI (own_t2 p6), vR mm, vR rr, .unset, .unset, .unset, .unset, .unset, .unset, .unset, .unset] [(.long (((kv.toInt64) * (sv.toInt64)) + ((kw.toInt64) * (sw.toInt64)))), (.long (((kv.toInt64) * (su.toInt64)) + ((kw.toInt64) * (ub.toInt64)))), (.long ((kv.toInt64) * (ua.toInt64))), (.int (own_t2 p6)), (.ref rr), (.ref mm)])) rfl (hb hby at_284) _ ?_
    refine XS.iload X774.here hx rfl (hb hby at_287) rfl ?_
    show Steps p.tables e below (T774.setTop (mkF m 289 #[vI p1, vI p2, vI p3, vJ q4, .second, vJ q5, .second, vI p6, vI ua, vI ub, vI uc, vI su, vI sv, vI sw, vI ku, vI kv, vI kw, vI (own_pp p6), vI (own_t0 p6), vI (own_low (own_t0 p6)), vI (own_hig (own_t0 p6)), vI (own_t1 p6), vI (own_t2 p6), vR mm, vR rr, .unset, .unset, .unset, .unset, .unset, .unset, .unset, .unset] [(.int uc), (.long (4 : Int64)), (.long (((kv.toInt64) * (sv.toInt64)) + ((kw.toInt64) * (sw.toInt64)))), (.long (((kv.toInt64) * (su.toInt64)) + ((kw.toInt64) * (ub.toInt64)))), (.long ((kv.toInt64) * (ua.toInt64))), (.int (own_t2 p6)), (.ref rr), (.ref mm)])) _
    refine XS.i2l X774.here hx rfl (hb hby at_289) rfl ?_
    show Steps p.tables e below (T774.setTop (mkF m 290 #[vI p1, vI p2, vI p3, vJ q4, .second, vJ q5, .second, vI p6, vI ua, vI ub, vI uc, vI su, vI sv, vI sw, vI ku, vI kv, vI kw, vI (own_pp p6), vI (own_t0 p6), vI (own_low (own_t0 p6)), vI (own_hig (own_t0 p6)), vI (own_t1 p6), vI (own_t2 p6), vR mm, vR rr, .unset, .unset, .unset, .unset, .unset, .unset, .unset, .unset] [(.long (uc.toInt64)), (.long (4 : Int64)), (.long (((kv.toInt64) * (sv.toInt64)) + ((kw.toInt64) * (sw.toInt64)))), (.long (((kv.toInt64) * (su.toInt64)) + ((kw.toInt64) * (ub.toInt64)))), (.long ((kv.toInt64) * (ua.toInt64))), (.int (own_t2 p6)), (.ref rr), (.ref mm)])) _
    refine XS.lmul X774.here hx rfl (hb hby at_290) rfl ?_
    show Steps p.tables e below (T774.setTop (mkF m 291 #[vI p1, vI p2, vI p3, vJ q4, .second, vJ q5, .second, vI p6, vI ua, vI ub, vI uc, vI su, vI sv, vI sw, vI ku, vI kv, vI kw, vI (own_pp p6), vI (own_t0 p6), vI (own_low (own_t0 p6)), vI (own_hig (own_t0 p6)), vI (own_t1 p6), vI (own_t2 p6), vR mm, vR rr, .unset, .unset, .unset, .unset, .unset, .unset, .unset, .unset] [(.long ((4 : Int64) * (uc.toInt64))), (.long (((kv.toInt64) * (sv.toInt64)) + ((kw.toInt64) * (sw.toInt64)))), (.long (((kv.toInt64) * (su.toInt64)) + ((kw.toInt64) * (ub.toInt64)))), (.long ((kv.toInt64) * (ua.toInt64))), (.int (own_t2 p6)), (.ref rr), (.ref mm)])) _
    refine XS.ladd X774.here hx rfl (hb hby at_291) rfl ?_
    refine XS.iloadN X774.here hx rfl (hb hby at_292) rfl ?_
    refine XS.iloadN X774.here hx rfl (hb hby at_293) rfl ?_
    show Steps p.tables e below (T774.setTop (mkF m 294 #[vI p1, vI p2, vI p3, vJ q4, .second, vJ q5, .second, vI p6, vI ua, vI ub, vI uc, vI su, vI sv, vI sw, vI ku, vI kv, vI kw, vI (own_pp p6), vI (own_t0 p6), vI (own_low (own_t0 p6)), vI (own_hig (own_t0 p6)), vI (own_t1 p6), vI (own_t2 p6), vR mm, vR rr, .unset, .unset, .unset, .unset, .unset, .unset, .unset, .unset] [(.int p2), (.int p1), (.long ((((kv.toInt64) * (sv.toInt64)) + ((kw.toInt64) * (sw.toInt64))) + ((4 : Int64) * (uc.toInt64)))), (.long (((kv.toInt64) * (su.toInt64)) + ((kw.toInt64) * (ub.toInt64)))), (.long ((kv.toInt64) * (ua.toInt64))), (.int (own_t2 p6)), (.ref rr), (.ref mm)])) _
    refine XS.iloadN X774.here hx rfl (hb hby at_294) rfl ?_
    exact kt
  clear R773 st774
  have c0e : ((kv.toInt64) * (ua.toInt64)).toInt = kv.toInt * ua.toInt ∧ own_B 32768 ((kv.toInt64) * (ua.toInt64)).toInt := own_bb (own_kl b_kv b_ua (by decide)) (by decide)
  have c1e : (((kv.toInt64) * (su.toInt64)) + ((kw.toInt64) * (ub.toInt64))).toInt = kv.toInt * su.toInt + kw.toInt * ub.toInt ∧ own_B 32768 (((kv.toInt64) * (su.toInt64)) + ((kw.toInt64) * (ub.toInt64))).toInt := own_bb (own_al (own_kl b_kv b_su (by decide)) (own_kl b_kw b_ub (by decide)) (by decide)) (by decide)
  have c2e : ((((kv.toInt64) * (sv.toInt64)) + ((kw.toInt64) * (sw.toInt64))) + ((4 : Int64) * (uc.toInt64))).toInt = kv.toInt * sv.toInt + kw.toInt * sw.toInt + 4 * uc.toInt ∧ own_B 32768 ((((kv.toInt64) * (sv.toInt64)) + ((kw.toInt64) * (sw.toInt64))) + ((4 : Int64) * (uc.toInt64))).toInt := own_bb (own_al (own_al (own_kl b_kv b_sv (by decide)) (own_kl b_kw b_sw (by decide)) (by decide)) (own_4l b_uc (by decide)) (by decide)) (by decide)
  have cse := own_lsum p1 p2 p3 c0e c1e c2e
  obtain ⟨_, _, ⟨T777, L777, k777, n777⟩, -, X777, ⟨Lc777, hQ777, l777, y777, z777⟩, st777⟩ := Jvm.LawKit.callS X774 hx (y := (⟨"com/example/inexact_odds/inexactodds/reach/DenseLuSolvePinLaw", "place", "([D[DIJJJIII)V"⟩ : MethodName)) hown (mvT hZ (hw _ (List.mem_of_getElem? (i := 13) rfl))) (mvT hZ (hw _ (List.mem_of_getElem? (i := 14) rfl))) (mvT hZ (hw _ (List.mem_of_getElem? (i := 2) rfl))) (mvT hZ (hw _ (List.mem_of_getElem? (i := 15) rfl))) (by decide) (backOf (W := 0) (rm_pl l Z a0 hw [] mm rr (own_t2 p6) ((kv.toInt64) * (ua.toInt64)) (((kv.toInt64) * (su.toInt64)) + ((kw.toInt64) * (ub.toInt64))) ((((kv.toInt64) * (sv.toInt64)) + ((kw.toInt64) * (sw.toInt64))) + ((4 : Int64) * (uc.toInt64))) p1 p2 p3 (own_row (own_row [0, 0, 0, 0, 0, 0, 0, 0, 0] i0 (4 * ua.toInt) (4 * su.toInt) (4 * sv.toInt)) j0 (ku.toInt * ua.toInt) (ku.toInt * su.toInt + 4 * ub.toInt) (ku.toInt * sv.toInt + 4 * sw.toInt)) (([0, 0, 0].set i0 ((4 * ua.toInt) * p1.toInt + (4 * su.toInt) * p2.toInt + (4 * sv.toInt) * p3.toInt)).set j0 ((ku.toInt * ua.toInt) * p1.toInt + (ku.toInt * su.toInt + 4 * ub.toInt) * p2.toInt + (ku.toInt * sv.toInt + 4 * sw.toInt) * p3.toInt)) k0 T774.heap n0 Zs775 V774 U774 g_mm g_rr ne_mm_rr hk0 hk3 (own_b53 c0e) (own_b53 c1e) (own_b53 c2e) cse.2) hZ (hw _ (List.mem_of_getElem? (i := 15) rfl)) (hw _ (List.mem_of_getElem? (i := 2) rfl)) (by decide) (by decide)) (g := (mkF m 295 #[vI p1, vI p2, vI p3, vJ q4, .second, vJ q5, .second, vI p6, vI ua, vI ub, vI uc, vI su, vI sv, vI sw, vI ku, vI kv, vI kw, vI (own_pp p6), vI (own_t0 p6), vI (own_low (own_t0 p6)), vI (own_hig (own_t0 p6)), vI (own_t1 p6), vI (own_t2 p6), vR mm, vR rr, .unset, .unset, .unset, .unset, .unset, .unset, .unset, .unset] [(.int p3), (.int p2), (.int p1), (.long ((((kv.toInt64) * (sv.toInt64)) + ((kw.toInt64) * (sw.toInt64))) + ((4 : Int64) * (uc.toInt64)))), (.long (((kv.toInt64) * (su.toInt64)) + ((kw.toInt64) * (ub.toInt64)))), (.long ((kv.toInt64) * (ua.toInt64))), (.int (own_t2 p6)), (.ref rr), (.ref mm)])) rfl (by rw [hml]; rfl) (argsL := [(.ref mm), (.ref rr), (.int (own_t2 p6)), (.long ((kv.toInt64) * (ua.toInt64))), (.long (((kv.toInt64) * (su.toInt64)) + ((kw.toInt64) * (ub.toInt64)))), (.long ((((kv.toInt64) * (sv.toInt64)) + ((kw.toInt64) * (sw.toInt64))) + ((4 : Int64) * (uc.toInt64)))), (.int p1), (.int p2), (.int p3)]) (rest := []) (lenOf pd_4 rfl) rfl (by show 2 * 0 + _ ≤ _; exact Nat.le_of_eq rfl) (hb hby at_295) (fun _ _ => ⟨rfl, rfl, (by decide : 2 + 0 ≤ _), (by decide : 12 + 0 ≤ _)⟩)
  dsimp only [Pt.U, Pt.locs, Pt.cells, Pt.slots] at X777 l777 y777 z777 st777 hQ777
  rw [l777, y777, z777] at X777
  obtain ⟨rfl, N777q, K777, V777, U777⟩ := hQ777
  have N777 := Fr.app N774 N777q
  rw [c0e.1, c1e.1, c2e.1] at V777
  rw [cse.1] at U777
  have E_rr_778 := E_rr_775.keep K777
  clear E_rr_775
  have Zs778 : n0 ≤ T777.heap.size := Nat.le_trans Zs775 K777.1
  have R779 : ∀ tg, Steps p.tables e below (T777.setTop (mkF m 298 #[vI p1, vI p2, vI p3, vJ q4, .second, vJ q5, .second, vI p6, vI ua, vI ub, vI uc, vI su, vI sv, vI sw, vI ku, vI kv, vI kw, vI (own_pp p6), vI (own_t0 p6), vI (own_low (own_t0 p6)), vI (own_hig (own_t0 p6)), vI (own_t1 p6), vI (own_t2 p6), vR mm, vR rr, .unset, .unset, .unset, .unset, .unset, .unset, .unset, .unset] [])) tg → Steps p.tables e below (s₁.setTop (mkF m 0 #[vI p1, vI p2, vI p3, vJ q4, .second, vJ q5, .second, vI p6, .unset, .unset, .unset, .unset, .unset, .unset, .unset, .unset, .unset, .unset, .unset, .unset, .unset, .unset, .unset, .unset, .unset, .unset, .unset, .unset, .unset, .unset, .unset, .unset, .unset] [])) tg := by
    intro tg kt
    refine R776 _ ?_
    refine st777 _ ?_
    exact kt
  clear R776 st777
  obtain ⟨kb, m0, m1, m2, m3, m4, m5, m6, m7, m8, y3, y4, y5, y6, y7, y8, f1, u4, u5, f2, v7, v8, r0, r1, r2, hmm, hP0, hS0, hD1, hM14, hM15, hD2, hM27, hM28, hP1, hS1, hrl, hW⟩ := own_main (S0 := ((4 * ua.toInt) * p1.toInt + (4 * su.toInt) * p2.toInt + (4 * sv.toInt) * p3.toInt)) (S1 := ((ku.toInt * ua.toInt) * p1.toInt + (ku.toInt * su.toInt + 4 * ub.toInt) * p2.toInt + (ku.toInt * sv.toInt + 4 * sw.toInt) * p3.toInt)) (S2 := ((kv.toInt * ua.toInt) * p1.toInt + (kv.toInt * su.toInt + kw.toInt * ub.toInt) * p2.toInt + (kv.toInt * sv.toInt + kw.toInt * sw.toInt + 4 * uc.toInt) * p3.toInt)) b_ua b_su b_sv b_ub b_sw b_uc b_ku b_kv b_kw ne_ua ne_ub hPM
  have VMz : VD Z T777.heap mm 9 [m0, m1, m2, m3, m4, m5, m6, m7, m8] := by rw [← hmm]; exact V777
  have VRz : VD Z T777.heap rr 3 [r0, r1, r2] := by rw [← hrl]; exact U777
  obtain ⟨g1, gx, g2, px, py, pz, qa, qb, qc, qd, qe, qf, qg, qh, qi⟩ := own_sol (X0 := p1.toInt) (X1 := p2.toInt) (X2 := p3.toInt) b_ua b_su b_sv b_ub b_sw b_uc b_ku b_kv b_kw ne_ua ne_ub ne_uc own_B.i own_B.i own_B.i
  have hkb := own_P1_lt hP1
  have R780 : ∀ tg, Steps p.tables e below (T777.setTop (mkF m 301 #[vI p1, vI p2, vI p3, vJ q4, .second, vJ q5, .second, vI p6, vI ua, vI ub, vI uc, vI su, vI sv, vI sw, vI ku, vI kv, vI kw, vI (own_pp p6), vI (own_t0 p6), vI (own_low (own_t0 p6)), vI (own_hig (own_t0 p6)), vI (own_t1 p6), vI (own_t2 p6), vR mm, vR rr, .unset, .unset, .unset, .unset, .unset, .unset, .unset, .unset] [(.int (0 : Int32)), (.ref rr)])) tg → Steps p.tables e below (s₁.setTop (mkF m 0 #[vI p1, vI p2, vI p3, vJ q4, .second, vJ q5, .second, vI p6, .unset, .unset, .unset, .unset, .unset, .unset, .unset, .unset, .unset, .unset, .unset, .unset, .unset, .unset, .unset, .unset, .unset, .unset, .unset, .unset, .unset, .unset, .unset, .unset, .unset] [])) tg := by
    intro tg kt
    refine R779 _ ?_
    show Steps p.tables e below (T777.setTop (mkF m 298 #[vI p1, vI p2, vI p3, vJ q4, .second, vJ q5, .second, vI p6, vI ua, vI ub, vI uc, vI su, vI sv, vI sw, vI ku, vI kv, vI kw, vI (own_pp p6), vI (own_t0 p6), vI (own_low (own_t0 p6)), vI (own_hig (own_t0 p6)), vI (own_t1 p6), vI (own_t2 p6), vR mm, vR rr, .unset, .unset, .unset, .unset, .unset, .unset, .unset, .unset] [])) _
    refine XS.aload X777.here hx rfl (hb hby at_298) rfl rfl ?_
    refine XS.iconst X777.here hx rfl (hb hby at_300) ?_
    exact kt
  clear R779
  obtain ⟨cl781, d781, Ar781, hin781, hat781, G781⟩ := VRz.at (j := (0 : Int32)) (k := 0) (by decide) rfl (by decide)
  have H781 : DR 2 r0 d781 := G781
  have R782 : ∀ tg, Steps p.tables e below (T777.setTop (mkF m 307 #[vI p1, vI p2, vI p3, vJ q4, .second, vJ q5, .second, vI p6, vI ua, vI ub, vI uc, vI su, vI sv, vI sw, vI ku, vI kv, vI kw, vI (own_pp p6), vI (own_t0 p6), vI (own_low (own_t0 p6)), vI (own_hig (own_t0 p6)), vI (own_t1 p6), vI (own_t2 p6), vR mm, vR rr, vD d781, .second, .unset, .unset, .unset, .unset, .unset, .unset] [(.int (1 : Int32)), (.ref rr)])) tg → Steps p.tables e below (s₁.setTop (mkF m 0 #[vI p1, vI p2, vI p3, vJ q4, .second, vJ q5, .second, vI p6, .unset, .unset, .unset, .unset, .unset, .unset, .unset, .unset, .unset, .unset, .unset, .unset, .unset, .unset, .unset, .unset, .unset, .unset, .unset, .unset, .unset, .unset, .unset, .unset, .unset] [])) tg := by
    intro tg kt
    refine R780 _ ?_
    show Steps p.tables e below (T777.setTop (mkF m 301 #[vI p1, vI p2, vI p3, vJ q4, .second, vJ q5, .second, vI p6, vI ua, vI ub, vI uc, vI su, vI sv, vI sw, vI ku, vI kv, vI kw, vI (own_pp p6), vI (own_t0 p6), vI (own_low (own_t0 p6)), vI (own_hig (own_t0 p6)), vI (own_t1 p6), vI (own_t2 p6), vR mm, vR rr, .unset, .unset, .unset, .unset, .unset, .unset, .unset, .unset] [(.int (0 : Int32)), (.ref rr)])) _
    refine X777.daload hx (j := (0 : Int32)) (v := (.double d781)) Ar781.1 (State.isArrayOf_alike hZ.alike Ar781.2.1) Ar781.2.2 hin781 hat781 (g := (mkF m 301 #[vI p1, vI p2, vI p3, vJ q4, .second, vJ q5, .second, vI p6, vI ua, vI ub, vI uc, vI su, vI sv, vI sw, vI ku, vI kv, vI kw, vI (own_pp p6), vI (own_t0 p6), vI (own_low (own_t0 p6)), vI (own_hig (own_t0 p6)), vI (own_t1 p6), vI (own_t2 p6), vR mm, vR rr, .unset, .unset, .unset, .unset, .unset, .unset, .unset, .unset] [(.int (0 : Int32)), (.ref rr)])) rfl rfl (hb hby at_301) _ ?_
    show Steps p.tables e below (T777.setTop (mkF m 302 #[vI p1, vI p2, vI p3, vJ q4, .second, vJ q5, .second, vI p6, vI ua, vI ub, vI uc, vI su, vI sv, vI sw, vI ku, vI kv, vI kw, vI (own_pp p6), vI (own_t0 p6), vI (own_low (own_t0 p6)), vI (own_hig (own_t0 p6)), vI (own_t1 p6), vI (own_t2 p6), vR mm, vR rr, .unset, .unset, .unset, .unset, .unset, .unset, .unset, .unset] [(.double d781)])) _
    refine XS.dstore X777.here hx rfl (hb hby at_302) rfl (l' := #[vI p1, vI p2, vI p3, vJ q4, .second, vJ q5, .second, vI p6, vI ua, vI ub, vI uc, vI su, vI sv, vI sw, vI ku, vI kv, vI kw, vI (own_pp p6), vI (own_t0 p6), vI (own_low (own_t0 p6)), vI (own_hig (own_t0 p6)), vI (own_t1 p6), vI (own_t2 p6), vR mm, vR rr, vD d781, .second, .unset, .unset, .unset, .unset, .unset, .unset]) rfl ?_
    refine XS.aload X777.here hx rfl (hb hby at_304) rfl rfl ?_
    refine XS.iconst X777.here hx rfl (hb hby at_306) ?_
    exact kt
  clear R780
  obtain ⟨cl783, d783, Ar783, hin783, hat783, G783⟩ := VRz.at (j := (1 : Int32)) (k := 1) (by decide) rfl (by decide)
  have H783 : DR 2 r1 d783 := G783
  have R784 : ∀ tg, Steps p.tables e below (T777.setTop (mkF m 313 #[vI p1, vI p2, vI p3, vJ q4, .second, vJ q5, .second, vI p6, vI ua, vI ub, vI uc, vI su, vI sv, vI sw, vI ku, vI kv, vI kw, vI (own_pp p6), vI (own_t0 p6), vI (own_low (own_t0 p6)), vI (own_hig (own_t0 p6)), vI (own_t1 p6), vI (own_t2 p6), vR mm, vR rr, vD d781, .second, vD d783, .second, .unset, .unset, .unset, .unset] [(.int (2 : Int32)), (.ref rr)])) tg → Steps p.tables e below (s₁.setTop (mkF m 0 #[vI p1, vI p2, vI p3, vJ q4, .second, vJ q5, .second, vI p6, .unset, .unset, .unset, .unset, .unset, .unset, .unset, .unset, .unset, .unset, .unset, .unset, .unset, .unset, .unset, .unset, .unset, .unset, .unset, .unset, .unset, .unset, .unset, .unset, .unset] [])) tg := by
    intro tg kt
    refine R782 _ ?_
    show Steps p.tables e below (T777.setTop (mkF m 307 #[vI p1, vI p2, vI p3, vJ q4, .second, vJ q5, .second, vI p6, vI ua, vI ub, vI uc, vI su, vI sv, vI sw, vI ku, vI kv, vI kw, vI (own_pp p6), vI (own_t0 p6), vI (own_low (own_t0 p6)), vI (own_hig (own_t0 p6)), vI (own_t1 p6), vI (own_t2 p6), vR mm, vR rr, vD d781, .second, .unset, .unset, .unset, .unset, .unset, .unset] [(.int (1 : Int32)), (.ref rr)])) _
    refine X777.daload hx (j := (1 : Int32)) (v := (.double d783)) Ar783.1 (State.isArrayOf_alike hZ.alike Ar783.2.1) Ar783.2.2 hin783 hat783 (g := (mkF m 307 #[vI p1, vI p2, vI p3, vJ q4, .second, vJ q5, .second, vI p6, vI ua, vI ub, vI uc, vI su, vI sv, vI sw, vI ku, vI kv, vI kw, vI (own_pp p6), vI (own_t0 p6), vI (own_low (own_t0 p6)), vI (own_hig (own_t0 p6)), vI (own_t1 p6), vI (own_t2 p6), vR mm, vR rr, vD d781, .second, .unset, .unset, .unset, .unset, .unset, .unset] [(.int (1 : Int32)), (.ref rr)])) rfl rfl (hb hby at_307) _ ?_
    show Steps p.tables e below (T777.setTop (mkF m 308 #[vI p1, vI p2, vI p3, vJ q4, .second, vJ q5, .second, vI p6, vI ua, vI ub, vI uc, vI su, vI sv, vI sw, vI ku, vI kv, vI kw, vI (own_pp p6), vI (own_t0 p6), vI (own_low (own_t0 p6)), vI (own_hig (own_t0 p6)), vI (own_t1 p6), vI (own_t2 p6), vR mm, vR rr, vD d781, .second, .unset, .unset, .unset, .unset, .unset, .unset] [(.double d783)])) _
    refine XS.dstore X777.here hx rfl (hb hby at_308) rfl (l' := #[vI p1, vI p2, vI p3, vJ q4, .second, vJ q5, .second, vI p6, vI ua, vI ub, vI uc, vI su, vI sv, vI sw, vI ku, vI kv, vI kw, vI (own_pp p6), vI (own_t0 p6), vI (own_low (own_t0 p6)), vI (own_hig (own_t0 p6)), vI (own_t1 p6), vI (own_t2 p6), vR mm, vR rr, vD d781, .second, vD d783, .second, .unset, .unset, .unset, .unset]) rfl ?_
    refine XS.aload X777.here hx rfl (hb hby at_310) rfl rfl ?_
    refine XS.iconst X777.here hx rfl (hb hby at_312) ?_
    exact kt
  clear R782
  obtain ⟨cl785, d785, Ar785, hin785, hat785, G785⟩ := VRz.at (j := (2 : Int32)) (k := 2) (by decide) rfl (by decide)
  have H785 : DR 2 r2 d785 := G785
  have R786 : ∀ tg, Steps p.tables e below (T777.setTop (mkF m 316 #[vI p1, vI p2, vI p3, vJ q4, .second, vJ q5, .second, vI p6, vI ua, vI ub, vI uc, vI su, vI sv, vI sw, vI ku, vI kv, vI kw, vI (own_pp p6), vI (own_t0 p6), vI (own_low (own_t0 p6)), vI (own_hig (own_t0 p6)), vI (own_t1 p6), vI (own_t2 p6), vR mm, vR rr, vD d781, .second, vD d783, .second, vD d785, .second, .unset, .unset] [])) tg → Steps p.tables e below (s₁.setTop (mkF m 0 #[vI p1, vI p2, vI p3, vJ q4, .second, vJ q5, .second, vI p6, .unset, .unset, .unset, .unset, .unset, .unset, .unset, .unset, .unset, .unset, .unset, .unset, .unset, .unset, .unset, .unset, .unset, .unset, .unset, .unset, .unset, .unset, .unset, .unset, .unset] [])) tg := by
    intro tg kt
    refine R784 _ ?_
    show Steps p.tables e below (T777.setTop (mkF m 313 #[vI p1, vI p2, vI p3, vJ q4, .second, vJ q5, .second, vI p6, vI ua, vI ub, vI uc, vI su, vI sv, vI sw, vI ku, vI kv, vI kw, vI (own_pp p6), vI (own_t0 p6), vI (own_low (own_t0 p6)), vI (own_hig (own_t0 p6)), vI (own_t1 p6), vI (own_t2 p6), vR mm, vR rr, vD d781, .second, vD d783, .second, .unset, .unset, .unset, .unset] [(.int (2 : Int32)), (.ref rr)])) _
    refine X777.daload hx (j := (2 : Int32)) (v := (.double d785)) Ar785.1 (State.isArrayOf_alike hZ.alike Ar785.2.1) Ar785.2.2 hin785 hat785 (g := (mkF m 313 #[vI p1, vI p2, vI p3, vJ q4, .second, vJ q5, .second, vI p6, vI ua, vI ub, vI uc, vI su, vI sv, vI sw, vI ku, vI kv, vI kw, vI (own_pp p6), vI (own_t0 p6), vI (own_low (own_t0 p6)), vI (own_hig (own_t0 p6)), vI (own_t1 p6), vI (own_t2 p6), vR mm, vR rr, vD d781, .second, vD d783, .second, .unset, .unset, .unset, .unset] [(.int (2 : Int32)), (.ref rr)])) rfl rfl (hb hby at_313) _ ?_
    show Steps p.tables e below (T777.setTop (mkF m 314 #[vI p1, vI p2, vI p3, vJ q4, .second, vJ q5, .second, vI p6, vI ua, vI ub, vI uc, vI su, vI sv, vI sw, vI ku, vI kv, vI kw, vI (own_pp p6), vI (own_t0 p6), vI (own_low (own_t0 p6)), vI (own_hig (own_t0 p6)), vI (own_t1 p6), vI (own_t2 p6), vR mm, vR rr, vD d781, .second, vD d783, .second, .unset, .unset, .unset, .unset] [(.double d785)])) _
    refine XS.dstore X777.here hx rfl (hb hby at_314) rfl (l' := #[vI p1, vI p2, vI p3, vJ q4, .second, vJ q5, .second, vI p6, vI ua, vI ub, vI uc, vI su, vI sv, vI sw, vI ku, vI kv, vI kw, vI (own_pp p6), vI (own_t0 p6), vI (own_low (own_t0 p6)), vI (own_hig (own_t0 p6)), vI (own_t1 p6), vI (own_t2 p6), vR mm, vR rr, vD d781, .second, vD d783, .second, vD d785, .second, .unset, .unset]) rfl ?_
    exact kt
  clear R784
  obtain ⟨T787, h787, X787, e787, E787, A787, D787, -, st787⟩ := newO X777 hx hZ hown (hw _ (List.mem_of_getElem? (i := 17) rfl)) (hw _ (List.mem_of_getElem? (i := 18) rfl)) (hw _ (List.mem_of_getElem? (i := 19) rfl)) rfl (g := (mkF m 316 #[vI p1, vI p2, vI p3, vJ q4, .second, vJ q5, .second, vI p6, vI ua, vI ub, vI uc, vI su, vI sv, vI sw, vI ku, vI kv, vI kw, vI (own_pp p6), vI (own_t0 p6), vI (own_low (own_t0 p6)), vI (own_hig (own_t0 p6)), vI (own_t1 p6), vI (own_t2 p6), vR mm, vR rr, vD d781, .second, vD d783, .second, vD d785, .second, .unset, .unset] [])) rfl (hb hby at_316) (by decide) (by decide)
  obtain ⟨ob, g787⟩ : ∃ z, z = T777.heap.size := ⟨_, rfl⟩
  rw [← g787] at A787 D787 st787
  have E_ob := A787
  have g_ob : n0 ≤ ob := Nat.le_trans Zs778 (Nat.le_of_eq g787.symm)
  have ne_rr_ob : rr ≠ ob := Nat.ne_of_lt (Nat.lt_of_lt_of_le E_rr_778.lt (Nat.le_of_eq g787.symm))
  have ne_mm_ob : mm ≠ ob := Nat.ne_of_lt (Nat.lt_of_lt_of_le VMz.lt (Nat.le_of_eq g787.symm))
  have E_rr_787 := E_rr_778.ext E787
  have VM_787 := VMz.ext E787
  have VR_787 := VRz.ext E787
  clear E_rr_778
  have Zs787 : n0 ≤ h787.size := Nat.le_trans Zs778 E787.1
  have Fs : Fld Z h787 ob "com/example/inexact_odds/inexactodds/reach/DenseLu" "size" "I" (.int (0 : Int32)) := D787 (Or.inr (hw _ (List.mem_of_getElem? (i := 27) rfl))) (ty := .int) (by decide)
  have Fl : Fld Z h787 ob "com/example/inexact_odds/inexactodds/reach/DenseLu" "lu" "[D" .null := D787 (Or.inr (hw _ (List.mem_of_getElem? (i := 29) rfl))) (ty := (.array .double)) (by decide)
  have Fp : Fld Z h787 ob "com/example/inexact_odds/inexactodds/reach/DenseLu" "pivot" "[I" .null := D787 (Or.inr (hw _ (List.mem_of_getElem? (i := 32) rfl))) (ty := (.array .int)) (by decide)
  have R788 : ∀ tg, Steps p.tables e below (T787.setTop (mkF m 323 #[vI p1, vI p2, vI p3, vJ q4, .second, vJ q5, .second, vI p6, vI ua, vI ub, vI uc, vI su, vI sv, vI sw, vI ku, vI kv, vI kw, vI (own_pp p6), vI (own_t0 p6), vI (own_low (own_t0 p6)), vI (own_hig (own_t0 p6)), vI (own_t1 p6), vI (own_t2 p6), vR mm, vR rr, vD d781, .second, vD d783, .second, vD d785, .second, .unset, .unset] [(.ref mm), (.int (3 : Int32)), (.ref ob), (.ref ob)])) tg → Steps p.tables e below (s₁.setTop (mkF m 0 #[vI p1, vI p2, vI p3, vJ q4, .second, vJ q5, .second, vI p6, .unset, .unset, .unset, .unset, .unset, .unset, .unset, .unset, .unset, .unset, .unset, .unset, .unset, .unset, .unset, .unset, .unset, .unset, .unset, .unset, .unset, .unset, .unset, .unset, .unset] [])) tg := by
    intro tg kt
    refine R786 _ ?_
    refine st787 _ ?_
    refine XS.dup X787.here hx rfl (hb hby at_319) rfl rfl ?_
    refine XS.iconst X787.here hx rfl (hb hby at_320) ?_
    show Steps p.tables e below (T787.setTop (mkF m 321 #[vI p1, vI p2, vI p3, vJ q4, .second, vJ q5, .second, vI p6, vI ua, vI ub, vI uc, vI su, vI sv, vI sw, vI ku, vI kv, vI kw, vI (own_pp p6), vI (own_t0 p6), vI (own_low (own_t0 p6)), vI (own_hig (own_t0 p6)), vI (own_t1 p6), vI (own_t2 p6), vR mm, vR rr, vD d781, .second, vD d783, .second, vD d785, .second, .unset, .unset] [(.int (3 : Int32)), (.ref ob), (.ref ob)])) _
    refine XS.aload X787.here hx rfl (hb hby at_321) rfl rfl ?_
    exact kt
  clear R786 st787
  obtain ⟨_, _, ⟨T789, L789, k789, n789⟩, -, X789, ⟨Lc789, hQ789, l789, y789, z789⟩, st789⟩ := X787.specialBack hx (y := (⟨"com/example/inexact_odds/inexactodds/reach/DenseLu", "<init>", "(I[D)V"⟩ : MethodName)) rfl hown (mvT hZ (hw _ (List.mem_of_getElem? (i := 20) rfl))) (mvT hZ (hw _ (List.mem_of_getElem? (i := 21) rfl))) (mvT hZ (hw _ (List.mem_of_getElem? (i := 22) rfl))) (by decide) (backOf (W := 1) (rm_lu l Z a0 hw [] ob (3 : Int32) mm m0 m1 m2 m3 m4 m5 m6 m7 m8 (4 * ua.toInt) (4 * su.toInt) (4 * sv.toInt) y3 y4 y5 y6 y7 y8 f1 u4 u5 f2 v7 v8 ku.toInt (4 * ub.toInt) (4 * sw.toInt) kv.toInt (kw.toInt * ub.toInt) (kw.toInt * sw.toInt + 4 * uc.toInt) kw.toInt (4 * uc.toInt) i0 kb h787 n0 Zs787 rfl E_ob Fs Fl Fp VM_787 g_ob g_mm (Ne.symm ne_mm_ob) hP0 hS0 hD1 hM14 hM15 hD2 hM27 hM28 hP1 hS1 (own_D3 ne_ub b_kw) (own_M3 b_kw b_sw b_uc)) hZ (hw _ (List.mem_of_getElem? (i := 22) rfl)) (hw _ (List.mem_of_getElem? (i := 19) rfl)) (by decide) (by decide)) (g := (mkF m 323 #[vI p1, vI p2, vI p3, vJ q4, .second, vJ q5, .second, vI p6, vI ua, vI ub, vI uc, vI su, vI sv, vI sw, vI ku, vI kv, vI kw, vI (own_pp p6), vI (own_t0 p6), vI (own_low (own_t0 p6)), vI (own_hig (own_t0 p6)), vI (own_t1 p6), vI (own_t2 p6), vR mm, vR rr, vD d781, .second, vD d783, .second, vD d785, .second, .unset, .unset] [(.ref mm), (.int (3 : Int32)), (.ref ob), (.ref ob)])) rfl (by rw [hml]; rfl) (Steps.refl _) (a := ob) (argsL := [(.int (3 : Int32)), (.ref mm)]) (rest := [(.ref ob)]) (lenOf pd_5 rfl) rfl (by show 2 * 0 + _ ≤ _; exact Nat.le_of_eq rfl) (hb hby at_323) (fun _ _ => ⟨rfl, e787, (by decide : 3 + 1 ≤ _), (by decide : 15 + 3 ≤ _)⟩)
  dsimp only [Pt.U, Pt.locs, Pt.cells, Pt.slots] at X789 l789 y789 z789 st789 hQ789
  rw [l789, y789, z789] at X789
  obtain ⟨rfl, N789q, pv, sz_pv, K789, Ex789, Gs789, Gl789, Gp789, V789, U789⟩ := hQ789
  have N789 := Fr.app N777 N789q
  have g_pv : n0 ≤ pv := Nat.le_trans Zs787 sz_pv
  have ne_rr_pv : rr ≠ pv := Nat.ne_of_lt (Nat.lt_of_lt_of_le E_rr_787.lt sz_pv)
  have ne_mm_pv : mm ≠ pv := Nat.ne_of_lt (Nat.lt_of_lt_of_le VM_787.lt sz_pv)
  have ne_ob_pv : ob ≠ pv := Nat.ne_of_lt (Nat.lt_of_lt_of_le Fs.lt sz_pv)
  have E_rr_790 := E_rr_787.keep K789
  have VR_790 := VR_787.keep K789 (own_notin2 ne_rr_ob (Ne.symm ne_mm_rr))
  clear E_rr_787 VR_787
  have Zs790 : n0 ≤ T789.heap.size := Nat.le_trans Zs787 K789.1
  have R791 : ∀ tg, Steps p.tables e below (T789.setTop (mkF m 332 #[vI p1, vI p2, vI p3, vJ q4, .second, vJ q5, .second, vI p6, vI ua, vI ub, vI uc, vI su, vI sv, vI sw, vI ku, vI kv, vI kw, vI (own_pp p6), vI (own_t0 p6), vI (own_low (own_t0 p6)), vI (own_hig (own_t0 p6)), vI (own_t1 p6), vI (own_t2 p6), vR mm, vR rr, vD d781, .second, vD d783, .second, vD d785, .second, vR ob, .unset] [(.ref rr), (.ref ob)])) tg → Steps p.tables e below (s₁.setTop (mkF m 0 #[vI p1, vI p2, vI p3, vJ q4, .second, vJ q5, .second, vI p6, .unset, .unset, .unset, .unset, .unset, .unset, .unset, .unset, .unset, .unset, .unset, .unset, .unset, .unset, .unset, .unset, .unset, .unset, .unset, .unset, .unset, .unset, .unset, .unset, .unset] [])) tg := by
    intro tg kt
    refine R788 _ ?_
    refine st789.trans ?_
    show Steps p.tables e below (T789.setTop (mkF m 326 #[vI p1, vI p2, vI p3, vJ q4, .second, vJ q5, .second, vI p6, vI ua, vI ub, vI uc, vI su, vI sv, vI sw, vI ku, vI kv, vI kw, vI (own_pp p6), vI (own_t0 p6), vI (own_low (own_t0 p6)), vI (own_hig (own_t0 p6)), vI (own_t1 p6), vI (own_t2 p6), vR mm, vR rr, vD d781, .second, vD d783, .second, vD d785, .second, .unset, .unset] [(.ref ob)])) _
    refine XS.astore X789.here hx rfl (hb hby at_326) rfl rfl (l' := #[vI p1, vI p2, vI p3, vJ q4, .second, vJ q5, .second, vI p6, vI ua, vI ub, vI uc, vI su, vI sv, vI sw, vI ku, vI kv, vI kw, vI (own_pp p6), vI (own_t0 p6), vI (own_low (own_t0 p6)), vI (own_hig (own_t0 p6)), vI (own_t1 p6), vI (own_t2 p6), vR mm, vR rr, vD d781, .second, vD d783, .second, vD d785, .second, vR ob, .unset]) rfl ?_
    refine XS.aload X789.here hx rfl (hb hby at_328) rfl rfl ?_
    refine XS.aload X789.here hx rfl (hb hby at_330) rfl rfl ?_
    exact kt
  clear R788 st789
  obtain ⟨cq792, kq792, q792a, q792b, q792c⟩ := isOf hZ rfl Ex789
  obtain ⟨_, _, ⟨T792, L792, k792, n792⟩, -, X792, ⟨Lc792, hQ792, l792, y792, z792⟩, st792⟩ := X789.virtualBack hx (y := (⟨"com/example/inexact_odds/inexactodds/reach/DenseLu", "solve", "([D)[D"⟩ : MethodName)) (z := (⟨"com/example/inexact_odds/inexactodds/reach/DenseLu", "solve", "([D)[D"⟩ : MethodName)) hown (mvT hZ (hw _ (List.mem_of_getElem? (i := 41) rfl))) (mvT hZ (hw _ (List.mem_of_getElem? (i := 42) rfl))) (notFace_of_selects (args := #[]) (mvT hZ (hw _ (List.mem_of_getElem? (i := 44) rfl)))) (mvT hZ (hw _ (List.mem_of_getElem? (i := 44) rfl))) (mvT hZ (hw _ (List.mem_of_getElem? (i := 43) rfl))) (by decide) (backOf (W := 0) (rm_so l Z a0 hw [] ob rr mm pv (4 * ua.toInt) (4 * su.toInt) (4 * sv.toInt) ku.toInt (4 * ub.toInt) (4 * sw.toInt) kv.toInt kw.toInt (4 * uc.toInt) r0 r1 r2 ((4 * ua.toInt) * p1.toInt + (4 * su.toInt) * p2.toInt + (4 * sv.toInt) * p3.toInt) ((ku.toInt * ua.toInt) * p1.toInt + (ku.toInt * su.toInt + 4 * ub.toInt) * p2.toInt + (ku.toInt * sv.toInt + 4 * sw.toInt) * p3.toInt) ((kv.toInt * ua.toInt) * p1.toInt + (kv.toInt * su.toInt + kw.toInt * ub.toInt) * p2.toInt + (kv.toInt * sv.toInt + kw.toInt * sw.toInt + 4 * uc.toInt) * p3.toInt) g1 gx g2 (p3.toInt * 4) px (p2.toInt * 4) py pz (p1.toInt * 4) i0 kb T789.heap n0 Zs790 Gs789 Gl789 Gp789 V789 U789 VR_790 E_rr_790 hi3 hkb hW qa qb qc qd qe qf qg qh qi) hZ (hw _ (List.mem_of_getElem? (i := 45) rfl)) (hw _ (List.mem_of_getElem? (i := 19) rfl)) (by decide) (by decide)) q792a q792c (g := (mkF m 332 #[vI p1, vI p2, vI p3, vJ q4, .second, vJ q5, .second, vI p6, vI ua, vI ub, vI uc, vI su, vI sv, vI sw, vI ku, vI kv, vI kw, vI (own_pp p6), vI (own_t0 p6), vI (own_low (own_t0 p6)), vI (own_hig (own_t0 p6)), vI (own_t1 p6), vI (own_t2 p6), vR mm, vR rr, vD d781, .second, vD d783, .second, vD d785, .second, vR ob, .unset] [(.ref rr), (.ref ob)])) rfl (by rw [hml]; rfl) (Steps.refl _) (argsL := [(.ref rr)]) (rest := []) (lenOf pd_6 rfl) rfl (by show 2 * 0 + _ ≤ _; exact Nat.le_of_eq rfl) (hb hby at_332) (fun _ _ => ⟨rfl, rfl, (by decide : 4 + 1 ≤ _), (by decide : 18 + 3 ≤ _)⟩)
  dsimp only [Pt.U, Pt.locs, Pt.cells, Pt.slots] at X792 l792 y792 z792 st792 hQ792
  rw [l792, y792, z792] at X792
  obtain ⟨nw, rfl, N792q, sz_nw, K792, V792⟩ := hQ792
  have N792 := Fr.app N789 N792q
  have g_nw : n0 ≤ nw := Nat.le_trans Zs790 sz_nw
  have ne_rr_nw : rr ≠ nw := Nat.ne_of_lt (Nat.lt_of_lt_of_le E_rr_790.lt sz_nw)
  have ne_ob_nw : ob ≠ nw := Nat.ne_of_lt (Nat.lt_of_lt_of_le Gs789.lt sz_nw)
  have ne_mm_nw : mm ≠ nw := Nat.ne_of_lt (Nat.lt_of_lt_of_le V789.lt sz_nw)
  have ne_pv_nw : pv ≠ nw := Nat.ne_of_lt (Nat.lt_of_lt_of_le U789.lt sz_nw)
  have E_rr_793 := E_rr_790.keep K792
  have VR_793 := VR_790.keep K792 own_notin0
  have Fs_793 := Gs789.keep K792 own_notin0
  have Fl_793 := Gl789.keep K792 own_notin0
  have Fp_793 := Gp789.keep K792 own_notin0
  have E_ob_793 := Ex789.keep K792
  have VL_793 := V789.keep K792 own_notin0
  have VP_793 := U789.keep K792 own_notin0
  clear E_rr_790 VR_790
  have Zs793 : n0 ≤ T792.heap.size := Nat.le_trans Zs790 K792.1
  have R794 : ∀ tg, Steps p.tables e below (T792.setTop (mkF m 341 #[vI p1, vI p2, vI p3, vJ q4, .second, vJ q5, .second, vI p6, vI ua, vI ub, vI uc, vI su, vI sv, vI sw, vI ku, vI kv, vI kw, vI (own_pp p6), vI (own_t0 p6), vI (own_low (own_t0 p6)), vI (own_hig (own_t0 p6)), vI (own_t1 p6), vI (own_t2 p6), vR mm, vR rr, vD d781, .second, vD d783, .second, vD d785, .second, vR ob, vR nw] [(.ref rr), (.ref nw)])) tg → Steps p.tables e below (s₁.setTop (mkF m 0 #[vI p1, vI p2, vI p3, vJ q4, .second, vJ q5, .second, vI p6, .unset, .unset, .unset, .unset, .unset, .unset, .unset, .unset, .unset, .unset, .unset, .unset, .unset, .unset, .unset, .unset, .unset, .unset, .unset, .unset, .unset, .unset, .unset, .unset, .unset] [])) tg := by
    intro tg kt
    refine R791 _ ?_
    refine st792.trans ?_
    show Steps p.tables e below (T792.setTop (mkF m 335 #[vI p1, vI p2, vI p3, vJ q4, .second, vJ q5, .second, vI p6, vI ua, vI ub, vI uc, vI su, vI sv, vI sw, vI ku, vI kv, vI kw, vI (own_pp p6), vI (own_t0 p6), vI (own_low (own_t0 p6)), vI (own_hig (own_t0 p6)), vI (own_t1 p6), vI (own_t2 p6), vR mm, vR rr, vD d781, .second, vD d783, .second, vD d785, .second, vR ob, .unset] [(.ref nw)])) _
    refine XS.astore X792.here hx rfl (hb hby at_335) rfl rfl (l' := #[vI p1, vI p2, vI p3, vJ q4, .second, vJ q5, .second, vI p6, vI ua, vI ub, vI uc, vI su, vI sv, vI sw, vI ku, vI kv, vI kw, vI (own_pp p6), vI (own_t0 p6), vI (own_low (own_t0 p6)), vI (own_hig (own_t0 p6)), vI (own_t1 p6), vI (own_t2 p6), vR mm, vR rr, vD d781, .second, vD d783, .second, vD d785, .second, vR ob, vR nw]) rfl ?_
    refine XS.aload X792.here hx rfl (hb hby at_337) rfl rfl ?_
    refine XS.aload X792.here hx rfl (hb hby at_339) rfl rfl ?_
    exact kt
  clear R791 st792
  have R795 : ∀ tg, Steps p.tables e below (T792.setTop (mkF m 346 #[vI p1, vI p2, vI p3, vJ q4, .second, vJ q5, .second, vI p6, vI ua, vI ub, vI uc, vI su, vI sv, vI sw, vI ku, vI kv, vI kw, vI (own_pp p6), vI (own_t0 p6), vI (own_low (own_t0 p6)), vI (own_hig (own_t0 p6)), vI (own_t1 p6), vI (own_t2 p6), vR mm, vR rr, vD d781, .second, vD d783, .second, vD d785, .second, vR ob, vR nw] [(.ref nw)])) tg → Steps p.tables e below (s₁.setTop (mkF m 0 #[vI p1, vI p2, vI p3, vJ q4, .second, vJ q5, .second, vI p6, .unset, .unset, .unset, .unset, .unset, .unset, .unset, .unset, .unset, .unset, .unset, .unset, .unset, .unset, .unset, .unset, .unset, .unset, .unset, .unset, .unset, .unset, .unset, .unset, .unset] [])) tg := by
    intro tg kt
    refine R794 _ ?_
    show Steps p.tables e below (T792.setTop (mkF m 341 #[vI p1, vI p2, vI p3, vJ q4, .second, vJ q5, .second, vI p6, vI ua, vI ub, vI uc, vI su, vI sv, vI sw, vI ku, vI kv, vI kw, vI (own_pp p6), vI (own_t0 p6), vI (own_low (own_t0 p6)), vI (own_hig (own_t0 p6)), vI (own_t1 p6), vI (own_t2 p6), vR mm, vR rr, vD d781, .second, vD d783, .second, vD d785, .second, vR ob, vR nw] [(.ref rr), (.ref nw)])) _
    refine Jvm.RoadKit.acmp (g := (mkF m 341 #[vI p1, vI p2, vI p3, vJ q4, .second, vJ q5, .second, vI p6, vI ua, vI ub, vI uc, vI su, vI sv, vI sw, vI ku, vI kv, vI kw, vI (own_pp p6), vI (own_t0 p6), vI (own_low (own_t0 p6)), vI (own_hig (own_t0 p6)), vI (own_t1 p6), vI (own_t2 p6), vR mm, vR rr, vD d781, .second, vD d783, .second, vD d785, .second, vR ob, vR nw] [(.ref rr), (.ref nw)])) X792 hx rfl rfl rfl (pc0 := 341) (pc' := 344) (same := false) rfl (hb hby at_341) rfl (decide_eq_false fun q => (Ne.symm ne_rr_nw) (Value.ref.inj q)) (by decide) (by decide) ?_
    refine XS.aload X792.here hx rfl (hb hby at_344) rfl rfl ?_
    exact kt
  clear R794
  obtain ⟨cl796, Ar796, ln796⟩ := V792.len
  have R797 : ∀ tg, Steps p.tables e below (T792.setTop (mkF m 354 #[vI p1, vI p2, vI p3, vJ q4, .second, vJ q5, .second, vI p6, vI ua, vI ub, vI uc, vI su, vI sv, vI sw, vI ku, vI kv, vI kw, vI (own_pp p6), vI (own_t0 p6), vI (own_low (own_t0 p6)), vI (own_hig (own_t0 p6)), vI (own_t1 p6), vI (own_t2 p6), vR mm, vR rr, vD d781, .second, vD d783, .second, vD d785, .second, vR ob, vR nw] [(.int (0 : Int32)), (.ref nw)])) tg → Steps p.tables e below (s₁.setTop (mkF m 0 #[vI p1, vI p2, vI p3, vJ q4, .second, vJ q5, .second, vI p6, .unset, .unset, .unset, .unset, .unset, .unset, .unset, .unset, .unset, .unset, .unset, .unset, .unset, .unset, .unset, .unset, .unset, .unset, .unset, .unset, .unset, .unset, .unset, .unset, .unset] [])) tg := by
    intro tg kt
    refine R795 _ ?_
    show Steps p.tables e below (T792.setTop (mkF m 346 #[vI p1, vI p2, vI p3, vJ q4, .second, vJ q5, .second, vI p6, vI ua, vI ub, vI uc, vI su, vI sv, vI sw, vI ku, vI kv, vI kw, vI (own_pp p6), vI (own_t0 p6), vI (own_low (own_t0 p6)), vI (own_hig (own_t0 p6)), vI (own_t1 p6), vI (own_t2 p6), vR mm, vR rr, vD d781, .second, vD d783, .second, vD d785, .second, vR ob, vR nw] [(.ref nw)])) _
    refine X792.arraylength hx Ar796.1 (State.isArrayOf_alike hZ.alike Ar796.2.1) (g := (mkF m 346 #[vI p1, vI p2, vI p3, vJ q4, .second, vJ q5, .second, vI p6, vI ua, vI ub, vI uc, vI su, vI sv, vI sw, vI ku, vI kv, vI kw, vI (own_pp p6), vI (own_t0 p6), vI (own_low (own_t0 p6)), vI (own_hig (own_t0 p6)), vI (own_t1 p6), vI (own_t2 p6), vR mm, vR rr, vD d781, .second, vD d783, .second, vD d785, .second, vR ob, vR nw] [(.ref nw)])) rfl rfl (hb hby at_346) _ ?_
    rw [ln796]
    show Steps p.tables e below (T792.setTop (mkF m 347 #[vI p1, vI p2, vI p3, vJ q4, .second, vJ q5, .second, vI p6, vI ua, vI ub, vI uc, vI su, vI sv, vI sw, vI ku, vI kv, vI kw, vI (own_pp p6), vI (own_t0 p6), vI (own_low (own_t0 p6)), vI (own_hig (own_t0 p6)), vI (own_t1 p6), vI (own_t2 p6), vR mm, vR rr, vD d781, .second, vD d783, .second, vD d785, .second, vR ob, vR nw] [(.int (3 : Int32))])) _
    refine XS.iconst X792.here hx rfl (hb hby at_347) ?_
    show Steps p.tables e below (T792.setTop (mkF m 348 #[vI p1, vI p2, vI p3, vJ q4, .second, vJ q5, .second, vI p6, vI ua, vI ub, vI uc, vI su, vI sv, vI sw, vI ku, vI kv, vI kw, vI (own_pp p6), vI (own_t0 p6), vI (own_low (own_t0 p6)), vI (own_hig (own_t0 p6)), vI (own_t1 p6), vI (own_t2 p6), vR mm, vR rr, vD d781, .second, vD d783, .second, vD d785, .second, vR ob, vR nw] [(.int (3 : Int32)), (.int (3 : Int32))])) _
    refine XS.icmpNo X792.here hx rfl (hb hby at_348) rfl (teq (rfl : (3 : Int32) = (3 : Int32))).2 ?_
    refine XS.aload X792.here hx rfl (hb hby at_351) rfl rfl ?_
    refine XS.iconst X792.here hx rfl (hb hby at_353) ?_
    exact kt
  clear R795
  obtain ⟨cl798, d798, Ar798, hin798, hat798, G798⟩ := V792.at (j := (0 : Int32)) (k := 0) (by decide) rfl (by decide)
  have H798 : DR 2 (p1.toInt * 4) d798 := G798
  have R799 : ∀ tg, Steps p.tables e below (T792.setTop (mkF m 357 #[vI p1, vI p2, vI p3, vJ q4, .second, vJ q5, .second, vI p6, vI ua, vI ub, vI uc, vI su, vI sv, vI sw, vI ku, vI kv, vI kw, vI (own_pp p6), vI (own_t0 p6), vI (own_low (own_t0 p6)), vI (own_hig (own_t0 p6)), vI (own_t1 p6), vI (own_t2 p6), vR mm, vR rr, vD d781, .second, vD d783, .second, vD d785, .second, vR ob, vR nw] [(.double (Jvm.FP.i2d p1)), (.double d798)])) tg → Steps p.tables e below (s₁.setTop (mkF m 0 #[vI p1, vI p2, vI p3, vJ q4, .second, vJ q5, .second, vI p6, .unset, .unset, .unset, .unset, .unset, .unset, .unset, .unset, .unset, .unset, .unset, .unset, .unset, .unset, .unset, .unset, .unset, .unset, .unset, .unset, .unset, .unset, .unset, .unset, .unset] [])) tg := by
    intro tg kt
    refine R797 _ ?_
    show Steps p.tables e below (T792.setTop (mkF m 354 #[vI p1, vI p2, vI p3, vJ q4, .second, vJ q5, .second, vI p6, vI ua, vI ub, vI uc, vI su, vI sv, vI sw, vI ku, vI kv, vI kw, vI (own_pp p6), vI (own_t0 p6), vI (own_low (own_t0 p6)), vI (own_hig (own_t0 p6)), vI (own_t1 p6), vI (own_t2 p6), vR mm, vR rr, vD d781, .second, vD d783, .second, vD d785, .second, vR ob, vR nw] [(.int (0 : Int32)), (.ref nw)])) _
    refine X792.daload hx (j := (0 : Int32)) (v := (.double d798)) Ar798.1 (State.isArrayOf_alike hZ.alike Ar798.2.1) Ar798.2.2 hin798 hat798 (g := (mkF m 354 #[vI p1, vI p2, vI p3, vJ q4, .second, vJ q5, .second, vI p6, vI ua, vI ub, vI uc, vI su, vI sv, vI sw, vI ku, vI kv, vI kw, vI (own_pp p6), vI (own_t0 p6), vI (own_low (own_t0 p6)), vI (own_hig (own_t0 p6)), vI (own_t1 p6), vI (own_t2 p6), vR mm, vR rr, vD d781, .second, vD d783, .second, vD d785, .second, vR ob, vR nw] [(.int (0 : Int32)), (.ref nw)])) rfl rfl (hb hby at_354) _ ?_
    refine XS.iloadN X792.here hx rfl (hb hby at_355) rfl ?_
    show Steps p.tables e below (T792.setTop (mkF m 356 #[vI p1, vI p2, vI p3, vJ q4, .second, vJ q5, .second, vI p6, vI ua, vI ub, vI uc, vI su, vI sv, vI sw, vI ku, vI kv, vI kw, vI (own_pp p6), vI (own_t0 p6), vI (own_low (own_t0 p6)), vI (own_hig (own_t0 p6)), vI (own_t1 p6), vI (own_t2 p6), vR mm, vR rr, vD d781, .second, vD d783, .second, vD d785, .second, vR ob, vR nw] [(.int p1), (.double d798)])) _
    refine XS.i2dS X792.here hx rfl (hb hby at_356) rfl rfl ?_
    exact kt
  clear R797
  have R800 : ∀ tg, Steps p.tables e below (T792.setTop (mkF m 364 #[vI p1, vI p2, vI p3, vJ q4, .second, vJ q5, .second, vI p6, vI ua, vI ub, vI uc, vI su, vI sv, vI sw, vI ku, vI kv, vI kw, vI (own_pp p6), vI (own_t0 p6), vI (own_low (own_t0 p6)), vI (own_hig (own_t0 p6)), vI (own_t1 p6), vI (own_t2 p6), vR mm, vR rr, vD d781, .second, vD d783, .second, vD d785, .second, vR ob, vR nw] [(.int (1 : Int32)), (.ref nw)])) tg → Steps p.tables e below (s₁.setTop (mkF m 0 #[vI p1, vI p2, vI p3, vJ q4, .second, vJ q5, .second, vI p6, .unset, .unset, .unset, .unset, .unset, .unset, .unset, .unset, .unset, .unset, .unset, .unset, .unset, .unset, .unset, .unset, .unset, .unset, .unset, .unset, .unset, .unset, .unset, .unset, .unset] [])) tg := by
    intro tg kt
    refine R799 _ ?_
    show Steps p.tables e below (T792.setTop (mkF m 357 #[vI p1, vI p2, vI p3, vJ q4, .second, vJ q5, .second, vI p6, vI ua, vI ub, vI uc, vI su, vI sv, vI sw, vI ku, vI kv, vI kw, vI (own_pp p6), vI (own_t0 p6), vI (own_low (own_t0 p6)), vI (own_hig (own_t0 p6)), vI (own_t1 p6), vI (own_t2 p6), vR mm, vR rr, vD d781, .second, vD d783, .second, vD d785, .second, vR ob, vR nw] [(.double (Jvm.FP.i2d p1)), (.double d798)])) _
    refine XS.dcmpS X792.here hx rfl (hb hby at_357) rfl (own_cvl H798 (own_up2 (DR.i2d p1)) _) ?_
    show Steps p.tables e below (T792.setTop (mkF m 358 #[vI p1, vI p2, vI p3, vJ q4, .second, vJ q5, .second, vI p6, vI ua, vI ub, vI uc, vI su, vI sv, vI sw, vI ku, vI kv, vI kw, vI (own_pp p6), vI (own_t0 p6), vI (own_low (own_t0 p6)), vI (own_hig (own_t0 p6)), vI (own_t1 p6), vI (own_t2 p6), vR mm, vR rr, vD d781, .second, vD d783, .second, vD d785, .second, vR ob, vR nw] [(.int (own_cv (p1.toInt * 4) (p1.toInt * 4)))])) _
    refine XS.ifNo X792.here hx rfl (hb hby at_358) rfl ((if0 _ _).trans (teq (own_eq0 rfl : (own_cv (p1.toInt * 4) (p1.toInt * 4)) = (0 : Int32))).2) ?_
    refine XS.aload X792.here hx rfl (hb hby at_361) rfl rfl ?_
    refine XS.iconst X792.here hx rfl (hb hby at_363) ?_
    exact kt
  clear R799
  obtain ⟨cl801, d801, Ar801, hin801, hat801, G801⟩ := V792.at (j := (1 : Int32)) (k := 1) (by decide) rfl (by decide)
  have H801 : DR 2 (p2.toInt * 4) d801 := G801
  have R802 : ∀ tg, Steps p.tables e below (T792.setTop (mkF m 367 #[vI p1, vI p2, vI p3, vJ q4, .second, vJ q5, .second, vI p6, vI ua, vI ub, vI uc, vI su, vI sv, vI sw, vI ku, vI kv, vI kw, vI (own_pp p6), vI (own_t0 p6), vI (own_low (own_t0 p6)), vI (own_hig (own_t0 p6)), vI (own_t1 p6), vI (own_t2 p6), vR mm, vR rr, vD d781, .second, vD d783, .second, vD d785, .second, vR ob, vR nw] [(.double (Jvm.FP.i2d p2)), (.double d801)])) tg → Steps p.tables e below (s₁.setTop (mkF m 0 #[vI p1, vI p2, vI p3, vJ q4, .second, vJ q5, .second, vI p6, .unset, .unset, .unset, .unset, .unset, .unset, .unset, .unset, .unset, .unset, .unset, .unset, .unset, .unset, .unset, .unset, .unset, .unset, .unset, .unset, .unset, .unset, .unset, .unset, .unset] [])) tg := by
    intro tg kt
    refine R800 _ ?_
    show Steps p.tables e below (T792.setTop (mkF m 364 #[vI p1, vI p2, vI p3, vJ q4, .second, vJ q5, .second, vI p6, vI ua, vI ub, vI uc, vI su, vI sv, vI sw, vI ku, vI kv, vI kw, vI (own_pp p6), vI (own_t0 p6), vI (own_low (own_t0 p6)), vI (own_hig (own_t0 p6)), vI (own_t1 p6), vI (own_t2 p6), vR mm, vR rr, vD d781, .second, vD d783, .second, vD d785, .second, vR ob, vR nw] [(.int (1 : Int32)), (.ref nw)])) _
    refine X792.daload hx (j := (1 : Int32)) (v := (.double d801)) Ar801.1 (State.isArrayOf_alike hZ.alike Ar801.2.1) Ar801.2.2 hin801 hat801 (g := (mkF m 364 #[vI p1, vI p2, vI p3, vJ q4, .second, vJ q5, .second, vI p6, vI ua, vI ub, vI uc, vI su, vI sv, vI sw, vI ku, vI kv, vI kw, vI (own_pp p6), vI (own_t0 p6), vI (own_low (own_t0 p6)), vI (own_hig (own_t0 p6)), vI (own_t1 p6), vI (own_t2 p6), vR mm, vR rr, vD d781, .second, vD d783, .second, vD d785, .second, vR ob, vR nw] [(.int (1 : Int32)), (.ref nw)])) rfl rfl (hb hby at_364) _ ?_
    refine XS.iloadN X792.here hx rfl (hb hby at_365) rfl ?_
    show Steps p.tables e below (T792.setTop (mkF m 366 #[vI p1, vI p2, vI p3, vJ q4, .second, vJ q5, .second, vI p6, vI ua, vI ub, vI uc, vI su, vI sv, vI sw, vI ku, vI kv, vI kw, vI (own_pp p6), vI (own_t0 p6), vI (own_low (own_t0 p6)), vI (own_hig (own_t0 p6)), vI (own_t1 p6), vI (own_t2 p6), vR mm, vR rr, vD d781, .second, vD d783, .second, vD d785, .second, vR ob, vR nw] [(.int p2), (.double d801)])) _
    refine XS.i2dS X792.here hx rfl (hb hby at_366) rfl rfl ?_
    exact kt
  clear R800
  have R803 : ∀ tg, Steps p.tables e below (T792.setTop (mkF m 374 #[vI p1, vI p2, vI p3, vJ q4, .second, vJ q5, .second, vI p6, vI ua, vI ub, vI uc, vI su, vI sv, vI sw, vI ku, vI kv, vI kw, vI (own_pp p6), vI (own_t0 p6), vI (own_low (own_t0 p6)), vI (own_hig (own_t0 p6)), vI (own_t1 p6), vI (own_t2 p6), vR mm, vR rr, vD d781, .second, vD d783, .second, vD d785, .second, vR ob, vR nw] [(.int (2 : Int32)), (.ref nw)])) tg → Steps p.tables e below (s₁.setTop (mkF m 0 #[vI p1, vI p2, vI p3, vJ q4, .second, vJ q5, .second, vI p6, .unset, .unset, .unset, .unset, .unset, .unset, .unset, .unset, .unset, .unset, .unset, .unset, .unset, .unset, .unset, .unset, .unset, .unset, .unset, .unset, .unset, .unset, .unset, .unset, .unset] [])) tg := by
    intro tg kt
    refine R802 _ ?_
    show Steps p.tables e below (T792.setTop (mkF m 367 #[vI p1, vI p2, vI p3, vJ q4, .second, vJ q5, .second, vI p6, vI ua, vI ub, vI uc, vI su, vI sv, vI sw, vI ku, vI kv, vI kw, vI (own_pp p6), vI (own_t0 p6), vI (own_low (own_t0 p6)), vI (own_hig (own_t0 p6)), vI (own_t1 p6), vI (own_t2 p6), vR mm, vR rr, vD d781, .second, vD d783, .second, vD d785, .second, vR ob, vR nw] [(.double (Jvm.FP.i2d p2)), (.double d801)])) _
    refine XS.dcmpS X792.here hx rfl (hb hby at_367) rfl (own_cvl H801 (own_up2 (DR.i2d p2)) _) ?_
    show Steps p.tables e below (T792.setTop (mkF m 368 #[vI p1, vI p2, vI p3, vJ q4, .second, vJ q5, .second, vI p6, vI ua, vI ub, vI uc, vI su, vI sv, vI sw, vI ku, vI kv, vI kw, vI (own_pp p6), vI (own_t0 p6), vI (own_low (own_t0 p6)), vI (own_hig (own_t0 p6)), vI (own_t1 p6), vI (own_t2 p6), vR mm, vR rr, vD d781, .second, vD d783, .second, vD d785, .second, vR ob, vR nw] [(.int (own_cv (p2.toInt * 4) (p2.toInt * 4)))])) _
    refine XS.ifNo X792.here hx rfl (hb hby at_368) rfl ((if0 _ _).trans (teq (own_eq0 rfl : (own_cv (p2.toInt * 4) (p2.toInt * 4)) = (0 : Int32))).2) ?_
    refine XS.aload X792.here hx rfl (hb hby at_371) rfl rfl ?_
    refine XS.iconst X792.here hx rfl (hb hby at_373) ?_
    exact kt
  clear R802
  obtain ⟨cl804, d804, Ar804, hin804, hat804, G804⟩ := V792.at (j := (2 : Int32)) (k := 2) (by decide) rfl (by decide)
  have H804 : DR 2 (p3.toInt * 4) d804 := G804
  have R805 : ∀ tg, Steps p.tables e below (T792.setTop (mkF m 377 #[vI p1, vI p2, vI p3, vJ q4, .second, vJ q5, .second, vI p6, vI ua, vI ub, vI uc, vI su, vI sv, vI sw, vI ku, vI kv, vI kw, vI (own_pp p6), vI (own_t0 p6), vI (own_low (own_t0 p6)), vI (own_hig (own_t0 p6)), vI (own_t1 p6), vI (own_t2 p6), vR mm, vR rr, vD d781, .second, vD d783, .second, vD d785, .second, vR ob, vR nw] [(.double (Jvm.FP.i2d p3)), (.double d804)])) tg → Steps p.tables e below (s₁.setTop (mkF m 0 #[vI p1, vI p2, vI p3, vJ q4, .second, vJ q5, .second, vI p6, .unset, .unset, .unset, .unset, .unset, .unset, .unset, .unset, .unset, .unset, .unset, .unset, .unset, .unset, .unset, .unset, .unset, .unset, .unset, .unset, .unset, .unset, .unset, .unset, .unset] [])) tg := by
    intro tg kt
    refine R803 _ ?_
    show Steps p.tables e below (T792.setTop (mkF m 374 #[vI p1, vI p2, vI p3, vJ q4, .second, vJ q5, .second, vI p6, vI ua, vI ub, vI uc, vI su, vI sv, vI sw, vI ku, vI kv, vI kw, vI (own_pp p6), vI (own_t0 p6), vI (own_low (own_t0 p6)), vI (own_hig (own_t0 p6)), vI (own_t1 p6), vI (own_t2 p6), vR mm, vR rr, vD d781, .second, vD d783, .second, vD d785, .second, vR ob, vR nw] [(.int (2 : Int32)), (.ref nw)])) _
    refine X792.daload hx (j := (2 : Int32)) (v := (.double d804)) Ar804.1 (State.isArrayOf_alike hZ.alike Ar804.2.1) Ar804.2.2 hin804 hat804 (g := (mkF m 374 #[vI p1, vI p2, vI p3, vJ q4, .second, vJ q5, .second, vI p6, vI ua, vI ub, vI uc, vI su, vI sv, vI sw, vI ku, vI kv, vI kw, vI (own_pp p6), vI (own_t0 p6), vI (own_low (own_t0 p6)), vI (own_hig (own_t0 p6)), vI (own_t1 p6), vI (own_t2 p6), vR mm, vR rr, vD d781, .second, vD d783, .second, vD d785, .second, vR ob, vR nw] [(.int (2 : Int32)), (.ref nw)])) rfl rfl (hb hby at_374) _ ?_
    refine XS.iloadN X792.here hx rfl (hb hby at_375) rfl ?_
    show Steps p.tables e below (T792.setTop (mkF m 376 #[vI p1, vI p2, vI p3, vJ q4, .second, vJ q5, .second, vI p6, vI ua, vI ub, vI uc, vI su, vI sv, vI sw, vI ku, vI kv, vI kw, vI (own_pp p6), vI (own_t0 p6), vI (own_low (own_t0 p6)), vI (own_hig (own_t0 p6)), vI (own_t1 p6), vI (own_t2 p6), vR mm, vR rr, vD d781, .second, vD d783, .second, vD d785, .second, vR ob, vR nw] [(.int p3), (.double d804)])) _
    refine XS.i2dS X792.here hx rfl (hb hby at_376) rfl rfl ?_
    exact kt
  clear R803
  have R806 : ∀ tg, Steps p.tables e below (T792.setTop (mkF m 384 #[vI p1, vI p2, vI p3, vJ q4, .second, vJ q5, .second, vI p6, vI ua, vI ub, vI uc, vI su, vI sv, vI sw, vI ku, vI kv, vI kw, vI (own_pp p6), vI (own_t0 p6), vI (own_low (own_t0 p6)), vI (own_hig (own_t0 p6)), vI (own_t1 p6), vI (own_t2 p6), vR mm, vR rr, vD d781, .second, vD d783, .second, vD d785, .second, vR ob, vR nw] [(.int (0 : Int32)), (.ref rr)])) tg → Steps p.tables e below (s₁.setTop (mkF m 0 #[vI p1, vI p2, vI p3, vJ q4, .second, vJ q5, .second, vI p6, .unset, .unset, .unset, .unset, .unset, .unset, .unset, .unset, .unset, .unset, .unset, .unset, .unset, .unset, .unset, .unset, .unset, .unset, .unset, .unset, .unset, .unset, .unset, .unset, .unset] [])) tg := by
    intro tg kt
    refine R805 _ ?_
    show Steps p.tables e below (T792.setTop (mkF m 377 #[vI p1, vI p2, vI p3, vJ q4, .second, vJ q5, .second, vI p6, vI ua, vI ub, vI uc, vI su, vI sv, vI sw, vI ku, vI kv, vI kw, vI (own_pp p6), vI (own_t0 p6), vI (own_low (own_t0 p6)), vI (own_hig (own_t0 p6)), vI (own_t1 p6), vI (own_t2 p6), vR mm, vR rr, vD d781, .second, vD d783, .second, vD d785, .second, vR ob, vR nw] [(.double (Jvm.FP.i2d p3)), (.double d804)])) _
    refine XS.dcmpS X792.here hx rfl (hb hby at_377) rfl (own_cvl H804 (own_up2 (DR.i2d p3)) _) ?_
    show Steps p.tables e below (T792.setTop (mkF m 378 #[vI p1, vI p2, vI p3, vJ q4, .second, vJ q5, .second, vI p6, vI ua, vI ub, vI uc, vI su, vI sv, vI sw, vI ku, vI kv, vI kw, vI (own_pp p6), vI (own_t0 p6), vI (own_low (own_t0 p6)), vI (own_hig (own_t0 p6)), vI (own_t1 p6), vI (own_t2 p6), vR mm, vR rr, vD d781, .second, vD d783, .second, vD d785, .second, vR ob, vR nw] [(.int (own_cv (p3.toInt * 4) (p3.toInt * 4)))])) _
    refine XS.ifNo X792.here hx rfl (hb hby at_378) rfl ((if0 _ _).trans (teq (own_eq0 rfl : (own_cv (p3.toInt * 4) (p3.toInt * 4)) = (0 : Int32))).2) ?_
    refine XS.aload X792.here hx rfl (hb hby at_381) rfl rfl ?_
    refine XS.iconst X792.here hx rfl (hb hby at_383) ?_
    exact kt
  clear R805
  obtain ⟨cl807, d807, Ar807, hin807, hat807, G807⟩ := VR_793.at (j := (0 : Int32)) (k := 0) (by decide) rfl (by decide)
  have H807 : DR 2 r0 d807 := G807
  have R808 : ∀ tg, Steps p.tables e below (T792.setTop (mkF m 387 #[vI p1, vI p2, vI p3, vJ q4, .second, vJ q5, .second, vI p6, vI ua, vI ub, vI uc, vI su, vI sv, vI sw, vI ku, vI kv, vI kw, vI (own_pp p6), vI (own_t0 p6), vI (own_low (own_t0 p6)), vI (own_hig (own_t0 p6)), vI (own_t1 p6), vI (own_t2 p6), vR mm, vR rr, vD d781, .second, vD d783, .second, vD d785, .second, vR ob, vR nw] [(.double d781), (.double d807)])) tg → Steps p.tables e below (s₁.setTop (mkF m 0 #[vI p1, vI p2, vI p3, vJ q4, .second, vJ q5, .second, vI p6, .unset, .unset, .unset, .unset, .unset, .unset, .unset, .unset, .unset, .unset, .unset, .unset, .unset, .unset, .unset, .unset, .unset, .unset, .unset, .unset, .unset, .unset, .unset, .unset, .unset] [])) tg := by
    intro tg kt
    refine R806 _ ?_
    show Steps p.tables e below (T792.setTop (mkF m 384 #[vI p1, vI p2, vI p3, vJ q4, .second, vJ q5, .second, vI p6, vI ua, vI ub, vI uc, vI su, vI sv, vI sw, vI ku, vI kv, vI kw, vI (own_pp p6), vI (own_t0 p6), vI (own_low (own_t0 p6)), vI (own_hig (own_t0 p6)), vI (own_t1 p6), vI (own_t2 p6), vR mm, vR rr, vD d781, .second, vD d783, .second, vD d785, .second, vR ob, vR nw] [(.int (0 : Int32)), (.ref rr)])) _
    refine X792.daload hx (j := (0 : Int32)) (v := (.double d807)) Ar807.1 (State.isArrayOf_alike hZ.alike Ar807.2.1) Ar807.2.2 hin807 hat807 (g := (mkF m 384 #[vI p1, vI p2, vI p3, vJ q4, .second, vJ q5, .second, vI p6, vI ua, vI ub, vI uc, vI su, vI sv, vI sw, vI ku, vI kv, vI kw, vI (own_pp p6), vI (own_t0 p6), vI (own_low (own_t0 p6)), vI (own_hig (own_t0 p6)), vI (own_t1 p6), vI (own_t2 p6), vR mm, vR rr, vD d781, .second, vD d783, .second, vD d785, .second, vR ob, vR nw] [(.int (0 : Int32)), (.ref rr)])) rfl rfl (hb hby at_384) _ ?_
    show Steps p.tables e below (T792.setTop (mkF m 385 #[vI p1, vI p2, vI p3, vJ q4, .second, vJ q5, .second, vI p6, vI ua, vI ub, vI uc, vI su, vI sv, vI sw, vI ku, vI kv, vI kw, vI (own_pp p6), vI (own_t0 p6), vI (own_low (own_t0 p6)), vI (own_hig (own_t0 p6)), vI (own_t1 p6), vI (own_t2 p6), vR mm, vR rr, vD d781, .second, vD d783, .second, vD d785, .second, vR ob, vR nw] [(.double d807)])) _
    refine XS.dload X792.here hx rfl (hb hby at_385) rfl ?_
    exact kt
  clear R806
  have R809 : ∀ tg, Steps p.tables e below (T792.setTop (mkF m 394 #[vI p1, vI p2, vI p3, vJ q4, .second, vJ q5, .second, vI p6, vI ua, vI ub, vI uc, vI su, vI sv, vI sw, vI ku, vI kv, vI kw, vI (own_pp p6), vI (own_t0 p6), vI (own_low (own_t0 p6)), vI (own_hig (own_t0 p6)), vI (own_t1 p6), vI (own_t2 p6), vR mm, vR rr, vD d781, .second, vD d783, .second, vD d785, .second, vR ob, vR nw] [(.int (1 : Int32)), (.ref rr)])) tg → Steps p.tables e below (s₁.setTop (mkF m 0 #[vI p1, vI p2, vI p3, vJ q4, .second, vJ q5, .second, vI p6, .unset, .unset, .unset, .unset, .unset, .unset, .unset, .unset, .unset, .unset, .unset, .unset, .unset, .unset, .unset, .unset, .unset, .unset, .unset, .unset, .unset, .unset, .unset, .unset, .unset] [])) tg := by
    intro tg kt
    refine R808 _ ?_
    show Steps p.tables e below (T792.setTop (mkF m 387 #[vI p1, vI p2, vI p3, vJ q4, .second, vJ q5, .second, vI p6, vI ua, vI ub, vI uc, vI su, vI sv, vI sw, vI ku, vI kv, vI kw, vI (own_pp p6), vI (own_t0 p6), vI (own_low (own_t0 p6)), vI (own_hig (own_t0 p6)), vI (own_t1 p6), vI (own_t2 p6), vR mm, vR rr, vD d781, .second, vD d783, .second, vD d785, .second, vR ob, vR nw] [(.double d781), (.double d807)])) _
    refine XS.dcmpS X792.here hx rfl (hb hby at_387) rfl (own_cvl H807 H781 _) ?_
    show Steps p.tables e below (T792.setTop (mkF m 388 #[vI p1, vI p2, vI p3, vJ q4, .second, vJ q5, .second, vI p6, vI ua, vI ub, vI uc, vI su, vI sv, vI sw, vI ku, vI kv, vI kw, vI (own_pp p6), vI (own_t0 p6), vI (own_low (own_t0 p6)), vI (own_hig (own_t0 p6)), vI (own_t1 p6), vI (own_t2 p6), vR mm, vR rr, vD d781, .second, vD d783, .second, vD d785, .second, vR ob, vR nw] [(.int (own_cv r0 r0))])) _
    refine XS.ifNo X792.here hx rfl (hb hby at_388) rfl ((if0 _ _).trans (teq (own_eq0 rfl : (own_cv r0 r0) = (0 : Int32))).2) ?_
    refine XS.aload X792.here hx rfl (hb hby at_391) rfl rfl ?_
    refine XS.iconst X792.here hx rfl (hb hby at_393) ?_
    exact kt
  clear R808
  obtain ⟨cl810, d810, Ar810, hin810, hat810, G810⟩ := VR_793.at (j := (1 : Int32)) (k := 1) (by decide) rfl (by decide)
  have H810 : DR 2 r1 d810 := G810
  have R811 : ∀ tg, Steps p.tables e below (T792.setTop (mkF m 397 #[vI p1, vI p2, vI p3, vJ q4, .second, vJ q5, .second, vI p6, vI ua, vI ub, vI uc, vI su, vI sv, vI sw, vI ku, vI kv, vI kw, vI (own_pp p6), vI (own_t0 p6), vI (own_low (own_t0 p6)), vI (own_hig (own_t0 p6)), vI (own_t1 p6), vI (own_t2 p6), vR mm, vR rr, vD d781, .second, vD d783, .second, vD d785, .second, vR ob, vR nw] [(.double d783), (.double d810)])) tg → Steps p.tables e below (s₁.setTop (mkF m 0 #[vI p1, vI p2, vI p3, vJ q4, .second, vJ q5, .second, vI p6, .unset, .unset, .unset, .unset, .unset, .unset, .unset, .unset, .unset, .unset, .unset, .unset, .unset, .unset, .unset, .unset, .unset, .unset, .unset, .unset, .unset, .unset, .unset, .unset, .unset] [])) tg := by
    intro tg kt
    refine R809 _ ?_
    show Steps p.tables e below (T792.setTop (mkF m 394 #[vI p1, vI p2, vI p3, vJ q4, .second, vJ q5, .second, vI p6, vI ua, vI ub, vI uc, vI su, vI sv, vI sw, vI ku, vI kv, vI kw, vI (own_pp p6), vI (own_t0 p6), vI (own_low (own_t0 p6)), vI (own_hig (own_t0 p6)), vI (own_t1 p6), vI (own_t2 p6), vR mm, vR rr, vD d781, .second, vD d783, .second, vD d785, .second, vR ob, vR nw] [(.int (1 : Int32)), (.ref rr)])) _
    refine X792.daload hx (j := (1 : Int32)) (v := (.double d810)) Ar810.1 (State.isArrayOf_alike hZ.alike Ar810.2.1) Ar810.2.2 hin810 hat810 (g := (mkF m 394 #[vI p1, vI p2, vI p3, vJ q4, .second, vJ q5, .second, vI p6, vI ua, vI ub, vI uc, vI su, vI sv, vI sw, vI ku, vI kv, vI kw, vI (own_pp p6), vI (own_t0 p6), vI (own_low (own_t0 p6)), vI (own_hig (own_t0 p6)), vI (own_t1 p6), vI (own_t2 p6), vR mm, vR rr, vD d781, .second, vD d783, .second, vD d785, .second, vR ob, vR nw] [(.int (1 : Int32)), (.ref rr)])) rfl rfl (hb hby at_394) _ ?_
    show Steps p.tables e below (T792.setTop (mkF m 395 #[vI p1, vI p2, vI p3, vJ q4, .second, vJ q5, .second, vI p6, vI ua, vI ub, vI uc, vI su, vI sv, vI sw, vI ku, vI kv, vI kw, vI (own_pp p6), vI (own_t0 p6), vI (own_low (own_t0 p6)), vI (own_hig (own_t0 p6)), vI (own_t1 p6), vI (own_t2 p6), vR mm, vR rr, vD d781, .second, vD d783, .second, vD d785, .second, vR ob, vR nw] [(.double d810)])) _
    refine XS.dload X792.here hx rfl (hb hby at_395) rfl ?_
    exact kt
  clear R809
  have R812 : ∀ tg, Steps p.tables e below (T792.setTop (mkF m 404 #[vI p1, vI p2, vI p3, vJ q4, .second, vJ q5, .second, vI p6, vI ua, vI ub, vI uc, vI su, vI sv, vI sw, vI ku, vI kv, vI kw, vI (own_pp p6), vI (own_t0 p6), vI (own_low (own_t0 p6)), vI (own_hig (own_t0 p6)), vI (own_t1 p6), vI (own_t2 p6), vR mm, vR rr, vD d781, .second, vD d783, .second, vD d785, .second, vR ob, vR nw] [(.int (2 : Int32)), (.ref rr)])) tg → Steps p.tables e below (s₁.setTop (mkF m 0 #[vI p1, vI p2, vI p3, vJ q4, .second, vJ q5, .second, vI p6, .unset, .unset, .unset, .unset, .unset, .unset, .unset, .unset, .unset, .unset, .unset, .unset, .unset, .unset, .unset, .unset, .unset, .unset, .unset, .unset, .unset, .unset, .unset, .unset, .unset] [])) tg := by
    intro tg kt
    refine R811 _ ?_
    show Steps p.tables e below (T792.setTop (mkF m 397 #[vI p1, vI p2, vI p3, vJ q4, .second, vJ q5, .second, vI p6, vI ua, vI ub, vI uc, vI su, vI sv, vI sw, vI ku, vI kv, vI kw, vI (own_pp p6), vI (own_t0 p6), vI (own_low (own_t0 p6)), vI (own_hig (own_t0 p6)), vI (own_t1 p6), vI (own_t2 p6), vR mm, vR rr, vD d781, .second, vD d783, .second, vD d785, .second, vR ob, vR nw] [(.double d783), (.double d810)])) _
    refine XS.dcmpS X792.here hx rfl (hb hby at_397) rfl (own_cvl H810 H783 _) ?_
    show Steps p.tables e below (T792.setTop (mkF m 398 #[vI p1, vI p2, vI p3, vJ q4, .second, vJ q5, .second, vI p6, vI ua, vI ub, vI uc, vI su, vI sv, vI sw, vI ku, vI kv, vI kw, vI (own_pp p6), vI (own_t0 p6), vI (own_low (own_t0 p6)), vI (own_hig (own_t0 p6)), vI (own_t1 p6), vI (own_t2 p6), vR mm, vR rr, vD d781, .second, vD d783, .second, vD d785, .second, vR ob, vR nw] [(.int (own_cv r1 r1))])) _
    refine XS.ifNo X792.here hx rfl (hb hby at_398) rfl ((if0 _ _).trans (teq (own_eq0 rfl : (own_cv r1 r1) = (0 : Int32))).2) ?_
    refine XS.aload X792.here hx rfl (hb hby at_401) rfl rfl ?_
    refine XS.iconst X792.here hx rfl (hb hby at_403) ?_
    exact kt
  clear R811
  obtain ⟨cl813, d813, Ar813, hin813, hat813, G813⟩ := VR_793.at (j := (2 : Int32)) (k := 2) (by decide) rfl (by decide)
  have H813 : DR 2 r2 d813 := G813
  have R814 : ∀ tg, Steps p.tables e below (T792.setTop (mkF m 407 #[vI p1, vI p2, vI p3, vJ q4, .second, vJ q5, .second, vI p6, vI ua, vI ub, vI uc, vI su, vI sv, vI sw, vI ku, vI kv, vI kw, vI (own_pp p6), vI (own_t0 p6), vI (own_low (own_t0 p6)), vI (own_hig (own_t0 p6)), vI (own_t1 p6), vI (own_t2 p6), vR mm, vR rr, vD d781, .second, vD d783, .second, vD d785, .second, vR ob, vR nw] [(.double d785), (.double d813)])) tg → Steps p.tables e below (s₁.setTop (mkF m 0 #[vI p1, vI p2, vI p3, vJ q4, .second, vJ q5, .second, vI p6, .unset, .unset, .unset, .unset, .unset, .unset, .unset, .unset, .unset, .unset, .unset, .unset, .unset, .unset, .unset, .unset, .unset, .unset, .unset, .unset, .unset, .unset, .unset, .unset, .unset] [])) tg := by
    intro tg kt
    refine R812 _ ?_
    show Steps p.tables e below (T792.setTop (mkF m 404 #[vI p1, vI p2, vI p3, vJ q4, .second, vJ q5, .second, vI p6, vI ua, vI ub, vI uc, vI su, vI sv, vI sw, vI ku, vI kv, vI kw, vI (own_pp p6), vI (own_t0 p6), vI (own_low (own_t0 p6)), vI (own_hig (own_t0 p6)), vI (own_t1 p6), vI (own_t2 p6), vR mm, vR rr, vD d781, .second, vD d783, .second, vD d785, .second, vR ob, vR nw] [(.int (2 : Int32)), (.ref rr)])) _
    refine X792.daload hx (j := (2 : Int32)) (v := (.double d813)) Ar813.1 (State.isArrayOf_alike hZ.alike Ar813.2.1) Ar813.2.2 hin813 hat813 (g := (mkF m 404 #[vI p1, vI p2, vI p3, vJ q4, .second, vJ q5, .second, vI p6, vI ua, vI ub, vI uc, vI su, vI sv, vI sw, vI ku, vI kv, vI kw, vI (own_pp p6), vI (own_t0 p6), vI (own_low (own_t0 p6)), vI (own_hig (own_t0 p6)), vI (own_t1 p6), vI (own_t2 p6), vR mm, vR rr, vD d781, .second, vD d783, .second, vD d785, .second, vR ob, vR nw] [(.int (2 : Int32)), (.ref rr)])) rfl rfl (hb hby at_404) _ ?_
    show Steps p.tables e below (T792.setTop (mkF m 405 #[vI p1, vI p2, vI p3, vJ q4, .second, vJ q5, .second, vI p6, vI ua, vI ub, vI uc, vI su, vI sv, vI sw, vI ku, vI kv, vI kw, vI (own_pp p6), vI (own_t0 p6), vI (own_low (own_t0 p6)), vI (own_hig (own_t0 p6)), vI (own_t1 p6), vI (own_t2 p6), vR mm, vR rr, vD d781, .second, vD d783, .second, vD d785, .second, vR ob, vR nw] [(.double d813)])) _
    refine XS.dload X792.here hx rfl (hb hby at_405) rfl ?_
    exact kt
  clear R812
  have R815 : ∀ tg, Steps p.tables e below (T792.setTop (mkF m 416 #[vI p1, vI p2, vI p3, vJ q4, .second, vJ q5, .second, vI p6, vI ua, vI ub, vI uc, vI su, vI sv, vI sw, vI ku, vI kv, vI kw, vI (own_pp p6), vI (own_t0 p6), vI (own_low (own_t0 p6)), vI (own_hig (own_t0 p6)), vI (own_t1 p6), vI (own_t2 p6), vR mm, vR rr, vD d781, .second, vD d783, .second, vD d785, .second, vR ob, vR nw] [(.int (1 : Int32))])) tg → Steps p.tables e below (s₁.setTop (mkF m 0 #[vI p1, vI p2, vI p3, vJ q4, .second, vJ q5, .second, vI p6, .unset, .unset, .unset, .unset, .unset, .unset, .unset, .unset, .unset, .unset, .unset, .unset, .unset, .unset, .unset, .unset, .unset, .unset, .unset, .unset, .unset, .unset, .unset, .unset, .unset] [])) tg := by
    intro tg kt
    refine R814 _ ?_
    show Steps p.tables e below (T792.setTop (mkF m 407 #[vI p1, vI p2, vI p3, vJ q4, .second, vJ q5, .second, vI p6, vI ua, vI ub, vI uc, vI su, vI sv, vI sw, vI ku, vI kv, vI kw, vI (own_pp p6), vI (own_t0 p6), vI (own_low (own_t0 p6)), vI (own_hig (own_t0 p6)), vI (own_t1 p6), vI (own_t2 p6), vR mm, vR rr, vD d781, .second, vD d783, .second, vD d785, .second, vR ob, vR nw] [(.double d785), (.double d813)])) _
    refine XS.dcmpS X792.here hx rfl (hb hby at_407) rfl (own_cvl H813 H785 _) ?_
    show Steps p.tables e below (T792.setTop (mkF m 408 #[vI p1, vI p2, vI p3, vJ q4, .second, vJ q5, .second, vI p6, vI ua, vI ub, vI uc, vI su, vI sv, vI sw, vI ku, vI kv, vI kw, vI (own_pp p6), vI (own_t0 p6), vI (own_low (own_t0 p6)), vI (own_hig (own_t0 p6)), vI (own_t1 p6), vI (own_t2 p6), vR mm, vR rr, vD d781, .second, vD d783, .second, vD d785, .second, vR ob, vR nw] [(.int (own_cv r2 r2))])) _
    refine XS.ifNo X792.here hx rfl (hb hby at_408) rfl ((if0 _ _).trans (teq (own_eq0 rfl : (own_cv r2 r2) = (0 : Int32))).2) ?_
    refine XS.iconst X792.here hx rfl (hb hby at_411) ?_
    show Steps p.tables e below (T792.setTop (mkF m 412 #[vI p1, vI p2, vI p3, vJ q4, .second, vJ q5, .second, vI p6, vI ua, vI ub, vI uc, vI su, vI sv, vI sw, vI ku, vI kv, vI kw, vI (own_pp p6), vI (own_t0 p6), vI (own_low (own_t0 p6)), vI (own_hig (own_t0 p6)), vI (own_t1 p6), vI (own_t2 p6), vR mm, vR rr, vD d781, .second, vD d783, .second, vD d785, .second, vR ob, vR nw] [(.int (1 : Int32))])) _
    refine XS.goto X792.here hx rfl (pc0 := 412) (pc' := 416) rfl (hb hby at_412) (by decide) (by decide) ?_
    exact kt
  clear R814
  obtain ⟨fs, hr, hrun, hended, hW, hsame⟩ := X792.leave (v := some (.int (1 : Int32))) (fun h => by rw [Bd.returns] at h; cases h)
  refine ⟨_, _, pre0 _ (R815 _ ?_), hrun, hended, _, _, rfl, ?_, ⟨_, rfl⟩, hW, hsame.mono (by decide) (by decide)⟩
  · exact retN X792 hx (t := .boolean) Bd.returns (by simp) (hb hby at_416) hr
  · show Q_rm_law Z p1 p2 p3 q4 q5 p6 h0 n0 _ T792.heap _
    exact ⟨rfl, N792⟩
set_option maxRecDepth 65536 in
set_option maxHeartbeats 40000000 in
theorem comes_1 {Post : Tables → Env → Array Value → State → Outcome → State → Prop} (hpost : ∀ tb e args s v u, (limb_1_1.after args s (.returned v) u = true ∧ limb_1_2.after args s (.returned v) u = true ∧ True) → FrameEnd s (.returned v) u (Jvm.fieldLocs frame_1_writes args s ++ Jvm.arrayLocs frame_1_arrays args s ++ Jvm.staticLocs frame_1_statics s) 24 128 → Post tb e args s (.returned v) u) :
    ArmFor flags0 classFile x code maxLocals ret World_1 tables_1 room_1 Calls_1 rest_1 Pre_1 Post := by
  intro l hfl _ _ p e ha hc hk s m args below hf hA hF happ hP
  obtain ⟨hcalls, hrest, hpre⟩ := hP
  obtain ⟨-, -, -, hnamed, -, -, -, hat⟩ := (Spec.applies_iff hf).mp happ
  obtain ⟨hg, hn⟩ := and_e (Cond.before_iff.mp (show (Jvm.Cond.and given_1 narrow_1).before args s = true from hpre))
  obtain ⟨gc, gr0⟩ := and_e hg
  obtain ⟨ga0, gr1⟩ := and_e gr0
  obtain ⟨ga1, gr2⟩ := and_e gr1
  obtain ⟨ga2, gr3⟩ := and_e gr2
  obtain ⟨ga3, gr4⟩ := and_e gr3
  obtain ⟨ga4, gr5⟩ := and_e gr4
  obtain ⟨w0, w1, w2, w3, w4, w5, rfl⟩ : ∃ w0 w1 w2 w3 w4 w5 : Value, args = #[w0, w1, w2, w3, w4, w5] := by
    have hs : args.size = 6 := by simpa [Cond.value, given_1] using gc
    obtain ⟨L⟩ := args
    match L, hs with
    | [w0, w1, w2, w3, w4, w5], _ => exact ⟨w0, w1, w2, w3, w4, w5, rfl⟩
  have hw := fun d (hd : d ∈ tables_1) => atoms_spec (ws := Jvm.Cond.code x code maxLocals ret :: tables_1) hat d (List.mem_cons_of_mem _ hd)
  have hfit : Fit s := fun {y c} hc i hi => by
    obtain ⟨ha, rfl⟩ := Array.getElem?_eq_some_iff.mp hc
    have q := List.all_eq_true.mp ((Array.all_eq_true_iff_forall_mem.mp hF) _ (Array.getElem_mem ha)) i (List.mem_range.mpr hi)
    simpa [Array.getElem?_eq_getElem hi] using q
  obtain ⟨i0, ei0⟩ := is_v ga0
  obtain rfl : w0 = (.int i0) := Option.some.inj ei0
  obtain ⟨i1, ei1⟩ := is_v ga1
  obtain rfl : w1 = (.int i1) := Option.some.inj ei1
  obtain ⟨i2, ei2⟩ := is_v ga2
  obtain rfl : w2 = (.int i2) := Option.some.inj ei2
  obtain ⟨i3, ei3⟩ := isL_v ga3
  obtain rfl : w3 = (.long i3) := Option.some.inj ei3
  obtain ⟨i4, ei4⟩ := isL_v ga4
  obtain rfl : w4 = (.long i4) := Option.some.inj ei4
  obtain ⟨i5, ei5⟩ := is_v gr5
  obtain rfl : w5 = (.int i5) := Option.some.inj ei5
  obtain ⟨n, o, h1, h2, h3, _, L, rfl, ⟨rfl, N⟩, hq⟩ := rm_law l s _ hw tables_1 i0 i1 i2 i3 i4 i5 s.heap s.heap.size (Nat.le_refl _)  p e ha hc hk s m _ below hf ((Spec.applies_iff_loose hf).mp happ).1 ⟨rfl, State.Warmed39.refl s, rfl⟩ trivial
  refine ⟨n, _, h1, h2, h3, hpost _ _ _ _ _ _ ⟨Cond.after_iff.mpr rfl, Cond.after_iff.mpr (eq_i res_at (Term.int_eval (1)) rfl), trivial⟩ ⟨hq.1, hq.2.1, (hq.2.2.sift fun y hy => Or.inr (N y hy)).mono (by decide) (by decide)⟩⟩
theorem main_1_1 : Claimed_1_1 := comes_1 fun _ _ _ _ _ _ h hF => ⟨h.1, hF⟩
theorem main_1_2 : Claimed_1_2 := comes_1 fun _ _ _ _ _ _ h hF => ⟨h.2.1, hF⟩
end Jvm.Pilot.@@N@@
namespace Jvm.Pilot.@@N@@
open Jvm Jvm.ClassFile Sem Op Lib Jvm.Free Jvm.Stand Jvm.Pilot.@@N@@.Jvm.D
/-! MADE BY PROGRAM (witnessworld.py) out of the Statement's table words and the real class files: 12 classes; the members and pool entries that the words name. The judged class is class 1, her method 5. -/
namespace start1
open Jvm.ClassFile
def u (s : String) : CpInfo := .utf8 (stringToUtf16 s)
/-- a pool by its gaps: so many unusable entries, then the entry; so many at the end -/
def gap : Nat → List CpInfo → List CpInfo
  | 0, r => r
  | n + 1, r => .unusable :: gap n r
def poolList (es : List (Nat × CpInfo)) (last : Nat) : List CpInfo := es.foldr (fun e r => gap e.1 (e.2 :: r)) (gap last [])
def pool (es : List (Nat × CpInfo)) (last : Nat) : Array CpInfo := ⟨poolList es last⟩
def fileOf (pool : Array CpInfo) (this : Nat) (attrs : Array Attribute := #[]) (ms : Array MethodInfo := #[]) (fl : Nat := 33) (sup : Nat := 0) (ifs : Array Nat := #[]) (fds : Array FieldInfo := #[]) : ClassFile where
  minorVersion := 0
  majorVersion := 65
  constantPool := pool
  accessFlags := fl
  thisClass := this
  superClass := sup
  interfaces := ifs
  fields := fds
  methods := ms
  attributes := attrs
def plain (name : String) (sup : Option ClassId) : Class where
  name := name
  kind := .ordinary
  loader := none
  accessFlags := 33
  super := sup
  interfaces := #[]
  cf := none
  fields := #[]
  methods := #[]
  instanceTypes := #[]
  staticTypes := #[]
  resolved := #[]
  callSites := []
  init := .initialized
  statics := none
  mirror := none

def pool0 : Array CpInfo := pool [(5, u "<init>"), (0, u "()V"), (1, .class_ 10), (1, u "java/lang/Object"), (85, u "clone"), (0, u "()Ljava/lang/Object;")] 26

def k0c0 : Code := { maxStack := 0, maxLocals := 1, code := object_method_1_code, exceptionTable := #[], attributes := #[] }
def k0m0 : Method := { name := "<init>", desc := "()V", sig := { parameters := [], returnType := none }, accessFlags := 1, code := some k0c0 }
def k0m1 : Method := { name := "clone", desc := "()Ljava/lang/Object;", sig := { parameters := [], returnType := some (.object "java/lang/Object") }, accessFlags := 260, code := none }
/-- java/lang/Object -/
def k0 : Class := { plain "java/lang/Object" none with
  accessFlags := 33
  interfaces := #[]
  cf := some (fileOf pool0 8 #[] #[{ accessFlags := 1, nameIndex := 5, descriptorIndex := 6, attributes := #[] }, { accessFlags := 260, nameIndex := 96, descriptorIndex := 97, attributes := #[] }] 33 0 #[] #[])
  fields := #[]
  methods := #[k0m0, k0m1]
  instanceTypes := #[]
  staticTypes := #[]
  resolved := Array.replicate 124 none
  statics := none }

def pool1 : Array CpInfo := pool [(2, .class_ 4), (1, u "java/lang/Object"), (0, u "<init>"), (0, u "()V"), (0, .long 4095), (1, .methodref 10 11), (0, .class_ 12), (0, .nameAndType 13 14), (0, u "com/example/inexact_odds/inexactodds/reach/DenseLuSolvePinLaw"), (0, u "s12"), (0, u "(J)I"), (0, .double 4616189618054758400), (1, .methodref 10 18), (0, .nameAndType 19 14), (0, u "nz12"), (0, .methodref 10 21), (0, .nameAndType 22 23), (0, u "lk"), (0, u "(I)I"), (0, .long 4), (1, .methodref 10 27), (0, .nameAndType 28 29), (0, u "place"), (0, u "([D[DIJJJIII)V"), (0, .class_ 31), (0, u "com/example/inexact_odds/inexactodds/reach/DenseLu"), (0, .methodref 30 33), (0, .nameAndType 5 34), (0, u "(I[D)V"), (0, .methodref 30 36), (0, .nameAndType 37 38), (0, u "solve"), (0, u "([D)[D"), (3, u "law"), (0, u "(IIIJJI)Z")] 4

def k1m0 : Method := { name := "<init>", desc := "()V", sig := { parameters := [], returnType := none }, accessFlags := 1, code := none }
def k1c1 : Code := { maxStack := 4, maxLocals := 2, code := method_2_code, exceptionTable := #[], attributes := #[] }
def k1m1 : Method := { name := "s12", desc := "(J)I", sig := { parameters := [.long], returnType := some .int }, accessFlags := 10, code := some k1c1 }
def k1c2 : Code := { maxStack := 2, maxLocals := 3, code := method_3_code, exceptionTable := #[], attributes := #[] }
def k1m2 : Method := { name := "nz12", desc := "(J)I", sig := { parameters := [.long], returnType := some .int }, accessFlags := 10, code := some k1c2 }
def k1c3 : Code := { maxStack := 2, maxLocals := 1, code := method_4_code, exceptionTable := #[], attributes := #[] }
def k1m3 : Method := { name := "lk", desc := "(I)I", sig := { parameters := [.int], returnType := some .int }, accessFlags := 10, code := some k1c3 }
def k1c4 : Code := { maxStack := 8, maxLocals := 12, code := method_5_code, exceptionTable := #[], attributes := #[] }
def k1m4 : Method := { name := "place", desc := "([D[DIJJJIII)V", sig := { parameters := [(.array .double), (.array .double), .int, .long, .long, .long, .int, .int, .int], returnType := none }, accessFlags := 10, code := some k1c4 }
def k1c5 : Code := { maxStack := 13, maxLocals := 33, code := code, exceptionTable := #[], attributes := #[] }
def k1m5 : Method := { name := "law", desc := "(IIIJJI)Z", sig := { parameters := [.int, .int, .int, .long, .long, .int], returnType := some .boolean }, accessFlags := 9, code := some k1c5 }
/-- com/example/inexact_odds/inexactodds/reach/DenseLuSolvePinLaw -/
def k1 : Class := { plain "com/example/inexact_odds/inexactodds/reach/DenseLuSolvePinLaw" (some 0) with
  accessFlags := 49
  interfaces := #[]
  cf := some (fileOf pool1 10 #[] #[{ accessFlags := 1, nameIndex := 5, descriptorIndex := 6, attributes := #[] }, { accessFlags := 10, nameIndex := 13, descriptorIndex := 14, attributes := #[] }, { accessFlags := 10, nameIndex := 19, descriptorIndex := 14, attributes := #[] }, { accessFlags := 10, nameIndex := 22, descriptorIndex := 23, attributes := #[] }, { accessFlags := 10, nameIndex := 28, descriptorIndex := 29, attributes := #[] }, { accessFlags := 9, nameIndex := 42, descriptorIndex := 43, attributes := #[] }] 49 2 #[] #[])
  fields := #[]
  methods := #[k1m0, k1m1, k1m2, k1m3, k1m4, k1m5]
  instanceTypes := #[]
  staticTypes := #[]
  resolved := Array.replicate 48 none
  statics := none }

def pool2 : Array CpInfo := pool [(1, .methodref 2 3), (0, .class_ 4), (0, .nameAndType 5 6), (0, u "java/lang/Object"), (0, u "<init>"), (0, u "()V"), (0, .fieldref 8 9), (0, .class_ 10), (0, .nameAndType 11 12), (0, u "com/example/inexact_odds/inexactodds/reach/DenseLu"), (0, u "size"), (0, u "I"), (0, .fieldref 8 14), (0, .nameAndType 15 16), (0, u "lu"), (0, u "[D"), (0, .fieldref 8 18), (0, .nameAndType 19 20), (0, u "pivot"), (0, u "[I"), (0, .methodref 22 23), (0, .class_ 24), (0, .nameAndType 25 26), (0, u "java/lang/Math"), (0, u "abs"), (0, u "(D)D"), (0, .methodref 8 28), (0, .nameAndType 29 30), (0, u "swapRows"), (0, u "(II)V"), (0, .methodref 32 33), (0, .class_ 16), (0, .nameAndType 34 35), (0, u "clone"), (0, u "()Ljava/lang/Object;"), (0, u "(I[D)V"), (3, u "solve"), (0, u "([D)[D")] 2

def k2c0 : Code := { maxStack := 9, maxLocals := 11, code := prog_76_method_1_code, exceptionTable := #[], attributes := #[] }
def k2m0 : Method := { name := "<init>", desc := "(I[D)V", sig := { parameters := [.int, (.array .double)], returnType := none }, accessFlags := 0, code := some k2c0 }
def k2c1 : Code := { maxStack := 5, maxLocals := 6, code := prog_76_method_2_code, exceptionTable := #[], attributes := #[] }
def k2m1 : Method := { name := "swapRows", desc := "(II)V", sig := { parameters := [.int, .int], returnType := none }, accessFlags := 2, code := some k2c1 }
def k2c2 : Code := { maxStack := 7, maxLocals := 7, code := prog_76_method_3_code, exceptionTable := #[], attributes := #[] }
def k2m2 : Method := { name := "solve", desc := "([D)[D", sig := { parameters := [(.array .double)], returnType := some (.array .double) }, accessFlags := 0, code := some k2c2 }
/-- com/example/inexact_odds/inexactodds/reach/DenseLu -/
def k2 : Class := { plain "com/example/inexact_odds/inexactodds/reach/DenseLu" (some 0) with
  accessFlags := 48
  interfaces := #[]
  cf := some (fileOf pool2 8 #[] #[{ accessFlags := 0, nameIndex := 5, descriptorIndex := 36, attributes := #[] }, { accessFlags := 2, nameIndex := 29, descriptorIndex := 30, attributes := #[] }, { accessFlags := 0, nameIndex := 40, descriptorIndex := 41, attributes := #[] }] 48 2 #[] #[{ accessFlags := 18, nameIndex := 11, descriptorIndex := 12, attributes := #[] }, { accessFlags := 18, nameIndex := 15, descriptorIndex := 16, attributes := #[] }, { accessFlags := 18, nameIndex := 19, descriptorIndex := 20, attributes := #[] }])
  fields := #[{ name := "size", type := .int, accessFlags := 18, slot := 0, constantValue := 0 }, { name := "lu", type := (.array .double), accessFlags := 18, slot := 1, constantValue := 0 }, { name := "pivot", type := (.array .int), accessFlags := 18, slot := 2, constantValue := 0 }]
  methods := #[k2m0, k2m1, k2m2]
  instanceTypes := #[.int, (.array .double), (.array .int)]
  staticTypes := #[]
  resolved := Array.replicate 44 none
  statics := none }

def pool3 : Array CpInfo := pool [(1, .class_ 2), (0, u "java/lang/Math"), (1, .class_ 6), (1, u "java/lang/Object"), (0, u "<init>"), (0, u "()V"), (5, u "(D)D"), (83, .class_ 100), (1, u "java/lang/Math$RandomNumberGeneratorHolder"), (23, u "abs"), (47, u "negativeZeroFloatBits"), (0, u "J"), (2, u "negativeZeroDoubleBits"), (68, u "$assertionsDisabled"), (0, u "Z"), (91, u "twoToTheDoubleScaleDown"), (0, u "D"), (4, u "twoToTheDoubleScaleUp"), (9, u "E"), (3, u "PI"), (2, u "TAU"), (2, u "DEGREES_TO_RADIANS"), (0, u "RADIANS_TO_DEGREES")] 94

def k3m0 : Method := { name := "<init>", desc := "()V", sig := { parameters := [], returnType := none }, accessFlags := 2, code := none }
def k3c1 : Code := { maxStack := 4, maxLocals := 2, code := jdk_29_method_64_code, exceptionTable := #[], attributes := #[] }
def k3m1 : Method := { name := "abs", desc := "(D)D", sig := { parameters := [.double], returnType := some .double }, accessFlags := 9, code := some k3c1 }
/-- java/lang/Math -/
def k3 : Class := { plain "java/lang/Math" (some 0) with
  accessFlags := 49
  interfaces := #[]
  cf := some (fileOf pool3 1 #[.nestMembers #[98]] #[{ accessFlags := 2, nameIndex := 7, descriptorIndex := 8, attributes := #[] }, { accessFlags := 9, nameIndex := 124, descriptorIndex := 14, attributes := #[] }] 49 4 #[] #[{ accessFlags := 25, nameIndex := 354, descriptorIndex := 339, attributes := #[] }, { accessFlags := 25, nameIndex := 358, descriptorIndex := 339, attributes := #[] }, { accessFlags := 25, nameIndex := 361, descriptorIndex := 339, attributes := #[] }, { accessFlags := 26, nameIndex := 364, descriptorIndex := 339, attributes := #[] }, { accessFlags := 26, nameIndex := 365, descriptorIndex := 339, attributes := #[] }, { accessFlags := 26, nameIndex := 172, descriptorIndex := 173, attributes := #[] }, { accessFlags := 26, nameIndex := 176, descriptorIndex := 173, attributes := #[] }, { accessFlags := 8, nameIndex := 344, descriptorIndex := 339, attributes := #[] }, { accessFlags := 8, nameIndex := 338, descriptorIndex := 339, attributes := #[] }, { accessFlags := 4120, nameIndex := 245, descriptorIndex := 246, attributes := #[] }])
  fields := #[{ name := "E", type := .double, accessFlags := 25, slot := 0, constantValue := 0 }, { name := "PI", type := .double, accessFlags := 25, slot := 1, constantValue := 0 }, { name := "TAU", type := .double, accessFlags := 25, slot := 2, constantValue := 0 }, { name := "DEGREES_TO_RADIANS", type := .double, accessFlags := 26, slot := 3, constantValue := 0 }, { name := "RADIANS_TO_DEGREES", type := .double, accessFlags := 26, slot := 4, constantValue := 0 }, { name := "negativeZeroFloatBits", type := .long, accessFlags := 26, slot := 5, constantValue := 0 }, { name := "negativeZeroDoubleBits", type := .long, accessFlags := 26, slot := 6, constantValue := 0 }, { name := "twoToTheDoubleScaleUp", type := .double, accessFlags := 8, slot := 7, constantValue := 0 }, { name := "twoToTheDoubleScaleDown", type := .double, accessFlags := 8, slot := 8, constantValue := 0 }, { name := "$assertionsDisabled", type := .boolean, accessFlags := 4120, slot := 9, constantValue := 0 }]
  methods := #[k3m0, k3m1]
  instanceTypes := #[]
  staticTypes := #[.double, .double, .double, .double, .double, .long, .long, .double, .double, .boolean]
  resolved := Array.replicate 460 none
  statics := none }

def pool4 : Array CpInfo := pool [(1, .class_ 2), (0, u "java/lang/Cloneable"), (0, .class_ 4), (0, u "java/lang/Object")] 2

/-- java/lang/Cloneable -/
def k4 : Class := { plain "java/lang/Cloneable" (some 0) with
  accessFlags := 1537
  interfaces := #[]
  cf := some (fileOf pool4 1 #[] #[] 1537 3 #[] #[])
  fields := #[]
  methods := #[]
  instanceTypes := #[]
  staticTypes := #[]
  resolved := Array.replicate 7 none
  statics := none }

def pool5 : Array CpInfo := pool [(1, u "java/io/Serializable"), (0, .class_ 1), (0, u "java/lang/Object"), (0, .class_ 3)] 3

/-- java/io/Serializable -/
def k5 : Class := { plain "java/io/Serializable" (some 0) with
  accessFlags := 1537
  interfaces := #[]
  cf := some (fileOf pool5 2 #[] #[] 1537 4 #[] #[])
  fields := #[]
  methods := #[]
  instanceTypes := #[]
  staticTypes := #[]
  resolved := Array.replicate 8 none
  statics := none }

/-- the primitive byte -/
def k6 : Class := { plain "byte" none with kind := .primitive 'B', accessFlags := 0x411 }
/-- [B -/
def k7 : Class := { plain "[B" (some 0) with kind := .array 6 .byte, interfaces := #[4, 5], accessFlags := 1041 }

/-- the primitive double -/
def k8 : Class := { plain "double" none with kind := .primitive 'D', accessFlags := 0x411 }
/-- [D -/
def k9 : Class := { plain "[D" (some 0) with kind := .array 8 .double, interfaces := #[4, 5], accessFlags := 1041 }

/-- the primitive int -/
def k10 : Class := { plain "int" none with kind := .primitive 'I', accessFlags := 0x411 }
/-- [I -/
def k11 : Class := { plain "[I" (some 0) with kind := .array 10 .int, interfaces := #[4, 5], accessFlags := 1041 }

def heap : Heap := #[]
def classes : Array Class := #[k0, k1, k2, k3, k4, k5, k6, k7, k8, k9, k10, k11]
def interned : List (Array UInt16 × Addr) := []
def slotsUsed : Nat := 0
def theMethod : MethodId := ⟨1, 5⟩
def args0 : Array Value := #[.int 3, .int 4, .int 5, .long 77, .long 99, .int 4660]
def aboutOver (below : List Frame) : State where
  vm := { classes := classes, interned := interned.toArray }
  heap := heap
  slotsUsed := slotsUsed
  threads := #[{ frames := .invoking theMethod args0 :: below }]
def below0 : List Frame := [.native { method := ⟨0, 0⟩, args := #[] }]
def about1 : State := aboutOver below0
def p0 : Program := .bare "" "" ""
def e0 : Env := launch0.env 0 0 0
theorem w_frames : about1.frames = Frame.invoking theMethod args0 :: below0 := rfl
set_option maxRecDepth 65536 in
theorem w_args : argsFit about1.vm theMethod args0 = true := by decide +kernel
set_option maxRecDepth 65536 in
theorem w_heap : heapFits about1 = true := by decide +kernel
set_option maxRecDepth 65536 in
theorem w_runnable : about1.curStatus? = some .runnable := by decide +kernel
set_option maxRecDepth 65536 in
theorem w_alone : about1.alone = true := by decide +kernel
set_option maxRecDepth 65536 in
theorem w_named : about1.methodNamed? x = some theMethod := by decide +kernel
set_option maxRecDepth 65536 in
theorem w_hears : about1.hears theMethod below0 = true := by decide +kernel
set_option maxRecDepth 65536 in
theorem w_ripe : about1.ripe theMethod args0 below0 = true := by decide +kernel
theorem w_running : about1.status = .running := rfl
set_option maxRecDepth 65536 in
theorem w_room : about1.hasRoom e0.platform room_1 = true :=
  launch0.hasRoom_least _ room_1 (by decide +kernel) (by decide +kernel) (by decide +kernel) (by decide +kernel) (by decide +kernel) (by decide +kernel)
theorem allAtoms_all (ts : List Jvm.Cond) (a : Array Jvm.Value) (st : Jvm.State) : (allAtoms ts).before a st = ts.all (fun c => c.before a st) := by
  induction ts with
  | nil => rfl
  | cons c t ih =>
    show (Jvm.Cond.and c (allAtoms t)).before a st = _
    rw [Jvm.Cond.before_and, ih, List.all_cons]
def words1 : List Jvm.Cond := Jvm.Cond.code x code maxLocals ret :: tables_1
/-- a 'code' word, met by the world's own term for the bytes: nothing is compared byte by byte -/
theorem code_word {y : MethodName} {bytes : ByteArray} {mx : Nat} {rt : Option FieldType} {a : Array Value} {s : State} {m : MethodId} {meth : Method} {c : Code} (h1 : s.methodNamed? y = some m) (h2 : s.vm.method? m = some meth) (h3 : meth.code = some c) (h4 : c.code = bytes)
    (h5 : (c.maxLocals == mx && c.exceptionTable.isEmpty && decide (c.maxStack ≤ mostOperands) && decide (meth.sig.returnType = rt) && !meth.locks && decide (parseMethodDescriptor y.desc = some meth.sig)) = true) : (Jvm.Cond.code y bytes mx rt).before a s = true := by
  simp only [Bool.and_eq_true, beq_iff_eq, Bool.not_eq_true', decide_eq_true_eq] at h5
  obtain ⟨⟨⟨⟨⟨g1, g2⟩, g3⟩, g4⟩, g5⟩, g6⟩ := h5
  simp [Cond.before, Cond.holds, Cond.value, h1, h2, h3, h4, g1, g2, g3, g4, g5, g6]
def isCode : Jvm.Cond → Bool
  | .code _ _ _ _ => true
  | _ => false
theorem all_split {L : List Jvm.Cond} {P : Jvm.Cond → Bool} (h1 : L.all (fun c => isCode c || P c) = true) (h2 : ∀ c ∈ L.filter isCode, P c = true) : L.all P = true := by
  refine List.all_eq_true.mpr fun c hc => ?_
  have h := List.all_eq_true.mp h1 c hc
  rcases Bool.eq_false_or_eq_true (isCode c) with hi | hi
  · exact h2 c (List.mem_filter.mpr ⟨hc, hi⟩)
  · simpa [hi] using h
set_option maxRecDepth 65536 in
theorem w_c0 : (Jvm.Cond.code x code maxLocals ret).before args0 about1 = true := code_word (m := ⟨1, 5⟩) (meth := k1m5) (c := k1c5) (by decide +kernel) rfl rfl rfl (by decide +kernel)
set_option maxRecDepth 65536 in
theorem w_c1 : (Jvm.Cond.code ({ cls := "com/example/inexact_odds/inexactodds/reach/DenseLuSolvePinLaw", name := "nz12", desc := "(J)I" } : Jvm.MethodName) method_3_code (3 : Nat) (Option.some Jvm.ClassFile.FieldType.int)).before args0 about1 = true := code_word (m := ⟨1, 2⟩) (meth := k1m2) (c := k1c2) (by decide +kernel) rfl rfl rfl (by decide +kernel)
set_option maxRecDepth 65536 in
theorem w_c2 : (Jvm.Cond.code ({ cls := "com/example/inexact_odds/inexactodds/reach/DenseLuSolvePinLaw", name := "s12", desc := "(J)I" } : Jvm.MethodName) method_2_code (2 : Nat) (Option.some Jvm.ClassFile.FieldType.int)).before args0 about1 = true := code_word (m := ⟨1, 1⟩) (meth := k1m1) (c := k1c1) (by decide +kernel) rfl rfl rfl (by decide +kernel)
set_option maxRecDepth 65536 in
theorem w_c3 : (Jvm.Cond.code ({ cls := "com/example/inexact_odds/inexactodds/reach/DenseLuSolvePinLaw", name := "lk", desc := "(I)I" } : Jvm.MethodName) method_4_code (1 : Nat) (Option.some Jvm.ClassFile.FieldType.int)).before args0 about1 = true := code_word (m := ⟨1, 3⟩) (meth := k1m3) (c := k1c3) (by decide +kernel) rfl rfl rfl (by decide +kernel)
set_option maxRecDepth 65536 in
theorem w_c4 : (Jvm.Cond.code ({ cls := "com/example/inexact_odds/inexactodds/reach/DenseLuSolvePinLaw", name := "place", desc := "([D[DIJJJIII)V" } : Jvm.MethodName) method_5_code (12 : Nat) (Option.none : Option Jvm.ClassFile.FieldType)).before args0 about1 = true := code_word (m := ⟨1, 4⟩) (meth := k1m4) (c := k1c4) (by decide +kernel) rfl rfl rfl (by decide +kernel)
set_option maxRecDepth 65536 in
theorem w_c5 : (Jvm.Cond.code ({ cls := "com/example/inexact_odds/inexactodds/reach/DenseLu", name := "<init>", desc := "(I[D)V" } : Jvm.MethodName) prog_76_method_1_code (11 : Nat) (Option.none : Option Jvm.ClassFile.FieldType)).before args0 about1 = true := code_word (m := ⟨2, 0⟩) (meth := k2m0) (c := k2c0) (by decide +kernel) rfl rfl rfl (by decide +kernel)
set_option maxRecDepth 65536 in
theorem w_c6 : (Jvm.Cond.code ({ cls := "java/lang/Object", name := "<init>", desc := "()V" } : Jvm.MethodName) object_method_1_code (1 : Nat) (Option.none : Option Jvm.ClassFile.FieldType)).before args0 about1 = true := code_word (m := ⟨0, 0⟩) (meth := k0m0) (c := k0c0) (by decide +kernel) rfl rfl rfl (by decide +kernel)
set_option maxRecDepth 65536 in
theorem w_c7 : (Jvm.Cond.code ({ cls := "java/lang/Math", name := "abs", desc := "(D)D" } : Jvm.MethodName) jdk_29_method_64_code (2 : Nat) (Option.some Jvm.ClassFile.FieldType.double)).before args0 about1 = true := code_word (m := ⟨3, 1⟩) (meth := k3m1) (c := k3c1) (by decide +kernel) rfl rfl rfl (by decide +kernel)
set_option maxRecDepth 65536 in
theorem w_c8 : (Jvm.Cond.code ({ cls := "com/example/inexact_odds/inexactodds/reach/DenseLu", name := "swapRows", desc := "(II)V" } : Jvm.MethodName) prog_76_method_2_code (6 : Nat) (Option.none : Option Jvm.ClassFile.FieldType)).before args0 about1 = true := code_word (m := ⟨2, 1⟩) (meth := k2m1) (c := k2c1) (by decide +kernel) rfl rfl rfl (by decide +kernel)
set_option maxRecDepth 65536 in
theorem w_c9 : (Jvm.Cond.code ({ cls := "com/example/inexact_odds/inexactodds/reach/DenseLu", name := "solve", desc := "([D)[D" } : Jvm.MethodName) prog_76_method_3_code (7 : Nat) (Option.some (Jvm.ClassFile.FieldType.array Jvm.ClassFile.FieldType.double))).before args0 about1 = true := code_word (m := ⟨2, 2⟩) (meth := k2m2) (c := k2c2) (by decide +kernel) rfl rfl rfl (by decide +kernel)
def codes1 : List Jvm.Cond := [Jvm.Cond.code x code maxLocals ret, Jvm.Cond.code ({ cls := "com/example/inexact_odds/inexactodds/reach/DenseLuSolvePinLaw", name := "nz12", desc := "(J)I" } : Jvm.MethodName) method_3_code (3 : Nat) (Option.some Jvm.ClassFile.FieldType.int), Jvm.Cond.code ({ cls := "com/example/inexact_odds/inexactodds/reach/DenseLuSolvePinLaw", name := "s12", desc := "(J)I" } : Jvm.MethodName) method_2_code (2 : Nat) (Option.some Jvm.ClassFile.FieldType.int), Jvm.Cond.code ({ cls := "com/example/inexact_odds/inexactodds/reach/DenseLuSolvePinLaw", name := "lk", desc := "(I)I" } : Jvm.MethodName) method_4_code (1 : Nat) (Option.some Jvm.ClassFile.FieldType.int), Jvm.Cond.code ({ cls := "com/example/inexact_odds/inexactodds/reach/DenseLuSolvePinLaw", name := "place", desc := "([D[DIJJJIII)V" } : Jvm.MethodName) method_5_code (12 : Nat) (Option.none : Option Jvm.ClassFile.FieldType), Jvm.Cond.code ({ cls := "com/example/inexact_odds/inexactodds/reach/DenseLu", name := "<init>", desc := "(I[D)V" } : Jvm.MethodName) prog_76_method_1_code (11 : Nat) (Option.none : Option Jvm.ClassFile.FieldType), Jvm.Cond.code ({ cls := "java/lang/Object", name := "<init>", desc := "()V" } : Jvm.MethodName) object_method_1_code (1 : Nat) (Option.none : Option Jvm.ClassFile.FieldType), Jvm.Cond.code ({ cls := "java/lang/Math", name := "abs", desc := "(D)D" } : Jvm.MethodName) jdk_29_method_64_code (2 : Nat) (Option.some Jvm.ClassFile.FieldType.double), Jvm.Cond.code ({ cls := "com/example/inexact_odds/inexactodds/reach/DenseLu", name := "swapRows", desc := "(II)V" } : Jvm.MethodName) prog_76_method_2_code (6 : Nat) (Option.none : Option Jvm.ClassFile.FieldType), Jvm.Cond.code ({ cls := "com/example/inexact_odds/inexactodds/reach/DenseLu", name := "solve", desc := "([D)[D" } : Jvm.MethodName) prog_76_method_3_code (7 : Nat) (Option.some (Jvm.ClassFile.FieldType.array Jvm.ClassFile.FieldType.double))]
set_option maxRecDepth 65536 in
theorem codes_eq : words1.filter isCode = codes1 := rfl
theorem w_codes : ∀ c ∈ words1.filter isCode, c.before args0 about1 = true := by
  rw [codes_eq]
  intro c hc
  simp only [codes1, List.mem_cons, List.not_mem_nil, or_false] at hc
  rcases hc with rfl | rfl | rfl | rfl | rfl | rfl | rfl | rfl | rfl | rfl
  · exact w_c0
  · exact w_c1
  · exact w_c2
  · exact w_c3
  · exact w_c4
  · exact w_c5
  · exact w_c6
  · exact w_c7
  · exact w_c8
  · exact w_c9
set_option maxRecDepth 65536 in
theorem w_t1 : (words1.take 24).all (fun c => isCode c || c.before args0 about1) = true := by decide +kernel
set_option maxRecDepth 65536 in
theorem w_t2 : ((words1.drop 24).take 24).all (fun c => isCode c || c.before args0 about1) = true := by decide +kernel
set_option maxRecDepth 65536 in
theorem w_t3 : ((words1.drop 24).drop 24).all (fun c => isCode c || c.before args0 about1) = true := by decide +kernel
theorem w_tables : (allAtoms (Jvm.Cond.code x code maxLocals ret :: tables_1)).before args0 about1 = true := by
  rw [allAtoms_all]
  show words1.all (fun c => c.before args0 about1) = true
  refine all_split ?_ w_codes
  rw [← List.take_append_drop 24 words1, List.all_append, w_t1, ← List.take_append_drop 24 (words1.drop 24), List.all_append, w_t2, w_t3]
  rfl
set_option maxRecDepth 65536 in
theorem w_case : (Jvm.Cond.and given_1 narrow_1).before args0 about1 = true := by decide +kernel
theorem w_applies : (headSpec (Jvm.Cond.code x code maxLocals ret :: tables_1) room_1).applies x e0.platform about1 = true :=
  (Spec.applies_iff w_frames).mpr ⟨w_running, w_runnable, w_alone, w_named, w_hears, w_ripe, w_room, w_tables⟩
theorem atStart : AtStart classFile x code maxLocals ret World_1 tables_1 room_1 Calls_1 rest_1 Pre_1 launch0 p0 e0 about1 theMethod args0 below0 :=
  ⟨lists_1, trivial, launch0.admits_env _ _ _, launch0.least_env, fairChoices_fair.cas, fairChoices_fair.clock, w_frames, w_args, w_heap, w_applies, trivial, trivial, w_case⟩
end start1
theorem witness_1 : WitnessClaimed_1 := ⟨start1.p0, start1.e0, start1.about1, start1.theMethod, start1.args0, start1.below0, start1.atStart⟩
end Jvm.Pilot.@@N@@
