import JvmDerived
import JvmDerived.Pilot.@@N@@Statement
import JvmDerived.Pilot.@@N@@Code
set_option linter.unusedVariables false
set_option linter.unusedSimpArgs false
namespace Jvm.RoadKit
open Sem ClassFile Op Lib Jvm.Stand Jvm.Free Jvm.LawKit
section New
variable {p : Program} {l : Launch} {e : Env} {R : Room} {s : State} {m : MethodId} {args : Array Value} {below : List Frame} {meth : Method} {c : Code} {T : State} {locs : List Loc} {cells slots : Nat}
theorem retI (X : Stand p l e R s m args below meth c T locs cells slots) (hx : p.tables.exec = Jvm.exec) {pc : Nat} {Ls : Array Slot} {z : Int32} {rest : List Value} (hret : meth.sig.returnType = some .int) (hd : decode c.code pc = .ok (.ireturn, 1)) {fs : List Frame}
    (hl : ∀ (f : JFrame) (acts : List Action), f.method = m → f.locked = none → f.entered = [] → (doReturn e (T.setTop f) acts (some (.int z))).1 = T.setFrames fs) : Steps p.tables e below (T.setTop (mkF m pc Ls (.int z :: rest))) (T.setFrames fs) := by
  have hm' : T.vm.method? m = some meth := X.method'
  have hn : narrow .int (.int z) = .int z := rfl
  show Steps p.tables e below (T.setTop { method := m, pc := pc, locals := Ls, stack := _ :: rest, locked := none }) _
  jvm_step X.here [X.here.top, hx, hd, hm', hret, hn]
  first | (intro acts; rw [hl _ acts rfl rfl rfl]) | rw [hl _ _ rfl rfl rfl]
  exact Steps.refl _
end New
end Jvm.RoadKit
namespace Jvm.Pilot.@@N@@
open Jvm Jvm.ClassFile Sem Op Lib Jvm.Free Jvm.Stand Jvm.LawKit Jvm.RoadKit Bundle Jvm.Pilot.@@N@@.Jvm.D
def AV (Z : State) (h : Heap) (a : Addr) (ty : FieldType) (n : Nat) (f : Nat → Value) : Prop := ∃ c : Cell, Arr Z h a c ty ∧ c.slots.size = n ∧ ∀ j, j < n → c.slots[j]? = some (f j) ∧ fits ty (f j) = true
def own_upd (f : Nat → Value) (k : Nat) (v : Value) : Nat → Value := fun j => if j = k then v else f j
section AVs
variable {Z : State} {h h' : Heap} {a b : Addr} {ty : FieldType} {n : Nat} {f : Nat → Value} {v : Value} {sl : Nat}
theorem AV.lt (A : AV Z h a ty n f) : a < h.size := by obtain ⟨c, A, -⟩ := A; exact A.lt
theorem AV.ext (A : AV Z h a ty n f) (E : Ext h h') : AV Z h' a ty n f := by obtain ⟨c, A, r⟩ := A; exact ⟨c, A.ext E, r⟩
theorem AV.other (A : AV Z h b ty n f) (W : Wr h h' a sl v) (q : b ≠ a) : AV Z h' b ty n f := by obtain ⟨c, A, r⟩ := A; exact ⟨c, A.other W q, r⟩
theorem AV.keep {ws : List Addr} (A : AV Z h a ty n f) (K : Keep h h' ws) (q : a ∉ ws) : AV Z h' a ty n f := by obtain ⟨c, A, r⟩ := A; exact ⟨c, ⟨K.2.1 a c A.1 q, A.2⟩, r⟩
theorem AV.new {k : ClassId} {z : Int32} (A : Arr Z h a (newA k ty z) ty) (hz : z.toNatClampNeg = n) (hf : fits ty (defaultValue ty) = true) : AV Z h a ty n (fun _ => defaultValue ty) := ⟨_, A, by rw [sz_new]; exact hz, fun j hj => ⟨by simp [newA, hz, hj], hf⟩⟩
theorem AV.set (A : AV Z h a ty n f) (W : Wr h h' a sl v) (hv : fits ty v = true) : AV Z h' a ty n (own_upd f sl v) := by
  obtain ⟨c, A, S, H⟩ := A
  refine ⟨_, A.same W, by rw [sz_set]; exact S, fun j hj => ?_⟩
  by_cases e : j = sl
  · subst e
    exact ⟨by simp [Cell.setSlot, own_upd, S, hj], by simp [own_upd, hv]⟩
  · have e2 : (c.setSlot sl v).slots[j]? = c.slots[j]? := Array.getElem?_setIfInBounds_ne (Ne.symm e)
    exact ⟨by rw [e2, own_upd, if_neg e]; exact (H j hj).1, by rw [own_upd, if_neg e]; exact (H j hj).2⟩
theorem AV.at (A : AV Z h a ty n f) {j : Int32} {k : Nat} (h0 : ¬ j < 0) (hj : j.toNatClampNeg = k) (hk : k < n) : ∃ c : Cell, Arr Z h a c ty ∧ ¬ (j < 0 ∨ c.slots.size ≤ j.toNatClampNeg) ∧ c.slots[j.toNatClampNeg]? = some (f k) := by
  obtain ⟨c, A, S, H⟩ := A
  exact ⟨c, A, fun q => q.elim h0 (fun r => by omega), by rw [hj]; exact (H k hk).1⟩
theorem AV.len (A : AV Z h a ty n f) : ∃ c : Cell, Arr Z h a c ty ∧ c.slots.size.toInt32 = n.toInt32 := by
  obtain ⟨c, A, S, H⟩ := A
  exact ⟨c, A, by rw [S]⟩
theorem AV.congr (A : AV Z h a ty n f) {g : Nat → Value} (e : ∀ j, j < n → f j = g j) : AV Z h a ty n g := by
  obtain ⟨c, A, S, H⟩ := A
  exact ⟨c, A, S, fun j hj => by rw [← e j hj]; exact H j hj⟩
theorem AV.fit (A : AV Z h a ty n f) {j : Nat} (hj : j < n) : fits ty (f j) = true := by
  obtain ⟨c, A, S, H⟩ := A
  exact (H j hj).2
end AVs
theorem own_notin1 {a b : Addr} (h : a ≠ b) : a ∉ [b] := fun q => h (List.mem_singleton.mp q)
theorem own_notin2 {a b c : Addr} (h : a ≠ b) (h2 : a ≠ c) : a ∉ [b, c] := fun q => by
  rcases List.mem_cons.mp q with r | r
  · exact h r
  · exact own_notin1 h2 r
theorem own_notin0 {a : Addr} : a ∉ ([] : List Addr) := nofun
theorem own_trans0 {ws : List Addr} {n : Nat} : ∀ x ∈ ([] : List Addr), x ∈ ws ∨ n ≤ x := nofun
theorem own_trans1 {ws : List Addr} {n : Nat} {a : Addr} (h : a ∈ ws ∨ n ≤ a) : ∀ x ∈ [a], x ∈ ws ∨ n ≤ x := fun x q => by cases List.mem_singleton.mp q; exact h
theorem own_trans2 {ws : List Addr} {n : Nat} {a b : Addr} (h : a ∈ ws ∨ n ≤ a) (h2 : b ∈ ws ∨ n ≤ b) : ∀ x ∈ [a, b], x ∈ ws ∨ n ≤ x := fun x q => by
  rcases List.mem_cons.mp q with r | r
  · cases r; exact h
  · cases List.mem_singleton.mp r; exact h2
def own_set {α : Type} (f : Nat → α) (k : Nat) (v : α) : Nat → α := fun j => if j = k then v else f j
section AVt
variable {Z : State} {h h' : Heap} {a : Addr} {n sl : Nat}
theorem AV.setI {g : Nat → Int32} {v : Int32} (A : AV Z h a .int n (fun j => .int (g j))) (W : Wr h h' a sl (.int v)) : AV Z h' a .int n (fun j => .int (own_set g sl v j)) := (A.set W rfl).congr (fun j _ => by simp only [own_upd, own_set]; split <;> rfl)
theorem AV.setJ {g : Nat → Int64} {v : Int64} (A : AV Z h a .long n (fun j => .long (g j))) (W : Wr h h' a sl (.long v)) : AV Z h' a .long n (fun j => .long (own_set g sl v j)) := (A.set W rfl).congr (fun j _ => by simp only [own_upd, own_set]; split <;> rfl)
end AVt
theorem own_notin3 {a b c d : Addr} (h : a ≠ b) (h2 : a ≠ c) (h3 : a ≠ d) : a ∉ [b, c, d] := fun q => by
  rcases List.mem_cons.mp q with r | r
  · exact h r
  · exact own_notin2 h2 h3 r
theorem own_trans3 {ws : List Addr} {n : Nat} {a b c : Addr} (h : a ∈ ws ∨ n ≤ a) (h2 : b ∈ ws ∨ n ≤ b) (h3 : c ∈ ws ∨ n ≤ c) : ∀ x ∈ [a, b, c], x ∈ ws ∨ n ≤ x := fun x q => by
  rcases List.mem_cons.mp q with r | r
  · cases r; exact h
  · exact own_trans2 h2 h3 x r
/-! plain facts on bits, for the encoding -/
def own_min (a b : Int32) : Int32 := if b < a then b else a
def own_max (a b : Int32) : Int32 := if a < b then b else a
def own_ush32 (x k : Int32) : Int32 := (x.toUInt32 >>> (k &&& 31).toUInt32).toInt32
def own_ush (x : Int64) (k : Int32) : Int64 := (x.toUInt64 >>> (k &&& 0x3f).toInt64.toUInt64).toInt64
def own_shl (x : Int64) (k : Int32) : Int64 := x <<< (k &&& 0x3f).toInt64
def own_n5 (n i : Int32) : Int32 := n - own_ush32 i (1 : Int32)
def own_n4 (n i : Int32) : Int32 := if i < (4 : Int32) then own_n5 n i else own_n5 (n + (-2 : Int32)) (own_ush32 i (2 : Int32))
def own_n3 (n i : Int32) : Int32 := if i < (16 : Int32) then own_n4 n i else own_n4 (n + (-4 : Int32)) (own_ush32 i (4 : Int32))
def own_n2 (n i : Int32) : Int32 := if i < (256 : Int32) then own_n3 n i else own_n3 (n + (-8 : Int32)) (own_ush32 i (8 : Int32))
def own_n1 (n i : Int32) : Int32 := if i < (65536 : Int32) then own_n2 n i else own_n2 (n + (-16 : Int32)) (own_ush32 i (16 : Int32))
def own_inlz (x : Int32) : Int32 := if (0 : Int32) < x then own_n1 (31 : Int32) x else if x = (0 : Int32) then (32 : Int32) else (0 : Int32)
def own_lnlz (q : Int64) : Int32 := if (own_ush q (32 : Int32)).toInt32 = (0 : Int32) then (32 : Int32) + own_inlz q.toInt32 else own_inlz (own_ush q (32 : Int32)).toInt32
def own_bits (lo hi : Int32) : Int32 := (64 : Int32) - own_lnlz (hi.toInt64 - lo.toInt64)
def own_mask (b : Int32) : Int64 := if b = (0 : Int32) then (0 : Int64) else own_ush (-1 : Int64) ((64 : Int32) - b)
theorem own_ltI {a b : Int32} : a < b ↔ a.toInt < b.toInt := Int32.lt_iff_toInt_lt
theorem own_ush32_at (i k : Int32) (n : Nat) (hn : n < 32) (hk : ((k &&& 31).toUInt32 % 32).toBitVec.toNat = n) (h : 0 ≤ i.toInt) : (own_ush32 i k).toInt = i.toInt / 2 ^ n ∧ 0 ≤ (own_ush32 i k).toInt := by
  have e : (own_ush32 i k).toBitVec = i.toBitVec >>> n := by
    show i.toBitVec >>> ((k &&& 31).toUInt32 % 32).toBitVec = _
    rw [BitVec.ushiftRight_eq', hk]
  have hi : i.toInt = i.toBitVec.toNat := by
    have : i.toBitVec.toInt = i.toInt := rfl
    rw [BitVec.toInt_eq_toNat_cond] at this
    have hl := i.toBitVec.isLt
    split at this <;> omega
  have lt : i.toBitVec.toNat < 2 ^ 31 := by
    have := Int32.toInt_lt i
    omega
  have en : (own_ush32 i k).toBitVec.toNat = i.toBitVec.toNat / 2 ^ n := by rw [e, BitVec.toNat_ushiftRight, Nat.shiftRight_eq_div_pow]
  have le : i.toBitVec.toNat / 2 ^ n ≤ i.toBitVec.toNat := Nat.div_le_self _ _
  have hr : (own_ush32 i k).toInt = ((i.toBitVec.toNat / 2 ^ n : Nat) : Int) := by
    show (own_ush32 i k).toBitVec.toInt = _
    rw [BitVec.toInt_eq_toNat_cond, en]
    split <;> omega
  rw [hr, hi]
  exact ⟨by simp, by omega⟩
theorem own_n5_b (x : Int) (n i : Int32) (m : Nat) (hm : m ≤ 30) (hn : n.toInt = 31 - m) (hi : i.toInt = x / 2 ^ m) (h4 : i.toInt < 4) (h0 : 0 ≤ i.toInt) : ∃ r : Nat, (own_n5 n i).toInt = r ∧ r ≤ 31 ∧ x < 2 ^ (32 - r) := by
  have u := (own_ush32_at i (1 : Int32) 1 (by decide) (by decide) h0).1
  have s := c_isub n (own_ush32 i (1 : Int32))
  have b1 := Int32.le_toInt (own_n5 n i)
  have b2 := Int32.toInt_lt (own_n5 n i)
  have p : (0 : Int) < 2 ^ m := Int.pow_pos (by decide)
  rw [own_n5] at *
  by_cases h : i.toInt < 2
  · refine ⟨31 - m, by omega, by omega, ?_⟩
    rw [show 32 - (31 - m) = m + 1 by omega, Int.pow_succ]
    rw [hi] at h
    have := (Int.ediv_lt_iff_lt_mul p).mp h
    omega
  · refine ⟨30 - m, by omega, by omega, ?_⟩
    rw [show 32 - (30 - m) = m + 2 by omega, Int.pow_succ, Int.pow_succ]
    rw [hi] at h4
    have := (Int.ediv_lt_iff_lt_mul p).mp h4
    omega
theorem own_step_b (x : Int) (n i k c : Int32) (m d : Nat) (hd : d < 32) (hk : ((k &&& 31).toUInt32 % 32).toBitVec.toNat = d) (hc : c.toInt = -d) (hm : m + d ≤ 31) (hn : n.toInt = 31 - m) (hi : i.toInt = x / 2 ^ m) (h0 : 0 ≤ i.toInt) (B : Int) (hB : i.toInt < B * 2 ^ d) :
    (n + c).toInt = 31 - ((m + d : Nat) : Int) ∧ (own_ush32 i k).toInt = x / 2 ^ (m + d) ∧ 0 ≤ (own_ush32 i k).toInt ∧ (own_ush32 i k).toInt < B := by
  obtain ⟨u, u0⟩ := own_ush32_at i k d hd hk h0
  have s := c_iadd n c
  have b1 := Int32.le_toInt (n + c)
  have b2 := Int32.toInt_lt (n + c)
  refine ⟨by omega, ?_, u0, ?_⟩
  · rw [u, hi, Int.ediv_ediv_of_nonneg (Int.pow_nonneg (by decide)), Int.pow_add]
  · rw [u]; exact (Int.ediv_lt_iff_lt_mul (Int.pow_pos (by decide))).mpr hB
theorem own_n4_b (x : Int) (n i : Int32) (m : Nat) (hm : m ≤ 28) (hn : n.toInt = 31 - m) (hi : i.toInt = x / 2 ^ m) (h4 : i.toInt < 16) (h0 : 0 ≤ i.toInt) : ∃ r : Nat, (own_n4 n i).toInt = r ∧ r ≤ 31 ∧ x < 2 ^ (32 - r) := by
  by_cases h : i < (4 : Int32)
  · rw [own_n4, if_pos h]
    rw [own_ltI] at h
    exact own_n5_b x n i m (by omega) hn hi h h0
  · rw [own_n4, if_neg h]
    obtain ⟨a, b, c, d⟩ := own_step_b x n i (2 : Int32) (-2 : Int32) m 2 (by decide) (by decide) (by decide) (by omega) hn hi h0 4 (by omega)
    exact own_n5_b x _ _ (m + 2) (by omega) a b d c
theorem own_n3_b (x : Int) (n i : Int32) (m : Nat) (hm : m ≤ 24) (hn : n.toInt = 31 - m) (hi : i.toInt = x / 2 ^ m) (h4 : i.toInt < 256) (h0 : 0 ≤ i.toInt) : ∃ r : Nat, (own_n3 n i).toInt = r ∧ r ≤ 31 ∧ x < 2 ^ (32 - r) := by
  by_cases h : i < (16 : Int32)
  · rw [own_n3, if_pos h]
    rw [own_ltI] at h
    exact own_n4_b x n i m (by omega) hn hi h h0
  · rw [own_n3, if_neg h]
    obtain ⟨a, b, c, d⟩ := own_step_b x n i (4 : Int32) (-4 : Int32) m 4 (by decide) (by decide) (by decide) (by omega) hn hi h0 16 (by omega)
    exact own_n4_b x _ _ (m + 4) (by omega) a b d c
theorem own_n2_b (x : Int) (n i : Int32) (m : Nat) (hm : m ≤ 16) (hn : n.toInt = 31 - m) (hi : i.toInt = x / 2 ^ m) (h4 : i.toInt < 65536) (h0 : 0 ≤ i.toInt) : ∃ r : Nat, (own_n2 n i).toInt = r ∧ r ≤ 31 ∧ x < 2 ^ (32 - r) := by
  by_cases h : i < (256 : Int32)
  · rw [own_n2, if_pos h]
    rw [own_ltI] at h
    exact own_n3_b x n i m (by omega) hn hi h h0
  · rw [own_n2, if_neg h]
    obtain ⟨a, b, c, d⟩ := own_step_b x n i (8 : Int32) (-8 : Int32) m 8 (by decide) (by decide) (by decide) (by omega) hn hi h0 256 (by omega)
    exact own_n3_b x _ _ (m + 8) (by omega) a b d c
theorem own_inlz_b (x : Int32) (hx : 0 < x.toInt) : ∃ r : Nat, (own_inlz x).toInt = r ∧ r ≤ 31 ∧ x.toInt < 2 ^ (32 - r) := by
  have p : (0 : Int32) < x := own_ltI.mpr hx
  rw [own_inlz, if_pos p]
  have t := Int32.toInt_lt x
  by_cases h : x < (65536 : Int32)
  · rw [own_n1, if_pos h]
    rw [own_ltI] at h
    exact own_n2_b x.toInt _ x 0 (by omega) rfl (by simp) h (by omega)
  · rw [own_n1, if_neg h]
    obtain ⟨a, b, c, d⟩ := own_step_b x.toInt (31 : Int32) x (16 : Int32) (-16 : Int32) 0 16 (by decide) (by decide) (by decide) (by omega) rfl (by simp) (by omega) 65536 (by omega)
    exact own_n2_b x.toInt _ _ (0 + 16) (by omega) a b d c
theorem own_amt : ∀ n : Fin 64, (((Int32.ofNat n.1) &&& 0x3f).toInt64.toUInt64 % 64).toBitVec.toNat = n.1 ∧ (((Int32.ofNat n.1) &&& 0x3f).toInt64.toBitVec.smod 64).toNat = n.1 := by decide +kernel
theorem own_ofNat (k : Int32) (n : Nat) (h : k.toInt = n) : k = Int32.ofNat n := by
  rw [← Int32.toInt_inj, h]
  have := Int32.toInt_lt k
  rw [Int32.toInt_ofNat_of_lt (by omega)]
theorem own_ush_bv (x : Int64) (k : Int32) (n : Nat) (h : k.toInt = n) (hn : n < 64) : (own_ush x k).toBitVec = x.toBitVec >>> n := by
  have e := own_ofNat k n h
  subst e
  show x.toBitVec >>> (((Int32.ofNat n) &&& 0x3f).toInt64.toUInt64 % 64).toBitVec = _
  rw [BitVec.ushiftRight_eq', (own_amt ⟨n, hn⟩).1]
theorem own_shl_bv (x : Int64) (k : Int32) (n : Nat) (h : k.toInt = n) (hn : n < 64) : (own_shl x k).toBitVec = x.toBitVec <<< n := by
  have e := own_ofNat k n h
  subst e
  show x.toBitVec <<< (((Int32.ofNat n) &&& 0x3f).toInt64.toBitVec.smod 64) = _
  rw [BitVec.shiftLeft_eq', (own_amt ⟨n, hn⟩).2]
theorem own_shl_zero (k : Int32) : own_shl (0 : Int64) k = 0 := by
  apply Int64.toBitVec_inj.mp
  show (0 : BitVec 64) <<< ((k &&& 0x3f).toInt64.toBitVec.smod 64) = 0
  simp
theorem own_toNat (x : Int64) (h : 0 ≤ x.toInt) : x.toInt = x.toBitVec.toNat := by
  have : x.toBitVec.toInt = x.toInt := rfl
  rw [BitVec.toInt_eq_toNat_cond] at this
  have hl := x.toBitVec.isLt
  split at this <;> omega
theorem own_hi0 (q : Int64) (h0 : 0 ≤ q.toInt) (h1 : q.toInt < 4294967296) : (own_ush q (32 : Int32)).toInt32 = (0 : Int32) := by
  have qn := own_toNat q h0
  have e := own_ush_bv q (32 : Int32) 32 rfl (by decide)
  have e2 : (own_ush q (32 : Int32)).toBitVec.toNat = 0 := by
    rw [e, BitVec.toNat_ushiftRight, Nat.shiftRight_eq_div_pow]
    apply Nat.div_eq_of_lt
    omega
  have e3 : own_ush q (32 : Int32) = 0 := Int64.toBitVec_inj.mp (BitVec.eq_of_toNat_eq e2)
  rw [e3]; rfl
theorem own_64 (i : Int32) (r : Nat) (h : i.toInt = r) (hr : r ≤ 32) : ((64 : Int32) - ((32 : Int32) + i)).toInt = ((32 - r : Nat) : Int) := by
  have f1 := c_iadd (32 : Int32) i
  have f2 := Int32.le_toInt ((32 : Int32) + i)
  have f3 := Int32.toInt_lt ((32 : Int32) + i)
  have f4 := c_isub (64 : Int32) ((32 : Int32) + i)
  have f5 := Int32.le_toInt ((64 : Int32) - ((32 : Int32) + i))
  have f6 := Int32.toInt_lt ((64 : Int32) - ((32 : Int32) + i))
  have f7 : (32 : Int32).toInt = 32 := rfl
  have f8 : (64 : Int32).toInt = 64 := rfl
  omega
theorem own_bits_q (q : Int64) (h0 : 0 ≤ q.toInt) (h1 : q.toInt < 4294967296) : ∃ b : Nat, ((64 : Int32) - own_lnlz q).toInt = b ∧ b ≤ 32 ∧ q.toInt < 2 ^ b := by
  have L : own_lnlz q = (32 : Int32) + own_inlz q.toInt32 := by rw [own_lnlz, if_pos (own_hi0 q h0 h1)]
  have w := c_l2i q
  have w1 := Int32.le_toInt q.toInt32
  have w2 := Int32.toInt_lt q.toInt32
  rw [L]
  by_cases hp : 0 < q.toInt32.toInt
  · obtain ⟨r, r1, r2, r3⟩ := own_inlz_b q.toInt32 hp
    refine ⟨32 - r, own_64 _ r r1 (by omega), by omega, ?_⟩
    have : q.toInt32.toInt = q.toInt := by omega
    rw [← this]
    exact r3
  · have n0 : ¬ (0 : Int32) < q.toInt32 := fun c => hp (own_ltI.mp c)
    by_cases he : q.toInt32 = (0 : Int32)
    · have i : own_inlz q.toInt32 = (32 : Int32) := by rw [own_inlz, if_neg n0, if_pos he]
      have e0 : q.toInt32.toInt = 0 := by rw [he]; rfl
      rw [i]
      exact ⟨0, own_64 _ 32 rfl (by omega), by omega, by omega⟩
    · have i : own_inlz q.toInt32 = (0 : Int32) := by rw [own_inlz, if_neg n0, if_neg he]
      rw [i]
      exact ⟨32, own_64 _ 0 rfl (by omega), by omega, by omega⟩
theorem own_rng (lo hi : Int32) (h : lo.toInt ≤ hi.toInt) : (hi.toInt64 - lo.toInt64).toInt = hi.toInt - lo.toInt ∧ hi.toInt - lo.toInt < 4294967296 := by
  have a1 := Int32.le_toInt lo
  have a2 := Int32.toInt_lt hi
  have s := c_lsub hi.toInt64 lo.toInt64
  have s1 := Int64.le_toInt (hi.toInt64 - lo.toInt64)
  have s2 := Int64.toInt_lt (hi.toInt64 - lo.toInt64)
  rw [c_i2l, c_i2l] at s
  omega
/-- the bits of a range of values -/
theorem own_bits_b (lo hi : Int32) (h : lo.toInt ≤ hi.toInt) : ∃ b : Nat, (own_bits lo hi).toInt = b ∧ b ≤ 32 ∧ hi.toInt - lo.toInt < 2 ^ b := by
  obtain ⟨d, l⟩ := own_rng lo hi h
  rw [← d]
  exact own_bits_q _ (by omega) (by omega)
def own_lo (x : BitVec 64) (n : Nat) : Prop := ∀ i, n ≤ i → x.getLsbD i = false
def own_hi (x : BitVec 64) (n : Nat) : Prop := ∀ i, i < n → x.getLsbD i = false
theorem own_lo_of (x : Int64) (n : Nat) (h0 : 0 ≤ x.toInt) (h : x.toInt < 2 ^ n) : own_lo x.toBitVec n := fun i hi => by
  have e := own_toNat x h0
  have l : x.toBitVec.toNat < 2 ^ n := by
    have : ((x.toBitVec.toNat : Nat) : Int) < ((2 ^ n : Nat) : Int) := by rw [← e]; simpa using h
    exact Int.ofNat_lt.mp this
  rw [BitVec.getLsbD]
  exact Nat.testBit_lt_two_pow (Nat.lt_of_lt_of_le l (Nat.pow_le_pow_right (by decide) hi))
theorem own_mask_bit : ∀ b : Fin 33, b.1 ≠ 0 → ∀ i : Fin 64, (own_ush (-1 : Int64) ((64 : Int32) - Int32.ofNat b.1)).toBitVec.getLsbD i.1 = decide (i.1 < b.1) := by decide +kernel
/-- a field read back out of a word -/
theorem own_extract (K d : Int64) (k bb : Int32) (s b : Nat) (hb : bb.toInt = b) (hk : k.toInt = s) (hb32 : b ≤ 32) (hs : s + b ≤ 64) (hd : own_lo d.toBitVec b) (hK : ∀ i, i < b → K.toBitVec.getLsbD (s + i) = d.toBitVec.getLsbD i) : own_ush K k &&& own_mask bb = d := by
  have e := own_ofNat bb b hb
  subst e
  apply Int64.toBitVec_inj.mp
  rw [Int64.toBitVec_and]
  apply BitVec.eq_of_getLsbD_eq
  intro i hi
  rw [BitVec.getLsbD_and]
  by_cases b0 : b = 0
  · subst b0
    have m : own_mask (Int32.ofNat 0) = 0 := by decide
    rw [m, hd i (by omega)]
    simp
  · have ne : ¬ Int32.ofNat b = (0 : Int32) := fun q => by
      have : (Int32.ofNat b).toInt = (0 : Int32).toInt := by rw [q]
      rw [hb] at this
      have z : (0 : Int32).toInt = 0 := rfl
      omega
    rw [own_mask, if_neg ne, own_mask_bit ⟨b, by omega⟩ b0 ⟨i, hi⟩, own_ush_bv K k s hk (by omega), BitVec.getLsbD_ushiftRight]
    by_cases h : i < b
    · rw [hK i h]; simp [h]
    · rw [hd i (by omega)]; simp [h]
theorem own_shl_hi (d : Int64) (k : Int32) (s b : Nat) (hk : k.toInt = s) (hs : s + b ≤ 64) (hd : own_lo d.toBitVec b) : own_hi (own_shl d k).toBitVec s ∧ own_lo (own_shl d k).toBitVec (s + b) ∧ ∀ i, i < b → (own_shl d k).toBitVec.getLsbD (s + i) = d.toBitVec.getLsbD i := by
  by_cases b0 : b = 0
  · subst b0
    have z : d = 0 := by
      apply Int64.toBitVec_inj.mp
      apply BitVec.eq_of_getLsbD_eq
      intro i hi
      rw [hd i (by omega)]
      simp
    rw [z, own_shl_zero]
    exact ⟨fun i _ => by simp, fun i _ => by simp, fun i h => by omega⟩
  · rw [own_shl_bv d k s hk (by omega)]
    refine ⟨fun i hi => by simp [hi], fun i hi => ?_, fun i hi => ?_⟩
    · rw [BitVec.getLsbD_shiftLeft, hd (i - s) (by omega)]; simp
    · rw [BitVec.getLsbD_shiftLeft]
      have h1 : decide (s + i < 64) = true := by simp; omega
      have h2 : decide (s + i < s) = false := by simp
      rw [h1, h2, show s + i - s = i by omega]; simp
def own_fl (f u b : Int32) : Int32 := if (64 : Int32) < (u + b) then (f + (1 : Int32)) else f
def own_us (u b : Int32) : Int32 := if (64 : Int32) < (u + b) then (0 : Int32) else u
def own_F (lo hi : Nat → Int32) : Nat → Int32 × Int32
  | 0 => ((0 : Int32), (0 : Int32))
  | j + 1 => (own_fl (own_F lo hi j).1 (own_F lo hi j).2 (own_bits (lo j) (hi j)), (own_us (own_F lo hi j).2 (own_bits (lo j) (hi j))) + (own_bits (lo j) (hi j)))
def own_wd (lo hi : Nat → Int32) (j : Nat) : Int32 := (own_F lo hi (j + 1)).1
def own_sf (lo hi : Nat → Int32) (j : Nat) : Int32 := ((64 : Int32) - own_us (own_F lo hi j).2 (own_bits (lo j) (hi j))) - (own_bits (lo j) (hi j))
def own_mk (lo hi : Nat → Int32) (j : Nat) : Int64 := own_mask (own_bits (lo j) (hi j))
theorem own_three {α : Type} (f g : Nat → α) : ∀ j, j < 3 → (own_set (own_set (own_set g 0 (f 0)) 1 (f 1)) 2 (f 2)) j = f j := by
  intro j hj
  have c : j = 0 ∨ j = 1 ∨ j = 2 := by omega
  rcases c with rfl | rfl | rfl <;> rfl
theorem own_ix (p x : Int32) (o k N : Nat) (hp : p.toInt = o) (hx : x.toInt = k) (h : o + k < N) (hN : N ≤ 8) : ¬ (p + x) < 0 ∧ (p + x).toNatClampNeg = o + k := by
  have q := c_iadd p x
  have b1 := Int32.le_toInt (p + x)
  have b2 := Int32.toInt_lt (p + x)
  have z : (0 : Int32).toInt = 0 := rfl
  have e : (p + x).toInt = ((o + k : Nat) : Int) := by omega
  exact ⟨by rw [Int32.lt_iff_toInt_lt]; omega, by simp only [Int32.toNatClampNeg]; omega⟩
def own_or (f : Nat → Int64) (k : Nat) (v : Int64) : Nat → Int64 := own_set f k (f k ||| v)
def own_dd (lo val : Nat → Int32) (j : Nat) : Int64 := (val j).toInt64 - (lo j).toInt64
def own_zero (f : Nat → Int64) (o nw : Nat) : Nat → Int64 := if nw = 1 then own_set f o (0 : Int64) else own_set (own_set f o (0 : Int64)) (o + 1) (0 : Int64)
def own_enc (f : Nat → Int64) (o nw : Nat) (wn : Nat → Nat) (lo val sh : Nat → Int32) : Nat → Int64 :=
  own_or (own_or (own_or (own_zero f o nw) (o + wn 0) (own_shl (own_dd lo val 0) (sh 0))) (o + wn 1) (own_shl (own_dd lo val 1) (sh 1))) (o + wn 2) (own_shl (own_dd lo val 2) (sh 2))
def own_dec (f : Nat → Int64) (o : Nat) (wn : Nat → Nat) (lo sh : Nat → Int32) (mk : Nat → Int64) (j : Nat) : Int32 := ((own_ush (f (o + wn j)) (sh j) &&& mk j) + (lo j).toInt64).toInt32
theorem own_lt_of {a b : Int32} {m n : Int} (h1 : a.toInt = m) (h2 : b.toInt = n) (h : m < n) : a < b := by rw [Int32.lt_iff_toInt_lt, h1, h2]; exact h
theorem own_nlt_of {a b : Int32} {m n : Int} (h1 : a.toInt = m) (h2 : b.toInt = n) (h : n ≤ m) : ¬ a < b := by rw [Int32.lt_iff_toInt_lt, h1, h2]; exact Int.not_lt.mpr h
def own_wn (w2 : Nat) (j : Nat) : Nat := if j = 2 then w2 else 0
theorem own_orb (a b : Int64) (i : Nat) : (a ||| b).toBitVec.getLsbD i = (a.toBitVec.getLsbD i || b.toBitVec.getLsbD i) := by rw [Int64.toBitVec_or, BitVec.getLsbD_or]
theorem own_zb (i : Nat) : (0 : Int64).toBitVec.getLsbD i = false := by
  show (0#64).getLsbD i = false
  simp
theorem own_enc0 (f : Nat → Int64) (o : Nat) (lo val sh : Nat → Int32) : own_enc f o 1 (own_wn 0) lo val sh o = (((0 : Int64) ||| own_shl (own_dd lo val 0) (sh 0)) ||| own_shl (own_dd lo val 1) (sh 1)) ||| own_shl (own_dd lo val 2) (sh 2) := by
  simp [own_enc, own_or, own_set, own_zero, own_wn]
theorem own_enc1 (f : Nat → Int64) (o : Nat) (lo val sh : Nat → Int32) : own_enc f o 2 (own_wn 1) lo val sh o = ((0 : Int64) ||| own_shl (own_dd lo val 0) (sh 0)) ||| own_shl (own_dd lo val 1) (sh 1) := by
  simp [own_enc, own_or, own_set, own_zero, own_wn]
theorem own_enc2 (f : Nat → Int64) (o : Nat) (lo val sh : Nat → Int32) : own_enc f o 2 (own_wn 1) lo val sh (o + 1) = (0 : Int64) ||| own_shl (own_dd lo val 2) (sh 2) := by
  simp [own_enc, own_or, own_set, own_zero, own_wn]
theorem own_back (K : Int64) (lo val : Nat → Int32) (j : Nat) (h : K = own_dd lo val j) : (K + (lo j).toInt64).toInt32 = val j := by
  rw [h, own_dd, Int64.sub_add_cancel]; simp
theorem own_dec_enc (f : Nat → Int64) (o w2 : Nat) (lo val sh bb : Nat → Int32) (mk : Nat → Int64) (s b : Nat → Nat)
    (hs : ∀ j, j < 3 → (sh j).toInt = s j) (hb : ∀ j, j < 3 → (bb j).toInt = b j ∧ b j ≤ 32) (hm : ∀ j, j < 3 → mk j = own_mask (bb j)) (hd : ∀ j, j < 3 → own_lo (own_dd lo val j).toBitVec (b j))
    (L0 : s 0 + b 0 = 64) (L1 : s 1 + b 1 = s 0) (L2 : (w2 = 0 ∧ s 2 + b 2 = s 1) ∨ (w2 = 1 ∧ s 2 + b 2 = 64)) : ∀ j, j < 3 → own_dec (own_enc f o (w2 + 1) (own_wn w2) lo val sh) o (own_wn w2) lo sh mk j = val j := by
  have s2 : s 2 + b 2 ≤ 64 := by omega
  obtain ⟨h0, l0, t0⟩ := own_shl_hi (own_dd lo val 0) (sh 0) (s 0) (b 0) (hs 0 (by decide)) (by omega) (hd 0 (by decide))
  obtain ⟨h1, l1, t1⟩ := own_shl_hi (own_dd lo val 1) (sh 1) (s 1) (b 1) (hs 1 (by decide)) (by omega) (hd 1 (by decide))
  obtain ⟨h2, l2, t2⟩ := own_shl_hi (own_dd lo val 2) (sh 2) (s 2) (b 2) (hs 2 (by decide)) s2 (hd 2 (by decide))
  intro j hj
  have c : j = 0 ∨ j = 1 ∨ j = 2 := by omega
  rw [own_dec]
  apply own_back
  rw [hm j hj]
  rcases L2 with ⟨rfl, L2⟩ | ⟨rfl, L2⟩
  · rw [show o + own_wn 0 j = o by simp [own_wn], own_enc0]
    rcases c with rfl | rfl | rfl
    · refine own_extract _ _ _ _ (s 0) (b 0) (hb 0 (by decide)).1 (hs 0 (by decide)) (hb 0 (by decide)).2 (by omega) (hd 0 (by decide)) fun i hi => ?_
      rw [own_orb, own_orb, own_orb, own_zb, t0 i hi, l1 _ (by omega), l2 _ (by omega)]; simp
    · refine own_extract _ _ _ _ (s 1) (b 1) (hb 1 (by decide)).1 (hs 1 (by decide)) (hb 1 (by decide)).2 (by omega) (hd 1 (by decide)) fun i hi => ?_
      rw [own_orb, own_orb, own_orb, own_zb, t1 i hi, h0 _ (by omega), l2 _ (by omega)]; simp
    · refine own_extract _ _ _ _ (s 2) (b 2) (hb 2 (by decide)).1 (hs 2 (by decide)) (hb 2 (by decide)).2 (by omega) (hd 2 (by decide)) fun i hi => ?_
      rw [own_orb, own_orb, own_orb, own_zb, t2 i hi, h0 _ (by omega), h1 _ (by omega)]; simp
  · rcases c with rfl | rfl | rfl
    · rw [show o + own_wn 1 0 = o by simp [own_wn], own_enc1]
      refine own_extract _ _ _ _ (s 0) (b 0) (hb 0 (by decide)).1 (hs 0 (by decide)) (hb 0 (by decide)).2 (by omega) (hd 0 (by decide)) fun i hi => ?_
      rw [own_orb, own_orb, own_zb, t0 i hi, l1 _ (by omega)]; simp
    · rw [show o + own_wn 1 1 = o by simp [own_wn], own_enc1]
      refine own_extract _ _ _ _ (s 1) (b 1) (hb 1 (by decide)).1 (hs 1 (by decide)) (hb 1 (by decide)).2 (by omega) (hd 1 (by decide)) fun i hi => ?_
      rw [own_orb, own_orb, own_zb, t1 i hi, h0 _ (by omega)]; simp
    · rw [show o + own_wn 1 2 = o + 1 by simp [own_wn], own_enc2]
      refine own_extract _ _ _ _ (s 2) (b 2) (hb 2 (by decide)).1 (hs 2 (by decide)) (hb 2 (by decide)).2 (by omega) (hd 2 (by decide)) fun i hi => ?_
      rw [own_orb, own_zb, t2 i hi]; simp
theorem own_us_at (u b : Int32) (un bn : Nat) (hu : u.toInt = un) (hb : b.toInt = bn) (h1 : un ≤ 64) (h2 : bn ≤ 32) : (u + b).toInt = ((un + bn : Nat) : Int) ∧ (((64 : Int32) < (u + b)) ↔ 64 < un + bn) := by
  have q := c_iadd u b
  have b1 := Int32.le_toInt (u + b)
  have b2 := Int32.toInt_lt (u + b)
  have e : (u + b).toInt = ((un + bn : Nat) : Int) := by omega
  have f : (64 : Int32).toInt = 64 := rfl
  exact ⟨e, by rw [Int32.lt_iff_toInt_lt, e, f]; omega⟩
theorem own_sf_at (u b : Int32) (un bn : Nat) (hu : u.toInt = un) (hb : b.toInt = bn) (h : un + bn ≤ 64) : (((64 : Int32) - u) - b).toInt = ((64 - un - bn : Nat) : Int) := by
  have q1 := c_isub (64 : Int32) u
  have q2 := c_isub ((64 : Int32) - u) b
  have b1 := Int32.le_toInt ((64 : Int32) - u)
  have b2 := Int32.toInt_lt ((64 : Int32) - u)
  have b3 := Int32.le_toInt (((64 : Int32) - u) - b)
  have b4 := Int32.toInt_lt (((64 : Int32) - u) - b)
  have f : (64 : Int32).toInt = 64 := rfl
  omega
/-- the layout of three variables -/
theorem own_lay (lo hi : Nat → Int32) (b : Nat → Nat) (hb : ∀ j, j < 3 → (own_bits (lo j) (hi j)).toInt = b j ∧ b j ≤ 32) :
    ∃ (w2 : Nat) (s : Nat → Nat), (∀ j, j < 3 → (own_sf lo hi j).toInt = s j) ∧ (∀ j, j < 3 → (own_wd lo hi j).toInt = own_wn w2 j ∧ own_wn w2 j < w2 + 1) ∧ ((own_F lo hi 3).1 + (1 : Int32)).toInt = ((w2 + 1 : Nat) : Int) ∧ s 0 + b 0 = 64 ∧ s 1 + b 1 = s 0 ∧ ((w2 = 0 ∧ s 2 + b 2 = s 1) ∨ (w2 = 1 ∧ s 2 + b 2 = 64)) := by
  obtain ⟨e0, m0⟩ := hb 0 (by decide)
  obtain ⟨e1, m1⟩ := hb 1 (by decide)
  obtain ⟨e2, m2⟩ := hb 2 (by decide)
  have z : (0 : Int32).toInt = ((0 : Nat) : Int) := rfl
  obtain ⟨a0, i0⟩ := own_us_at (0 : Int32) _ 0 (b 0) z e0 (by omega) m0
  have n0 : ¬ (64 : Int32) < ((0 : Int32) + own_bits (lo 0) (hi 0)) := fun c => by have := i0.mp c; omega
  have F1 : own_F lo hi 1 = ((0 : Int32), (0 : Int32) + own_bits (lo 0) (hi 0)) := by
    show (own_fl (0 : Int32) (0 : Int32) _, (own_us (0 : Int32) _) + _) = _
    rw [own_fl, own_us, if_neg n0, if_neg n0]
  obtain ⟨a1, i1⟩ := own_us_at ((0 : Int32) + own_bits (lo 0) (hi 0)) _ (0 + b 0) (b 1) a0 e1 (by omega) m1
  have n1 : ¬ (64 : Int32) < (((0 : Int32) + own_bits (lo 0) (hi 0)) + own_bits (lo 1) (hi 1)) := fun c => by have := i1.mp c; omega
  have F2 : own_F lo hi 2 = ((0 : Int32), ((0 : Int32) + own_bits (lo 0) (hi 0)) + own_bits (lo 1) (hi 1)) := by
    show (own_fl (own_F lo hi 1).1 (own_F lo hi 1).2 _, (own_us (own_F lo hi 1).2 _) + _) = _
    rw [F1, own_fl, own_us, if_neg n1, if_neg n1]
  obtain ⟨a2, i2⟩ := own_us_at (((0 : Int32) + own_bits (lo 0) (hi 0)) + own_bits (lo 1) (hi 1)) _ (0 + b 0 + b 1) (b 2) a1 e2 (by omega) m2
  have W0 : own_wd lo hi 0 = (0 : Int32) := by show (own_F lo hi 1).1 = _; rw [F1]
  have W1 : own_wd lo hi 1 = (0 : Int32) := by show (own_F lo hi 2).1 = _; rw [F2]
  have S0 : (own_sf lo hi 0).toInt = ((64 - 0 - b 0 : Nat) : Int) := by
    show (((64 : Int32) - own_us (0 : Int32) _) - _).toInt = _
    rw [own_us, if_neg n0]
    exact own_sf_at _ _ 0 (b 0) z e0 (by omega)
  have S1 : (own_sf lo hi 1).toInt = ((64 - (0 + b 0) - b 1 : Nat) : Int) := by
    show (((64 : Int32) - own_us (own_F lo hi 1).2 _) - _).toInt = _
    rw [F1, own_us, if_neg n1]
    exact own_sf_at _ _ (0 + b 0) (b 1) a0 e1 (by omega)
  by_cases c : (64 : Int32) < (((0 : Int32) + own_bits (lo 0) (hi 0)) + own_bits (lo 1) (hi 1)) + own_bits (lo 2) (hi 2)
  · have c' := i2.mp c
    have F3 : (own_F lo hi 3).1 = (0 : Int32) + (1 : Int32) := by
      show own_fl (own_F lo hi 2).1 (own_F lo hi 2).2 _ = _
      rw [F2, own_fl, if_pos c]
    have S2 : (own_sf lo hi 2).toInt = ((64 - 0 - b 2 : Nat) : Int) := by
      show (((64 : Int32) - own_us (own_F lo hi 2).2 _) - _).toInt = _
      rw [F2, own_us, if_pos c]
      exact own_sf_at _ _ 0 (b 2) z e2 (by omega)
    refine ⟨1, fun j => if j = 0 then 64 - 0 - b 0 else if j = 1 then 64 - (0 + b 0) - b 1 else 64 - 0 - b 2, fun j hj => ?_, fun j hj => ?_, by rw [F3]; rfl, by simp; omega, by simp; omega, Or.inr ⟨rfl, by simp; omega⟩⟩
    · have q : j = 0 ∨ j = 1 ∨ j = 2 := by omega
      rcases q with rfl | rfl | rfl
      · exact S0
      · exact S1
      · exact S2
    · have q : j = 0 ∨ j = 1 ∨ j = 2 := by omega
      rcases q with rfl | rfl | rfl
      · rw [W0]; exact ⟨rfl, by decide⟩
      · rw [W1]; exact ⟨rfl, by decide⟩
      · exact ⟨by show (own_F lo hi 3).1.toInt = _; rw [F3]; rfl, by decide⟩
  · have c' : ¬ 64 < 0 + b 0 + b 1 + b 2 := fun q => c (i2.mpr q)
    have F3 : (own_F lo hi 3).1 = (0 : Int32) := by
      show own_fl (own_F lo hi 2).1 (own_F lo hi 2).2 _ = _
      rw [F2, own_fl, if_neg c]
    have S2 : (own_sf lo hi 2).toInt = ((64 - (0 + b 0 + b 1) - b 2 : Nat) : Int) := by
      show (((64 : Int32) - own_us (own_F lo hi 2).2 _) - _).toInt = _
      rw [F2, own_us, if_neg c]
      exact own_sf_at _ _ (0 + b 0 + b 1) (b 2) a1 e2 (by omega)
    refine ⟨0, fun j => if j = 0 then 64 - 0 - b 0 else if j = 1 then 64 - (0 + b 0) - b 1 else 64 - (0 + b 0 + b 1) - b 2, fun j hj => ?_, fun j hj => ?_, by rw [F3]; rfl, by simp; omega, by simp; omega, Or.inl ⟨rfl, by simp; omega⟩⟩
    · have q : j = 0 ∨ j = 1 ∨ j = 2 := by omega
      rcases q with rfl | rfl | rfl
      · exact S0
      · exact S1
      · exact S2
    · have q : j = 0 ∨ j = 1 ∨ j = 2 := by omega
      rcases q with rfl | rfl | rfl
      · rw [W0]; exact ⟨rfl, by decide⟩
      · rw [W1]; exact ⟨rfl, by decide⟩
      · exact ⟨by show (own_F lo hi 3).1.toInt = _; rw [F3]; rfl, by decide⟩
def own_v3 {α : Type} (a b c : α) : Nat → α := fun j => if j = 0 then a else if j = 1 then b else c
theorem own_all3 {P : Nat → Prop} (h0 : P 0) (h1 : P 1) (h2 : P 2) : ∀ j, j < 3 → P j := fun j hj => by
  have q : j = 0 ∨ j = 1 ∨ j = 2 := by omega
  rcases q with rfl | rfl | rfl <;> assumption
theorem own_bits3 (lo hi : Nat → Int32) (h : ∀ j, j < 3 → (lo j).toInt ≤ (hi j).toInt) : ∃ b : Nat → Nat, ∀ j, j < 3 → (own_bits (lo j) (hi j)).toInt = b j ∧ b j ≤ 32 ∧ (hi j).toInt - (lo j).toInt < 2 ^ (b j) := by
  obtain ⟨b0, g0⟩ := own_bits_b (lo 0) (hi 0) (h 0 (by decide))
  obtain ⟨b1, g1⟩ := own_bits_b (lo 1) (hi 1) (h 1 (by decide))
  obtain ⟨b2, g2⟩ := own_bits_b (lo 2) (hi 2) (h 2 (by decide))
  exact ⟨own_v3 b0 b1 b2, own_all3 g0 g1 g2⟩
theorem own_fin3 (lo hi val : Nat → Int32) (h : ∀ j, j < 3 → (lo j).toInt ≤ (hi j).toInt) (hd : ∀ j, j < 3 → 0 ≤ (own_dd lo val j).toInt ∧ (own_dd lo val j).toInt ≤ (hi j).toInt - (lo j).toInt) :
    ∃ w2 : Nat, (w2 + 1 = 1 ∨ w2 + 1 = 2) ∧ ((own_F lo hi 3).1 + (1 : Int32)).toInt = ((w2 + 1 : Nat) : Int) ∧ (∀ j, j < 3 → (own_wd lo hi j).toInt = own_wn w2 j ∧ own_wn w2 j < w2 + 1) ∧ ∀ f o j, j < 3 → own_dec (own_enc f o (w2 + 1) (own_wn w2) lo val (own_sf lo hi)) o (own_wn w2) lo (own_sf lo hi) (own_mk lo hi) j = val j := by
  obtain ⟨b, hb⟩ := own_bits3 lo hi h
  obtain ⟨w2, s, hs, hw, hF, L0, L1, L2⟩ := own_lay lo hi b fun j hj => ⟨(hb j hj).1, (hb j hj).2.1⟩
  refine ⟨w2, by omega, hF, hw, fun f o => ?_⟩
  exact own_dec_enc f o w2 lo val (own_sf lo hi) (fun j => own_bits (lo j) (hi j)) (own_mk lo hi) s b hs (fun j hj => ⟨(hb j hj).1, (hb j hj).2.1⟩) (fun _ _ => rfl) (fun j hj => own_lo_of _ _ (hd j hj).1 (by have := (hb j hj).2.2; have := (hd j hj).2; omega)) L0 L1 L2
def own_lw (b : Int64) : Int32 := own_min b.toInt32 (own_ush b (32 : Int32)).toInt32
def own_hg (b : Int64) : Int32 := own_max b.toInt32 (own_ush b (32 : Int32)).toInt32
def own_sp (lo hi : Int32) : Int64 := (hi.toInt64 - lo.toInt64) + (1 : Int64)
def own_pk (lo hi x : Int32) : Int64 := ((x.toInt64 &&& (4294967295 : Int64)) - ((x.toInt64 &&& (4294967295 : Int64)) / own_sp lo hi) * own_sp lo hi)
def own_vl (lo hi x : Int32) : Int32 := (lo.toInt64 + own_pk lo hi x).toInt32
theorem own_lw_hg (b : Int64) : (own_lw b).toInt ≤ (own_hg b).toInt := by
  rw [own_lw, own_hg, own_min, own_max]
  split <;> split <;> simp only [Int32.lt_iff_toInt_lt] at * <;> omega
theorem own_sp_at (lo hi : Int32) (h : lo.toInt ≤ hi.toInt) : (own_sp lo hi).toInt = hi.toInt - lo.toInt + 1 := by
  obtain ⟨d, l⟩ := own_rng lo hi h
  have q := c_ladd (hi.toInt64 - lo.toInt64) (1 : Int64)
  have b1 := Int64.le_toInt (own_sp lo hi)
  have b2 := Int64.toInt_lt (own_sp lo hi)
  have o : (1 : Int64).toInt = 1 := by decide
  rw [own_sp] at *
  omega
theorem own_sp_ne (lo hi : Int32) (h : lo.toInt ≤ hi.toInt) : own_sp lo hi ≠ 0 := fun e => by
  have := own_sp_at lo hi h
  rw [e] at this
  have z : (0 : Int64).toInt = 0 := by decide
  omega
theorem own_pk_at (lo hi x : Int32) (h : lo.toInt ≤ hi.toInt) : 0 ≤ (own_pk lo hi x).toInt ∧ (own_pk lo hi x).toInt ≤ hi.toInt - lo.toInt := by
  have s := own_sp_at lo hi h
  have a := (c_andSL x.toInt64 (4294967295 : Int64)).2.2 (by decide)
  have r := (c_lrem (x.toInt64 &&& (4294967295 : Int64)) (own_sp lo hi) _ s).1 a
  rw [own_pk, r]
  have q1 := Int.emod_nonneg (x.toInt64 &&& (4294967295 : Int64)).toInt (show hi.toInt - lo.toInt + 1 ≠ 0 by omega)
  have q2 := Int.emod_lt_of_pos (x.toInt64 &&& (4294967295 : Int64)).toInt (show 0 < hi.toInt - lo.toInt + 1 by omega)
  omega
theorem own_vl_at (lo hi x : Int32) (h : lo.toInt ≤ hi.toInt) : (own_vl lo hi x).toInt = lo.toInt + (own_pk lo hi x).toInt ∧ ((own_vl lo hi x).toInt64 - lo.toInt64).toInt = (own_pk lo hi x).toInt := by
  obtain ⟨p1, p2⟩ := own_pk_at lo hi x h
  have a1 := Int32.le_toInt lo
  have a2 := Int32.toInt_lt hi
  have q := c_ladd lo.toInt64 (own_pk lo hi x)
  have b1 := Int64.le_toInt (lo.toInt64 + own_pk lo hi x)
  have b2 := Int64.toInt_lt (lo.toInt64 + own_pk lo hi x)
  rw [c_i2l] at q
  have n := c_l2i (lo.toInt64 + own_pk lo hi x)
  have n1 := Int32.le_toInt (own_vl lo hi x)
  have n2 := Int32.toInt_lt (own_vl lo hi x)
  have e : (own_vl lo hi x).toInt = lo.toInt + (own_pk lo hi x).toInt := by rw [own_vl] at *; omega
  refine ⟨e, ?_⟩
  have d := c_lsub (own_vl lo hi x).toInt64 lo.toInt64
  have d1 := Int64.le_toInt ((own_vl lo hi x).toInt64 - lo.toInt64)
  have d2 := Int64.toInt_lt ((own_vl lo hi x).toInt64 - lo.toInt64)
  rw [c_i2l, c_i2l, e] at d
  omega
theorem own_m3 (q1 q2 q3 : Int64) (p4 p5 p6 : Int32) : (∀ j, j < 3 → ((own_v3 (own_lw q1) (own_lw q2) (own_lw q3)) j).toInt ≤ ((own_v3 (own_hg q1) (own_hg q2) (own_hg q3)) j).toInt) ∧ (∀ j, j < 3 → 0 ≤ (own_dd (own_v3 (own_lw q1) (own_lw q2) (own_lw q3)) (own_v3 (own_vl (own_lw q1) (own_hg q1) p4) (own_vl (own_lw q2) (own_hg q2) p5) (own_vl (own_lw q3) (own_hg q3) p6)) j).toInt ∧ (own_dd (own_v3 (own_lw q1) (own_lw q2) (own_lw q3)) (own_v3 (own_vl (own_lw q1) (own_hg q1) p4) (own_vl (own_lw q2) (own_hg q2) p5) (own_vl (own_lw q3) (own_hg q3) p6)) j).toInt ≤ ((own_v3 (own_hg q1) (own_hg q2) (own_hg q3)) j).toInt - ((own_v3 (own_lw q1) (own_lw q2) (own_lw q3)) j).toInt) := by
  refine ⟨own_all3 (own_lw_hg q1) (own_lw_hg q2) (own_lw_hg q3), own_all3 ?_ ?_ ?_⟩
  · have h := own_lw_hg q1
    have a := own_pk_at _ _ p4 h
    rw [← (own_vl_at _ _ p4 h).2] at a
    exact a
  · have h := own_lw_hg q2
    have a := own_pk_at _ _ p5 h
    rw [← (own_vl_at _ _ p5 h).2] at a
    exact a
  · have h := own_lw_hg q3
    have a := own_pk_at _ _ p6 h
    rw [← (own_vl_at _ _ p6 h).2] at a
    exact a
theorem own_off (q : Int64) : ∃ o : Nat, (q &&& (3 : Int64)).toInt32.toInt = o ∧ o ≤ 3 := by
  have a : (q &&& (3 : Int64)).toBitVec.toNat ≤ 3 := by
    rw [Int64.toBitVec_and, BitVec.toNat_and]
    exact Nat.and_le_right
  have b := (c_andSL q (3 : Int64)).2.2 (by decide)
  have e := own_toNat _ b
  have n := c_l2i (q &&& (3 : Int64))
  have n1 := Int32.le_toInt (q &&& (3 : Int64)).toInt32
  have n2 := Int32.toInt_lt (q &&& (3 : Int64)).toInt32
  exact ⟨(q &&& (3 : Int64)).toInt32.toInt.toNat, by omega, by omega⟩
theorem own_o8 {o w2 : Nat} (h : o ≤ 3) (hw : w2 + 1 = 1 ∨ w2 + 1 = 2) : o + (w2 + 1) ≤ 8 := by omega
theorem d2_0 : decode jdk_29_method_69_code 0 = .ok (.iload_n 0, 1) := by decide +kernel
theorem d2_1 : decode jdk_29_method_69_code 1 = .ok (.iload_n 1, 1) := by decide +kernel
theorem d2_2 : decode jdk_29_method_69_code 2 = .ok (.if_icmp .gt 7, 3) := by decide +kernel
theorem d2_9 : decode jdk_29_method_69_code 9 = .ok (.iload_n 1, 1) := by decide +kernel
theorem d2_10 : decode jdk_29_method_69_code 10 = .ok (.ireturn, 1) := by decide +kernel
theorem d2_5 : decode jdk_29_method_69_code 5 = .ok (.iload_n 0, 1) := by decide +kernel
theorem d2_6 : decode jdk_29_method_69_code 6 = .ok (.goto 4, 3) := by decide +kernel
theorem ef_rm_min (m : MethodId) (p1 : Int32) (p2 : Int32) : entryFrame m #[(.int p1), (.int p2)] 2 = mkF m 0 #[.val (.int p1), .val (.int p2)] [] := by first | (simp [entryFrame, mkF, argsToLocals, Value.category]; done) | rfl
def Q_rm_min (Z : State) (p1 : Int32) (p2 : Int32) (h0 : Heap) (n0 : Nat) (v : Option Value) (h : Heap) (L : List Loc) : Prop := v = some (.int (own_min p1 p2)) ∧ Fr n0 L ∧ h = h0
set_option maxRecDepth 65536 in
set_option maxHeartbeats 40000000 in
theorem rm_min (l : Launch) (Z : State) (a0 : Array Value) (hw : ∀ d ∈ tables_1, d.before a0 Z = true) (ws : List Jvm.Cond) (p1 : Int32) (p2 : Int32) (h0 : Heap) (n0 : Nat) (Z0 : n0 ≤ h0.size) :
    MetFree l (⟨"java/lang/Math", "min", "(II)I"⟩ : MethodName) (head1 (Jvm.Cond.code (⟨"java/lang/Math", "min", "(II)I"⟩ : MethodName) jdk_29_method_69_code 2 (some .int) :: ws) ({ frames := 0, cells := 0, slots := 0, locals := 0 } : Room)) (fun a U => a = #[(.int p1), (.int p2)] ∧ Z.Warmed39 U.vm ∧ U.heap = h0) (fun _ _ _ _ _ => True) (fun _ U oC U' => ∃ v L, oC = .returned v ∧ Q_rm_min Z p1 p2 h0 n0 v U'.heap L ∧ FrameEnd U oC U' L ({ frames := 0, cells := 0, slots := 0, locals := 0 } : Room).cells ({ frames := 0, cells := 0, slots := 0, locals := 0 } : Room).slots) := by
  refine MetFree.of_bodySF (Jvm.Free.JP.mathPlain rfl (by decide +kernel)) hisR ?_
  intro p e s m args below meth c s₁ Bd hml0 hP hK
  obtain ⟨rfl, hZ, hh⟩ := hP
  have hx := Bd.exec
  have hby := Bd.bytes
  have hml : c.maxLocals = 2 := hml0
  have hown : s.vm.findClass "java/lang/Math" = some m.cls := findClass_of_methodNamed Bd.named
  have hnm := (name_of_methodNamed Bd.named Bd.method).1
  have X0 : Stand p l e ({ frames := 0, cells := 0, slots := 0, locals := 0 } : Room) s m #[(.int p1), (.int p2)] below meth c s₁ [] 0 0 := Stand.of_body Bd
  have e0 : s₁.heap = h0 := by rw [← hh, Bd.state]; rfl
  have N0 := Fr.nil n0
  have pre0 : ∀ t, Steps p.tables e below (s₁.setTop (mkF m 0 #[.val (.int p1), .val (.int p2)] [])) t → Steps p.tables e below (s₁.setTop (entryFrame m #[(.int p1), (.int p2)] 2)) t := fun t k => castTop (ef_rm_min m p1 p2) k
  have pre00 : ∀ t, Steps p.tables e below (s₁.setTop (mkF m 0 #[.val (.int p1), .val (.int p2)] [])) t → Steps p.tables e below (s₁.setTop (mkF m 0 #[.val (.int p1), .val (.int p2)] [])) t := fun _ k => k
  have R1 : ∀ t, Steps p.tables e below (s₁.setTop (mkF m 2 #[.val (.int p1), .val (.int p2)] [(.int p2), (.int p1)])) t → Steps p.tables e below (s₁.setTop (mkF m 0 #[.val (.int p1), .val (.int p2)] [])) t := by
    intro t kt
    refine pre00 _ ?_
    show Steps p.tables e below (s₁.setTop (mkF m 0 #[.val (.int p1), .val (.int p2)] [])) _
    refine XS.iloadN X0.here hx rfl (hb hby d2_0) rfl ?_
    show Steps p.tables e below (s₁.setTop (mkF m 1 #[.val (.int p1), .val (.int p2)] [(.int p1)])) _
    refine XS.iloadN X0.here hx rfl (hb hby d2_1) rfl ?_
    exact kt
  by_cases hc : p2 < p1
  · have R2 : ∀ t, Steps p.tables e below (s₁.setTop (mkF m 10 #[.val (.int p1), .val (.int p2)] [(.int p2)])) t → Steps p.tables e below (s₁.setTop (mkF m 0 #[.val (.int p1), .val (.int p2)] [])) t := by
      intro t kt
      refine R1 _ ?_
      show Steps p.tables e below (s₁.setTop (mkF m 2 #[.val (.int p1), .val (.int p2)] [(.int p2), (.int p1)])) _
      refine XS.icmpYes X0.here hx rfl (pc0 := 2) (pc' := 9) rfl (hb hby d2_2) rfl (tlt (hc : p2 < p1)).2.2.1 (by decide) (by decide) ?_
      show Steps p.tables e below (s₁.setTop (mkF m 9 #[.val (.int p1), .val (.int p2)] [])) _
      refine XS.iloadN X0.here hx rfl (hb hby d2_9) rfl ?_
      exact kt
    clear R1
    obtain ⟨fs, hr, hrun, hended, hW, hsame⟩ := X0.leave (v := some (.int p2)) (fun h => by rw [Bd.returns] at h; cases h)
    refine ⟨_, _, pre0 _ (R2 _ ?_), hrun, hended, _, _, rfl, ?_, ⟨_, rfl⟩, hW, hsame.mono (by decide) (by decide)⟩
    · exact retI X0 hx Bd.returns (hb hby d2_10) hr
    · show Q_rm_min Z p1 p2 h0 n0 _ s₁.heap _
      rw [e0]
      exact ⟨by simp [own_min, hc], N0, rfl⟩
  · have R3 : ∀ t, Steps p.tables e below (s₁.setTop (mkF m 10 #[.val (.int p1), .val (.int p2)] [(.int p1)])) t → Steps p.tables e below (s₁.setTop (mkF m 0 #[.val (.int p1), .val (.int p2)] [])) t := by
      intro t kt
      refine R1 _ ?_
      show Steps p.tables e below (s₁.setTop (mkF m 2 #[.val (.int p1), .val (.int p2)] [(.int p2), (.int p1)])) _
      refine XS.icmpNo X0.here hx rfl (hb hby d2_2) rfl (flt (hc : ¬ (p2 < p1))).2.2.1 ?_
      show Steps p.tables e below (s₁.setTop (mkF m 5 #[.val (.int p1), .val (.int p2)] [])) _
      refine XS.iloadN X0.here hx rfl (hb hby d2_5) rfl ?_
      show Steps p.tables e below (s₁.setTop (mkF m 6 #[.val (.int p1), .val (.int p2)] [(.int p1)])) _
      refine XS.goto X0.here hx rfl (pc0 := 6) (pc' := 10) rfl (hb hby d2_6) (by decide) (by decide) ?_
      exact kt
    clear R1
    obtain ⟨fs, hr, hrun, hended, hW, hsame⟩ := X0.leave (v := some (.int p1)) (fun h => by rw [Bd.returns] at h; cases h)
    refine ⟨_, _, pre0 _ (R3 _ ?_), hrun, hended, _, _, rfl, ?_, ⟨_, rfl⟩, hW, hsame.mono (by decide) (by decide)⟩
    · exact retI X0 hx Bd.returns (hb hby d2_10) hr
    · show Q_rm_min Z p1 p2 h0 n0 _ s₁.heap _
      rw [e0]
      exact ⟨by simp [own_min, hc], N0, rfl⟩
theorem d3_0 : decode jdk_29_method_65_code 0 = .ok (.iload_n 0, 1) := by decide +kernel
theorem d3_1 : decode jdk_29_method_65_code 1 = .ok (.iload_n 1, 1) := by decide +kernel
theorem d3_2 : decode jdk_29_method_65_code 2 = .ok (.if_icmp .lt 7, 3) := by decide +kernel
theorem d3_9 : decode jdk_29_method_65_code 9 = .ok (.iload_n 1, 1) := by decide +kernel
theorem d3_10 : decode jdk_29_method_65_code 10 = .ok (.ireturn, 1) := by decide +kernel
theorem d3_5 : decode jdk_29_method_65_code 5 = .ok (.iload_n 0, 1) := by decide +kernel
theorem d3_6 : decode jdk_29_method_65_code 6 = .ok (.goto 4, 3) := by decide +kernel
theorem ef_rm_max (m : MethodId) (p1 : Int32) (p2 : Int32) : entryFrame m #[(.int p1), (.int p2)] 2 = mkF m 0 #[.val (.int p1), .val (.int p2)] [] := by first | (simp [entryFrame, mkF, argsToLocals, Value.category]; done) | rfl
def Q_rm_max (Z : State) (p1 : Int32) (p2 : Int32) (h0 : Heap) (n0 : Nat) (v : Option Value) (h : Heap) (L : List Loc) : Prop := v = some (.int (own_max p1 p2)) ∧ Fr n0 L ∧ h = h0
set_option maxRecDepth 65536 in
set_option maxHeartbeats 40000000 in
theorem rm_max (l : Launch) (Z : State) (a0 : Array Value) (hw : ∀ d ∈ tables_1, d.before a0 Z = true) (ws : List Jvm.Cond) (p1 : Int32) (p2 : Int32) (h0 : Heap) (n0 : Nat) (Z0 : n0 ≤ h0.size) :
    MetFree l (⟨"java/lang/Math", "max", "(II)I"⟩ : MethodName) (head1 (Jvm.Cond.code (⟨"java/lang/Math", "max", "(II)I"⟩ : MethodName) jdk_29_method_65_code 2 (some .int) :: ws) ({ frames := 0, cells := 0, slots := 0, locals := 0 } : Room)) (fun a U => a = #[(.int p1), (.int p2)] ∧ Z.Warmed39 U.vm ∧ U.heap = h0) (fun _ _ _ _ _ => True) (fun _ U oC U' => ∃ v L, oC = .returned v ∧ Q_rm_max Z p1 p2 h0 n0 v U'.heap L ∧ FrameEnd U oC U' L ({ frames := 0, cells := 0, slots := 0, locals := 0 } : Room).cells ({ frames := 0, cells := 0, slots := 0, locals := 0 } : Room).slots) := by
  refine MetFree.of_bodySF (Jvm.Free.JP.mathPlain rfl (by decide +kernel)) hisR ?_
  intro p e s m args below meth c s₁ Bd hml0 hP hK
  obtain ⟨rfl, hZ, hh⟩ := hP
  have hx := Bd.exec
  have hby := Bd.bytes
  have hml : c.maxLocals = 2 := hml0
  have hown : s.vm.findClass "java/lang/Math" = some m.cls := findClass_of_methodNamed Bd.named
  have hnm := (name_of_methodNamed Bd.named Bd.method).1
  have X0 : Stand p l e ({ frames := 0, cells := 0, slots := 0, locals := 0 } : Room) s m #[(.int p1), (.int p2)] below meth c s₁ [] 0 0 := Stand.of_body Bd
  have e0 : s₁.heap = h0 := by rw [← hh, Bd.state]; rfl
  have N0 := Fr.nil n0
  have pre0 : ∀ t, Steps p.tables e below (s₁.setTop (mkF m 0 #[.val (.int p1), .val (.int p2)] [])) t → Steps p.tables e below (s₁.setTop (entryFrame m #[(.int p1), (.int p2)] 2)) t := fun t k => castTop (ef_rm_max m p1 p2) k
  have pre00 : ∀ t, Steps p.tables e below (s₁.setTop (mkF m 0 #[.val (.int p1), .val (.int p2)] [])) t → Steps p.tables e below (s₁.setTop (mkF m 0 #[.val (.int p1), .val (.int p2)] [])) t := fun _ k => k
  have R4 : ∀ t, Steps p.tables e below (s₁.setTop (mkF m 2 #[.val (.int p1), .val (.int p2)] [(.int p2), (.int p1)])) t → Steps p.tables e below (s₁.setTop (mkF m 0 #[.val (.int p1), .val (.int p2)] [])) t := by
    intro t kt
    refine pre00 _ ?_
    show Steps p.tables e below (s₁.setTop (mkF m 0 #[.val (.int p1), .val (.int p2)] [])) _
    refine XS.iloadN X0.here hx rfl (hb hby d3_0) rfl ?_
    show Steps p.tables e below (s₁.setTop (mkF m 1 #[.val (.int p1), .val (.int p2)] [(.int p1)])) _
    refine XS.iloadN X0.here hx rfl (hb hby d3_1) rfl ?_
    exact kt
  by_cases hc : p1 < p2
  · have R5 : ∀ t, Steps p.tables e below (s₁.setTop (mkF m 10 #[.val (.int p1), .val (.int p2)] [(.int p2)])) t → Steps p.tables e below (s₁.setTop (mkF m 0 #[.val (.int p1), .val (.int p2)] [])) t := by
      intro t kt
      refine R4 _ ?_
      show Steps p.tables e below (s₁.setTop (mkF m 2 #[.val (.int p1), .val (.int p2)] [(.int p2), (.int p1)])) _
      refine XS.icmpYes X0.here hx rfl (pc0 := 2) (pc' := 9) rfl (hb hby d3_2) rfl (tlt (hc : p1 < p2)).1 (by decide) (by decide) ?_
      show Steps p.tables e below (s₁.setTop (mkF m 9 #[.val (.int p1), .val (.int p2)] [])) _
      refine XS.iloadN X0.here hx rfl (hb hby d3_9) rfl ?_
      exact kt
    clear R4
    obtain ⟨fs, hr, hrun, hended, hW, hsame⟩ := X0.leave (v := some (.int p2)) (fun h => by rw [Bd.returns] at h; cases h)
    refine ⟨_, _, pre0 _ (R5 _ ?_), hrun, hended, _, _, rfl, ?_, ⟨_, rfl⟩, hW, hsame.mono (by decide) (by decide)⟩
    · exact retI X0 hx Bd.returns (hb hby d3_10) hr
    · show Q_rm_max Z p1 p2 h0 n0 _ s₁.heap _
      rw [e0]
      exact ⟨by simp [own_max, hc], N0, rfl⟩
  · have R6 : ∀ t, Steps p.tables e below (s₁.setTop (mkF m 10 #[.val (.int p1), .val (.int p2)] [(.int p1)])) t → Steps p.tables e below (s₁.setTop (mkF m 0 #[.val (.int p1), .val (.int p2)] [])) t := by
      intro t kt
      refine R4 _ ?_
      show Steps p.tables e below (s₁.setTop (mkF m 2 #[.val (.int p1), .val (.int p2)] [(.int p2), (.int p1)])) _
      refine XS.icmpNo X0.here hx rfl (hb hby d3_2) rfl (flt (hc : ¬ (p1 < p2))).1 ?_
      show Steps p.tables e below (s₁.setTop (mkF m 5 #[.val (.int p1), .val (.int p2)] [])) _
      refine XS.iloadN X0.here hx rfl (hb hby d3_5) rfl ?_
      show Steps p.tables e below (s₁.setTop (mkF m 6 #[.val (.int p1), .val (.int p2)] [(.int p1)])) _
      refine XS.goto X0.here hx rfl (pc0 := 6) (pc' := 10) rfl (hb hby d3_6) (by decide) (by decide) ?_
      exact kt
    clear R4
    obtain ⟨fs, hr, hrun, hended, hW, hsame⟩ := X0.leave (v := some (.int p1)) (fun h => by rw [Bd.returns] at h; cases h)
    refine ⟨_, _, pre0 _ (R6 _ ?_), hrun, hended, _, _, rfl, ?_, ⟨_, rfl⟩, hW, hsame.mono (by decide) (by decide)⟩
    · exact retI X0 hx Bd.returns (hb hby d3_10) hr
    · show Q_rm_max Z p1 p2 h0 n0 _ s₁.heap _
      rw [e0]
      exact ⟨by simp [own_max, hc], N0, rfl⟩
theorem pn_0 : plainName "java/lang/Integer" = true := by first | (simp [plainName, overriddenIn]; done) | decide +kernel
theorem d7_0 : decode jdk_33_method_47_code 0 = .ok (.iload_n 0, 1) := by decide +kernel
theorem d7_1 : decode jdk_33_method_47_code 1 = .ok (.ifCond .gt 14, 3) := by decide +kernel
theorem d7_15 : decode jdk_33_method_47_code 15 = .ok (.bipush 31, 2) := by decide +kernel
theorem d7_17 : decode jdk_33_method_47_code 17 = .ok (.istore_n 1, 1) := by decide +kernel
theorem d7_18 : decode jdk_33_method_47_code 18 = .ok (.iload_n 0, 1) := by decide +kernel
theorem d7_19 : decode jdk_33_method_47_code 19 = .ok (.ldc_w 264, 3) := by decide +kernel
theorem d7_22 : decode jdk_33_method_47_code 22 = .ok (.if_icmp .lt 11, 3) := by decide +kernel
theorem d7_33 : decode jdk_33_method_47_code 33 = .ok (.iload_n 0, 1) := by decide +kernel
theorem d7_34 : decode jdk_33_method_47_code 34 = .ok (.sipush 256, 3) := by decide +kernel
theorem d7_37 : decode jdk_33_method_47_code 37 = .ok (.if_icmp .lt 11, 3) := by decide +kernel
theorem d7_48 : decode jdk_33_method_47_code 48 = .ok (.iload_n 0, 1) := by decide +kernel
theorem d7_49 : decode jdk_33_method_47_code 49 = .ok (.bipush 16, 2) := by decide +kernel
theorem d7_51 : decode jdk_33_method_47_code 51 = .ok (.if_icmp .lt 10, 3) := by decide +kernel
theorem d7_61 : decode jdk_33_method_47_code 61 = .ok (.iload_n 0, 1) := by decide +kernel
theorem d7_62 : decode jdk_33_method_47_code 62 = .ok (.iconst 4, 1) := by decide +kernel
theorem d7_63 : decode jdk_33_method_47_code 63 = .ok (.if_icmp .lt 10, 3) := by decide +kernel
theorem d7_73 : decode jdk_33_method_47_code 73 = .ok (.iload_n 1, 1) := by decide +kernel
theorem d7_74 : decode jdk_33_method_47_code 74 = .ok (.iload_n 0, 1) := by decide +kernel
theorem d7_75 : decode jdk_33_method_47_code 75 = .ok (.iconst 1, 1) := by decide +kernel
theorem d7_76 : decode jdk_33_method_47_code 76 = .ok (.iushr, 1) := by decide +kernel
theorem d7_77 : decode jdk_33_method_47_code 77 = .ok (.isub, 1) := by decide +kernel
theorem d7_78 : decode jdk_33_method_47_code 78 = .ok (.ireturn, 1) := by decide +kernel
theorem d7_66 : decode jdk_33_method_47_code 66 = .ok (.iinc 1 (-2), 3) := by decide +kernel
theorem d7_69 : decode jdk_33_method_47_code 69 = .ok (.iload_n 0, 1) := by decide +kernel
theorem d7_70 : decode jdk_33_method_47_code 70 = .ok (.iconst 2, 1) := by decide +kernel
theorem d7_71 : decode jdk_33_method_47_code 71 = .ok (.iushr, 1) := by decide +kernel
theorem d7_72 : decode jdk_33_method_47_code 72 = .ok (.istore_n 0, 1) := by decide +kernel
theorem d7_54 : decode jdk_33_method_47_code 54 = .ok (.iinc 1 (-4), 3) := by decide +kernel
theorem d7_57 : decode jdk_33_method_47_code 57 = .ok (.iload_n 0, 1) := by decide +kernel
theorem d7_58 : decode jdk_33_method_47_code 58 = .ok (.iconst 4, 1) := by decide +kernel
theorem d7_59 : decode jdk_33_method_47_code 59 = .ok (.iushr, 1) := by decide +kernel
theorem d7_60 : decode jdk_33_method_47_code 60 = .ok (.istore_n 0, 1) := by decide +kernel
theorem d7_40 : decode jdk_33_method_47_code 40 = .ok (.iinc 1 (-8), 3) := by decide +kernel
theorem d7_43 : decode jdk_33_method_47_code 43 = .ok (.iload_n 0, 1) := by decide +kernel
theorem d7_44 : decode jdk_33_method_47_code 44 = .ok (.bipush 8, 2) := by decide +kernel
theorem d7_46 : decode jdk_33_method_47_code 46 = .ok (.iushr, 1) := by decide +kernel
theorem d7_47 : decode jdk_33_method_47_code 47 = .ok (.istore_n 0, 1) := by decide +kernel
theorem d7_25 : decode jdk_33_method_47_code 25 = .ok (.iinc 1 (-16), 3) := by decide +kernel
theorem d7_28 : decode jdk_33_method_47_code 28 = .ok (.iload_n 0, 1) := by decide +kernel
theorem d7_29 : decode jdk_33_method_47_code 29 = .ok (.bipush 16, 2) := by decide +kernel
theorem d7_31 : decode jdk_33_method_47_code 31 = .ok (.iushr, 1) := by decide +kernel
theorem d7_32 : decode jdk_33_method_47_code 32 = .ok (.istore_n 0, 1) := by decide +kernel
theorem d7_4 : decode jdk_33_method_47_code 4 = .ok (.iload_n 0, 1) := by decide +kernel
theorem d7_5 : decode jdk_33_method_47_code 5 = .ok (.ifCond .ne 8, 3) := by decide +kernel
theorem d7_8 : decode jdk_33_method_47_code 8 = .ok (.bipush 32, 2) := by decide +kernel
theorem d7_10 : decode jdk_33_method_47_code 10 = .ok (.goto 4, 3) := by decide +kernel
theorem d7_14 : decode jdk_33_method_47_code 14 = .ok (.ireturn, 1) := by decide +kernel
theorem d7_13 : decode jdk_33_method_47_code 13 = .ok (.iconst 0, 1) := by decide +kernel
theorem ef_rm_inlz (m : MethodId) (p1 : Int32) : entryFrame m #[(.int p1)] 2 = mkF m 0 #[.val (.int p1), .unset] [] := by first | (simp [entryFrame, mkF, argsToLocals, Value.category]; done) | rfl
def Q_rm_inlz (Z : State) (p1 : Int32) (h0 : Heap) (n0 : Nat) (v : Option Value) (h : Heap) (L : List Loc) : Prop := v = some (.int (own_inlz p1)) ∧ Fr n0 L ∧ h = h0
set_option maxRecDepth 65536 in
set_option maxHeartbeats 40000000 in
theorem rm_inlz (l : Launch) (Z : State) (a0 : Array Value) (hw : ∀ d ∈ tables_1, d.before a0 Z = true) (ws : List Jvm.Cond) (p1 : Int32) (h0 : Heap) (n0 : Nat) (Z0 : n0 ≤ h0.size) :
    MetFree l (⟨"java/lang/Integer", "numberOfLeadingZeros", "(I)I"⟩ : MethodName) (head1 (Jvm.Cond.code (⟨"java/lang/Integer", "numberOfLeadingZeros", "(I)I"⟩ : MethodName) jdk_33_method_47_code 2 (some .int) :: ws) ({ frames := 0, cells := 0, slots := 0, locals := 0 } : Room)) (fun a U => a = #[(.int p1)] ∧ Z.Warmed39 U.vm ∧ U.heap = h0) (fun _ _ _ _ _ => True) (fun _ U oC U' => ∃ v L, oC = .returned v ∧ Q_rm_inlz Z p1 h0 n0 v U'.heap L ∧ FrameEnd U oC U' L ({ frames := 0, cells := 0, slots := 0, locals := 0 } : Room).cells ({ frames := 0, cells := 0, slots := 0, locals := 0 } : Room).slots) := by
  refine MetFree.of_bodySF (plainFor_of_name pn_0) hisR ?_
  intro p e s m args below meth c s₁ Bd hml0 hP hK
  obtain ⟨rfl, hZ, hh⟩ := hP
  have hx := Bd.exec
  have hby := Bd.bytes
  have hml : c.maxLocals = 2 := hml0
  have hown : s.vm.findClass "java/lang/Integer" = some m.cls := findClass_of_methodNamed Bd.named
  have hnm := (name_of_methodNamed Bd.named Bd.method).1
  have X0 : Stand p l e ({ frames := 0, cells := 0, slots := 0, locals := 0 } : Room) s m #[(.int p1)] below meth c s₁ [] 0 0 := Stand.of_body Bd
  have e0 : s₁.heap = h0 := by rw [← hh, Bd.state]; rfl
  have N0 := Fr.nil n0
  have pre0 : ∀ t, Steps p.tables e below (s₁.setTop (mkF m 0 #[.val (.int p1), .unset] [])) t → Steps p.tables e below (s₁.setTop (entryFrame m #[(.int p1)] 2)) t := fun t k => castTop (ef_rm_inlz m p1) k
  have pre00 : ∀ t, Steps p.tables e below (s₁.setTop (mkF m 0 #[.val (.int p1), .unset] [])) t → Steps p.tables e below (s₁.setTop (mkF m 0 #[.val (.int p1), .unset] [])) t := fun _ k => k
  have R7 : ∀ t, Steps p.tables e below (s₁.setTop (mkF m 1 #[.val (.int p1), .unset] [(.int p1)])) t → Steps p.tables e below (s₁.setTop (mkF m 0 #[.val (.int p1), .unset] [])) t := by
    intro t kt
    refine pre00 _ ?_
    show Steps p.tables e below (s₁.setTop (mkF m 0 #[.val (.int p1), .unset] [])) _
    refine XS.iloadN X0.here hx rfl (hb hby d7_0) rfl ?_
    exact kt
  by_cases hc1 : (0 : Int32) < p1
  · have R8 : ∀ t, Steps p.tables e below (s₁.setTop (mkF m 22 #[.val (.int p1), .val (.int (31 : Int32))] [(.int (65536 : Int32)), (.int p1)])) t → Steps p.tables e below (s₁.setTop (mkF m 0 #[.val (.int p1), .unset] [])) t := by
      intro t kt
      refine R7 _ ?_
      show Steps p.tables e below (s₁.setTop (mkF m 1 #[.val (.int p1), .unset] [(.int p1)])) _
      refine XS.ifYes X0.here hx rfl (pc0 := 1) (pc' := 15) rfl (hb hby d7_1) rfl ((if0 _ _).trans (tlt (hc1 : (0 : Int32) < p1)).2.2.1) (by decide) (by decide) ?_
      show Steps p.tables e below (s₁.setTop (mkF m 15 #[.val (.int p1), .unset] [])) _
      refine XS.bipush X0.here hx rfl (hb hby d7_15) ?_
      show Steps p.tables e below (s₁.setTop (mkF m 17 #[.val (.int p1), .unset] [(.int (31 : Int32))])) _
      refine XS.istoreN X0.here hx rfl (hb hby d7_17) rfl (l' := #[.val (.int p1), .val (.int (31 : Int32))]) rfl ?_
      show Steps p.tables e below (s₁.setTop (mkF m 18 #[.val (.int p1), .val (.int (31 : Int32))] [])) _
      refine XS.iloadN X0.here hx rfl (hb hby d7_18) rfl ?_
      show Steps p.tables e below (s₁.setTop (mkF m 19 #[.val (.int p1), .val (.int (31 : Int32))] [(.int p1)])) _
      refine X0.ldcwInt hx hown (mvT hZ (hw _ (List.mem_of_getElem? (i := 48) rfl))) (g := (mkF m 19 #[.val (.int p1), .val (.int (31 : Int32))] [(.int p1)])) rfl (hb hby d7_19) _ ?_
      exact kt
    clear R7
    by_cases hc22 : p1 < (65536 : Int32)
    · have R9 : ∀ t, Steps p.tables e below (s₁.setTop (mkF m 37 #[.val (.int p1), .val (.int (31 : Int32))] [(.int (256 : Int32)), (.int p1)])) t → Steps p.tables e below (s₁.setTop (mkF m 0 #[.val (.int p1), .unset] [])) t := by
        intro t kt
        refine R8 _ ?_
        show Steps p.tables e below (s₁.setTop (mkF m 22 #[.val (.int p1), .val (.int (31 : Int32))] [(.int (65536 : Int32)), (.int p1)])) _
        refine XS.icmpYes X0.here hx rfl (pc0 := 22) (pc' := 33) rfl (hb hby d7_22) rfl (tlt (hc22 : p1 < (65536 : Int32))).1 (by decide) (by decide) ?_
        show Steps p.tables e below (s₁.setTop (mkF m 33 #[.val (.int p1), .val (.int (31 : Int32))] [])) _
        refine XS.iloadN X0.here hx rfl (hb hby d7_33) rfl ?_
        show Steps p.tables e below (s₁.setTop (mkF m 34 #[.val (.int p1), .val (.int (31 : Int32))] [(.int p1)])) _
        refine XS.sipush X0.here hx rfl (hb hby d7_34) ?_
        exact kt
      clear R8
      by_cases hc37 : p1 < (256 : Int32)
      · have R10 : ∀ t, Steps p.tables e below (s₁.setTop (mkF m 51 #[.val (.int p1), .val (.int (31 : Int32))] [(.int (16 : Int32)), (.int p1)])) t → Steps p.tables e below (s₁.setTop (mkF m 0 #[.val (.int p1), .unset] [])) t := by
          intro t kt
          refine R9 _ ?_
          show Steps p.tables e below (s₁.setTop (mkF m 37 #[.val (.int p1), .val (.int (31 : Int32))] [(.int (256 : Int32)), (.int p1)])) _
          refine XS.icmpYes X0.here hx rfl (pc0 := 37) (pc' := 48) rfl (hb hby d7_37) rfl (tlt (hc37 : p1 < (256 : Int32))).1 (by decide) (by decide) ?_
          show Steps p.tables e below (s₁.setTop (mkF m 48 #[.val (.int p1), .val (.int (31 : Int32))] [])) _
          refine XS.iloadN X0.here hx rfl (hb hby d7_48) rfl ?_
          show Steps p.tables e below (s₁.setTop (mkF m 49 #[.val (.int p1), .val (.int (31 : Int32))] [(.int p1)])) _
          refine XS.bipush X0.here hx rfl (hb hby d7_49) ?_
          exact kt
        clear R9
        by_cases hc51 : p1 < (16 : Int32)
        · have R11 : ∀ t, Steps p.tables e below (s₁.setTop (mkF m 63 #[.val (.int p1), .val (.int (31 : Int32))] [(.int (4 : Int32)), (.int p1)])) t → Steps p.tables e below (s₁.setTop (mkF m 0 #[.val (.int p1), .unset] [])) t := by
            intro t kt
            refine R10 _ ?_
            show Steps p.tables e below (s₁.setTop (mkF m 51 #[.val (.int p1), .val (.int (31 : Int32))] [(.int (16 : Int32)), (.int p1)])) _
            refine XS.icmpYes X0.here hx rfl (pc0 := 51) (pc' := 61) rfl (hb hby d7_51) rfl (tlt (hc51 : p1 < (16 : Int32))).1 (by decide) (by decide) ?_
            show Steps p.tables e below (s₁.setTop (mkF m 61 #[.val (.int p1), .val (.int (31 : Int32))] [])) _
            refine XS.iloadN X0.here hx rfl (hb hby d7_61) rfl ?_
            show Steps p.tables e below (s₁.setTop (mkF m 62 #[.val (.int p1), .val (.int (31 : Int32))] [(.int p1)])) _
            refine XS.iconst X0.here hx rfl (hb hby d7_62) ?_
            exact kt
          clear R10
          by_cases hc63 : p1 < (4 : Int32)
          · have R12 : ∀ t, Steps p.tables e below (s₁.setTop (mkF m 78 #[.val (.int p1), .val (.int (31 : Int32))] [(.int ((31 : Int32) - ((p1.toUInt32 >>> ((1 : Int32) &&& 31).toUInt32).toInt32)))])) t → Steps p.tables e below (s₁.setTop (mkF m 0 #[.val (.int p1), .unset] [])) t := by
              intro t kt
              refine R11 _ ?_
              show Steps p.tables e below (s₁.setTop (mkF m 63 #[.val (.int p1), .val (.int (31 : Int32))] [(.int (4 : Int32)), (.int p1)])) _
              refine XS.icmpYes X0.here hx rfl (pc0 := 63) (pc' := 73) rfl (hb hby d7_63) rfl (tlt (hc63 : p1 < (4 : Int32))).1 (by decide) (by decide) ?_
              show Steps p.tables e below (s₁.setTop (mkF m 73 #[.val (.int p1), .val (.int (31 : Int32))] [])) _
              refine XS.iloadN X0.here hx rfl (hb hby d7_73) rfl ?_
              show Steps p.tables e below (s₁.setTop (mkF m 74 #[.val (.int p1), .val (.int (31 : Int32))] [(.int (31 : Int32))])) _
              refine XS.iloadN X0.here hx rfl (hb hby d7_74) rfl ?_
              show Steps p.tables e below (s₁.setTop (mkF m 75 #[.val (.int p1), .val (.int (31 : Int32))] [(.int p1), (.int (31 : Int32))])) _
              refine XS.iconst X0.here hx rfl (hb hby d7_75) ?_
              show Steps p.tables e below (s₁.setTop (mkF m 76 #[.val (.int p1), .val (.int (31 : Int32))] [(.int (1 : Int32)), (.int p1), (.int (31 : Int32))])) _
              refine XS.iushr X0.here hx rfl (hb hby d7_76) rfl ?_
              show Steps p.tables e below (s₁.setTop (mkF m 77 #[.val (.int p1), .val (.int (31 : Int32))] [(.int ((p1.toUInt32 >>> ((1 : Int32) &&& 31).toUInt32).toInt32)), (.int (31 : Int32))])) _
              refine XS.isub X0.here hx rfl (hb hby d7_77) rfl ?_
              exact kt
            clear R11
            obtain ⟨fs, hr, hrun, hended, hW, hsame⟩ := X0.leave (v := some (.int ((31 : Int32) - ((p1.toUInt32 >>> ((1 : Int32) &&& 31).toUInt32).toInt32)))) (fun h => by rw [Bd.returns] at h; cases h)
            refine ⟨_, _, pre0 _ (R12 _ ?_), hrun, hended, _, _, rfl, ?_, ⟨_, rfl⟩, hW, hsame.mono (by decide) (by decide)⟩
            · exact retI X0 hx Bd.returns (hb hby d7_78) hr
            · show Q_rm_inlz Z p1 h0 n0 _ s₁.heap _
              rw [e0]
              exact ⟨by rw [own_inlz, if_pos hc1, own_n1, if_pos hc22, own_n2, if_pos hc37, own_n3, if_pos hc51, own_n4, if_pos hc63]; rfl, N0, rfl⟩
          · have R13 : ∀ t, Steps p.tables e below (s₁.setTop (mkF m 73 #[.val (.int ((p1.toUInt32 >>> ((2 : Int32) &&& 31).toUInt32).toInt32)), .val (.int ((31 : Int32) + (-2 : Int32)))] [])) t → Steps p.tables e below (s₁.setTop (mkF m 0 #[.val (.int p1), .unset] [])) t := by
              intro t kt
              refine R11 _ ?_
              show Steps p.tables e below (s₁.setTop (mkF m 63 #[.val (.int p1), .val (.int (31 : Int32))] [(.int (4 : Int32)), (.int p1)])) _
              refine XS.icmpNo X0.here hx rfl (hb hby d7_63) rfl (flt (hc63 : ¬ (p1 < (4 : Int32)))).1 ?_
              show Steps p.tables e below (s₁.setTop (mkF m 66 #[.val (.int p1), .val (.int (31 : Int32))] [])) _
              refine XS.iinc X0.here hx rfl (hb hby d7_66) rfl (l' := #[.val (.int p1), .val (.int ((31 : Int32) + (-2 : Int32)))]) rfl ?_
              show Steps p.tables e below (s₁.setTop (mkF m 69 #[.val (.int p1), .val (.int ((31 : Int32) + (-2 : Int32)))] [])) _
              refine XS.iloadN X0.here hx rfl (hb hby d7_69) rfl ?_
              show Steps p.tables e below (s₁.setTop (mkF m 70 #[.val (.int p1), .val (.int ((31 : Int32) + (-2 : Int32)))] [(.int p1)])) _
              refine XS.iconst X0.here hx rfl (hb hby d7_70) ?_
              show Steps p.tables e below (s₁.setTop (mkF m 71 #[.val (.int p1), .val (.int ((31 : Int32) + (-2 : Int32)))] [(.int (2 : Int32)), (.int p1)])) _
              refine XS.iushr X0.here hx rfl (hb hby d7_71) rfl ?_
              show Steps p.tables e below (s₁.setTop (mkF m 72 #[.val (.int p1), .val (.int ((31 : Int32) + (-2 : Int32)))] [(.int ((p1.toUInt32 >>> ((2 : Int32) &&& 31).toUInt32).toInt32))])) _
              refine XS.istoreN X0.here hx rfl (hb hby d7_72) rfl (l' := #[.val (.int ((p1.toUInt32 >>> ((2 : Int32) &&& 31).toUInt32).toInt32)), .val (.int ((31 : Int32) + (-2 : Int32)))]) rfl ?_
              exact kt
            clear R11
            have R14 : ∀ t, Steps p.tables e below (s₁.setTop (mkF m 73 #[.val (.int (own_ush32 p1 (2 : Int32))), .val (.int ((31 : Int32) + (-2 : Int32)))] [])) t → Steps p.tables e below (s₁.setTop (mkF m 0 #[.val (.int p1), .unset] [])) t := R13
            have R15 : ∀ t, Steps p.tables e below (s₁.setTop (mkF m 78 #[.val (.int (own_ush32 p1 (2 : Int32))), .val (.int ((31 : Int32) + (-2 : Int32)))] [(.int (((31 : Int32) + (-2 : Int32)) - (((own_ush32 p1 (2 : Int32)).toUInt32 >>> ((1 : Int32) &&& 31).toUInt32).toInt32)))])) t → Steps p.tables e below (s₁.setTop (mkF m 0 #[.val (.int p1), .unset] [])) t := by
              intro t kt
              refine R14 _ ?_
              show Steps p.tables e below (s₁.setTop (mkF m 73 #[.val (.int (own_ush32 p1 (2 : Int32))), .val (.int ((31 : Int32) + (-2 : Int32)))] [])) _
              refine XS.iloadN X0.here hx rfl (hb hby d7_73) rfl ?_
              show Steps p.tables e below (s₁.setTop (mkF m 74 #[.val (.int (own_ush32 p1 (2 : Int32))), .val (.int ((31 : Int32) + (-2 : Int32)))] [(.int ((31 : Int32) + (-2 : Int32)))])) _
              refine XS.iloadN X0.here hx rfl (hb hby d7_74) rfl ?_
              show Steps p.tables e below (s₁.setTop (mkF m 75 #[.val (.int (own_ush32 p1 (2 : Int32))), .val (.int ((31 : Int32) + (-2 : Int32)))] [(.int (own_ush32 p1 (2 : Int32))), (.int ((31 : Int32) + (-2 : Int32)))])) _
              refine XS.iconst X0.here hx rfl (hb hby d7_75) ?_
              show Steps p.tables e below (s₁.setTop (mkF m 76 #[.val (.int (own_ush32 p1 (2 : Int32))), .val (.int ((31 : Int32) + (-2 : Int32)))] [(.int (1 : Int32)), (.int (own_ush32 p1 (2 : Int32))), (.int ((31 : Int32) + (-2 : Int32)))])) _
              refine XS.iushr X0.here hx rfl (hb hby d7_76) rfl ?_
              show Steps p.tables e below (s₁.setTop (mkF m 77 #[.val (.int (own_ush32 p1 (2 : Int32))), .val (.int ((31 : Int32) + (-2 : Int32)))] [(.int (((own_ush32 p1 (2 : Int32)).toUInt32 >>> ((1 : Int32) &&& 31).toUInt32).toInt32)), (.int ((31 : Int32) + (-2 : Int32)))])) _
              refine XS.isub X0.here hx rfl (hb hby d7_77) rfl ?_
              exact kt
            clear R14
            obtain ⟨fs, hr, hrun, hended, hW, hsame⟩ := X0.leave (v := some (.int (((31 : Int32) + (-2 : Int32)) - (((own_ush32 p1 (2 : Int32)).toUInt32 >>> ((1 : Int32) &&& 31).toUInt32).toInt32)))) (fun h => by rw [Bd.returns] at h; cases h)
            refine ⟨_, _, pre0 _ (R15 _ ?_), hrun, hended, _, _, rfl, ?_, ⟨_, rfl⟩, hW, hsame.mono (by decide) (by decide)⟩
            · exact retI X0 hx Bd.returns (hb hby d7_78) hr
            · show Q_rm_inlz Z p1 h0 n0 _ s₁.heap _
              rw [e0]
              exact ⟨by rw [own_inlz, if_pos hc1, own_n1, if_pos hc22, own_n2, if_pos hc37, own_n3, if_pos hc51, own_n4, if_neg hc63]; rfl, N0, rfl⟩
        · have R16 : ∀ t, Steps p.tables e below (s₁.setTop (mkF m 61 #[.val (.int ((p1.toUInt32 >>> ((4 : Int32) &&& 31).toUInt32).toInt32)), .val (.int ((31 : Int32) + (-4 : Int32)))] [])) t → Steps p.tables e below (s₁.setTop (mkF m 0 #[.val (.int p1), .unset] [])) t := by
            intro t kt
            refine R10 _ ?_
            show Steps p.tables e below (s₁.setTop (mkF m 51 #[.val (.int p1), .val (.int (31 : Int32))] [(.int (16 : Int32)), (.int p1)])) _
            refine XS.icmpNo X0.here hx rfl (hb hby d7_51) rfl (flt (hc51 : ¬ (p1 < (16 : Int32)))).1 ?_
            show Steps p.tables e below (s₁.setTop (mkF m 54 #[.val (.int p1), .val (.int (31 : Int32))] [])) _
            refine XS.iinc X0.here hx rfl (hb hby d7_54) rfl (l' := #[.val (.int p1), .val (.int ((31 : Int32) + (-4 : Int32)))]) rfl ?_
            show Steps p.tables e below (s₁.setTop (mkF m 57 #[.val (.int p1), .val (.int ((31 : Int32) + (-4 : Int32)))] [])) _
            refine XS.iloadN X0.here hx rfl (hb hby d7_57) rfl ?_
            show Steps p.tables e below (s₁.setTop (mkF m 58 #[.val (.int p1), .val (.int ((31 : Int32) + (-4 : Int32)))] [(.int p1)])) _
            refine XS.iconst X0.here hx rfl (hb hby d7_58) ?_
            show Steps p.tables e below (s₁.setTop (mkF m 59 #[.val (.int p1), .val (.int ((31 : Int32) + (-4 : Int32)))] [(.int (4 : Int32)), (.int p1)])) _
            refine XS.iushr X0.here hx rfl (hb hby d7_59) rfl ?_
            show Steps p.tables e below (s₁.setTop (mkF m 60 #[.val (.int p1), .val (.int ((31 : Int32) + (-4 : Int32)))] [(.int ((p1.toUInt32 >>> ((4 : Int32) &&& 31).toUInt32).toInt32))])) _
            refine XS.istoreN X0.here hx rfl (hb hby d7_60) rfl (l' := #[.val (.int ((p1.toUInt32 >>> ((4 : Int32) &&& 31).toUInt32).toInt32)), .val (.int ((31 : Int32) + (-4 : Int32)))]) rfl ?_
            exact kt
          clear R10
          have R17 : ∀ t, Steps p.tables e below (s₁.setTop (mkF m 61 #[.val (.int (own_ush32 p1 (4 : Int32))), .val (.int ((31 : Int32) + (-4 : Int32)))] [])) t → Steps p.tables e below (s₁.setTop (mkF m 0 #[.val (.int p1), .unset] [])) t := R16
          have R18 : ∀ t, Steps p.tables e below (s₁.setTop (mkF m 63 #[.val (.int (own_ush32 p1 (4 : Int32))), .val (.int ((31 : Int32) + (-4 : Int32)))] [(.int (4 : Int32)), (.int (own_ush32 p1 (4 : Int32)))])) t → Steps p.tables e below (s₁.setTop (mkF m 0 #[.val (.int p1), .unset] [])) t := by
            intro t kt
            refine R17 _ ?_
            show Steps p.tables e below (s₁.setTop (mkF m 61 #[.val (.int (own_ush32 p1 (4 : Int32))), .val (.int ((31 : Int32) + (-4 : Int32)))] [])) _
            refine XS.iloadN X0.here hx rfl (hb hby d7_61) rfl ?_
            show Steps p.tables e below (s₁.setTop (mkF m 62 #[.val (.int (own_ush32 p1 (4 : Int32))), .val (.int ((31 : Int32) + (-4 : Int32)))] [(.int (own_ush32 p1 (4 : Int32)))])) _
            refine XS.iconst X0.here hx rfl (hb hby d7_62) ?_
            exact kt
          clear R17
          by_cases hc63 : (own_ush32 p1 (4 : Int32)) < (4 : Int32)
          · have R19 : ∀ t, Steps p.tables e below (s₁.setTop (mkF m 78 #[.val (.int (own_ush32 p1 (4 : Int32))), .val (.int ((31 : Int32) + (-4 : Int32)))] [(.int (((31 : Int32) + (-4 : Int32)) - (((own_ush32 p1 (4 : Int32)).toUInt32 >>> ((1 : Int32) &&& 31).toUInt32).toInt32)))])) t → Steps p.tables e below (s₁.setTop (mkF m 0 #[.val (.int p1), .unset] [])) t := by
              intro t kt
              refine R18 _ ?_
              show Steps p.tables e below (s₁.setTop (mkF m 63 #[.val (.int (own_ush32 p1 (4 : Int32))), .val (.int ((31 : Int32) + (-4 : Int32)))] [(.int (4 : Int32)), (.int (own_ush32 p1 (4 : Int32)))])) _
              refine XS.icmpYes X0.here hx rfl (pc0 := 63) (pc' := 73) rfl (hb hby d7_63) rfl (tlt (hc63 : (own_ush32 p1 (4 : Int32)) < (4 : Int32))).1 (by decide) (by decide) ?_
              show Steps p.tables e below (s₁.setTop (mkF m 73 #[.val (.int (own_ush32 p1 (4 : Int32))), .val (.int ((31 : Int32) + (-4 : Int32)))] [])) _
              refine XS.iloadN X0.here hx rfl (hb hby d7_73) rfl ?_
              show Steps p.tables e below (s₁.setTop (mkF m 74 #[.val (.int (own_ush32 p1 (4 : Int32))), .val (.int ((31 : Int32) + (-4 : Int32)))] [(.int ((31 : Int32) + (-4 : Int32)))])) _
              refine XS.iloadN X0.here hx rfl (hb hby d7_74) rfl ?_
              show Steps p.tables e below (s₁.setTop (mkF m 75 #[.val (.int (own_ush32 p1 (4 : Int32))), .val (.int ((31 : Int32) + (-4 : Int32)))] [(.int (own_ush32 p1 (4 : Int32))), (.int ((31 : Int32) + (-4 : Int32)))])) _
              refine XS.iconst X0.here hx rfl (hb hby d7_75) ?_
              show Steps p.tables e below (s₁.setTop (mkF m 76 #[.val (.int (own_ush32 p1 (4 : Int32))), .val (.int ((31 : Int32) + (-4 : Int32)))] [(.int (1 : Int32)), (.int (own_ush32 p1 (4 : Int32))), (.int ((31 : Int32) + (-4 : Int32)))])) _
              refine XS.iushr X0.here hx rfl (hb hby d7_76) rfl ?_
              show Steps p.tables e below (s₁.setTop (mkF m 77 #[.val (.int (own_ush32 p1 (4 : Int32))), .val (.int ((31 : Int32) + (-4 : Int32)))] [(.int (((own_ush32 p1 (4 : Int32)).toUInt32 >>> ((1 : Int32) &&& 31).toUInt32).toInt32)), (.int ((31 : Int32) + (-4 : Int32)))])) _
              refine XS.isub X0.here hx rfl (hb hby d7_77) rfl ?_
              exact kt
            clear R18
            obtain ⟨fs, hr, hrun, hended, hW, hsame⟩ := X0.leave (v := some (.int (((31 : Int32) + (-4 : Int32)) - (((own_ush32 p1 (4 : Int32)).toUInt32 >>> ((1 : Int32) &&& 31).toUInt32).toInt32)))) (fun h => by rw [Bd.returns] at h; cases h)
            refine ⟨_, _, pre0 _ (R19 _ ?_), hrun, hended, _, _, rfl, ?_, ⟨_, rfl⟩, hW, hsame.mono (by decide) (by decide)⟩
            · exact retI X0 hx Bd.returns (hb hby d7_78) hr
            · show Q_rm_inlz Z p1 h0 n0 _ s₁.heap _
              rw [e0]
              exact ⟨by rw [own_inlz, if_pos hc1, own_n1, if_pos hc22, own_n2, if_pos hc37, own_n3, if_neg hc51, own_n4, if_pos hc63]; rfl, N0, rfl⟩
          · have R20 : ∀ t, Steps p.tables e below (s₁.setTop (mkF m 73 #[.val (.int (((own_ush32 p1 (4 : Int32)).toUInt32 >>> ((2 : Int32) &&& 31).toUInt32).toInt32)), .val (.int (((31 : Int32) + (-4 : Int32)) + (-2 : Int32)))] [])) t → Steps p.tables e below (s₁.setTop (mkF m 0 #[.val (.int p1), .unset] [])) t := by
              intro t kt
              refine R18 _ ?_
              show Steps p.tables e below (s₁.setTop (mkF m 63 #[.val (.int (own_ush32 p1 (4 : Int32))), .val (.int ((31 : Int32) + (-4 : Int32)))] [(.int (4 : Int32)), (.int (own_ush32 p1 (4 : Int32)))])) _
              refine XS.icmpNo X0.here hx rfl (hb hby d7_63) rfl (flt (hc63 : ¬ ((own_ush32 p1 (4 : Int32)) < (4 : Int32)))).1 ?_
              show Steps p.tables e below (s₁.setTop (mkF m 66 #[.val (.int (own_ush32 p1 (4 : Int32))), .val (.int ((31 : Int32) + (-4 : Int32)))] [])) _
              refine XS.iinc X0.here hx rfl (hb hby d7_66) rfl (l' := #[.val (.int (own_ush32 p1 (4 : Int32))), .val (.int (((31 : Int32) + (-4 : Int32)) + (-2 : Int32)))]) rfl ?_
              show Steps p.tables e below (s₁.setTop (mkF m 69 #[.val (.int (own_ush32 p1 (4 : Int32))), .val (.int (((31 : Int32) + (-4 : Int32)) + (-2 : Int32)))] [])) _
              refine XS.iloadN X0.here hx rfl (hb hby d7_69) rfl ?_
              show Steps p.tables e below (s₁.setTop (mkF m 70 #[.val (.int (own_ush32 p1 (4 : Int32))), .val (.int (((31 : Int32) + (-4 : Int32)) + (-2 : Int32)))] [(.int (own_ush32 p1 (4 : Int32)))])) _
              refine XS.iconst X0.here hx rfl (hb hby d7_70) ?_
              show Steps p.tables e below (s₁.setTop (mkF m 71 #[.val (.int (own_ush32 p1 (4 : Int32))), .val (.int (((31 : Int32) + (-4 : Int32)) + (-2 : Int32)))] [(.int (2 : Int32)), (.int (own_ush32 p1 (4 : Int32)))])) _
              refine XS.iushr X0.here hx rfl (hb hby d7_71) rfl ?_
              show Steps p.tables e below (s₁.setTop (mkF m 72 #[.val (.int (own_ush32 p1 (4 : Int32))), .val (.int (((31 : Int32) + (-4 : Int32)) + (-2 : Int32)))] [(.int (((own_ush32 p1 (4 : Int32)).toUInt32 >>> ((2 : Int32) &&& 31).toUInt32).toInt32))])) _
              refine XS.istoreN X0.here hx rfl (hb hby d7_72) rfl (l' := #[.val (.int (((own_ush32 p1 (4 : Int32)).toUInt32 >>> ((2 : Int32) &&& 31).toUInt32).toInt32)), .val (.int (((31 : Int32) + (-4 : Int32)) + (-2 : Int32)))]) rfl ?_
              exact kt
            clear R18
            have R21 : ∀ t, Steps p.tables e below (s₁.setTop (mkF m 73 #[.val (.int (own_ush32 (own_ush32 p1 (4 : Int32)) (2 : Int32))), .val (.int (((31 : Int32) + (-4 : Int32)) + (-2 : Int32)))] [])) t → Steps p.tables e below (s₁.setTop (mkF m 0 #[.val (.int p1), .unset] [])) t := R20
            have R22 : ∀ t, Steps p.tables e below (s₁.setTop (mkF m 78 #[.val (.int (own_ush32 (own_ush32 p1 (4 : Int32)) (2 : Int32))), .val (.int (((31 : Int32) + (-4 : Int32)) + (-2 : Int32)))] [(.int ((((31 : Int32) + (-4 : Int32)) + (-2 : Int32)) - (((own_ush32 (own_ush32 p1 (4 : Int32)) (2 : Int32)).toUInt32 >>> ((1 : Int32) &&& 31).toUInt32).toInt32)))])) t → Steps p.tables e below (s₁.setTop (mkF m 0 #[.val (.int p1), .unset] [])) t := by
              intro t kt
              refine R21 _ ?_
              show Steps p.tables e below (s₁.setTop (mkF m 73 #[.val (.int (own_ush32 (own_ush32 p1 (4 : Int32)) (2 : Int32))), .val (.int (((31 : Int32) + (-4 : Int32)) + (-2 : Int32)))] [])) _
              refine XS.iloadN X0.here hx rfl (hb hby d7_73) rfl ?_
              show Steps p.tables e below (s₁.setTop (mkF m 74 #[.val (.int (own_ush32 (own_ush32 p1 (4 : Int32)) (2 : Int32))), .val (.int (((31 : Int32) + (-4 : Int32)) + (-2 : Int32)))] [(.int (((31 : Int32) + (-4 : Int32)) + (-2 : Int32)))])) _
              refine XS.iloadN X0.here hx rfl (hb hby d7_74) rfl ?_
              show Steps p.tables e below (s₁.setTop (mkF m 75 #[.val (.int (own_ush32 (own_ush32 p1 (4 : Int32)) (2 : Int32))), .val (.int (((31 : Int32) + (-4 : Int32)) + (-2 : Int32)))] [(.int (own_ush32 (own_ush32 p1 (4 : Int32)) (2 : Int32))), (.int (((31 : Int32) + (-4 : Int32)) + (-2 : Int32)))])) _
              refine XS.iconst X0.here hx rfl (hb hby d7_75) ?_
              show Steps p.tables e below (s₁.setTop (mkF m 76 #[.val (.int (own_ush32 (own_ush32 p1 (4 : Int32)) (2 : Int32))), .val (.int (((31 : Int32) + (-4 : Int32)) + (-2 : Int32)))] [(.int (1 : Int32)), (.int (own_ush32 (own_ush32 p1 (4 : Int32)) (2 : Int32))), (.int (((31 : Int32) + (-4 : Int32)) + (-2 : Int32)))])) _
              refine XS.iushr X0.here hx rfl (hb hby d7_76) rfl ?_
              show Steps p.tables e below (s₁.setTop (mkF m 77 #[.val (.int (own_ush32 (own_ush32 p1 (4 : Int32)) (2 : Int32))), .val (.int (((31 : Int32) + (-4 : Int32)) + (-2 : Int32)))] [(.int (((own_ush32 (own_ush32 p1 (4 : Int32)) (2 : Int32)).toUInt32 >>> ((1 : Int32) &&& 31).toUInt32).toInt32)), (.int (((31 : Int32) + (-4 : Int32)) + (-2 : Int32)))])) _
              refine XS.isub X0.here hx rfl (hb hby d7_77) rfl ?_
              exact kt
            clear R21
            obtain ⟨fs, hr, hrun, hended, hW, hsame⟩ := X0.leave (v := some (.int ((((31 : Int32) + (-4 : Int32)) + (-2 : Int32)) - (((own_ush32 (own_ush32 p1 (4 : Int32)) (2 : Int32)).toUInt32 >>> ((1 : Int32) &&& 31).toUInt32).toInt32)))) (fun h => by rw [Bd.returns] at h; cases h)
            refine ⟨_, _, pre0 _ (R22 _ ?_), hrun, hended, _, _, rfl, ?_, ⟨_, rfl⟩, hW, hsame.mono (by decide) (by decide)⟩
            · exact retI X0 hx Bd.returns (hb hby d7_78) hr
            · show Q_rm_inlz Z p1 h0 n0 _ s₁.heap _
              rw [e0]
              exact ⟨by rw [own_inlz, if_pos hc1, own_n1, if_pos hc22, own_n2, if_pos hc37, own_n3, if_neg hc51, own_n4, if_neg hc63]; rfl, N0, rfl⟩
      · have R23 : ∀ t, Steps p.tables e below (s₁.setTop (mkF m 48 #[.val (.int ((p1.toUInt32 >>> ((8 : Int32) &&& 31).toUInt32).toInt32)), .val (.int ((31 : Int32) + (-8 : Int32)))] [])) t → Steps p.tables e below (s₁.setTop (mkF m 0 #[.val (.int p1), .unset] [])) t := by
          intro t kt
          refine R9 _ ?_
          show Steps p.tables e below (s₁.setTop (mkF m 37 #[.val (.int p1), .val (.int (31 : Int32))] [(.int (256 : Int32)), (.int p1)])) _
          refine XS.icmpNo X0.here hx rfl (hb hby d7_37) rfl (flt (hc37 : ¬ (p1 < (256 : Int32)))).1 ?_
          show Steps p.tables e below (s₁.setTop (mkF m 40 #[.val (.int p1), .val (.int (31 : Int32))] [])) _
          refine XS.iinc X0.here hx rfl (hb hby d7_40) rfl (l' := #[.val (.int p1), .val (.int ((31 : Int32) + (-8 : Int32)))]) rfl ?_
          show Steps p.tables e below (s₁.setTop (mkF m 43 #[.val (.int p1), .val (.int ((31 : Int32) + (-8 : Int32)))] [])) _
          refine XS.iloadN X0.here hx rfl (hb hby d7_43) rfl ?_
          show Steps p.tables e below (s₁.setTop (mkF m 44 #[.val (.int p1), .val (.int ((31 : Int32) + (-8 : Int32)))] [(.int p1)])) _
          refine XS.bipush X0.here hx rfl (hb hby d7_44) ?_
          show Steps p.tables e below (s₁.setTop (mkF m 46 #[.val (.int p1), .val (.int ((31 : Int32) + (-8 : Int32)))] [(.int (8 : Int32)), (.int p1)])) _
          refine XS.iushr X0.here hx rfl (hb hby d7_46) rfl ?_
          show Steps p.tables e below (s₁.setTop (mkF m 47 #[.val (.int p1), .val (.int ((31 : Int32) + (-8 : Int32)))] [(.int ((p1.toUInt32 >>> ((8 : Int32) &&& 31).toUInt32).toInt32))])) _
          refine XS.istoreN X0.here hx rfl (hb hby d7_47) rfl (l' := #[.val (.int ((p1.toUInt32 >>> ((8 : Int32) &&& 31).toUInt32).toInt32)), .val (.int ((31 : Int32) + (-8 : Int32)))]) rfl ?_
          exact kt
        clear R9
        have R24 : ∀ t, Steps p.tables e below (s₁.setTop (mkF m 48 #[.val (.int (own_ush32 p1 (8 : Int32))), .val (.int ((31 : Int32) + (-8 : Int32)))] [])) t → Steps p.tables e below (s₁.setTop (mkF m 0 #[.val (.int p1), .unset] [])) t := R23
        have R25 : ∀ t, Steps p.tables e below (s₁.setTop (mkF m 51 #[.val (.int (own_ush32 p1 (8 : Int32))), .val (.int ((31 : Int32) + (-8 : Int32)))] [(.int (16 : Int32)), (.int (own_ush32 p1 (8 : Int32)))])) t → Steps p.tables e below (s₁.setTop (mkF m 0 #[.val (.int p1), .unset] [])) t := by
          intro t kt
          refine R24 _ ?_
          show Steps p.tables e below (s₁.setTop (mkF m 48 #[.val (.int (own_ush32 p1 (8 : Int32))), .val (.int ((31 : Int32) + (-8 : Int32)))] [])) _
          refine XS.iloadN X0.here hx rfl (hb hby d7_48) rfl ?_
          show Steps p.tables e below (s₁.setTop (mkF m 49 #[.val (.int (own_ush32 p1 (8 : Int32))), .val (.int ((31 : Int32) + (-8 : Int32)))] [(.int (own_ush32 p1 (8 : Int32)))])) _
          refine XS.bipush X0.here hx rfl (hb hby d7_49) ?_
          exact kt
        clear R24
        by_cases hc51 : (own_ush32 p1 (8 : Int32)) < (16 : Int32)
        · have R26 : ∀ t, Steps p.tables e below (s₁.setTop (mkF m 63 #[.val (.int (own_ush32 p1 (8 : Int32))), .val (.int ((31 : Int32) + (-8 : Int32)))] [(.int (4 : Int32)), (.int (own_ush32 p1 (8 : Int32)))])) t → Steps p.tables e below (s₁.setTop (mkF m 0 #[.val (.int p1), .unset] [])) t := by
            intro t kt
            refine R25 _ ?_
            show Steps p.tables e below (s₁.setTop (mkF m 51 #[.val (.int (own_ush32 p1 (8 : Int32))), .val (.int ((31 : Int32) + (-8 : Int32)))] [(.int (16 : Int32)), (.int (own_ush32 p1 (8 : Int32)))])) _
            refine XS.icmpYes X0.here hx rfl (pc0 := 51) (pc' := 61) rfl (hb hby d7_51) rfl (tlt (hc51 : (own_ush32 p1 (8 : Int32)) < (16 : Int32))).1 (by decide) (by decide) ?_
            show Steps p.tables e below (s₁.setTop (mkF m 61 #[.val (.int (own_ush32 p1 (8 : Int32))), .val (.int ((31 : Int32) + (-8 : Int32)))] [])) _
            refine XS.iloadN X0.here hx rfl (hb hby d7_61) rfl ?_
            show Steps p.tables e below (s₁.setTop (mkF m 62 #[.val (.int (own_ush32 p1 (8 : Int32))), .val (.int ((31 : Int32) + (-8 : Int32)))] [(.int (own_ush32 p1 (8 : Int32)))])) _
            refine XS.iconst X0.here hx rfl (hb hby d7_62) ?_
            exact kt
          clear R25
          by_cases hc63 : (own_ush32 p1 (8 : Int32)) < (4 : Int32)
          · have R27 : ∀ t, Steps p.tables e below (s₁.setTop (mkF m 78 #[.val (.int (own_ush32 p1 (8 : Int32))), .val (.int ((31 : Int32) + (-8 : Int32)))] [(.int (((31 : Int32) + (-8 : Int32)) - (((own_ush32 p1 (8 : Int32)).toUInt32 >>> ((1 : Int32) &&& 31).toUInt32).toInt32)))])) t → Steps p.tables e below (s₁.setTop (mkF m 0 #[.val (.int p1), .unset] [])) t := by
              intro t kt
              refine R26 _ ?_
              show Steps p.tables e below (s₁.setTop (mkF m 63 #[.val (.int (own_ush32 p1 (8 : Int32))), .val (.int ((31 : Int32) + (-8 : Int32)))] [(.int (4 : Int32)), (.int (own_ush32 p1 (8 : Int32)))])) _
              refine XS.icmpYes X0.here hx rfl (pc0 := 63) (pc' := 73) rfl (hb hby d7_63) rfl (tlt (hc63 : (own_ush32 p1 (8 : Int32)) < (4 : Int32))).1 (by decide) (by decide) ?_
              show Steps p.tables e below (s₁.setTop (mkF m 73 #[.val (.int (own_ush32 p1 (8 : Int32))), .val (.int ((31 : Int32) + (-8 : Int32)))] [])) _
              refine XS.iloadN X0.here hx rfl (hb hby d7_73) rfl ?_
              show Steps p.tables e below (s₁.setTop (mkF m 74 #[.val (.int (own_ush32 p1 (8 : Int32))), .val (.int ((31 : Int32) + (-8 : Int32)))] [(.int ((31 : Int32) + (-8 : Int32)))])) _
              refine XS.iloadN X0.here hx rfl (hb hby d7_74) rfl ?_
              show Steps p.tables e below (s₁.setTop (mkF m 75 #[.val (.int (own_ush32 p1 (8 : Int32))), .val (.int ((31 : Int32) + (-8 : Int32)))] [(.int (own_ush32 p1 (8 : Int32))), (.int ((31 : Int32) + (-8 : Int32)))])) _
              refine XS.iconst X0.here hx rfl (hb hby d7_75) ?_
              show Steps p.tables e below (s₁.setTop (mkF m 76 #[.val (.int (own_ush32 p1 (8 : Int32))), .val (.int ((31 : Int32) + (-8 : Int32)))] [(.int (1 : Int32)), (.int (own_ush32 p1 (8 : Int32))), (.int ((31 : Int32) + (-8 : Int32)))])) _
              refine XS.iushr X0.here hx rfl (hb hby d7_76) rfl ?_
              show Steps p.tables e below (s₁.setTop (mkF m 77 #[.val (.int (own_ush32 p1 (8 : Int32))), .val (.int ((31 : Int32) + (-8 : Int32)))] [(.int (((own_ush32 p1 (8 : Int32)).toUInt32 >>> ((1 : Int32) &&& 31).toUInt32).toInt32)), (.int ((31 : Int32) + (-8 : Int32)))])) _
              refine XS.isub X0.here hx rfl (hb hby d7_77) rfl ?_
              exact kt
            clear R26
            obtain ⟨fs, hr, hrun, hended, hW, hsame⟩ := X0.leave (v := some (.int (((31 : Int32) + (-8 : Int32)) - (((own_ush32 p1 (8 : Int32)).toUInt32 >>> ((1 : Int32) &&& 31).toUInt32).toInt32)))) (fun h => by rw [Bd.returns] at h; cases h)
            refine ⟨_, _, pre0 _ (R27 _ ?_), hrun, hended, _, _, rfl, ?_, ⟨_, rfl⟩, hW, hsame.mono (by decide) (by decide)⟩
            · exact retI X0 hx Bd.returns (hb hby d7_78) hr
            · show Q_rm_inlz Z p1 h0 n0 _ s₁.heap _
              rw [e0]
              exact ⟨by rw [own_inlz, if_pos hc1, own_n1, if_pos hc22, own_n2, if_neg hc37, own_n3, if_pos hc51, own_n4, if_pos hc63]; rfl, N0, rfl⟩
          · have R28 : ∀ t, Steps p.tables e below (s₁.setTop (mkF m 73 #[.val (.int (((own_ush32 p1 (8 : Int32)).toUInt32 >>> ((2 : Int32) &&& 31).toUInt32).toInt32)), .val (.int (((31 : Int32) + (-8 : Int32)) + (-2 : Int32)))] [])) t → Steps p.tables e below (s₁.setTop (mkF m 0 #[.val (.int p1), .unset] [])) t := by
              intro t kt
              refine R26 _ ?_
              show Steps p.tables e below (s₁.setTop (mkF m 63 #[.val (.int (own_ush32 p1 (8 : Int32))), .val (.int ((31 : Int32) + (-8 : Int32)))] [(.int (4 : Int32)), (.int (own_ush32 p1 (8 : Int32)))])) _
              refine XS.icmpNo X0.here hx rfl (hb hby d7_63) rfl (flt (hc63 : ¬ ((own_ush32 p1 (8 : Int32)) < (4 : Int32)))).1 ?_
              show Steps p.tables e below (s₁.setTop (mkF m 66 #[.val (.int (own_ush32 p1 (8 : Int32))), .val (.int ((31 : Int32) + (-8 : Int32)))] [])) _
              refine XS.iinc X0.here hx rfl (hb hby d7_66) rfl (l' := #[.val (.int (own_ush32 p1 (8 : Int32))), .val (.int (((31 : Int32) + (-8 : Int32)) + (-2 : Int32)))]) rfl ?_
              show Steps p.tables e below (s₁.setTop (mkF m 69 #[.val (.int (own_ush32 p1 (8 : Int32))), .val (.int (((31 : Int32) + (-8 : Int32)) + (-2 : Int32)))] [])) _
              refine XS.iloadN X0.here hx rfl (hb hby d7_69) rfl ?_
              show Steps p.tables e below (s₁.setTop (mkF m 70 #[.val (.int (own_ush32 p1 (8 : Int32))), .val (.int (((31 : Int32) + (-8 : Int32)) + (-2 : Int32)))] [(.int (own_ush32 p1 (8 : Int32)))])) _
              refine XS.iconst X0.here hx rfl (hb hby d7_70) ?_
              show Steps p.tables e below (s₁.setTop (mkF m 71 #[.val (.int (own_ush32 p1 (8 : Int32))), .val (.int (((31 : Int32) + (-8 : Int32)) + (-2 : Int32)))] [(.int (2 : Int32)), (.int (own_ush32 p1 (8 : Int32)))])) _
              refine XS.iushr X0.here hx rfl (hb hby d7_71) rfl ?_
              show Steps p.tables e below (s₁.setTop (mkF m 72 #[.val (.int (own_ush32 p1 (8 : Int32))), .val (.int (((31 : Int32) + (-8 : Int32)) + (-2 : Int32)))] [(.int (((own_ush32 p1 (8 : Int32)).toUInt32 >>> ((2 : Int32) &&& 31).toUInt32).toInt32))])) _
              refine XS.istoreN X0.here hx rfl (hb hby d7_72) rfl (l' := #[.val (.int (((own_ush32 p1 (8 : Int32)).toUInt32 >>> ((2 : Int32) &&& 31).toUInt32).toInt32)), .val (.int (((31 : Int32) + (-8 : Int32)) + (-2 : Int32)))]) rfl ?_
              exact kt
            clear R26
            have R29 : ∀ t, Steps p.tables e below (s₁.setTop (mkF m 73 #[.val (.int (own_ush32 (own_ush32 p1 (8 : Int32)) (2 : Int32))), .val (.int (((31 : Int32) + (-8 : Int32)) + (-2 : Int32)))] [])) t → Steps p.tables e below (s₁.setTop (mkF m 0 #[.val (.int p1), .unset] [])) t := R28
            have R30 : ∀ t, Steps p.tables e below (s₁.setTop (mkF m 78 #[.val (.int (own_ush32 (own_ush32 p1 (8 : Int32)) (2 : Int32))), .val (.int (((31 : Int32) + (-8 : Int32)) + (-2 : Int32)))] [(.int ((((31 : Int32) + (-8 : Int32)) + (-2 : Int32)) - (((own_ush32 (own_ush32 p1 (8 : Int32)) (2 : Int32)).toUInt32 >>> ((1 : Int32) &&& 31).toUInt32).toInt32)))])) t → Steps p.tables e below (s₁.setTop (mkF m 0 #[.val (.int p1), .unset] [])) t := by
              intro t kt
              refine R29 _ ?_
              show Steps p.tables e below (s₁.setTop (mkF m 73 #[.val (.int (own_ush32 (own_ush32 p1 (8 : Int32)) (2 : Int32))), .val (.int (((31 : Int32) + (-8 : Int32)) + (-2 : Int32)))] [])) _
              refine XS.iloadN X0.here hx rfl (hb hby d7_73) rfl ?_
              show Steps p.tables e below (s₁.setTop (mkF m 74 #[.val (.int (own_ush32 (own_ush32 p1 (8 : Int32)) (2 : Int32))), .val (.int (((31 : Int32) + (-8 : Int32)) + (-2 : Int32)))] [(.int (((31 : Int32) + (-8 : Int32)) + (-2 : Int32)))])) _
              refine XS.iloadN X0.here hx rfl (hb hby d7_74) rfl ?_
              show Steps p.tables e below (s₁.setTop (mkF m 75 #[.val (.int (own_ush32 (own_ush32 p1 (8 : Int32)) (2 : Int32))), .val (.int (((31 : Int32) + (-8 : Int32)) + (-2 : Int32)))] [(.int (own_ush32 (own_ush32 p1 (8 : Int32)) (2 : Int32))), (.int (((31 : Int32) + (-8 : Int32)) + (-2 : Int32)))])) _
              refine XS.iconst X0.here hx rfl (hb hby d7_75) ?_
              show Steps p.tables e below (s₁.setTop (mkF m 76 #[.val (.int (own_ush32 (own_ush32 p1 (8 : Int32)) (2 : Int32))), .val (.int (((31 : Int32) + (-8 : Int32)) + (-2 : Int32)))] [(.int (1 : Int32)), (.int (own_ush32 (own_ush32 p1 (8 : Int32)) (2 : Int32))), (.int (((31 : Int32) + (-8 : Int32)) + (-2 : Int32)))])) _
              refine XS.iushr X0.here hx rfl (hb hby d7_76) rfl ?_
              show Steps p.tables e below (s₁.setTop (mkF m 77 #[.val (.int (own_ush32 (own_ush32 p1 (8 : Int32)) (2 : Int32))), .val (.int (((31 : Int32) + (-8 : Int32)) + (-2 : Int32)))] [(.int (((own_ush32 (own_ush32 p1 (8 : Int32)) (2 : Int32)).toUInt32 >>> ((1 : Int32) &&& 31).toUInt32).toInt32)), (.int (((31 : Int32) + (-8 : Int32)) + (-2 : Int32)))])) _
              refine XS.isub X0.here hx rfl (hb hby d7_77) rfl ?_
              exact kt
            clear R29
            obtain ⟨fs, hr, hrun, hended, hW, hsame⟩ := X0.leave (v := some (.int ((((31 : Int32) + (-8 : Int32)) + (-2 : Int32)) - (((own_ush32 (own_ush32 p1 (8 : Int32)) (2 : Int32)).toUInt32 >>> ((1 : Int32) &&& 31).toUInt32).toInt32)))) (fun h => by rw [Bd.returns] at h; cases h)
            refine ⟨_, _, pre0 _ (R30 _ ?_), hrun, hended, _, _, rfl, ?_, ⟨_, rfl⟩, hW, hsame.mono (by decide) (by decide)⟩
            · exact retI X0 hx Bd.returns (hb hby d7_78) hr
            · show Q_rm_inlz Z p1 h0 n0 _ s₁.heap _
              rw [e0]
              exact ⟨by rw [own_inlz, if_pos hc1, own_n1, if_pos hc22, own_n2, if_neg hc37, own_n3, if_pos hc51, own_n4, if_neg hc63]; rfl, N0, rfl⟩
        · have R31 : ∀ t, Steps p.tables e below (s₁.setTop (mkF m 61 #[.val (.int (((own_ush32 p1 (8 : Int32)).toUInt32 >>> ((4 : Int32) &&& 31).toUInt32).toInt32)), .val (.int (((31 : Int32) + (-8 : Int32)) + (-4 : Int32)))] [])) t → Steps p.tables e below (s₁.setTop (mkF m 0 #[.val (.int p1), .unset] [])) t := by
            intro t kt
            refine R25 _ ?_
            show Steps p.tables e below (s₁.setTop (mkF m 51 #[.val (.int (own_ush32 p1 (8 : Int32))), .val (.int ((31 : Int32) + (-8 : Int32)))] [(.int (16 : Int32)), (.int (own_ush32 p1 (8 : Int32)))])) _
            refine XS.icmpNo X0.here hx rfl (hb hby d7_51) rfl (flt (hc51 : ¬ ((own_ush32 p1 (8 : Int32)) < (16 : Int32)))).1 ?_
            show Steps p.tables e below (s₁.setTop (mkF m 54 #[.val (.int (own_ush32 p1 (8 : Int32))), .val (.int ((31 : Int32) + (-8 : Int32)))] [])) _
            refine XS.iinc X0.here hx rfl (hb hby d7_54) rfl (l' := #[.val (.int (own_ush32 p1 (8 : Int32))), .val (.int (((31 : Int32) + (-8 : Int32)) + (-4 : Int32)))]) rfl ?_
            show Steps p.tables e below (s₁.setTop (mkF m 57 #[.val (.int (own_ush32 p1 (8 : Int32))), .val (.int (((31 : Int32) + (-8 : Int32)) + (-4 : Int32)))] [])) _
            refine XS.iloadN X0.here hx rfl (hb hby d7_57) rfl ?_
            show Steps p.tables e below (s₁.setTop (mkF m 58 #[.val (.int (own_ush32 p1 (8 : Int32))), .val (.int (((31 : Int32) + (-8 : Int32)) + (-4 : Int32)))] [(.int (own_ush32 p1 (8 : Int32)))])) _
            refine XS.iconst X0.here hx rfl (hb hby d7_58) ?_
            show Steps p.tables e below (s₁.setTop (mkF m 59 #[.val (.int (own_ush32 p1 (8 : Int32))), .val (.int (((31 : Int32) + (-8 : Int32)) + (-4 : Int32)))] [(.int (4 : Int32)), (.int (own_ush32 p1 (8 : Int32)))])) _
            refine XS.iushr X0.here hx rfl (hb hby d7_59) rfl ?_
            show Steps p.tables e below (s₁.setTop (mkF m 60 #[.val (.int (own_ush32 p1 (8 : Int32))), .val (.int (((31 : Int32) + (-8 : Int32)) + (-4 : Int32)))] [(.int (((own_ush32 p1 (8 : Int32)).toUInt32 >>> ((4 : Int32) &&& 31).toUInt32).toInt32))])) _
            refine XS.istoreN X0.here hx rfl (hb hby d7_60) rfl (l' := #[.val (.int (((own_ush32 p1 (8 : Int32)).toUInt32 >>> ((4 : Int32) &&& 31).toUInt32).toInt32)), .val (.int (((31 : Int32) + (-8 : Int32)) + (-4 : Int32)))]) rfl ?_
            exact kt
          clear R25
          have R32 : ∀ t, Steps p.tables e below (s₁.setTop (mkF m 61 #[.val (.int (own_ush32 (own_ush32 p1 (8 : Int32)) (4 : Int32))), .val (.int (((31 : Int32) + (-8 : Int32)) + (-4 : Int32)))] [])) t → Steps p.tables e below (s₁.setTop (mkF m 0 #[.val (.int p1), .unset] [])) t := R31
          have R33 : ∀ t, Steps p.tables e below (s₁.setTop (mkF m 63 #[.val (.int (own_ush32 (own_ush32 p1 (8 : Int32)) (4 : Int32))), .val (.int (((31 : Int32) + (-8 : Int32)) + (-4 : Int32)))] [(.int (4 : Int32)), (.int (own_ush32 (own_ush32 p1 (8 : Int32)) (4 : Int32)))])) t → Steps p.tables e below (s₁.setTop (mkF m 0 #[.val (.int p1), .unset] [])) t := by
            intro t kt
            refine R32 _ ?_
            show Steps p.tables e below (s₁.setTop (mkF m 61 #[.val (.int (own_ush32 (own_ush32 p1 (8 : Int32)) (4 : Int32))), .val (.int (((31 : Int32) + (-8 : Int32)) + (-4 : Int32)))] [])) _
            refine XS.iloadN X0.here hx rfl (hb hby d7_61) rfl ?_
            show Steps p.tables e below (s₁.setTop (mkF m 62 #[.val (.int (own_ush32 (own_ush32 p1 (8 : Int32)) (4 : Int32))), .val (.int (((31 : Int32) + (-8 : Int32)) + (-4 : Int32)))] [(.int (own_ush32 (own_ush32 p1 (8 : Int32)) (4 : Int32)))])) _
            refine XS.iconst X0.here hx rfl (hb hby d7_62) ?_
            exact kt
          clear R32
          by_cases hc63 : (own_ush32 (own_ush32 p1 (8 : Int32)) (4 : Int32)) < (4 : Int32)
          · have R34 : ∀ t, Steps p.tables e below (s₁.setTop (mkF m 78 #[.val (.int (own_ush32 (own_ush32 p1 (8 : Int32)) (4 : Int32))), .val (.int (((31 : Int32) + (-8 : Int32)) + (-4 : Int32)))] [(.int ((((31 : Int32) + (-8 : Int32)) + (-4 : Int32)) - (((own_ush32 (own_ush32 p1 (8 : Int32)) (4 : Int32)).toUInt32 >>> ((1 : Int32) &&& 31).toUInt32).toInt32)))])) t → Steps p.tables e below (s₁.setTop (mkF m 0 #[.val (.int p1), .unset] [])) t := by
              intro t kt
              refine R33 _ ?_
              show Steps p.tables e below (s₁.setTop (mkF m 63 #[.val (.int (own_ush32 (own_ush32 p1 (8 : Int32)) (4 : Int32))), .val (.int (((31 : Int32) + (-8 : Int32)) + (-4 : Int32)))] [(.int (4 : Int32)), (.int (own_ush32 (own_ush32 p1 (8 : Int32)) (4 : Int32)))])) _
              refine XS.icmpYes X0.here hx rfl (pc0 := 63) (pc' := 73) rfl (hb hby d7_63) rfl (tlt (hc63 : (own_ush32 (own_ush32 p1 (8 : Int32)) (4 : Int32)) < (4 : Int32))).1 (by decide) (by decide) ?_
              show Steps p.tables e below (s₁.setTop (mkF m 73 #[.val (.int (own_ush32 (own_ush32 p1 (8 : Int32)) (4 : Int32))), .val (.int (((31 : Int32) + (-8 : Int32)) + (-4 : Int32)))] [])) _
              refine XS.iloadN X0.here hx rfl (hb hby d7_73) rfl ?_
              show Steps p.tables e below (s₁.setTop (mkF m 74 #[.val (.int (own_ush32 (own_ush32 p1 (8 : Int32)) (4 : Int32))), .val (.int (((31 : Int32) + (-8 : Int32)) + (-4 : Int32)))] [(.int (((31 : Int32) + (-8 : Int32)) + (-4 : Int32)))])) _
              refine XS.iloadN X0.here hx rfl (hb hby d7_74) rfl ?_
              show Steps p.tables e below (s₁.setTop (mkF m 75 #[.val (.int (own_ush32 (own_ush32 p1 (8 : Int32)) (4 : Int32))), .val (.int (((31 : Int32) + (-8 : Int32)) + (-4 : Int32)))] [(.int (own_ush32 (own_ush32 p1 (8 : Int32)) (4 : Int32))), (.int (((31 : Int32) + (-8 : Int32)) + (-4 : Int32)))])) _
              refine XS.iconst X0.here hx rfl (hb hby d7_75) ?_
              show Steps p.tables e below (s₁.setTop (mkF m 76 #[.val (.int (own_ush32 (own_ush32 p1 (8 : Int32)) (4 : Int32))), .val (.int (((31 : Int32) + (-8 : Int32)) + (-4 : Int32)))] [(.int (1 : Int32)), (.int (own_ush32 (own_ush32 p1 (8 : Int32)) (4 : Int32))), (.int (((31 : Int32) + (-8 : Int32)) + (-4 : Int32)))])) _
              refine XS.iushr X0.here hx rfl (hb hby d7_76) rfl ?_
              show Steps p.tables e below (s₁.setTop (mkF m 77 #[.val (.int (own_ush32 (own_ush32 p1 (8 : Int32)) (4 : Int32))), .val (.int (((31 : Int32) + (-8 : Int32)) + (-4 : Int32)))] [(.int (((own_ush32 (own_ush32 p1 (8 : Int32)) (4 : Int32)).toUInt32 >>> ((1 : Int32) &&& 31).toUInt32).toInt32)), (.int (((31 : Int32) + (-8 : Int32)) + (-4 : Int32)))])) _
              refine XS.isub X0.here hx rfl (hb hby d7_77) rfl ?_
              exact kt
            clear R33
            obtain ⟨fs, hr, hrun, hended, hW, hsame⟩ := X0.leave (v := some (.int ((((31 : Int32) + (-8 : Int32)) + (-4 : Int32)) - (((own_ush32 (own_ush32 p1 (8 : Int32)) (4 : Int32)).toUInt32 >>> ((1 : Int32) &&& 31).toUInt32).toInt32)))) (fun h => by rw [Bd.returns] at h; cases h)
            refine ⟨_, _, pre0 _ (R34 _ ?_), hrun, hended, _, _, rfl, ?_, ⟨_, rfl⟩, hW, hsame.mono (by decide) (by decide)⟩
            · exact retI X0 hx Bd.returns (hb hby d7_78) hr
            · show Q_rm_inlz Z p1 h0 n0 _ s₁.heap _
              rw [e0]
              exact ⟨by rw [own_inlz, if_pos hc1, own_n1, if_pos hc22, own_n2, if_neg hc37, own_n3, if_neg hc51, own_n4, if_pos hc63]; rfl, N0, rfl⟩
          · have R35 : ∀ t, Steps p.tables e below (s₁.setTop (mkF m 73 #[.val (.int (((own_ush32 (own_ush32 p1 (8 : Int32)) (4 : Int32)).toUInt32 >>> ((2 : Int32) &&& 31).toUInt32).toInt32)), .val (.int ((((31 : Int32) + (-8 : Int32)) + (-4 : Int32)) + (-2 : Int32)))] [])) t → Steps p.tables e below (s₁.setTop (mkF m 0 #[.val (.int p1), .unset] [])) t := by
              intro t kt
              refine R33 _ ?_
              show Steps p.tables e below (s₁.setTop (mkF m 63 #[.val (.int (own_ush32 (own_ush32 p1 (8 : Int32)) (4 : Int32))), .val (.int (((31 : Int32) + (-8 : Int32)) + (-4 : Int32)))] [(.int (4 : Int32)), (.int (own_ush32 (own_ush32 p1 (8 : Int32)) (4 : Int32)))])) _
              refine XS.icmpNo X0.here hx rfl (hb hby d7_63) rfl (flt (hc63 : ¬ ((own_ush32 (own_ush32 p1 (8 : Int32)) (4 : Int32)) < (4 : Int32)))).1 ?_
              show Steps p.tables e below (s₁.setTop (mkF m 66 #[.val (.int (own_ush32 (own_ush32 p1 (8 : Int32)) (4 : Int32))), .val (.int (((31 : Int32) + (-8 : Int32)) + (-4 : Int32)))] [])) _
              refine XS.iinc X0.here hx rfl (hb hby d7_66) rfl (l' := #[.val (.int (own_ush32 (own_ush32 p1 (8 : Int32)) (4 : Int32))), .val (.int ((((31 : Int32) + (-8 : Int32)) + (-4 : Int32)) + (-2 : Int32)))]) rfl ?_
              show Steps p.tables e below (s₁.setTop (mkF m 69 #[.val (.int (own_ush32 (own_ush32 p1 (8 : Int32)) (4 : Int32))), .val (.int ((((31 : Int32) + (-8 : Int32)) + (-4 : Int32)) + (-2 : Int32)))] [])) _
              refine XS.iloadN X0.here hx rfl (hb hby d7_69) rfl ?_
              show Steps p.tables e below (s₁.setTop (mkF m 70 #[.val (.int (own_ush32 (own_ush32 p1 (8 : Int32)) (4 : Int32))), .val (.int ((((31 : Int32) + (-8 : Int32)) + (-4 : Int32)) + (-2 : Int32)))] [(.int (own_ush32 (own_ush32 p1 (8 : Int32)) (4 : Int32)))])) _
              refine XS.iconst X0.here hx rfl (hb hby d7_70) ?_
              show Steps p.tables e below (s₁.setTop (mkF m 71 #[.val (.int (own_ush32 (own_ush32 p1 (8 : Int32)) (4 : Int32))), .val (.int ((((31 : Int32) + (-8 : Int32)) + (-4 : Int32)) + (-2 : Int32)))] [(.int (2 : Int32)), (.int (own_ush32 (own_ush32 p1 (8 : Int32)) (4 : Int32)))])) _
              refine XS.iushr X0.here hx rfl (hb hby d7_71) rfl ?_
              show Steps p.tables e below (s₁.setTop (mkF m 72 #[.val (.int (own_ush32 (own_ush32 p1 (8 : Int32)) (4 : Int32))), .val (.int ((((31 : Int32) + (-8 : Int32)) + (-4 : Int32)) + (-2 : Int32)))] [(.int (((own_ush32 (own_ush32 p1 (8 : Int32)) (4 : Int32)).toUInt32 >>> ((2 : Int32) &&& 31).toUInt32).toInt32))])) _
              refine XS.istoreN X0.here hx rfl (hb hby d7_72) rfl (l' := #[.val (.int (((own_ush32 (own_ush32 p1 (8 : Int32)) (4 : Int32)).toUInt32 >>> ((2 : Int32) &&& 31).toUInt32).toInt32)), .val (.int ((((31 : Int32) + (-8 : Int32)) + (-4 : Int32)) + (-2 : Int32)))]) rfl ?_
              exact kt
            clear R33
            have R36 : ∀ t, Steps p.tables e below (s₁.setTop (mkF m 73 #[.val (.int (own_ush32 (own_ush32 (own_ush32 p1 (8 : Int32)) (4 : Int32)) (2 : Int32))), .val (.int ((((31 : Int32) + (-8 : Int32)) + (-4 : Int32)) + (-2 : Int32)))] [])) t → Steps p.tables e below (s₁.setTop (mkF m 0 #[.val (.int p1), .unset] [])) t := R35
            have R37 : ∀ t, Steps p.tables e below (s₁.setTop (mkF m 78 #[.val (.int (own_ush32 (own_ush32 (own_ush32 p1 (8 : Int32)) (4 : Int32)) (2 : Int32))), .val (.int ((((31 : Int32) + (-8 : Int32)) + (-4 : Int32)) + (-2 : Int32)))] [(.int (((((31 : Int32) + (-8 : Int32)) + (-4 : Int32)) + (-2 : Int32)) - (((own_ush32 (own_ush32 (own_ush32 p1 (8 : Int32)) (4 : Int32)) (2 : Int32)).toUInt32 >>> ((1 : Int32) &&& 31).toUInt32).toInt32)))])) t → Steps p.tables e below (s₁.setTop (mkF m 0 #[.val (.int p1), .unset] [])) t := by
              intro t kt
              refine R36 _ ?_
              show Steps p.tables e below (s₁.setTop (mkF m 73 #[.val (.int (own_ush32 (own_ush32 (own_ush32 p1 (8 : Int32)) (4 : Int32)) (2 : Int32))), .val (.int ((((31 : Int32) + (-8 : Int32)) + (-4 : Int32)) + (-2 : Int32)))] [])) _
              refine XS.iloadN X0.here hx rfl (hb hby d7_73) rfl ?_
              show Steps p.tables e below (s₁.setTop (mkF m 74 #[.val (.int (own_ush32 (own_ush32 (own_ush32 p1 (8 : Int32)) (4 : Int32)) (2 : Int32))), .val (.int ((((31 : Int32) + (-8 : Int32)) + (-4 : Int32)) + (-2 : Int32)))] [(.int ((((31 : Int32) + (-8 : Int32)) + (-4 : Int32)) + (-2 : Int32)))])) _
              refine XS.iloadN X0.here hx rfl (hb hby d7_74) rfl ?_
              show Steps p.tables e below (s₁.setTop (mkF m 75 #[.val (.int (own_ush32 (own_ush32 (own_ush32 p1 (8 : Int32)) (4 : Int32)) (2 : Int32))), .val (.int ((((31 : Int32) + (-8 : Int32)) + (-4 : Int32)) + (-2 : Int32)))] [(.int (own_ush32 (own_ush32 (own_ush32 p1 (8 : Int32)) (4 : Int32)) (2 : Int32))), (.int ((((31 : Int32) + (-8 : Int32)) + (-4 : Int32)) + (-2 : Int32)))])) _
              refine XS.iconst X0.here hx rfl (hb hby d7_75) ?_
              show Steps p.tables e below (s₁.setTop (mkF m 76 #[.val (.int (own_ush32 (own_ush32 (own_ush32 p1 (8 : Int32)) (4 : Int32)) (2 : Int32))), .val (.int ((((31 : Int32) + (-8 : Int32)) + (-4 : Int32)) + (-2 : Int32)))] [(.int (1 : Int32)), (.int (own_ush32 (own_ush32 (own_ush32 p1 (8 : Int32)) (4 : Int32)) (2 : Int32))), (.int ((((31 : Int32) + (-8 : Int32)) + (-4 : Int32)) + (-2 : Int32)))])) _
              refine XS.iushr X0.here hx rfl (hb hby d7_76) rfl ?_
              show Steps p.tables e below (s₁.setTop (mkF m 77 #[.val (.int (own_ush32 (own_ush32 (own_ush32 p1 (8 : Int32)) (4 : Int32)) (2 : Int32))), .val (.int ((((31 : Int32) + (-8 : Int32)) + (-4 : Int32)) + (-2 : Int32)))] [(.int (((own_ush32 (own_ush32 (own_ush32 p1 (8 : Int32)) (4 : Int32)) (2 : Int32)).toUInt32 >>> ((1 : Int32) &&& 31).toUInt32).toInt32)), (.int ((((31 : Int32) + (-8 : Int32)) + (-4 : Int32)) + (-2 : Int32)))])) _
              refine XS.isub X0.here hx rfl (hb hby d7_77) rfl ?_
              exact kt
            clear R36
            obtain ⟨fs, hr, hrun, hended, hW, hsame⟩ := X0.leave (v := some (.int (((((31 : Int32) + (-8 : Int32)) + (-4 : Int32)) + (-2 : Int32)) - (((own_ush32 (own_ush32 (own_ush32 p1 (8 : Int32)) (4 : Int32)) (2 : Int32)).toUInt32 >>> ((1 : Int32) &&& 31).toUInt32).toInt32)))) (fun h => by rw [Bd.returns] at h; cases h)
            refine ⟨_, _, pre0 _ (R37 _ ?_), hrun, hended, _, _, rfl, ?_, ⟨_, rfl⟩, hW, hsame.mono (by decide) (by decide)⟩
            · exact retI X0 hx Bd.returns (hb hby d7_78) hr
            · show Q_rm_inlz Z p1 h0 n0 _ s₁.heap _
              rw [e0]
              exact ⟨by rw [own_inlz, if_pos hc1, own_n1, if_pos hc22, own_n2, if_neg hc37, own_n3, if_neg hc51, own_n4, if_neg hc63]; rfl, N0, rfl⟩
    · have R38 : ∀ t, Steps p.tables e below (s₁.setTop (mkF m 33 #[.val (.int ((p1.toUInt32 >>> ((16 : Int32) &&& 31).toUInt32).toInt32)), .val (.int ((31 : Int32) + (-16 : Int32)))] [])) t → Steps p.tables e below (s₁.setTop (mkF m 0 #[.val (.int p1), .unset] [])) t := by
        intro t kt
        refine R8 _ ?_
        show Steps p.tables e below (s₁.setTop (mkF m 22 #[.val (.int p1), .val (.int (31 : Int32))] [(.int (65536 : Int32)), (.int p1)])) _
        refine XS.icmpNo X0.here hx rfl (hb hby d7_22) rfl (flt (hc22 : ¬ (p1 < (65536 : Int32)))).1 ?_
        show Steps p.tables e below (s₁.setTop (mkF m 25 #[.val (.int p1), .val (.int (31 : Int32))] [])) _
        refine XS.iinc X0.here hx rfl (hb hby d7_25) rfl (l' := #[.val (.int p1), .val (.int ((31 : Int32) + (-16 : Int32)))]) rfl ?_
        show Steps p.tables e below (s₁.setTop (mkF m 28 #[.val (.int p1), .val (.int ((31 : Int32) + (-16 : Int32)))] [])) _
        refine XS.iloadN X0.here hx rfl (hb hby d7_28) rfl ?_
        show Steps p.tables e below (s₁.setTop (mkF m 29 #[.val (.int p1), .val (.int ((31 : Int32) + (-16 : Int32)))] [(.int p1)])) _
        refine XS.bipush X0.here hx rfl (hb hby d7_29) ?_
        show Steps p.tables e below (s₁.setTop (mkF m 31 #[.val (.int p1), .val (.int ((31 : Int32) + (-16 : Int32)))] [(.int (16 : Int32)), (.int p1)])) _
        refine XS.iushr X0.here hx rfl (hb hby d7_31) rfl ?_
        show Steps p.tables e below (s₁.setTop (mkF m 32 #[.val (.int p1), .val (.int ((31 : Int32) + (-16 : Int32)))] [(.int ((p1.toUInt32 >>> ((16 : Int32) &&& 31).toUInt32).toInt32))])) _
        refine XS.istoreN X0.here hx rfl (hb hby d7_32) rfl (l' := #[.val (.int ((p1.toUInt32 >>> ((16 : Int32) &&& 31).toUInt32).toInt32)), .val (.int ((31 : Int32) + (-16 : Int32)))]) rfl ?_
        exact kt
      clear R8
      have R39 : ∀ t, Steps p.tables e below (s₁.setTop (mkF m 33 #[.val (.int (own_ush32 p1 (16 : Int32))), .val (.int ((31 : Int32) + (-16 : Int32)))] [])) t → Steps p.tables e below (s₁.setTop (mkF m 0 #[.val (.int p1), .unset] [])) t := R38
      have R40 : ∀ t, Steps p.tables e below (s₁.setTop (mkF m 37 #[.val (.int (own_ush32 p1 (16 : Int32))), .val (.int ((31 : Int32) + (-16 : Int32)))] [(.int (256 : Int32)), (.int (own_ush32 p1 (16 : Int32)))])) t → Steps p.tables e below (s₁.setTop (mkF m 0 #[.val (.int p1), .unset] [])) t := by
        intro t kt
        refine R39 _ ?_
        show Steps p.tables e below (s₁.setTop (mkF m 33 #[.val (.int (own_ush32 p1 (16 : Int32))), .val (.int ((31 : Int32) + (-16 : Int32)))] [])) _
        refine XS.iloadN X0.here hx rfl (hb hby d7_33) rfl ?_
        show Steps p.tables e below (s₁.setTop (mkF m 34 #[.val (.int (own_ush32 p1 (16 : Int32))), .val (.int ((31 : Int32) + (-16 : Int32)))] [(.int (own_ush32 p1 (16 : Int32)))])) _
        refine XS.sipush X0.here hx rfl (hb hby d7_34) ?_
        exact kt
      clear R39
      by_cases hc37 : (own_ush32 p1 (16 : Int32)) < (256 : Int32)
      · have R41 : ∀ t, Steps p.tables e below (s₁.setTop (mkF m 51 #[.val (.int (own_ush32 p1 (16 : Int32))), .val (.int ((31 : Int32) + (-16 : Int32)))] [(.int (16 : Int32)), (.int (own_ush32 p1 (16 : Int32)))])) t → Steps p.tables e below (s₁.setTop (mkF m 0 #[.val (.int p1), .unset] [])) t := by
          intro t kt
          refine R40 _ ?_
          show Steps p.tables e below (s₁.setTop (mkF m 37 #[.val (.int (own_ush32 p1 (16 : Int32))), .val (.int ((31 : Int32) + (-16 : Int32)))] [(.int (256 : Int32)), (.int (own_ush32 p1 (16 : Int32)))])) _
          refine XS.icmpYes X0.here hx rfl (pc0 := 37) (pc' := 48) rfl (hb hby d7_37) rfl (tlt (hc37 : (own_ush32 p1 (16 : Int32)) < (256 : Int32))).1 (by decide) (by decide) ?_
          show Steps p.tables e below (s₁.setTop (mkF m 48 #[.val (.int (own_ush32 p1 (16 : Int32))), .val (.int ((31 : Int32) + (-16 : Int32)))] [])) _
          refine XS.iloadN X0.here hx rfl (hb hby d7_48) rfl ?_
          show Steps p.tables e below (s₁.setTop (mkF m 49 #[.val (.int (own_ush32 p1 (16 : Int32))), .val (.int ((31 : Int32) + (-16 : Int32)))] [(.int (own_ush32 p1 (16 : Int32)))])) _
          refine XS.bipush X0.here hx rfl (hb hby d7_49) ?_
          exact kt
        clear R40
        by_cases hc51 : (own_ush32 p1 (16 : Int32)) < (16 : Int32)
        · have R42 : ∀ t, Steps p.tables e below (s₁.setTop (mkF m 63 #[.val (.int (own_ush32 p1 (16 : Int32))), .val (.int ((31 : Int32) + (-16 : Int32)))] [(.int (4 : Int32)), (.int (own_ush32 p1 (16 : Int32)))])) t → Steps p.tables e below (s₁.setTop (mkF m 0 #[.val (.int p1), .unset] [])) t := by
            intro t kt
            refine R41 _ ?_
            show Steps p.tables e below (s₁.setTop (mkF m 51 #[.val (.int (own_ush32 p1 (16 : Int32))), .val (.int ((31 : Int32) + (-16 : Int32)))] [(.int (16 : Int32)), (.int (own_ush32 p1 (16 : Int32)))])) _
            refine XS.icmpYes X0.here hx rfl (pc0 := 51) (pc' := 61) rfl (hb hby d7_51) rfl (tlt (hc51 : (own_ush32 p1 (16 : Int32)) < (16 : Int32))).1 (by decide) (by decide) ?_
            show Steps p.tables e below (s₁.setTop (mkF m 61 #[.val (.int (own_ush32 p1 (16 : Int32))), .val (.int ((31 : Int32) + (-16 : Int32)))] [])) _
            refine XS.iloadN X0.here hx rfl (hb hby d7_61) rfl ?_
            show Steps p.tables e below (s₁.setTop (mkF m 62 #[.val (.int (own_ush32 p1 (16 : Int32))), .val (.int ((31 : Int32) + (-16 : Int32)))] [(.int (own_ush32 p1 (16 : Int32)))])) _
            refine XS.iconst X0.here hx rfl (hb hby d7_62) ?_
            exact kt
          clear R41
          by_cases hc63 : (own_ush32 p1 (16 : Int32)) < (4 : Int32)
          · have R43 : ∀ t, Steps p.tables e below (s₁.setTop (mkF m 78 #[.val (.int (own_ush32 p1 (16 : Int32))), .val (.int ((31 : Int32) + (-16 : Int32)))] [(.int (((31 : Int32) + (-16 : Int32)) - (((own_ush32 p1 (16 : Int32)).toUInt32 >>> ((1 : Int32) &&& 31).toUInt32).toInt32)))])) t → Steps p.tables e below (s₁.setTop (mkF m 0 #[.val (.int p1), .unset] [])) t := by
              intro t kt
              refine R42 _ ?_
              show Steps p.tables e below (s₁.setTop (mkF m 63 #[.val (.int (own_ush32 p1 (16 : Int32))), .val (.int ((31 : Int32) + (-16 : Int32)))] [(.int (4 : Int32)), (.int (own_ush32 p1 (16 : Int32)))])) _
              refine XS.icmpYes X0.here hx rfl (pc0 := 63) (pc' := 73) rfl (hb hby d7_63) rfl (tlt (hc63 : (own_ush32 p1 (16 : Int32)) < (4 : Int32))).1 (by decide) (by decide) ?_
              show Steps p.tables e below (s₁.setTop (mkF m 73 #[.val (.int (own_ush32 p1 (16 : Int32))), .val (.int ((31 : Int32) + (-16 : Int32)))] [])) _
              refine XS.iloadN X0.here hx rfl (hb hby d7_73) rfl ?_
              show Steps p.tables e below (s₁.setTop (mkF m 74 #[.val (.int (own_ush32 p1 (16 : Int32))), .val (.int ((31 : Int32) + (-16 : Int32)))] [(.int ((31 : Int32) + (-16 : Int32)))])) _
              refine XS.iloadN X0.here hx rfl (hb hby d7_74) rfl ?_
              show Steps p.tables e below (s₁.setTop (mkF m 75 #[.val (.int (own_ush32 p1 (16 : Int32))), .val (.int ((31 : Int32) + (-16 : Int32)))] [(.int (own_ush32 p1 (16 : Int32))), (.int ((31 : Int32) + (-16 : Int32)))])) _
              refine XS.iconst X0.here hx rfl (hb hby d7_75) ?_
              show Steps p.tables e below (s₁.setTop (mkF m 76 #[.val (.int (own_ush32 p1 (16 : Int32))), .val (.int ((31 : Int32) + (-16 : Int32)))] [(.int (1 : Int32)), (.int (own_ush32 p1 (16 : Int32))), (.int ((31 : Int32) + (-16 : Int32)))])) _
              refine XS.iushr X0.here hx rfl (hb hby d7_76) rfl ?_
              show Steps p.tables e below (s₁.setTop (mkF m 77 #[.val (.int (own_ush32 p1 (16 : Int32))), .val (.int ((31 : Int32) + (-16 : Int32)))] [(.int (((own_ush32 p1 (16 : Int32)).toUInt32 >>> ((1 : Int32) &&& 31).toUInt32).toInt32)), (.int ((31 : Int32) + (-16 : Int32)))])) _
              refine XS.isub X0.here hx rfl (hb hby d7_77) rfl ?_
              exact kt
            clear R42
            obtain ⟨fs, hr, hrun, hended, hW, hsame⟩ := X0.leave (v := some (.int (((31 : Int32) + (-16 : Int32)) - (((own_ush32 p1 (16 : Int32)).toUInt32 >>> ((1 : Int32) &&& 31).toUInt32).toInt32)))) (fun h => by rw [Bd.returns] at h; cases h)
            refine ⟨_, _, pre0 _ (R43 _ ?_), hrun, hended, _, _, rfl, ?_, ⟨_, rfl⟩, hW, hsame.mono (by decide) (by decide)⟩
            · exact retI X0 hx Bd.returns (hb hby d7_78) hr
            · show Q_rm_inlz Z p1 h0 n0 _ s₁.heap _
              rw [e0]
              exact ⟨by rw [own_inlz, if_pos hc1, own_n1, if_neg hc22, own_n2, if_pos hc37, own_n3, if_pos hc51, own_n4, if_pos hc63]; rfl, N0, rfl⟩
          · have R44 : ∀ t, Steps p.tables e below (s₁.setTop (mkF m 73 #[.val (.int (((own_ush32 p1 (16 : Int32)).toUInt32 >>> ((2 : Int32) &&& 31).toUInt32).toInt32)), .val (.int (((31 : Int32) + (-16 : Int32)) + (-2 : Int32)))] [])) t → Steps p.tables e below (s₁.setTop (mkF m 0 #[.val (.int p1), .unset] [])) t := by
              intro t kt
              refine R42 _ ?_
              show Steps p.tables e below (s₁.setTop (mkF m 63 #[.val (.int (own_ush32 p1 (16 : Int32))), .val (.int ((31 : Int32) + (-16 : Int32)))] [(.int (4 : Int32)), (.int (own_ush32 p1 (16 : Int32)))])) _
              refine XS.icmpNo X0.here hx rfl (hb hby d7_63) rfl (flt (hc63 : ¬ ((own_ush32 p1 (16 : Int32)) < (4 : Int32)))).1 ?_
              show Steps p.tables e below (s₁.setTop (mkF m 66 #[.val (.int (own_ush32 p1 (16 : Int32))), .val (.int ((31 : Int32) + (-16 : Int32)))] [])) _
              refine XS.iinc X0.here hx rfl (hb hby d7_66) rfl (l' := #[.val (.int (own_ush32 p1 (16 : Int32))), .val (.int (((31 : Int32) + (-16 : Int32)) + (-2 : Int32)))]) rfl ?_
              show Steps p.tables e below (s₁.setTop (mkF m 69 #[.val (.int (own_ush32 p1 (16 : Int32))), .val (.int (((31 : Int32) + (-16 : Int32)) + (-2 : Int32)))] [])) _
              refine XS.iloadN X0.here hx rfl (hb hby d7_69) rfl ?_
              show Steps p.tables e below (s₁.setTop (mkF m 70 #[.val (.int (own_ush32 p1 (16 : Int32))), .val (.int (((31 : Int32) + (-16 : Int32)) + (-2 : Int32)))] [(.int (own_ush32 p1 (16 : Int32)))])) _
              refine XS.iconst X0.here hx rfl (hb hby d7_70) ?_
              show Steps p.tables e below (s₁.setTop (mkF m 71 #[.val (.int (own_ush32 p1 (16 : Int32))), .val (.int (((31 : Int32) + (-16 : Int32)) + (-2 : Int32)))] [(.int (2 : Int32)), (.int (own_ush32 p1 (16 : Int32)))])) _
              refine XS.iushr X0.here hx rfl (hb hby d7_71) rfl ?_
              show Steps p.tables e below (s₁.setTop (mkF m 72 #[.val (.int (own_ush32 p1 (16 : Int32))), .val (.int (((31 : Int32) + (-16 : Int32)) + (-2 : Int32)))] [(.int (((own_ush32 p1 (16 : Int32)).toUInt32 >>> ((2 : Int32) &&& 31).toUInt32).toInt32))])) _
              refine XS.istoreN X0.here hx rfl (hb hby d7_72) rfl (l' := #[.val (.int (((own_ush32 p1 (16 : Int32)).toUInt32 >>> ((2 : Int32) &&& 31).toUInt32).toInt32)), .val (.int (((31 : Int32) + (-16 : Int32)) + (-2 : Int32)))]) rfl ?_
              exact kt
            clear R42
            have R45 : ∀ t, Steps p.tables e below (s₁.setTop (mkF m 73 #[.val (.int (own_ush32 (own_ush32 p1 (16 : Int32)) (2 : Int32))), .val (.int (((31 : Int32) + (-16 : Int32)) + (-2 : Int32)))] [])) t → Steps p.tables e below (s₁.setTop (mkF m 0 #[.val (.int p1), .unset] [])) t := R44
            have R46 : ∀ t, Steps p.tables e below (s₁.setTop (mkF m 78 #[.val (.int (own_ush32 (own_ush32 p1 (16 : Int32)) (2 : Int32))), .val (.int (((31 : Int32) + (-16 : Int32)) + (-2 : Int32)))] [(.int ((((31 : Int32) + (-16 : Int32)) + (-2 : Int32)) - (((own_ush32 (own_ush32 p1 (16 : Int32)) (2 : Int32)).toUInt32 >>> ((1 : Int32) &&& 31).toUInt32).toInt32)))])) t → Steps p.tables e below (s₁.setTop (mkF m 0 #[.val (.int p1), .unset] [])) t := by
              intro t kt
              refine R45 _ ?_
              show Steps p.tables e below (s₁.setTop (mkF m 73 #[.val (.int (own_ush32 (own_ush32 p1 (16 : Int32)) (2 : Int32))), .val (.int (((31 : Int32) + (-16 : Int32)) + (-2 : Int32)))] [])) _
              refine XS.iloadN X0.here hx rfl (hb hby d7_73) rfl ?_
              show Steps p.tables e below (s₁.setTop (mkF m 74 #[.val (.int (own_ush32 (own_ush32 p1 (16 : Int32)) (2 : Int32))), .val (.int (((31 : Int32) + (-16 : Int32)) + (-2 : Int32)))] [(.int (((31 : Int32) + (-16 : Int32)) + (-2 : Int32)))])) _
              refine XS.iloadN X0.here hx rfl (hb hby d7_74) rfl ?_
              show Steps p.tables e below (s₁.setTop (mkF m 75 #[.val (.int (own_ush32 (own_ush32 p1 (16 : Int32)) (2 : Int32))), .val (.int (((31 : Int32) + (-16 : Int32)) + (-2 : Int32)))] [(.int (own_ush32 (own_ush32 p1 (16 : Int32)) (2 : Int32))), (.int (((31 : Int32) + (-16 : Int32)) + (-2 : Int32)))])) _
              refine XS.iconst X0.here hx rfl (hb hby d7_75) ?_
              show Steps p.tables e below (s₁.setTop (mkF m 76 #[.val (.int (own_ush32 (own_ush32 p1 (16 : Int32)) (2 : Int32))), .val (.int (((31 : Int32) + (-16 : Int32)) + (-2 : Int32)))] [(.int (1 : Int32)), (.int (own_ush32 (own_ush32 p1 (16 : Int32)) (2 : Int32))), (.int (((31 : Int32) + (-16 : Int32)) + (-2 : Int32)))])) _
              refine XS.iushr X0.here hx rfl (hb hby d7_76) rfl ?_
              show Steps p.tables e below (s₁.setTop (mkF m 77 #[.val (.int (own_ush32 (own_ush32 p1 (16 : Int32)) (2 : Int32))), .val (.int (((31 : Int32) + (-16 : Int32)) + (-2 : Int32)))] [(.int (((own_ush32 (own_ush32 p1 (16 : Int32)) (2 : Int32)).toUInt32 >>> ((1 : Int32) &&& 31).toUInt32).toInt32)), (.int (((31 : Int32) + (-16 : Int32)) + (-2 : Int32)))])) _
              refine XS.isub X0.here hx rfl (hb hby d7_77) rfl ?_
              exact kt
            clear R45
            obtain ⟨fs, hr, hrun, hended, hW, hsame⟩ := X0.leave (v := some (.int ((((31 : Int32) + (-16 : Int32)) + (-2 : Int32)) - (((own_ush32 (own_ush32 p1 (16 : Int32)) (2 : Int32)).toUInt32 >>> ((1 : Int32) &&& 31).toUInt32).toInt32)))) (fun h => by rw [Bd.returns] at h; cases h)
            refine ⟨_, _, pre0 _ (R46 _ ?_), hrun, hended, _, _, rfl, ?_, ⟨_, rfl⟩, hW, hsame.mono (by decide) (by decide)⟩
            · exact retI X0 hx Bd.returns (hb hby d7_78) hr
            · show Q_rm_inlz Z p1 h0 n0 _ s₁.heap _
              rw [e0]
              exact ⟨by rw [own_inlz, if_pos hc1, own_n1, if_neg hc22, own_n2, if_pos hc37, own_n3, if_pos hc51, own_n4, if_neg hc63]; rfl, N0, rfl⟩
        · have R47 : ∀ t, Steps p.tables e below (s₁.setTop (mkF m 61 #[.val (.int (((own_ush32 p1 (16 : Int32)).toUInt32 >>> ((4 : Int32) &&& 31).toUInt32).toInt32)), .val (.int (((31 : Int32) + (-16 : Int32)) + (-4 : Int32)))] [])) t → Steps p.tables e below (s₁.setTop (mkF m 0 #[.val (.int p1), .unset] [])) t := by
            intro t kt
            refine R41 _ ?_
            show Steps p.tables e below (s₁.setTop (mkF m 51 #[.val (.int (own_ush32 p1 (16 : Int32))), .val (.int ((31 : Int32) + (-16 : Int32)))] [(.int (16 : Int32)), (.int (own_ush32 p1 (16 : Int32)))])) _
            refine XS.icmpNo X0.here hx rfl (hb hby d7_51) rfl (flt (hc51 : ¬ ((own_ush32 p1 (16 : Int32)) < (16 : Int32)))).1 ?_
            show Steps p.tables e below (s₁.setTop (mkF m 54 #[.val (.int (own_ush32 p1 (16 : Int32))), .val (.int ((31 : Int32) + (-16 : Int32)))] [])) _
            refine XS.iinc X0.here hx rfl (hb hby d7_54) rfl (l' := #[.val (.int (own_ush32 p1 (16 : Int32))), .val (.int (((31 : Int32) + (-16 : Int32)) + (-4 : Int32)))]) rfl ?_
            show Steps p.tables e below (s₁.setTop (mkF m 57 #[.val (.int (own_ush32 p1 (16 : Int32))), .val (.int (((31 : Int32) + (-16 : Int32)) + (-4 : Int32)))] [])) _
            refine XS.iloadN X0.here hx rfl (hb hby d7_57) rfl ?_
            show Steps p.tables e below (s₁.setTop (mkF m 58 #[.val (.int (own_ush32 p1 (16 : Int32))), .val (.int (((31 : Int32) + (-16 : Int32)) + (-4 : Int32)))] [(.int (own_ush32 p1 (16 : Int32)))])) _
            refine XS.iconst X0.here hx rfl (hb hby d7_58) ?_
            show Steps p.tables e below (s₁.setTop (mkF m 59 #[.val (.int (own_ush32 p1 (16 : Int32))), .val (.int (((31 : Int32) + (-16 : Int32)) + (-4 : Int32)))] [(.int (4 : Int32)), (.int (own_ush32 p1 (16 : Int32)))])) _
            refine XS.iushr X0.here hx rfl (hb hby d7_59) rfl ?_
            show Steps p.tables e below (s₁.setTop (mkF m 60 #[.val (.int (own_ush32 p1 (16 : Int32))), .val (.int (((31 : Int32) + (-16 : Int32)) + (-4 : Int32)))] [(.int (((own_ush32 p1 (16 : Int32)).toUInt32 >>> ((4 : Int32) &&& 31).toUInt32).toInt32))])) _
            refine XS.istoreN X0.here hx rfl (hb hby d7_60) rfl (l' := #[.val (.int (((own_ush32 p1 (16 : Int32)).toUInt32 >>> ((4 : Int32) &&& 31).toUInt32).toInt32)), .val (.int (((31 : Int32) + (-16 : Int32)) + (-4 : Int32)))]) rfl ?_
            exact kt
          clear R41
          have R48 : ∀ t, Steps p.tables e below (s₁.setTop (mkF m 61 #[.val (.int (own_ush32 (own_ush32 p1 (16 : Int32)) (4 : Int32))), .val (.int (((31 : Int32) + (-16 : Int32)) + (-4 : Int32)))] [])) t → Steps p.tables e below (s₁.setTop (mkF m 0 #[.val (.int p1), .unset] [])) t := R47
          have R49 : ∀ t, Steps p.tables e below (s₁.setTop (mkF m 63 #[.val (.int (own_ush32 (own_ush32 p1 (16 : Int32)) (4 : Int32))), .val (.int (((31 : Int32) + (-16 : Int32)) + (-4 : Int32)))] [(.int (4 : Int32)), (.int (own_ush32 (own_ush32 p1 (16 : Int32)) (4 : Int32)))])) t → Steps p.tables e below (s₁.setTop (mkF m 0 #[.val (.int p1), .unset] [])) t := by
            intro t kt
            refine R48 _ ?_
            show Steps p.tables e below (s₁.setTop (mkF m 61 #[.val (.int (own_ush32 (own_ush32 p1 (16 : Int32)) (4 : Int32))), .val (.int (((31 : Int32) + (-16 : Int32)) + (-4 : Int32)))] [])) _
            refine XS.iloadN X0.here hx rfl (hb hby d7_61) rfl ?_
            show Steps p.tables e below (s₁.setTop (mkF m 62 #[.val (.int (own_ush32 (own_ush32 p1 (16 : Int32)) (4 : Int32))), .val (.int (((31 : Int32) + (-16 : Int32)) + (-4 : Int32)))] [(.int (own_ush32 (own_ush32 p1 (16 : Int32)) (4 : Int32)))])) _
            refine XS.iconst X0.here hx rfl (hb hby d7_62) ?_
            exact kt
          clear R48
          by_cases hc63 : (own_ush32 (own_ush32 p1 (16 : Int32)) (4 : Int32)) < (4 : Int32)
          · have R50 : ∀ t, Steps p.tables e below (s₁.setTop (mkF m 78 #[.val (.int (own_ush32 (own_ush32 p1 (16 : Int32)) (4 : Int32))), .val (.int (((31 : Int32) + (-16 : Int32)) + (-4 : Int32)))] [(.int ((((31 : Int32) + (-16 : Int32)) + (-4 : Int32)) - (((own_ush32 (own_ush32 p1 (16 : Int32)) (4 : Int32)).toUInt32 >>> ((1 : Int32) &&& 31).toUInt32).toInt32)))])) t → Steps p.tables e below (s₁.setTop (mkF m 0 #[.val (.int p1), .unset] [])) t := by
              intro t kt
              refine R49 _ ?_
              show Steps p.tables e below (s₁.setTop (mkF m 63 #[.val (.int (own_ush32 (own_ush32 p1 (16 : Int32)) (4 : Int32))), .val (.int (((31 : Int32) + (-16 : Int32)) + (-4 : Int32)))] [(.int (4 : Int32)), (.int (own_ush32 (own_ush32 p1 (16 : Int32)) (4 : Int32)))])) _
              refine XS.icmpYes X0.here hx rfl (pc0 := 63) (pc' := 73) rfl (hb hby d7_63) rfl (tlt (hc63 : (own_ush32 (own_ush32 p1 (16 : Int32)) (4 : Int32)) < (4 : Int32))).1 (by decide) (by decide) ?_
              show Steps p.tables e below (s₁.setTop (mkF m 73 #[.val (.int (own_ush32 (own_ush32 p1 (16 : Int32)) (4 : Int32))), .val (.int (((31 : Int32) + (-16 : Int32)) + (-4 : Int32)))] [])) _
              refine XS.iloadN X0.here hx rfl (hb hby d7_73) rfl ?_
              show Steps p.tables e below (s₁.setTop (mkF m 74 #[.val (.int (own_ush32 (own_ush32 p1 (16 : Int32)) (4 : Int32))), .val (.int (((31 : Int32) + (-16 : Int32)) + (-4 : Int32)))] [(.int (((31 : Int32) + (-16 : Int32)) + (-4 : Int32)))])) _
              refine XS.iloadN X0.here hx rfl (hb hby d7_74) rfl ?_
              show Steps p.tables e below (s₁.setTop (mkF m 75 #[.val (.int (own_ush32 (own_ush32 p1 (16 : Int32)) (4 : Int32))), .val (.int (((31 : Int32) + (-16 : Int32)) + (-4 : Int32)))] [(.int (own_ush32 (own_ush32 p1 (16 : Int32)) (4 : Int32))), (.int (((31 : Int32) + (-16 : Int32)) + (-4 : Int32)))])) _
              refine XS.iconst X0.here hx rfl (hb hby d7_75) ?_
              show Steps p.tables e below (s₁.setTop (mkF m 76 #[.val (.int (own_ush32 (own_ush32 p1 (16 : Int32)) (4 : Int32))), .val (.int (((31 : Int32) + (-16 : Int32)) + (-4 : Int32)))] [(.int (1 : Int32)), (.int (own_ush32 (own_ush32 p1 (16 : Int32)) (4 : Int32))), (.int (((31 : Int32) + (-16 : Int32)) + (-4 : Int32)))])) _
              refine XS.iushr X0.here hx rfl (hb hby d7_76) rfl ?_
              show Steps p.tables e below (s₁.setTop (mkF m 77 #[.val (.int (own_ush32 (own_ush32 p1 (16 : Int32)) (4 : Int32))), .val (.int (((31 : Int32) + (-16 : Int32)) + (-4 : Int32)))] [(.int (((own_ush32 (own_ush32 p1 (16 : Int32)) (4 : Int32)).toUInt32 >>> ((1 : Int32) &&& 31).toUInt32).toInt32)), (.int (((31 : Int32) + (-16 : Int32)) + (-4 : Int32)))])) _
              refine XS.isub X0.here hx rfl (hb hby d7_77) rfl ?_
              exact kt
            clear R49
            obtain ⟨fs, hr, hrun, hended, hW, hsame⟩ := X0.leave (v := some (.int ((((31 : Int32) + (-16 : Int32)) + (-4 : Int32)) - (((own_ush32 (own_ush32 p1 (16 : Int32)) (4 : Int32)).toUInt32 >>> ((1 : Int32) &&& 31).toUInt32).toInt32)))) (fun h => by rw [Bd.returns] at h; cases h)
            refine ⟨_, _, pre0 _ (R50 _ ?_), hrun, hended, _, _, rfl, ?_, ⟨_, rfl⟩, hW, hsame.mono (by decide) (by decide)⟩
            · exact retI X0 hx Bd.returns (hb hby d7_78) hr
            · show Q_rm_inlz Z p1 h0 n0 _ s₁.heap _
              rw [e0]
              exact ⟨by rw [own_inlz, if_pos hc1, own_n1, if_neg hc22, own_n2, if_pos hc37, own_n3, if_neg hc51, own_n4, if_pos hc63]; rfl, N0, rfl⟩
          · have R51 : ∀ t, Steps p.tables e below (s₁.setTop (mkF m 73 #[.val (.int (((own_ush32 (own_ush32 p1 (16 : Int32)) (4 : Int32)).toUInt32 >>> ((2 : Int32) &&& 31).toUInt32).toInt32)), .val (.int ((((31 : Int32) + (-16 : Int32)) + (-4 : Int32)) + (-2 : Int32)))] [])) t → Steps p.tables e below (s₁.setTop (mkF m 0 #[.val (.int p1), .unset] [])) t := by
              intro t kt
              refine R49 _ ?_
              show Steps p.tables e below (s₁.setTop (mkF m 63 #[.val (.int (own_ush32 (own_ush32 p1 (16 : Int32)) (4 : Int32))), .val (.int (((31 : Int32) + (-16 : Int32)) + (-4 : Int32)))] [(.int (4 : Int32)), (.int (own_ush32 (own_ush32 p1 (16 : Int32)) (4 : Int32)))])) _
              refine XS.icmpNo X0.here hx rfl (hb hby d7_63) rfl (flt (hc63 : ¬ ((own_ush32 (own_ush32 p1 (16 : Int32)) (4 : Int32)) < (4 : Int32)))).1 ?_
              show Steps p.tables e below (s₁.setTop (mkF m 66 #[.val (.int (own_ush32 (own_ush32 p1 (16 : Int32)) (4 : Int32))), .val (.int (((31 : Int32) + (-16 : Int32)) + (-4 : Int32)))] [])) _
              refine XS.iinc X0.here hx rfl (hb hby d7_66) rfl (l' := #[.val (.int (own_ush32 (own_ush32 p1 (16 : Int32)) (4 : Int32))), .val (.int ((((31 : Int32) + (-16 : Int32)) + (-4 : Int32)) + (-2 : Int32)))]) rfl ?_
              show Steps p.tables e below (s₁.setTop (mkF m 69 #[.val (.int (own_ush32 (own_ush32 p1 (16 : Int32)) (4 : Int32))), .val (.int ((((31 : Int32) + (-16 : Int32)) + (-4 : Int32)) + (-2 : Int32)))] [])) _
              refine XS.iloadN X0.here hx rfl (hb hby d7_69) rfl ?_
              show Steps p.tables e below (s₁.setTop (mkF m 70 #[.val (.int (own_ush32 (own_ush32 p1 (16 : Int32)) (4 : Int32))), .val (.int ((((31 : Int32) + (-16 : Int32)) + (-4 : Int32)) + (-2 : Int32)))] [(.int (own_ush32 (own_ush32 p1 (16 : Int32)) (4 : Int32)))])) _
              refine XS.iconst X0.here hx rfl (hb hby d7_70) ?_
              show Steps p.tables e below (s₁.setTop (mkF m 71 #[.val (.int (own_ush32 (own_ush32 p1 (16 : Int32)) (4 : Int32))), .val (.int ((((31 : Int32) + (-16 : Int32)) + (-4 : Int32)) + (-2 : Int32)))] [(.int (2 : Int32)), (.int (own_ush32 (own_ush32 p1 (16 : Int32)) (4 : Int32)))])) _
              refine XS.iushr X0.here hx rfl (hb hby d7_71) rfl ?_
              show Steps p.tables e below (s₁.setTop (mkF m 72 #[.val (.int (own_ush32 (own_ush32 p1 (16 : Int32)) (4 : Int32))), .val (.int ((((31 : Int32) + (-16 : Int32)) + (-4 : Int32)) + (-2 : Int32)))] [(.int (((own_ush32 (own_ush32 p1 (16 : Int32)) (4 : Int32)).toUInt32 >>> ((2 : Int32) &&& 31).toUInt32).toInt32))])) _
              refine XS.istoreN X0.here hx rfl (hb hby d7_72) rfl (l' := #[.val (.int (((own_ush32 (own_ush32 p1 (16 : Int32)) (4 : Int32)).toUInt32 >>> ((2 : Int32) &&& 31).toUInt32).toInt32)), .val (.int ((((31 : Int32) + (-16 : Int32)) + (-4 : Int32)) + (-2 : Int32)))]) rfl ?_
              exact kt
            clear R49
            have R52 : ∀ t, Steps p.tables e below (s₁.setTop (mkF m 73 #[.val (.int (own_ush32 (own_ush32 (own_ush32 p1 (16 : Int32)) (4 : Int32)) (2 : Int32))), .val (.int ((((31 : Int32) + (-16 : Int32)) + (-4 : Int32)) + (-2 : Int32)))] [])) t → Steps p.tables e below (s₁.setTop (mkF m 0 #[.val (.int p1), .unset] [])) t := R51
            have R53 : ∀ t, Steps p.tables e below (s₁.setTop (mkF m 78 #[.val (.int (own_ush32 (own_ush32 (own_ush32 p1 (16 : Int32)) (4 : Int32)) (2 : Int32))), .val (.int ((((31 : Int32) + (-16 : Int32)) + (-4 : Int32)) + (-2 : Int32)))] [(.int (((((31 : Int32) + (-16 : Int32)) + (-4 : Int32)) + (-2 : Int32)) - (((own_ush32 (own_ush32 (own_ush32 p1 (16 : Int32)) (4 : Int32)) (2 : Int32)).toUInt32 >>> ((1 : Int32) &&& 31).toUInt32).toInt32)))])) t → Steps p.tables e below (s₁.setTop (mkF m 0 #[.val (.int p1), .unset] [])) t := by
              intro t kt
              refine R52 _ ?_
              show Steps p.tables e below (s₁.setTop (mkF m 73 #[.val (.int (own_ush32 (own_ush32 (own_ush32 p1 (16 : Int32)) (4 : Int32)) (2 : Int32))), .val (.int ((((31 : Int32) + (-16 : Int32)) + (-4 : Int32)) + (-2 : Int32)))] [])) _
              refine XS.iloadN X0.here hx rfl (hb hby d7_73) rfl ?_
              show Steps p.tables e below (s₁.setTop (mkF m 74 #[.val (.int (own_ush32 (own_ush32 (own_ush32 p1 (16 : Int32)) (4 : Int32)) (2 : Int32))), .val (.int ((((31 : Int32) + (-16 : Int32)) + (-4 : Int32)) + (-2 : Int32)))] [(.int ((((31 : Int32) + (-16 : Int32)) + (-4 : Int32)) + (-2 : Int32)))])) _
              refine XS.iloadN X0.here hx rfl (hb hby d7_74) rfl ?_
              show Steps p.tables e below (s₁.setTop (mkF m 75 #[.val (.int (own_ush32 (own_ush32 (own_ush32 p1 (16 : Int32)) (4 : Int32)) (2 : Int32))), .val (.int ((((31 : Int32) + (-16 : Int32)) + (-4 : Int32)) + (-2 : Int32)))] [(.int (own_ush32 (own_ush32 (own_ush32 p1 (16 : Int32)) (4 : Int32)) (2 : Int32))), (.int ((((31 : Int32) + (-16 : Int32)) + (-4 : Int32)) + (-2 : Int32)))])) _
              refine XS.iconst X0.here hx rfl (hb hby d7_75) ?_
              show Steps p.tables e below (s₁.setTop (mkF m 76 #[.val (.int (own_ush32 (own_ush32 (own_ush32 p1 (16 : Int32)) (4 : Int32)) (2 : Int32))), .val (.int ((((31 : Int32) + (-16 : Int32)) + (-4 : Int32)) + (-2 : Int32)))] [(.int (1 : Int32)), (.int (own_ush32 (own_ush32 (own_ush32 p1 (16 : Int32)) (4 : Int32)) (2 : Int32))), (.int ((((31 : Int32) + (-16 : Int32)) + (-4 : Int32)) + (-2 : Int32)))])) _
              refine XS.iushr X0.here hx rfl (hb hby d7_76) rfl ?_
              show Steps p.tables e below (s₁.setTop (mkF m 77 #[.val (.int (own_ush32 (own_ush32 (own_ush32 p1 (16 : Int32)) (4 : Int32)) (2 : Int32))), .val (.int ((((31 : Int32) + (-16 : Int32)) + (-4 : Int32)) + (-2 : Int32)))] [(.int (((own_ush32 (own_ush32 (own_ush32 p1 (16 : Int32)) (4 : Int32)) (2 : Int32)).toUInt32 >>> ((1 : Int32) &&& 31).toUInt32).toInt32)), (.int ((((31 : Int32) + (-16 : Int32)) + (-4 : Int32)) + (-2 : Int32)))])) _
              refine XS.isub X0.here hx rfl (hb hby d7_77) rfl ?_
              exact kt
            clear R52
            obtain ⟨fs, hr, hrun, hended, hW, hsame⟩ := X0.leave (v := some (.int (((((31 : Int32) + (-16 : Int32)) + (-4 : Int32)) + (-2 : Int32)) - (((own_ush32 (own_ush32 (own_ush32 p1 (16 : Int32)) (4 : Int32)) (2 : Int32)).toUInt32 >>> ((1 : Int32) &&& 31).toUInt32).toInt32)))) (fun h => by rw [Bd.returns] at h; cases h)
            refine ⟨_, _, pre0 _ (R53 _ ?_), hrun, hended, _, _, rfl, ?_, ⟨_, rfl⟩, hW, hsame.mono (by decide) (by decide)⟩
            · exact retI X0 hx Bd.returns (hb hby d7_78) hr
            · show Q_rm_inlz Z p1 h0 n0 _ s₁.heap _
              rw [e0]
              exact ⟨by rw [own_inlz, if_pos hc1, own_n1, if_neg hc22, own_n2, if_pos hc37, own_n3, if_neg hc51, own_n4, if_neg hc63]; rfl, N0, rfl⟩
      · have R54 : ∀ t, Steps p.tables e below (s₁.setTop (mkF m 48 #[.val (.int (((own_ush32 p1 (16 : Int32)).toUInt32 >>> ((8 : Int32) &&& 31).toUInt32).toInt32)), .val (.int (((31 : Int32) + (-16 : Int32)) + (-8 : Int32)))] [])) t → Steps p.tables e below (s₁.setTop (mkF m 0 #[.val (.int p1), .unset] [])) t := by
          intro t kt
          refine R40 _ ?_
          show Steps p.tables e below (s₁.setTop (mkF m 37 #[.val (.int (own_ush32 p1 (16 : Int32))), .val (.int ((31 : Int32) + (-16 : Int32)))] [(.int (256 : Int32)), (.int (own_ush32 p1 (16 : Int32)))])) _
          refine XS.icmpNo X0.here hx rfl (hb hby d7_37) rfl (flt (hc37 : ¬ ((own_ush32 p1 (16 : Int32)) < (256 : Int32)))).1 ?_
          show Steps p.tables e below (s₁.setTop (mkF m 40 #[.val (.int (own_ush32 p1 (16 : Int32))), .val (.int ((31 : Int32) + (-16 : Int32)))] [])) _
          refine XS.iinc X0.here hx rfl (hb hby d7_40) rfl (l' := #[.val (.int (own_ush32 p1 (16 : Int32))), .val (.int (((31 : Int32) + (-16 : Int32)) + (-8 : Int32)))]) rfl ?_
          show Steps p.tables e below (s₁.setTop (mkF m 43 #[.val (.int (own_ush32 p1 (16 : Int32))), .val (.int (((31 : Int32) + (-16 : Int32)) + (-8 : Int32)))] [])) _
          refine XS.iloadN X0.here hx rfl (hb hby d7_43) rfl ?_
          show Steps p.tables e below (s₁.setTop (mkF m 44 #[.val (.int (own_ush32 p1 (16 : Int32))), .val (.int (((31 : Int32) + (-16 : Int32)) + (-8 : Int32)))] [(.int (own_ush32 p1 (16 : Int32)))])) _
          refine XS.bipush X0.here hx rfl (hb hby d7_44) ?_
          show Steps p.tables e below (s₁.setTop (mkF m 46 #[.val (.int (own_ush32 p1 (16 : Int32))), .val (.int (((31 : Int32) + (-16 : Int32)) + (-8 : Int32)))] [(.int (8 : Int32)), (.int (own_ush32 p1 (16 : Int32)))])) _
          refine XS.iushr X0.here hx rfl (hb hby d7_46) rfl ?_
          show Steps p.tables e below (s₁.setTop (mkF m 47 #[.val (.int (own_ush32 p1 (16 : Int32))), .val (.int (((31 : Int32) + (-16 : Int32)) + (-8 : Int32)))] [(.int (((own_ush32 p1 (16 : Int32)).toUInt32 >>> ((8 : Int32) &&& 31).toUInt32).toInt32))])) _
          refine XS.istoreN X0.here hx rfl (hb hby d7_47) rfl (l' := #[.val (.int (((own_ush32 p1 (16 : Int32)).toUInt32 >>> ((8 : Int32) &&& 31).toUInt32).toInt32)), .val (.int (((31 : Int32) + (-16 : Int32)) + (-8 : Int32)))]) rfl ?_
          exact kt
        clear R40
        have R55 : ∀ t, Steps p.tables e below (s₁.setTop (mkF m 48 #[.val (.int (own_ush32 (own_ush32 p1 (16 : Int32)) (8 : Int32))), .val (.int (((31 : Int32) + (-16 : Int32)) + (-8 : Int32)))] [])) t → Steps p.tables e below (s₁.setTop (mkF m 0 #[.val (.int p1), .unset] [])) t := R54
        have R56 : ∀ t, Steps p.tables e below (s₁.setTop (mkF m 51 #[.val (.int (own_ush32 (own_ush32 p1 (16 : Int32)) (8 : Int32))), .val (.int (((31 : Int32) + (-16 : Int32)) + (-8 : Int32)))] [(.int (16 : Int32)), (.int (own_ush32 (own_ush32 p1 (16 : Int32)) (8 : Int32)))])) t → Steps p.tables e below (s₁.setTop (mkF m 0 #[.val (.int p1), .unset] [])) t := by
          intro t kt
          refine R55 _ ?_
          show Steps p.tables e below (s₁.setTop (mkF m 48 #[.val (.int (own_ush32 (own_ush32 p1 (16 : Int32)) (8 : Int32))), .val (.int (((31 : Int32) + (-16 : Int32)) + (-8 : Int32)))] [])) _
          refine XS.iloadN X0.here hx rfl (hb hby d7_48) rfl ?_
          show Steps p.tables e below (s₁.setTop (mkF m 49 #[.val (.int (own_ush32 (own_ush32 p1 (16 : Int32)) (8 : Int32))), .val (.int (((31 : Int32) + (-16 : Int32)) + (-8 : Int32)))] [(.int (own_ush32 (own_ush32 p1 (16 : Int32)) (8 : Int32)))])) _
          refine XS.bipush X0.here hx rfl (hb hby d7_49) ?_
          exact kt
        clear R55
        by_cases hc51 : (own_ush32 (own_ush32 p1 (16 : Int32)) (8 : Int32)) < (16 : Int32)
        · have R57 : ∀ t, Steps p.tables e below (s₁.setTop (mkF m 63 #[.val (.int (own_ush32 (own_ush32 p1 (16 : Int32)) (8 : Int32))), .val (.int (((31 : Int32) + (-16 : Int32)) + (-8 : Int32)))] [(.int (4 : Int32)), (.int (own_ush32 (own_ush32 p1 (16 : Int32)) (8 : Int32)))])) t → Steps p.tables e below (s₁.setTop (mkF m 0 #[.val (.int p1), .unset] [])) t := by
            intro t kt
            refine R56 _ ?_
            show Steps p.tables e below (s₁.setTop (mkF m 51 #[.val (.int (own_ush32 (own_ush32 p1 (16 : Int32)) (8 : Int32))), .val (.int (((31 : Int32) + (-16 : Int32)) + (-8 : Int32)))] [(.int (16 : Int32)), (.int (own_ush32 (own_ush32 p1 (16 : Int32)) (8 : Int32)))])) _
            refine XS.icmpYes X0.here hx rfl (pc0 := 51) (pc' := 61) rfl (hb hby d7_51) rfl (tlt (hc51 : (own_ush32 (own_ush32 p1 (16 : Int32)) (8 : Int32)) < (16 : Int32))).1 (by decide) (by decide) ?_
            show Steps p.tables e below (s₁.setTop (mkF m 61 #[.val (.int (own_ush32 (own_ush32 p1 (16 : Int32)) (8 : Int32))), .val (.int (((31 : Int32) + (-16 : Int32)) + (-8 : Int32)))] [])) _
            refine XS.iloadN X0.here hx rfl (hb hby d7_61) rfl ?_
            show Steps p.tables e below (s₁.setTop (mkF m 62 #[.val (.int (own_ush32 (own_ush32 p1 (16 : Int32)) (8 : Int32))), .val (.int (((31 : Int32) + (-16 : Int32)) + (-8 : Int32)))] [(.int (own_ush32 (own_ush32 p1 (16 : Int32)) (8 : Int32)))])) _
            refine XS.iconst X0.here hx rfl (hb hby d7_62) ?_
            exact kt
          clear R56
          by_cases hc63 : (own_ush32 (own_ush32 p1 (16 : Int32)) (8 : Int32)) < (4 : Int32)
          · have R58 : ∀ t, Steps p.tables e below (s₁.setTop (mkF m 78 #[.val (.int (own_ush32 (own_ush32 p1 (16 : Int32)) (8 : Int32))), .val (.int (((31 : Int32) + (-16 : Int32)) + (-8 : Int32)))] [(.int ((((31 : Int32) + (-16 : Int32)) + (-8 : Int32)) - (((own_ush32 (own_ush32 p1 (16 : Int32)) (8 : Int32)).toUInt32 >>> ((1 : Int32) &&& 31).toUInt32).toInt32)))])) t → Steps p.tables e below (s₁.setTop (mkF m 0 #[.val (.int p1), .unset] [])) t := by
              intro t kt
              refine R57 _ ?_
              show Steps p.tables e below (s₁.setTop (mkF m 63 #[.val (.int (own_ush32 (own_ush32 p1 (16 : Int32)) (8 : Int32))), .val (.int (((31 : Int32) + (-16 : Int32)) + (-8 : Int32)))] [(.int (4 : Int32)), (.int (own_ush32 (own_ush32 p1 (16 : Int32)) (8 : Int32)))])) _
              refine XS.icmpYes X0.here hx rfl (pc0 := 63) (pc' := 73) rfl (hb hby d7_63) rfl (tlt (hc63 : (own_ush32 (own_ush32 p1 (16 : Int32)) (8 : Int32)) < (4 : Int32))).1 (by decide) (by decide) ?_
              show Steps p.tables e below (s₁.setTop (mkF m 73 #[.val (.int (own_ush32 (own_ush32 p1 (16 : Int32)) (8 : Int32))), .val (.int (((31 : Int32) + (-16 : Int32)) + (-8 : Int32)))] [])) _
              refine XS.iloadN X0.here hx rfl (hb hby d7_73) rfl ?_
              show Steps p.tables e below (s₁.setTop (mkF m 74 #[.val (.int (own_ush32 (own_ush32 p1 (16 : Int32)) (8 : Int32))), .val (.int (((31 : Int32) + (-16 : Int32)) + (-8 : Int32)))] [(.int (((31 : Int32) + (-16 : Int32)) + (-8 : Int32)))])) _
              refine XS.iloadN X0.here hx rfl (hb hby d7_74) rfl ?_
              show Steps p.tables e below (s₁.setTop (mkF m 75 #[.val (.int (own_ush32 (own_ush32 p1 (16 : Int32)) (8 : Int32))), .val (.int (((31 : Int32) + (-16 : Int32)) + (-8 : Int32)))] [(.int (own_ush32 (own_ush32 p1 (16 : Int32)) (8 : Int32))), (.int (((31 : Int32) + (-16 : Int32)) + (-8 : Int32)))])) _
              refine XS.iconst X0.here hx rfl (hb hby d7_75) ?_
              show Steps p.tables e below (s₁.setTop (mkF m 76 #[.val (.int (own_ush32 (own_ush32 p1 (16 : Int32)) (8 : Int32))), .val (.int (((31 : Int32) + (-16 : Int32)) + (-8 : Int32)))] [(.int (1 : Int32)), (.int (own_ush32 (own_ush32 p1 (16 : Int32)) (8 : Int32))), (.int (((31 : Int32) + (-16 : Int32)) + (-8 : Int32)))])) _
              refine XS.iushr X0.here hx rfl (hb hby d7_76) rfl ?_
              show Steps p.tables e below (s₁.setTop (mkF m 77 #[.val (.int (own_ush32 (own_ush32 p1 (16 : Int32)) (8 : Int32))), .val (.int (((31 : Int32) + (-16 : Int32)) + (-8 : Int32)))] [(.int (((own_ush32 (own_ush32 p1 (16 : Int32)) (8 : Int32)).toUInt32 >>> ((1 : Int32) &&& 31).toUInt32).toInt32)), (.int (((31 : Int32) + (-16 : Int32)) + (-8 : Int32)))])) _
              refine XS.isub X0.here hx rfl (hb hby d7_77) rfl ?_
              exact kt
            clear R57
            obtain ⟨fs, hr, hrun, hended, hW, hsame⟩ := X0.leave (v := some (.int ((((31 : Int32) + (-16 : Int32)) + (-8 : Int32)) - (((own_ush32 (own_ush32 p1 (16 : Int32)) (8 : Int32)).toUInt32 >>> ((1 : Int32) &&& 31).toUInt32).toInt32)))) (fun h => by rw [Bd.returns] at h; cases h)
            refine ⟨_, _, pre0 _ (R58 _ ?_), hrun, hended, _, _, rfl, ?_, ⟨_, rfl⟩, hW, hsame.mono (by decide) (by decide)⟩
            · exact retI X0 hx Bd.returns (hb hby d7_78) hr
            · show Q_rm_inlz Z p1 h0 n0 _ s₁.heap _
              rw [e0]
              exact ⟨by rw [own_inlz, if_pos hc1, own_n1, if_neg hc22, own_n2, if_neg hc37, own_n3, if_pos hc51, own_n4, if_pos hc63]; rfl, N0, rfl⟩
          · have R59 : ∀ t, Steps p.tables e below (s₁.setTop (mkF m 73 #[.val (.int (((own_ush32 (own_ush32 p1 (16 : Int32)) (8 : Int32)).toUInt32 >>> ((2 : Int32) &&& 31).toUInt32).toInt32)), .val (.int ((((31 : Int32) + (-16 : Int32)) + (-8 : Int32)) + (-2 : Int32)))] [])) t → Steps p.tables e below (s₁.setTop (mkF m 0 #[.val (.int p1), .unset] [])) t := by
              intro t kt
              refine R57 _ ?_
              show Steps p.tables e below (s₁.setTop (mkF m 63 #[.val (.int (own_ush32 (own_ush32 p1 (16 : Int32)) (8 : Int32))), .val (.int (((31 : Int32) + (-16 : Int32)) + (-8 : Int32)))] [(.int (4 : Int32)), (.int (own_ush32 (own_ush32 p1 (16 : Int32)) (8 : Int32)))])) _
              refine XS.icmpNo X0.here hx rfl (hb hby d7_63) rfl (flt (hc63 : ¬ ((own_ush32 (own_ush32 p1 (16 : Int32)) (8 : Int32)) < (4 : Int32)))).1 ?_
              show Steps p.tables e below (s₁.setTop (mkF m 66 #[.val (.int (own_ush32 (own_ush32 p1 (16 : Int32)) (8 : Int32))), .val (.int (((31 : Int32) + (-16 : Int32)) + (-8 : Int32)))] [])) _
              refine XS.iinc X0.here hx rfl (hb hby d7_66) rfl (l' := #[.val (.int (own_ush32 (own_ush32 p1 (16 : Int32)) (8 : Int32))), .val (.int ((((31 : Int32) + (-16 : Int32)) + (-8 : Int32)) + (-2 : Int32)))]) rfl ?_
              show Steps p.tables e below (s₁.setTop (mkF m 69 #[.val (.int (own_ush32 (own_ush32 p1 (16 : Int32)) (8 : Int32))), .val (.int ((((31 : Int32) + (-16 : Int32)) + (-8 : Int32)) + (-2 : Int32)))] [])) _
              refine XS.iloadN X0.here hx rfl (hb hby d7_69) rfl ?_
              show Steps p.tables e below (s₁.setTop (mkF m 70 #[.val (.int (own_ush32 (own_ush32 p1 (16 : Int32)) (8 : Int32))), .val (.int ((((31 : Int32) + (-16 : Int32)) + (-8 : Int32)) + (-2 : Int32)))] [(.int (own_ush32 (own_ush32 p1 (16 : Int32)) (8 : Int32)))])) _
              refine XS.iconst X0.here hx rfl (hb hby d7_70) ?_
              show Steps p.tables e below (s₁.setTop (mkF m 71 #[.val (.int (own_ush32 (own_ush32 p1 (16 : Int32)) (8 : Int32))), .val (.int ((((31 : Int32) + (-16 : Int32)) + (-8 : Int32)) + (-2 : Int32)))] [(.int (2 : Int32)), (.int (own_ush32 (own_ush32 p1 (16 : Int32)) (8 : Int32)))])) _
              refine XS.iushr X0.here hx rfl (hb hby d7_71) rfl ?_
              show Steps p.tables e below (s₁.setTop (mkF m 72 #[.val (.int (own_ush32 (own_ush32 p1 (16 : Int32)) (8 : Int32))), .val (.int ((((31 : Int32) + (-16 : Int32)) + (-8 : Int32)) + (-2 : Int32)))] [(.int (((own_ush32 (own_ush32 p1 (16 : Int32)) (8 : Int32)).toUInt32 >>> ((2 : Int32) &&& 31).toUInt32).toInt32))])) _
              refine XS.istoreN X0.here hx rfl (hb hby d7_72) rfl (l' := #[.val (.int (((own_ush32 (own_ush32 p1 (16 : Int32)) (8 : Int32)).toUInt32 >>> ((2 : Int32) &&& 31).toUInt32).toInt32)), .val (.int ((((31 : Int32) + (-16 : Int32)) + (-8 : Int32)) + (-2 : Int32)))]) rfl ?_
              exact kt
            clear R57
            have R60 : ∀ t, Steps p.tables e below (s₁.setTop (mkF m 73 #[.val (.int (own_ush32 (own_ush32 (own_ush32 p1 (16 : Int32)) (8 : Int32)) (2 : Int32))), .val (.int ((((31 : Int32) + (-16 : Int32)) + (-8 : Int32)) + (-2 : Int32)))] [])) t → Steps p.tables e below (s₁.setTop (mkF m 0 #[.val (.int p1), .unset] [])) t := R59
            have R61 : ∀ t, Steps p.tables e below (s₁.setTop (mkF m 78 #[.val (.int (own_ush32 (own_ush32 (own_ush32 p1 (16 : Int32)) (8 : Int32)) (2 : Int32))), .val (.int ((((31 : Int32) + (-16 : Int32)) + (-8 : Int32)) + (-2 : Int32)))] [(.int (((((31 : Int32) + (-16 : Int32)) + (-8 : Int32)) + (-2 : Int32)) - (((own_ush32 (own_ush32 (own_ush32 p1 (16 : Int32)) (8 : Int32)) (2 : Int32)).toUInt32 >>> ((1 : Int32) &&& 31).toUInt32).toInt32)))])) t → Steps p.tables e below (s₁.setTop (mkF m 0 #[.val (.int p1), .unset] [])) t := by
              intro t kt
              refine R60 _ ?_
              show Steps p.tables e below (s₁.setTop (mkF m 73 #[.val (.int (own_ush32 (own_ush32 (own_ush32 p1 (16 : Int32)) (8 : Int32)) (2 : Int32))), .val (.int ((((31 : Int32) + (-16 : Int32)) + (-8 : Int32)) + (-2 : Int32)))] [])) _
              refine XS.iloadN X0.here hx rfl (hb hby d7_73) rfl ?_
              show Steps p.tables e below (s₁.setTop (mkF m 74 #[.val (.int (own_ush32 (own_ush32 (own_ush32 p1 (16 : Int32)) (8 : Int32)) (2 : Int32))), .val (.int ((((31 : Int32) + (-16 : Int32)) + (-8 : Int32)) + (-2 : Int32)))] [(.int ((((31 : Int32) + (-16 : Int32)) + (-8 : Int32)) + (-2 : Int32)))])) _
              refine XS.iloadN X0.here hx rfl (hb hby d7_74) rfl ?_
              show Steps p.tables e below (s₁.setTop (mkF m 75 #[.val (.int (own_ush32 (own_ush32 (own_ush32 p1 (16 : Int32)) (8 : Int32)) (2 : Int32))), .val (.int ((((31 : Int32) + (-16 : Int32)) + (-8 : Int32)) + (-2 : Int32)))] [(.int (own_ush32 (own_ush32 (own_ush32 p1 (16 : Int32)) (8 : Int32)) (2 : Int32))), (.int ((((31 : Int32) + (-16 : Int32)) + (-8 : Int32)) + (-2 : Int32)))])) _
              refine XS.iconst X0.here hx rfl (hb hby d7_75) ?_
              show Steps p.tables e below (s₁.setTop (mkF m 76 #[.val (.int (own_ush32 (own_ush32 (own_ush32 p1 (16 : Int32)) (8 : Int32)) (2 : Int32))), .val (.int ((((31 : Int32) + (-16 : Int32)) + (-8 : Int32)) + (-2 : Int32)))] [(.int (1 : Int32)), (.int (own_ush32 (own_ush32 (own_ush32 p1 (16 : Int32)) (8 : Int32)) (2 : Int32))), (.int ((((31 : Int32) + (-16 : Int32)) + (-8 : Int32)) + (-2 : Int32)))])) _
              refine XS.iushr X0.here hx rfl (hb hby d7_76) rfl ?_
              show Steps p.tables e below (s₁.setTop (mkF m 77 #[.val (.int (own_ush32 (own_ush32 (own_ush32 p1 (16 : Int32)) (8 : Int32)) (2 : Int32))), .val (.int ((((31 : Int32) + (-16 : Int32)) + (-8 : Int32)) + (-2 : Int32)))] [(.int (((own_ush32 (own_ush32 (own_ush32 p1 (16 : Int32)) (8 : Int32)) (2 : Int32)).toUInt32 >>> ((1 : Int32) &&& 31).toUInt32).toInt32)), (.int ((((31 : Int32) + (-16 : Int32)) + (-8 : Int32)) + (-2 : Int32)))])) _
              refine XS.isub X0.here hx rfl (hb hby d7_77) rfl ?_
              exact kt
            clear R60
            obtain ⟨fs, hr, hrun, hended, hW, hsame⟩ := X0.leave (v := some (.int (((((31 : Int32) + (-16 : Int32)) + (-8 : Int32)) + (-2 : Int32)) - (((own_ush32 (own_ush32 (own_ush32 p1 (16 : Int32)) (8 : Int32)) (2 : Int32)).toUInt32 >>> ((1 : Int32) &&& 31).toUInt32).toInt32)))) (fun h => by rw [Bd.returns] at h; cases h)
            refine ⟨_, _, pre0 _ (R61 _ ?_), hrun, hended, _, _, rfl, ?_, ⟨_, rfl⟩, hW, hsame.mono (by decide) (by decide)⟩
            · exact retI X0 hx Bd.returns (hb hby d7_78) hr
            · show Q_rm_inlz Z p1 h0 n0 _ s₁.heap _
              rw [e0]
              exact ⟨by rw [own_inlz, if_pos hc1, own_n1, if_neg hc22, own_n2, if_neg hc37, own_n3, if_pos hc51, own_n4, if_neg hc63]; rfl, N0, rfl⟩
        · have R62 : ∀ t, Steps p.tables e below (s₁.setTop (mkF m 61 #[.val (.int (((own_ush32 (own_ush32 p1 (16 : Int32)) (8 : Int32)).toUInt32 >>> ((4 : Int32) &&& 31).toUInt32).toInt32)), .val (.int ((((31 : Int32) + (-16 : Int32)) + (-8 : Int32)) + (-4 : Int32)))] [])) t → Steps p.tables e below (s₁.setTop (mkF m 0 #[.val (.int p1), .unset] [])) t := by
            intro t kt
            refine R56 _ ?_
            show Steps p.tables e below (s₁.setTop (mkF m 51 #[.val (.int (own_ush32 (own_ush32 p1 (16 : Int32)) (8 : Int32))), .val (.int (((31 : Int32) + (-16 : Int32)) + (-8 : Int32)))] [(.int (16 : Int32)), (.int (own_ush32 (own_ush32 p1 (16 : Int32)) (8 : Int32)))])) _
            refine XS.icmpNo X0.here hx rfl (hb hby d7_51) rfl (flt (hc51 : ¬ ((own_ush32 (own_ush32 p1 (16 : Int32)) (8 : Int32)) < (16 : Int32)))).1 ?_
            show Steps p.tables e below (s₁.setTop (mkF m 54 #[.val (.int (own_ush32 (own_ush32 p1 (16 : Int32)) (8 : Int32))), .val (.int (((31 : Int32) + (-16 : Int32)) + (-8 : Int32)))] [])) _
            refine XS.iinc X0.here hx rfl (hb hby d7_54) rfl (l' := #[.val (.int (own_ush32 (own_ush32 p1 (16 : Int32)) (8 : Int32))), .val (.int ((((31 : Int32) + (-16 : Int32)) + (-8 : Int32)) + (-4 : Int32)))]) rfl ?_
            show Steps p.tables e below (s₁.setTop (mkF m 57 #[.val (.int (own_ush32 (own_ush32 p1 (16 : Int32)) (8 : Int32))), .val (.int ((((31 : Int32) + (-16 : Int32)) + (-8 : Int32)) + (-4 : Int32)))] [])) _
            refine XS.iloadN X0.here hx rfl (hb hby d7_57) rfl ?_
            show Steps p.tables e below (s₁.setTop (mkF m 58 #[.val (.int (own_ush32 (own_ush32 p1 (16 : Int32)) (8 : Int32))), .val (.int ((((31 : Int32) + (-16 : Int32)) + (-8 : Int32)) + (-4 : Int32)))] [(.int (own_ush32 (own_ush32 p1 (16 : Int32)) (8 : Int32)))])) _
            refine XS.iconst X0.here hx rfl (hb hby d7_58) ?_
            show Steps p.tables e below (s₁.setTop (mkF m 59 #[.val (.int (own_ush32 (own_ush32 p1 (16 : Int32)) (8 : Int32))), .val (.int ((((31 : Int32) + (-16 : Int32)) + (-8 : Int32)) + (-4 : Int32)))] [(.int (4 : Int32)), (.int (own_ush32 (own_ush32 p1 (16 : Int32)) (8 : Int32)))])) _
            refine XS.iushr X0.here hx rfl (hb hby d7_59) rfl ?_
            show Steps p.tables e below (s₁.setTop (mkF m 60 #[.val (.int (own_ush32 (own_ush32 p1 (16 : Int32)) (8 : Int32))), .val (.int ((((31 : Int32) + (-16 : Int32)) + (-8 : Int32)) + (-4 : Int32)))] [(.int (((own_ush32 (own_ush32 p1 (16 : Int32)) (8 : Int32)).toUInt32 >>> ((4 : Int32) &&& 31).toUInt32).toInt32))])) _
            refine XS.istoreN X0.here hx rfl (hb hby d7_60) rfl (l' := #[.val (.int (((own_ush32 (own_ush32 p1 (16 : Int32)) (8 : Int32)).toUInt32 >>> ((4 : Int32) &&& 31).toUInt32).toInt32)), .val (.int ((((31 : Int32) + (-16 : Int32)) + (-8 : Int32)) + (-4 : Int32)))]) rfl ?_
            exact kt
          clear R56
          have R63 : ∀ t, Steps p.tables e below (s₁.setTop (mkF m 61 #[.val (.int (own_ush32 (own_ush32 (own_ush32 p1 (16 : Int32)) (8 : Int32)) (4 : Int32))), .val (.int ((((31 : Int32) + (-16 : Int32)) + (-8 : Int32)) + (-4 : Int32)))] [])) t → Steps p.tables e below (s₁.setTop (mkF m 0 #[.val (.int p1), .unset] [])) t := R62
          have R64 : ∀ t, Steps p.tables e below (s₁.setTop (mkF m 63 #[.val (.int (own_ush32 (own_ush32 (own_ush32 p1 (16 : Int32)) (8 : Int32)) (4 : Int32))), .val (.int ((((31 : Int32) + (-16 : Int32)) + (-8 : Int32)) + (-4 : Int32)))] [(.int (4 : Int32)), (.int (own_ush32 (own_ush32 (own_ush32 p1 (16 : Int32)) (8 : Int32)) (4 : Int32)))])) t → Steps p.tables e below (s₁.setTop (mkF m 0 #[.val (.int p1), .unset] [])) t := by
            intro t kt
            refine R63 _ ?_
            show Steps p.tables e below (s₁.setTop (mkF m 61 #[.val (.int (own_ush32 (own_ush32 (own_ush32 p1 (16 : Int32)) (8 : Int32)) (4 : Int32))), .val (.int ((((31 : Int32) + (-16 : Int32)) + (-8 : Int32)) + (-4 : Int32)))] [])) _
            refine XS.iloadN X0.here hx rfl (hb hby d7_61) rfl ?_
            show Steps p.tables e below (s₁.setTop (mkF m 62 #[.val (.int (own_ush32 (own_ush32 (own_ush32 p1 (16 : Int32)) (8 : Int32)) (4 : Int32))), .val (.int ((((31 : Int32) + (-16 : Int32)) + (-8 : Int32)) + (-4 : Int32)))] [(.int (own_ush32 (own_ush32 (own_ush32 p1 (16 : Int32)) (8 : Int32)) (4 : Int32)))])) _
            refine XS.iconst X0.here hx rfl (hb hby d7_62) ?_
            exact kt
          clear R63
          by_cases hc63 : (own_ush32 (own_ush32 (own_ush32 p1 (16 : Int32)) (8 : Int32)) (4 : Int32)) < (4 : Int32)
          · have R65 : ∀ t, Steps p.tables e below (s₁.setTop (mkF m 78 #[.val (.int (own_ush32 (own_ush32 (own_ush32 p1 (16 : Int32)) (8 : Int32)) (4 : Int32))), .val (.int ((((31 : Int32) + (-16 : Int32)) + (-8 : Int32)) + (-4 : Int32)))] [(.int (((((31 : Int32) + (-16 : Int32)) + (-8 : Int32)) + (-4 : Int32)) - (((own_ush32 (own_ush32 (own_ush32 p1 (16 : Int32)) (8 : Int32)) (4 : Int32)).toUInt32 >>> ((1 : Int32) &&& 31).toUInt32).toInt32)))])) t → Steps p.tables e below (s₁.setTop (mkF m 0 #[.val (.int p1), .unset] [])) t := by
              intro t kt
              refine R64 _ ?_
              show Steps p.tables e below (s₁.setTop (mkF m 63 #[.val (.int (own_ush32 (own_ush32 (own_ush32 p1 (16 : Int32)) (8 : Int32)) (4 : Int32))), .val (.int ((((31 : Int32) + (-16 : Int32)) + (-8 : Int32)) + (-4 : Int32)))] [(.int (4 : Int32)), (.int (own_ush32 (own_ush32 (own_ush32 p1 (16 : Int32)) (8 : Int32)) (4 : Int32)))])) _
              refine XS.icmpYes X0.here hx rfl (pc0 := 63) (pc' := 73) rfl (hb hby d7_63) rfl (tlt (hc63 : (own_ush32 (own_ush32 (own_ush32 p1 (16 : Int32)) (8 : Int32)) (4 : Int32)) < (4 : Int32))).1 (by decide) (by decide) ?_
              show Steps p.tables e below (s₁.setTop (mkF m 73 #[.val (.int (own_ush32 (own_ush32 (own_ush32 p1 (16 : Int32)) (8 : Int32)) (4 : Int32))), .val (.int ((((31 : Int32) + (-16 : Int32)) + (-8 : Int32)) + (-4 : Int32)))] [])) _
              refine XS.iloadN X0.here hx rfl (hb hby d7_73) rfl ?_
              show Steps p.tables e below (s₁.setTop (mkF m 74 #[.val (.int (own_ush32 (own_ush32 (own_ush32 p1 (16 : Int32)) (8 : Int32)) (4 : Int32))), .val (.int ((((31 : Int32) + (-16 : Int32)) + (-8 : Int32)) + (-4 : Int32)))] [(.int ((((31 : Int32) + (-16 : Int32)) + (-8 : Int32)) + (-4 : Int32)))])) _
              refine XS.iloadN X0.here hx rfl (hb hby d7_74) rfl ?_
              show Steps p.tables e below (s₁.setTop (mkF m 75 #[.val (.int (own_ush32 (own_ush32 (own_ush32 p1 (16 : Int32)) (8 : Int32)) (4 : Int32))), .val (.int ((((31 : Int32) + (-16 : Int32)) + (-8 : Int32)) + (-4 : Int32)))] [(.int (own_ush32 (own_ush32 (own_ush32 p1 (16 : Int32)) (8 : Int32)) (4 : Int32))), (.int ((((31 : Int32) + (-16 : Int32)) + (-8 : Int32)) + (-4 : Int32)))])) _
              refine XS.iconst X0.here hx rfl (hb hby d7_75) ?_
              show Steps p.tables e below (s₁.setTop (mkF m 76 #[.val (.int (own_ush32 (own_ush32 (own_ush32 p1 (16 : Int32)) (8 : Int32)) (4 : Int32))), .val (.int ((((31 : Int32) + (-16 : Int32)) + (-8 : Int32)) + (-4 : Int32)))] [(.int (1 : Int32)), (.int (own_ush32 (own_ush32 (own_ush32 p1 (16 : Int32)) (8 : Int32)) (4 : Int32))), (.int ((((31 : Int32) + (-16 : Int32)) + (-8 : Int32)) + (-4 : Int32)))])) _
              refine XS.iushr X0.here hx rfl (hb hby d7_76) rfl ?_
              show Steps p.tables e below (s₁.setTop (mkF m 77 #[.val (.int (own_ush32 (own_ush32 (own_ush32 p1 (16 : Int32)) (8 : Int32)) (4 : Int32))), .val (.int ((((31 : Int32) + (-16 : Int32)) + (-8 : Int32)) + (-4 : Int32)))] [(.int (((own_ush32 (own_ush32 (own_ush32 p1 (16 : Int32)) (8 : Int32)) (4 : Int32)).toUInt32 >>> ((1 : Int32) &&& 31).toUInt32).toInt32)), (.int ((((31 : Int32) + (-16 : Int32)) + (-8 : Int32)) + (-4 : Int32)))])) _
              refine XS.isub X0.here hx rfl (hb hby d7_77) rfl ?_
              exact kt
            clear R64
            obtain ⟨fs, hr, hrun, hended, hW, hsame⟩ := X0.leave (v := some (.int (((((31 : Int32) + (-16 : Int32)) + (-8 : Int32)) + (-4 : Int32)) - (((own_ush32 (own_ush32 (own_ush32 p1 (16 : Int32)) (8 : Int32)) (4 : Int32)).toUInt32 >>> ((1 : Int32) &&& 31).toUInt32).toInt32)))) (fun h => by rw [Bd.returns] at h; cases h)
            refine ⟨_, _, pre0 _ (R65 _ ?_), hrun, hended, _, _, rfl, ?_, ⟨_, rfl⟩, hW, hsame.mono (by decide) (by decide)⟩
            · exact retI X0 hx Bd.returns (hb hby d7_78) hr
            · show Q_rm_inlz Z p1 h0 n0 _ s₁.heap _
              rw [e0]
              exact ⟨by rw [own_inlz, if_pos hc1, own_n1, if_neg hc22, own_n2, if_neg hc37, own_n3, if_neg hc51, own_n4, if_pos hc63]; rfl, N0, rfl⟩
          · have R66 : ∀ t, Steps p.tables e below (s₁.setTop (mkF m 73 #[.val (.int (((own_ush32 (own_ush32 (own_ush32 p1 (16 : Int32)) (8 : Int32)) (4 : Int32)).toUInt32 >>> ((2 : Int32) &&& 31).toUInt32).toInt32)), .val (.int (((((31 : Int32) + (-16 : Int32)) + (-8 : Int32)) + (-4 : Int32)) + (-2 : Int32)))] [])) t → Steps p.tables e below (s₁.setTop (mkF m 0 #[.val (.int p1), .unset] [])) t := by
              intro t kt
              refine R64 _ ?_
              show Steps p.tables e below (s₁.setTop (mkF m 63 #[.val (.int (own_ush32 (own_ush32 (own_ush32 p1 (16 : Int32)) (8 : Int32)) (4 : Int32))), .val (.int ((((31 : Int32) + (-16 : Int32)) + (-8 : Int32)) + (-4 : Int32)))] [(.int (4 : Int32)), (.int (own_ush32 (own_ush32 (own_ush32 p1 (16 : Int32)) (8 : Int32)) (4 : Int32)))])) _
              refine XS.icmpNo X0.here hx rfl (hb hby d7_63) rfl (flt (hc63 : ¬ ((own_ush32 (own_ush32 (own_ush32 p1 (16 : Int32)) (8 : Int32)) (4 : Int32)) < (4 : Int32)))).1 ?_
              show Steps p.tables e below (s₁.setTop (mkF m 66 #[.val (.int (own_ush32 (own_ush32 (own_ush32 p1 (16 : Int32)) (8 : Int32)) (4 : Int32))), .val (.int ((((31 : Int32) + (-16 : Int32)) + (-8 : Int32)) + (-4 : Int32)))] [])) _
              refine XS.iinc X0.here hx rfl (hb hby d7_66) rfl (l' := #[.val (.int (own_ush32 (own_ush32 (own_ush32 p1 (16 : Int32)) (8 : Int32)) (4 : Int32))), .val (.int (((((31 : Int32) + (-16 : Int32)) + (-8 : Int32)) + (-4 : Int32)) + (-2 : Int32)))]) rfl ?_
              show Steps p.tables e below (s₁.setTop (mkF m 69 #[.val (.int (own_ush32 (own_ush32 (own_ush32 p1 (16 : Int32)) (8 : Int32)) (4 : Int32))), .val (.int (((((31 : Int32) + (-16 : Int32)) + (-8 : Int32)) + (-4 : Int32)) + (-2 : Int32)))] [])) _
              refine XS.iloadN X0.here hx rfl (hb hby d7_69) rfl ?_
              show Steps p.tables e below (s₁.setTop (mkF m 70 #[.val (.int (own_ush32 (own_ush32 (own_ush32 p1 (16 : Int32)) (8 : Int32)) (4 : Int32))), .val (.int (((((31 : Int32) + (-16 : Int32)) + (-8 : Int32)) + (-4 : Int32)) + (-2 : Int32)))] [(.int (own_ush32 (own_ush32 (own_ush32 p1 (16 : Int32)) (8 : Int32)) (4 : Int32)))])) _
              refine XS.iconst X0.here hx rfl (hb hby d7_70) ?_
              show Steps p.tables e below (s₁.setTop (mkF m 71 #[.val (.int (own_ush32 (own_ush32 (own_ush32 p1 (16 : Int32)) (8 : Int32)) (4 : Int32))), .val (.int (((((31 : Int32) + (-16 : Int32)) + (-8 : Int32)) + (-4 : Int32)) + (-2 : Int32)))] [(.int (2 : Int32)), (.int (own_ush32 (own_ush32 (own_ush32 p1 (16 : Int32)) (8 : Int32)) (4 : Int32)))])) _
              refine XS.iushr X0.here hx rfl (hb hby d7_71) rfl ?_
              show Steps p.tables e below (s₁.setTop (mkF m 72 #[.val (.int (own_ush32 (own_ush32 (own_ush32 p1 (16 : Int32)) (8 : Int32)) (4 : Int32))), .val (.int (((((31 : Int32) + (-16 : Int32)) + (-8 : Int32)) + (-4 : Int32)) + (-2 : Int32)))] [(.int (((own_ush32 (own_ush32 (own_ush32 p1 (16 : Int32)) (8 : Int32)) (4 : Int32)).toUInt32 >>> ((2 : Int32) &&& 31).toUInt32).toInt32))])) _
              refine XS.istoreN X0.here hx rfl (hb hby d7_72) rfl (l' := #[.val (.int (((own_ush32 (own_ush32 (own_ush32 p1 (16 : Int32)) (8 : Int32)) (4 : Int32)).toUInt32 >>> ((2 : Int32) &&& 31).toUInt32).toInt32)), .val (.int (((((31 : Int32) + (-16 : Int32)) + (-8 : Int32)) + (-4 : Int32)) + (-2 : Int32)))]) rfl ?_
              exact kt
            clear R64
            have R67 : ∀ t, Steps p.tables e below (s₁.setTop (mkF m 73 #[.val (.int (own_ush32 (own_ush32 (own_ush32 (own_ush32 p1 (16 : Int32)) (8 : Int32)) (4 : Int32)) (2 : Int32))), .val (.int (((((31 : Int32) + (-16 : Int32)) + (-8 : Int32)) + (-4 : Int32)) + (-2 : Int32)))] [])) t → Steps p.tables e below (s₁.setTop (mkF m 0 #[.val (.int p1), .unset] [])) t := R66
            have R68 : ∀ t, Steps p.tables e below (s₁.setTop (mkF m 78 #[.val (.int (own_ush32 (own_ush32 (own_ush32 (own_ush32 p1 (16 : Int32)) (8 : Int32)) (4 : Int32)) (2 : Int32))), .val (.int (((((31 : Int32) + (-16 : Int32)) + (-8 : Int32)) + (-4 : Int32)) + (-2 : Int32)))] [(.int ((((((31 : Int32) + (-16 : Int32)) + (-8 : Int32)) + (-4 : Int32)) + (-2 : Int32)) - (((own_ush32 (own_ush32 (own_ush32 (own_ush32 p1 (16 : Int32)) (8 : Int32)) (4 : Int32)) (2 : Int32)).toUInt32 >>> ((1 : Int32) &&& 31).toUInt32).toInt32)))])) t → Steps p.tables e below (s₁.setTop (mkF m 0 #[.val (.int p1), .unset] [])) t := by
              intro t kt
              refine R67 _ ?_
              show Steps p.tables e below (s₁.setTop (mkF m 73 #[.val (.int (own_ush32 (own_ush32 (own_ush32 (own_ush32 p1 (16 : Int32)) (8 : Int32)) (4 : Int32)) (2 : Int32))), .val (.int (((((31 : Int32) + (-16 : Int32)) + (-8 : Int32)) + (-4 : Int32)) + (-2 : Int32)))] [])) _
              refine XS.iloadN X0.here hx rfl (hb hby d7_73) rfl ?_
              show Steps p.tables e below (s₁.setTop (mkF m 74 #[.val (.int (own_ush32 (own_ush32 (own_ush32 (own_ush32 p1 (16 : Int32)) (8 : Int32)) (4 : Int32)) (2 : Int32))), .val (.int (((((31 : Int32) + (-16 : Int32)) + (-8 : Int32)) + (-4 : Int32)) + (-2 : Int32)))] [(.int (((((31 : Int32) + (-16 : Int32)) + (-8 : Int32)) + (-4 : Int32)) + (-2 : Int32)))])) _
              refine XS.iloadN X0.here hx rfl (hb hby d7_74) rfl ?_
              show Steps p.tables e below (s₁.setTop (mkF m 75 #[.val (.int (own_ush32 (own_ush32 (own_ush32 (own_ush32 p1 (16 : Int32)) (8 : Int32)) (4 : Int32)) (2 : Int32))), .val (.int (((((31 : Int32) + (-16 : Int32)) + (-8 : Int32)) + (-4 : Int32)) + (-2 : Int32)))] [(.int (own_ush32 (own_ush32 (own_ush32 (own_ush32 p1 (16 : Int32)) (8 : Int32)) (4 : Int32)) (2 : Int32))), (.int (((((31 : Int32) + (-16 : Int32)) + (-8 : Int32)) + (-4 : Int32)) + (-2 : Int32)))])) _
              refine XS.iconst X0.here hx rfl (hb hby d7_75) ?_
              show Steps p.tables e below (s₁.setTop (mkF m 76 #[.val (.int (own_ush32 (own_ush32 (own_ush32 (own_ush32 p1 (16 : Int32)) (8 : Int32)) (4 : Int32)) (2 : Int32))), .val (.int (((((31 : Int32) + (-16 : Int32)) + (-8 : Int32)) + (-4 : Int32)) + (-2 : Int32)))] [(.int (1 : Int32)), (.int (own_ush32 (own_ush32 (own_ush32 (own_ush32 p1 (16 : Int32)) (8 : Int32)) (4 : Int32)) (2 : Int32))), (.int (((((31 : Int32) + (-16 : Int32)) + (-8 : Int32)) + (-4 : Int32)) + (-2 : Int32)))])) _
              refine XS.iushr X0.here hx rfl (hb hby d7_76) rfl ?_
              show Steps p.tables e below (s₁.setTop (mkF m 77 #[.val (.int (own_ush32 (own_ush32 (own_ush32 (own_ush32 p1 (16 : Int32)) (8 : Int32)) (4 : Int32)) (2 : Int32))), .val (.int (((((31 : Int32) + (-16 : Int32)) + (-8 : Int32)) + (-4 : Int32)) + (-2 : Int32)))] [(.int (((own_ush32 (own_ush32 (own_ush32 (own_ush32 p1 (16 : Int32)) (8 : Int32)) (4 : Int32)) (2 : Int32)).toUInt32 >>> ((1 : Int32) &&& 31).toUInt32).toInt32)), (.int (((((31 : Int32) + (-16 : Int32)) + (-8 : Int32)) + (-4 : Int32)) + (-2 : Int32)))])) _
              refine XS.isub X0.here hx rfl (hb hby d7_77) rfl ?_
              exact kt
            clear R67
            obtain ⟨fs, hr, hrun, hended, hW, hsame⟩ := X0.leave (v := some (.int ((((((31 : Int32) + (-16 : Int32)) + (-8 : Int32)) + (-4 : Int32)) + (-2 : Int32)) - (((own_ush32 (own_ush32 (own_ush32 (own_ush32 p1 (16 : Int32)) (8 : Int32)) (4 : Int32)) (2 : Int32)).toUInt32 >>> ((1 : Int32) &&& 31).toUInt32).toInt32)))) (fun h => by rw [Bd.returns] at h; cases h)
            refine ⟨_, _, pre0 _ (R68 _ ?_), hrun, hended, _, _, rfl, ?_, ⟨_, rfl⟩, hW, hsame.mono (by decide) (by decide)⟩
            · exact retI X0 hx Bd.returns (hb hby d7_78) hr
            · show Q_rm_inlz Z p1 h0 n0 _ s₁.heap _
              rw [e0]
              exact ⟨by rw [own_inlz, if_pos hc1, own_n1, if_neg hc22, own_n2, if_neg hc37, own_n3, if_neg hc51, own_n4, if_neg hc63]; rfl, N0, rfl⟩
  · have R69 : ∀ t, Steps p.tables e below (s₁.setTop (mkF m 5 #[.val (.int p1), .unset] [(.int p1)])) t → Steps p.tables e below (s₁.setTop (mkF m 0 #[.val (.int p1), .unset] [])) t := by
      intro t kt
      refine R7 _ ?_
      show Steps p.tables e below (s₁.setTop (mkF m 1 #[.val (.int p1), .unset] [(.int p1)])) _
      refine XS.ifNo X0.here hx rfl (hb hby d7_1) rfl ((if0 _ _).trans (flt (hc1 : ¬ ((0 : Int32) < p1))).2.2.1) ?_
      show Steps p.tables e below (s₁.setTop (mkF m 4 #[.val (.int p1), .unset] [])) _
      refine XS.iloadN X0.here hx rfl (hb hby d7_4) rfl ?_
      exact kt
    clear R7
    by_cases hc5 : p1 = (0 : Int32)
    · have R70 : ∀ t, Steps p.tables e below (s₁.setTop (mkF m 14 #[.val (.int p1), .unset] [(.int (32 : Int32))])) t → Steps p.tables e below (s₁.setTop (mkF m 0 #[.val (.int p1), .unset] [])) t := by
        intro t kt
        refine R69 _ ?_
        show Steps p.tables e below (s₁.setTop (mkF m 5 #[.val (.int p1), .unset] [(.int p1)])) _
        refine XS.ifNo X0.here hx rfl (hb hby d7_5) rfl ((if0 _ _).trans (teq (hc5 : p1 = (0 : Int32))).2) ?_
        show Steps p.tables e below (s₁.setTop (mkF m 8 #[.val (.int p1), .unset] [])) _
        refine XS.bipush X0.here hx rfl (hb hby d7_8) ?_
        show Steps p.tables e below (s₁.setTop (mkF m 10 #[.val (.int p1), .unset] [(.int (32 : Int32))])) _
        refine XS.goto X0.here hx rfl (pc0 := 10) (pc' := 14) rfl (hb hby d7_10) (by decide) (by decide) ?_
        exact kt
      clear R69
      obtain ⟨fs, hr, hrun, hended, hW, hsame⟩ := X0.leave (v := some (.int (32 : Int32))) (fun h => by rw [Bd.returns] at h; cases h)
      refine ⟨_, _, pre0 _ (R70 _ ?_), hrun, hended, _, _, rfl, ?_, ⟨_, rfl⟩, hW, hsame.mono (by decide) (by decide)⟩
      · exact retI X0 hx Bd.returns (hb hby d7_14) hr
      · show Q_rm_inlz Z p1 h0 n0 _ s₁.heap _
        rw [e0]
        exact ⟨by rw [own_inlz, if_neg hc1, if_pos hc5], N0, rfl⟩
    · have R71 : ∀ t, Steps p.tables e below (s₁.setTop (mkF m 14 #[.val (.int p1), .unset] [(.int (0 : Int32))])) t → Steps p.tables e below (s₁.setTop (mkF m 0 #[.val (.int p1), .unset] [])) t := by
        intro t kt
        refine R69 _ ?_
        show Steps p.tables e below (s₁.setTop (mkF m 5 #[.val (.int p1), .unset] [(.int p1)])) _
        refine XS.ifYes X0.here hx rfl (pc0 := 5) (pc' := 13) rfl (hb hby d7_5) rfl ((if0 _ _).trans (feq (hc5 : ¬ (p1 = (0 : Int32)))).2) (by decide) (by decide) ?_
        show Steps p.tables e below (s₁.setTop (mkF m 13 #[.val (.int p1), .unset] [])) _
        refine XS.iconst X0.here hx rfl (hb hby d7_13) ?_
        exact kt
      clear R69
      obtain ⟨fs, hr, hrun, hended, hW, hsame⟩ := X0.leave (v := some (.int (0 : Int32))) (fun h => by rw [Bd.returns] at h; cases h)
      refine ⟨_, _, pre0 _ (R71 _ ?_), hrun, hended, _, _, rfl, ?_, ⟨_, rfl⟩, hW, hsame.mono (by decide) (by decide)⟩
      · exact retI X0 hx Bd.returns (hb hby d7_14) hr
      · show Q_rm_inlz Z p1 h0 n0 _ s₁.heap _
        rw [e0]
        exact ⟨by rw [own_inlz, if_neg hc1, if_neg hc5], N0, rfl⟩
theorem pn_1 : plainName "java/lang/Long" = true := by first | (simp [plainName, overriddenIn]; done) | decide +kernel
theorem d6_0 : decode jdk_35_method_48_code 0 = .ok (.lload_n 0, 1) := by decide +kernel
theorem d6_1 : decode jdk_35_method_48_code 1 = .ok (.bipush 32, 2) := by decide +kernel
theorem d6_3 : decode jdk_35_method_48_code 3 = .ok (.lushr, 1) := by decide +kernel
theorem d6_4 : decode jdk_35_method_48_code 4 = .ok (.l2i, 1) := by decide +kernel
theorem d6_5 : decode jdk_35_method_48_code 5 = .ok (.istore_n 2, 1) := by decide +kernel
theorem d6_6 : decode jdk_35_method_48_code 6 = .ok (.iload_n 2, 1) := by decide +kernel
theorem d6_7 : decode jdk_35_method_48_code 7 = .ok (.ifCond .ne 14, 3) := by decide +kernel
theorem d6_10 : decode jdk_35_method_48_code 10 = .ok (.bipush 32, 2) := by decide +kernel
theorem d6_12 : decode jdk_35_method_48_code 12 = .ok (.lload_n 0, 1) := by decide +kernel
theorem d6_13 : decode jdk_35_method_48_code 13 = .ok (.l2i, 1) := by decide +kernel
theorem pd_0 : parseMethodDescriptor "(I)I" = some ⟨[.int], some .int⟩ := by decide +kernel
theorem d6_14 : decode jdk_35_method_48_code 14 = .ok (.invokestatic 308, 3) := by decide +kernel
theorem d6_17 : decode jdk_35_method_48_code 17 = .ok (.iadd, 1) := by decide +kernel
theorem d6_18 : decode jdk_35_method_48_code 18 = .ok (.goto 7, 3) := by decide +kernel
theorem d6_25 : decode jdk_35_method_48_code 25 = .ok (.ireturn, 1) := by decide +kernel
theorem d6_21 : decode jdk_35_method_48_code 21 = .ok (.iload_n 2, 1) := by decide +kernel
theorem d6_22 : decode jdk_35_method_48_code 22 = .ok (.invokestatic 308, 3) := by decide +kernel
theorem ef_rm_lnlz (m : MethodId) (q1 : Int64) : entryFrame m #[(.long q1)] 3 = mkF m 0 #[.val (.long q1), .second, .unset] [] := by first | (simp [entryFrame, mkF, argsToLocals, Value.category]; done) | rfl
def Q_rm_lnlz (Z : State) (q1 : Int64) (h0 : Heap) (n0 : Nat) (v : Option Value) (h : Heap) (L : List Loc) : Prop := v = some (.int (own_lnlz q1)) ∧ Fr n0 L ∧ h = h0
set_option maxRecDepth 65536 in
set_option maxHeartbeats 40000000 in
theorem rm_lnlz (l : Launch) (Z : State) (a0 : Array Value) (hw : ∀ d ∈ tables_1, d.before a0 Z = true) (ws : List Jvm.Cond) (q1 : Int64) (h0 : Heap) (n0 : Nat) (Z0 : n0 ≤ h0.size) :
    MetFree l (⟨"java/lang/Long", "numberOfLeadingZeros", "(J)I"⟩ : MethodName) (head1 (Jvm.Cond.code (⟨"java/lang/Long", "numberOfLeadingZeros", "(J)I"⟩ : MethodName) jdk_35_method_48_code 3 (some .int) :: ws) ({ frames := 1, cells := 0, slots := 0, locals := 14 } : Room)) (fun a U => a = #[(.long q1)] ∧ Z.Warmed39 U.vm ∧ U.heap = h0) (fun _ _ _ _ _ => True) (fun _ U oC U' => ∃ v L, oC = .returned v ∧ Q_rm_lnlz Z q1 h0 n0 v U'.heap L ∧ FrameEnd U oC U' L ({ frames := 1, cells := 0, slots := 0, locals := 14 } : Room).cells ({ frames := 1, cells := 0, slots := 0, locals := 14 } : Room).slots) := by
  refine MetFree.of_bodySF (plainFor_of_name pn_1) hisR ?_
  intro p e s m args below meth c s₁ Bd hml0 hP hK
  obtain ⟨rfl, hZ, hh⟩ := hP
  have hx := Bd.exec
  have hby := Bd.bytes
  have hml : c.maxLocals = 3 := hml0
  have hown : s.vm.findClass "java/lang/Long" = some m.cls := findClass_of_methodNamed Bd.named
  have hnm := (name_of_methodNamed Bd.named Bd.method).1
  have X0 : Stand p l e ({ frames := 1, cells := 0, slots := 0, locals := 14 } : Room) s m #[(.long q1)] below meth c s₁ [] 0 0 := Stand.of_body Bd
  have e0 : s₁.heap = h0 := by rw [← hh, Bd.state]; rfl
  have N0 := Fr.nil n0
  have pre0 : ∀ t, Steps p.tables e below (s₁.setTop (mkF m 0 #[.val (.long q1), .second, .unset] [])) t → Steps p.tables e below (s₁.setTop (entryFrame m #[(.long q1)] 3)) t := fun t k => castTop (ef_rm_lnlz m q1) k
  have pre00 : ∀ t, Steps p.tables e below (s₁.setTop (mkF m 0 #[.val (.long q1), .second, .unset] [])) t → Steps p.tables e below (s₁.setTop (mkF m 0 #[.val (.long q1), .second, .unset] [])) t := fun _ k => k
  have R72 : ∀ t, Steps p.tables e below (s₁.setTop (mkF m 5 #[.val (.long q1), .second, .unset] [(.int (((q1.toUInt64 >>> ((32 : Int32) &&& 0x3f).toInt64.toUInt64).toInt64).toInt32))])) t → Steps p.tables e below (s₁.setTop (mkF m 0 #[.val (.long q1), .second, .unset] [])) t := by
    intro t kt
    refine pre00 _ ?_
    show Steps p.tables e below (s₁.setTop (mkF m 0 #[.val (.long q1), .second, .unset] [])) _
    refine XS.lloadN X0.here hx rfl (hb hby d6_0) rfl ?_
    show Steps p.tables e below (s₁.setTop (mkF m 1 #[.val (.long q1), .second, .unset] [(.long q1)])) _
    refine XS.bipush X0.here hx rfl (hb hby d6_1) ?_
    show Steps p.tables e below (s₁.setTop (mkF m 3 #[.val (.long q1), .second, .unset] [(.int (32 : Int32)), (.long q1)])) _
    refine XS.lushr X0.here hx rfl (hb hby d6_3) rfl ?_
    show Steps p.tables e below (s₁.setTop (mkF m 4 #[.val (.long q1), .second, .unset] [(.long ((q1.toUInt64 >>> ((32 : Int32) &&& 0x3f).toInt64.toUInt64).toInt64))])) _
    refine XS.l2i X0.here hx rfl (hb hby d6_4) rfl ?_
    exact kt
  have R73 : ∀ t, Steps p.tables e below (s₁.setTop (mkF m 5 #[.val (.long q1), .second, .unset] [(.int ((own_ush q1 (32 : Int32)).toInt32))])) t → Steps p.tables e below (s₁.setTop (mkF m 0 #[.val (.long q1), .second, .unset] [])) t := R72
  have R74 : ∀ t, Steps p.tables e below (s₁.setTop (mkF m 7 #[.val (.long q1), .second, .val (.int ((own_ush q1 (32 : Int32)).toInt32))] [(.int ((own_ush q1 (32 : Int32)).toInt32))])) t → Steps p.tables e below (s₁.setTop (mkF m 0 #[.val (.long q1), .second, .unset] [])) t := by
    intro t kt
    refine R73 _ ?_
    show Steps p.tables e below (s₁.setTop (mkF m 5 #[.val (.long q1), .second, .unset] [(.int ((own_ush q1 (32 : Int32)).toInt32))])) _
    refine XS.istoreN X0.here hx rfl (hb hby d6_5) rfl (l' := #[.val (.long q1), .second, .val (.int ((own_ush q1 (32 : Int32)).toInt32))]) rfl ?_
    show Steps p.tables e below (s₁.setTop (mkF m 6 #[.val (.long q1), .second, .val (.int ((own_ush q1 (32 : Int32)).toInt32))] [])) _
    refine XS.iloadN X0.here hx rfl (hb hby d6_6) rfl ?_
    exact kt
  clear R73
  by_cases hc7 : ((own_ush q1 (32 : Int32)).toInt32) = (0 : Int32)
  · have R75 : ∀ t, Steps p.tables e below (s₁.setTop (mkF m 14 #[.val (.long q1), .second, .val (.int ((own_ush q1 (32 : Int32)).toInt32))] [(.int (q1.toInt32)), (.int (32 : Int32))])) t → Steps p.tables e below (s₁.setTop (mkF m 0 #[.val (.long q1), .second, .unset] [])) t := by
      intro t kt
      refine R74 _ ?_
      show Steps p.tables e below (s₁.setTop (mkF m 7 #[.val (.long q1), .second, .val (.int ((own_ush q1 (32 : Int32)).toInt32))] [(.int ((own_ush q1 (32 : Int32)).toInt32))])) _
      refine XS.ifNo X0.here hx rfl (hb hby d6_7) rfl ((if0 _ _).trans (teq (hc7 : ((own_ush q1 (32 : Int32)).toInt32) = (0 : Int32))).2) ?_
      show Steps p.tables e below (s₁.setTop (mkF m 10 #[.val (.long q1), .second, .val (.int ((own_ush q1 (32 : Int32)).toInt32))] [])) _
      refine XS.bipush X0.here hx rfl (hb hby d6_10) ?_
      show Steps p.tables e below (s₁.setTop (mkF m 12 #[.val (.long q1), .second, .val (.int ((own_ush q1 (32 : Int32)).toInt32))] [(.int (32 : Int32))])) _
      refine XS.lloadN X0.here hx rfl (hb hby d6_12) rfl ?_
      show Steps p.tables e below (s₁.setTop (mkF m 13 #[.val (.long q1), .second, .val (.int ((own_ush q1 (32 : Int32)).toInt32))] [(.long q1), (.int (32 : Int32))])) _
      refine XS.l2i X0.here hx rfl (hb hby d6_13) rfl ?_
      exact kt
    clear R74
    obtain ⟨_, _, ⟨T76, L76, k76, n76⟩, -, X76, ⟨Lc76, hQ76, l76, y76, z76⟩, st76⟩ := Jvm.LawKit.callS X0 hx (y := (⟨"java/lang/Integer", "numberOfLeadingZeros", "(I)I"⟩ : MethodName)) hown (mvT hZ (hw _ (List.mem_of_getElem? (i := 44) rfl))) (mvT hZ (hw _ (List.mem_of_getElem? (i := 45) rfl))) (mvT hZ (hw _ (List.mem_of_getElem? (i := 46) rfl))) (mvT hZ (hw _ (List.mem_of_getElem? (i := 47) rfl))) (by decide) (backOf (W := 1) (rm_inlz l Z a0 hw [] (q1.toInt32) h0 n0 Z0) hZ (hw _ (List.mem_of_getElem? (i := 47) rfl)) (hw _ (List.mem_of_getElem? (i := 46) rfl)) (by decide) (by decide)) (g := (mkF m 14 #[.val (.long q1), .second, .val (.int ((own_ush q1 (32 : Int32)).toInt32))] [(.int (q1.toInt32)), (.int (32 : Int32))])) rfl (by rw [hml]; rfl) (argsL := [(.int (q1.toInt32))]) (rest := [(.int (32 : Int32))]) (lenOf pd_0 rfl) rfl (by show 2 * 0 + _ ≤ _; exact Nat.le_of_eq rfl) (hb hby d6_14) (fun _ _ => ⟨rfl, e0, (by decide : 0 + 0 ≤ _), (by decide : 0 + 0 ≤ _)⟩)
    dsimp only [Pt.U, Pt.locs, Pt.cells, Pt.slots] at X76 l76 y76 z76 st76 hQ76
    rw [l76, y76, z76] at X76
    obtain ⟨rfl, N76q, hh76⟩ := hQ76
    have N76 := Fr.app N0 N76q
    have R77 : ∀ t, Steps p.tables e below (T76.setTop (mkF m 25 #[.val (.long q1), .second, .val (.int ((own_ush q1 (32 : Int32)).toInt32))] [(.int ((32 : Int32) + (own_inlz q1.toInt32)))])) t → Steps p.tables e below (s₁.setTop (mkF m 0 #[.val (.long q1), .second, .unset] [])) t := by
      intro t kt
      refine R75 _ ?_
      refine st76 _ ?_
      show Steps p.tables e below (T76.setTop (mkF m 17 #[.val (.long q1), .second, .val (.int ((own_ush q1 (32 : Int32)).toInt32))] [(.int (own_inlz q1.toInt32)), (.int (32 : Int32))])) _
      refine XS.iadd X76.here hx rfl (hb hby d6_17) rfl ?_
      show Steps p.tables e below (T76.setTop (mkF m 18 #[.val (.long q1), .second, .val (.int ((own_ush q1 (32 : Int32)).toInt32))] [(.int ((32 : Int32) + (own_inlz q1.toInt32)))])) _
      refine XS.goto X76.here hx rfl (pc0 := 18) (pc' := 25) rfl (hb hby d6_18) (by decide) (by decide) ?_
      exact kt
    clear R75 st76
    obtain ⟨fs, hr, hrun, hended, hW, hsame⟩ := X76.leave (v := some (.int ((32 : Int32) + (own_inlz q1.toInt32)))) (fun h => by rw [Bd.returns] at h; cases h)
    refine ⟨_, _, pre0 _ (R77 _ ?_), hrun, hended, _, _, rfl, ?_, ⟨_, rfl⟩, hW, hsame.mono (by decide) (by decide)⟩
    · exact retI X76 hx Bd.returns (hb hby d6_25) hr
    · show Q_rm_lnlz Z q1 h0 n0 _ T76.heap _
      rw [hh76]
      exact ⟨by rw [own_lnlz, if_pos hc7], N76, rfl⟩
  · have R78 : ∀ t, Steps p.tables e below (s₁.setTop (mkF m 22 #[.val (.long q1), .second, .val (.int ((own_ush q1 (32 : Int32)).toInt32))] [(.int ((own_ush q1 (32 : Int32)).toInt32))])) t → Steps p.tables e below (s₁.setTop (mkF m 0 #[.val (.long q1), .second, .unset] [])) t := by
      intro t kt
      refine R74 _ ?_
      show Steps p.tables e below (s₁.setTop (mkF m 7 #[.val (.long q1), .second, .val (.int ((own_ush q1 (32 : Int32)).toInt32))] [(.int ((own_ush q1 (32 : Int32)).toInt32))])) _
      refine XS.ifYes X0.here hx rfl (pc0 := 7) (pc' := 21) rfl (hb hby d6_7) rfl ((if0 _ _).trans (feq (hc7 : ¬ (((own_ush q1 (32 : Int32)).toInt32) = (0 : Int32)))).2) (by decide) (by decide) ?_
      show Steps p.tables e below (s₁.setTop (mkF m 21 #[.val (.long q1), .second, .val (.int ((own_ush q1 (32 : Int32)).toInt32))] [])) _
      refine XS.iloadN X0.here hx rfl (hb hby d6_21) rfl ?_
      exact kt
    clear R74
    obtain ⟨_, _, ⟨T79, L79, k79, n79⟩, -, X79, ⟨Lc79, hQ79, l79, y79, z79⟩, st79⟩ := Jvm.LawKit.callS X0 hx (y := (⟨"java/lang/Integer", "numberOfLeadingZeros", "(I)I"⟩ : MethodName)) hown (mvT hZ (hw _ (List.mem_of_getElem? (i := 44) rfl))) (mvT hZ (hw _ (List.mem_of_getElem? (i := 45) rfl))) (mvT hZ (hw _ (List.mem_of_getElem? (i := 46) rfl))) (mvT hZ (hw _ (List.mem_of_getElem? (i := 47) rfl))) (by decide) (backOf (W := 0) (rm_inlz l Z a0 hw [] ((own_ush q1 (32 : Int32)).toInt32) h0 n0 Z0) hZ (hw _ (List.mem_of_getElem? (i := 47) rfl)) (hw _ (List.mem_of_getElem? (i := 46) rfl)) (by decide) (by decide)) (g := (mkF m 22 #[.val (.long q1), .second, .val (.int ((own_ush q1 (32 : Int32)).toInt32))] [(.int ((own_ush q1 (32 : Int32)).toInt32))])) rfl (by rw [hml]; rfl) (argsL := [(.int ((own_ush q1 (32 : Int32)).toInt32))]) (rest := []) (lenOf pd_0 rfl) rfl (by show 2 * 0 + _ ≤ _; exact Nat.le_of_eq rfl) (hb hby d6_22) (fun _ _ => ⟨rfl, e0, (by decide : 0 + 0 ≤ _), (by decide : 0 + 0 ≤ _)⟩)
    dsimp only [Pt.U, Pt.locs, Pt.cells, Pt.slots] at X79 l79 y79 z79 st79 hQ79
    rw [l79, y79, z79] at X79
    obtain ⟨rfl, N79q, hh79⟩ := hQ79
    have N79 := Fr.app N0 N79q
    have R80 : ∀ t, Steps p.tables e below (T79.setTop (mkF m 25 #[.val (.long q1), .second, .val (.int ((own_ush q1 (32 : Int32)).toInt32))] [(.int (own_inlz (own_ush q1 (32 : Int32)).toInt32))])) t → Steps p.tables e below (s₁.setTop (mkF m 0 #[.val (.long q1), .second, .unset] [])) t := by
      intro t kt
      refine R78 _ ?_
      refine st79 _ ?_
      exact kt
    clear R78 st79
    obtain ⟨fs, hr, hrun, hended, hW, hsame⟩ := X79.leave (v := some (.int (own_inlz (own_ush q1 (32 : Int32)).toInt32))) (fun h => by rw [Bd.returns] at h; cases h)
    refine ⟨_, _, pre0 _ (R80 _ ?_), hrun, hended, _, _, rfl, ?_, ⟨_, rfl⟩, hW, hsame.mono (by decide) (by decide)⟩
    · exact retI X79 hx Bd.returns (hb hby d6_25) hr
    · show Q_rm_lnlz Z q1 h0 n0 _ T79.heap _
      rw [hh79]
      exact ⟨by rw [own_lnlz, if_neg hc7], N79, rfl⟩
theorem d4_47 : decode prog_37_method_1_code 47 = .ok (.iload 5, 2) := by decide +kernel
theorem d4_49 : decode prog_37_method_1_code 49 = .ok (.aload_n 1, 1) := by decide +kernel
theorem d4_50 : decode prog_37_method_1_code 50 = .ok (.arraylength, 1) := by decide +kernel
theorem d4_51 : decode prog_37_method_1_code 51 = .ok (.if_icmp .ge 103, 3) := by decide +kernel
theorem d4_54 : decode prog_37_method_1_code 54 = .ok (.aload_n 2, 1) := by decide +kernel
theorem d4_55 : decode prog_37_method_1_code 55 = .ok (.iload 5, 2) := by decide +kernel
theorem d4_57 : decode prog_37_method_1_code 57 = .ok (.iaload, 1) := by decide +kernel
theorem d4_58 : decode prog_37_method_1_code 58 = .ok (.i2l, 1) := by decide +kernel
theorem d4_59 : decode prog_37_method_1_code 59 = .ok (.aload_n 1, 1) := by decide +kernel
theorem d4_60 : decode prog_37_method_1_code 60 = .ok (.iload 5, 2) := by decide +kernel
theorem d4_62 : decode prog_37_method_1_code 62 = .ok (.iaload, 1) := by decide +kernel
theorem d4_63 : decode prog_37_method_1_code 63 = .ok (.i2l, 1) := by decide +kernel
theorem d4_64 : decode prog_37_method_1_code 64 = .ok (.lsub, 1) := by decide +kernel
theorem d4_65 : decode prog_37_method_1_code 65 = .ok (.lstore 6, 2) := by decide +kernel
theorem d4_67 : decode prog_37_method_1_code 67 = .ok (.bipush 64, 2) := by decide +kernel
theorem d4_69 : decode prog_37_method_1_code 69 = .ok (.lload 6, 2) := by decide +kernel
theorem pd_1 : parseMethodDescriptor "(J)I" = some ⟨[.long], some .int⟩ := by decide +kernel
theorem d4_71 : decode prog_37_method_1_code 71 = .ok (.invokestatic 28, 3) := by decide +kernel
theorem d4_74 : decode prog_37_method_1_code 74 = .ok (.isub, 1) := by decide +kernel
theorem d4_75 : decode prog_37_method_1_code 75 = .ok (.istore 8, 2) := by decide +kernel
theorem d4_77 : decode prog_37_method_1_code 77 = .ok (.iload 4, 2) := by decide +kernel
theorem d4_79 : decode prog_37_method_1_code 79 = .ok (.iload 8, 2) := by decide +kernel
theorem d4_81 : decode prog_37_method_1_code 81 = .ok (.iadd, 1) := by decide +kernel
theorem d4_82 : decode prog_37_method_1_code 82 = .ok (.bipush 64, 2) := by decide +kernel
theorem d4_84 : decode prog_37_method_1_code 84 = .ok (.if_icmp .le 9, 3) := by decide +kernel
theorem d4_87 : decode prog_37_method_1_code 87 = .ok (.iinc 3 1, 3) := by decide +kernel
theorem d4_90 : decode prog_37_method_1_code 90 = .ok (.iconst 0, 1) := by decide +kernel
theorem d4_91 : decode prog_37_method_1_code 91 = .ok (.istore 4, 2) := by decide +kernel
set_option maxRecDepth 65536 in
set_option maxHeartbeats 40000000 in
theorem lp_c1A {p : Program} {l : Launch} {e : Env} {s : State} {m : MethodId} {args : Array Value} {below : List Frame} {meth : Method} {c : Code} {Z : State} {a0 : Array Value} {n0 : Nat} {T0 : State} {locs : List Loc} {h0 : Heap} (a1 : Addr) (a2 : Addr) (a3 : Addr) (fl : Int32) (us : Int32) (iv : Int32) (i : Nat) (lo : Nat → Int32) (hi : Nat → Int32) (X0 : Stand p l e ({ frames := 2, cells := 4, slots := 12, locals := 29 } : Room) s m args below meth c T0 locs 4 12) (hx : p.tables.exec = Jvm.exec) (hZ : Z.Warmed39 s.vm) (hw : ∀ d ∈ tables_1, d.before a0 Z = true) (hby : c.code = prog_37_method_1_code) (hml : c.maxLocals = 9) (hown : s.vm.findClass "com/example/inexact_odds/inexactodds/language/Encoding" = some m.cls) (e0 : T0.heap = h0) (N0 : Fr n0 locs) (Z0 : n0 ≤ h0.size) (VL : AV Z h0 a2 .int 3 (fun j => .int (lo j))) (VH : AV Z h0 a3 .int 3 (fun j => .int (hi j))) (hi0 : ¬ iv < 0) (hin : iv.toNatClampNeg = i) (hi3 : i < 3) (hlt : iv < (3 : Int32)) :
    ∃ (T' : State) (L' : List Loc), Stand p l e ({ frames := 2, cells := 4, slots := 12, locals := 29 } : Room) s m args below meth c T' L' 4 12 ∧ T'.heap = h0 ∧ Fr n0 L' ∧ ∀ t, Steps p.tables e below (T'.setTop (mkF m 93 #[.val (.ref a1), .val (.ref a2), .val (.ref a3), .val (.int (own_fl fl us (own_bits (lo i) (hi i)))), .val (.int (own_us us (own_bits (lo i) (hi i)))), .val (.int iv), .val (.long ((hi i).toInt64 - (lo i).toInt64)), .second, .val (.int (own_bits (lo i) (hi i)))] [])) t → Steps p.tables e below (T0.setTop (mkF m 47 #[.val (.ref a1), .val (.ref a2), .val (.ref a3), .val (.int fl), .val (.int us), .val (.int iv), .unset, .unset, .unset] [])) t := by
  have R81 : ∀ t, Steps p.tables e below (T0.setTop (mkF m 50 #[.val (.ref a1), .val (.ref a2), .val (.ref a3), .val (.int fl), .val (.int us), .val (.int iv), .unset, .unset, .unset] [(.ref a2), (.int iv)])) t → Steps p.tables e below (T0.setTop (mkF m 47 #[.val (.ref a1), .val (.ref a2), .val (.ref a3), .val (.int fl), .val (.int us), .val (.int iv), .unset, .unset, .unset] [])) t := by
    intro t kt
    refine (fun (t : State) (k : Steps p.tables e below (T0.setTop (mkF m 47 #[.val (.ref a1), .val (.ref a2), .val (.ref a3), .val (.int fl), .val (.int us), .val (.int iv), .unset, .unset, .unset] [])) t) => k) _ ?_
    show Steps p.tables e below (T0.setTop (mkF m 47 #[.val (.ref a1), .val (.ref a2), .val (.ref a3), .val (.int fl), .val (.int us), .val (.int iv), .unset, .unset, .unset] [])) _
    refine XS.iload X0.here hx rfl (hb hby d4_47) rfl ?_
    show Steps p.tables e below (T0.setTop (mkF m 49 #[.val (.ref a1), .val (.ref a2), .val (.ref a3), .val (.int fl), .val (.int us), .val (.int iv), .unset, .unset, .unset] [(.int iv)])) _
    refine XS.aloadN X0.here hx rfl (hb hby d4_49) rfl rfl ?_
    exact kt
  obtain ⟨cl82, Ar82, ln82⟩ := VL.len
  have R83 : ∀ t, Steps p.tables e below (T0.setTop (mkF m 57 #[.val (.ref a1), .val (.ref a2), .val (.ref a3), .val (.int fl), .val (.int us), .val (.int iv), .unset, .unset, .unset] [(.int iv), (.ref a3)])) t → Steps p.tables e below (T0.setTop (mkF m 47 #[.val (.ref a1), .val (.ref a2), .val (.ref a3), .val (.int fl), .val (.int us), .val (.int iv), .unset, .unset, .unset] [])) t := by
    intro t kt
    refine R81 _ ?_
    show Steps p.tables e below (T0.setTop (mkF m 50 #[.val (.ref a1), .val (.ref a2), .val (.ref a3), .val (.int fl), .val (.int us), .val (.int iv), .unset, .unset, .unset] [(.ref a2), (.int iv)])) _
    refine X0.arraylength hx (by rw [e0]; exact Ar82.1) (State.isArrayOf_alike hZ.alike Ar82.2.1) (g := (mkF m 50 #[.val (.ref a1), .val (.ref a2), .val (.ref a3), .val (.int fl), .val (.int us), .val (.int iv), .unset, .unset, .unset] [(.ref a2), (.int iv)])) rfl rfl (hb hby d4_50) _ ?_
    rw [ln82]
    show Steps p.tables e below (T0.setTop (mkF m 51 #[.val (.ref a1), .val (.ref a2), .val (.ref a3), .val (.int fl), .val (.int us), .val (.int iv), .unset, .unset, .unset] [(.int (3 : Int32)), (.int iv)])) _
    refine XS.icmpNo X0.here hx rfl (hb hby d4_51) rfl (tlt (hlt : iv < (3 : Int32))).2.1 ?_
    show Steps p.tables e below (T0.setTop (mkF m 54 #[.val (.ref a1), .val (.ref a2), .val (.ref a3), .val (.int fl), .val (.int us), .val (.int iv), .unset, .unset, .unset] [])) _
    refine XS.aloadN X0.here hx rfl (hb hby d4_54) rfl rfl ?_
    show Steps p.tables e below (T0.setTop (mkF m 55 #[.val (.ref a1), .val (.ref a2), .val (.ref a3), .val (.int fl), .val (.int us), .val (.int iv), .unset, .unset, .unset] [(.ref a3)])) _
    refine XS.iload X0.here hx rfl (hb hby d4_55) rfl ?_
    exact kt
  clear R81
  obtain ⟨cl84, Ar84, hin84, hat84⟩ := VH.at (j := iv) (k := i) hi0 hin hi3
  have R85 : ∀ t, Steps p.tables e below (T0.setTop (mkF m 62 #[.val (.ref a1), .val (.ref a2), .val (.ref a3), .val (.int fl), .val (.int us), .val (.int iv), .unset, .unset, .unset] [(.int iv), (.ref a2), (.long ((hi i).toInt64))])) t → Steps p.tables e below (T0.setTop (mkF m 47 #[.val (.ref a1), .val (.ref a2), .val (.ref a3), .val (.int fl), .val (.int us), .val (.int iv), .unset, .unset, .unset] [])) t := by
    intro t kt
    refine R83 _ ?_
    show Steps p.tables e below (T0.setTop (mkF m 57 #[.val (.ref a1), .val (.ref a2), .val (.ref a3), .val (.int fl), .val (.int us), .val (.int iv), .unset, .unset, .unset] [(.int iv), (.ref a3)])) _
    refine X0.iaload hx (j := iv) (v := (.int (hi i))) (by rw [e0]; exact Ar84.1) (State.isArrayOf_alike hZ.alike Ar84.2.1) Ar84.2.2 hin84 hat84 (g := (mkF m 57 #[.val (.ref a1), .val (.ref a2), .val (.ref a3), .val (.int fl), .val (.int us), .val (.int iv), .unset, .unset, .unset] [(.int iv), (.ref a3)])) rfl rfl (hb hby d4_57) _ ?_
    show Steps p.tables e below (T0.setTop (mkF m 58 #[.val (.ref a1), .val (.ref a2), .val (.ref a3), .val (.int fl), .val (.int us), .val (.int iv), .unset, .unset, .unset] [(.int (hi i))])) _
    refine XS.i2l X0.here hx rfl (hb hby d4_58) rfl ?_
    show Steps p.tables e below (T0.setTop (mkF m 59 #[.val (.ref a1), .val (.ref a2), .val (.ref a3), .val (.int fl), .val (.int us), .val (.int iv), .unset, .unset, .unset] [(.long ((hi i).toInt64))])) _
    refine XS.aloadN X0.here hx rfl (hb hby d4_59) rfl rfl ?_
    show Steps p.tables e below (T0.setTop (mkF m 60 #[.val (.ref a1), .val (.ref a2), .val (.ref a3), .val (.int fl), .val (.int us), .val (.int iv), .unset, .unset, .unset] [(.ref a2), (.long ((hi i).toInt64))])) _
    refine XS.iload X0.here hx rfl (hb hby d4_60) rfl ?_
    exact kt
  clear R83
  obtain ⟨cl86, Ar86, hin86, hat86⟩ := VL.at (j := iv) (k := i) hi0 hin hi3
  have R87 : ∀ t, Steps p.tables e below (T0.setTop (mkF m 71 #[.val (.ref a1), .val (.ref a2), .val (.ref a3), .val (.int fl), .val (.int us), .val (.int iv), .val (.long (((hi i).toInt64) - ((lo i).toInt64))), .second, .unset] [(.long (((hi i).toInt64) - ((lo i).toInt64))), (.int (64 : Int32))])) t → Steps p.tables e below (T0.setTop (mkF m 47 #[.val (.ref a1), .val (.ref a2), .val (.ref a3), .val (.int fl), .val (.int us), .val (.int iv), .unset, .unset, .unset] [])) t := by
    intro t kt
    refine R85 _ ?_
    show Steps p.tables e below (T0.setTop (mkF m 62 #[.val (.ref a1), .val (.ref a2), .val (.ref a3), .val (.int fl), .val (.int us), .val (.int iv), .unset, .unset, .unset] [(.int iv), (.ref a2), (.long ((hi i).toInt64))])) _
    refine X0.iaload hx (j := iv) (v := (.int (lo i))) (by rw [e0]; exact Ar86.1) (State.isArrayOf_alike hZ.alike Ar86.2.1) Ar86.2.2 hin86 hat86 (g := (mkF m 62 #[.val (.ref a1), .val (.ref a2), .val (.ref a3), .val (.int fl), .val (.int us), .val (.int iv), .unset, .unset, .unset] [(.int iv), (.ref a2), (.long ((hi i).toInt64))])) rfl rfl (hb hby d4_62) _ ?_
    show Steps p.tables e below (T0.setTop (mkF m 63 #[.val (.ref a1), .val (.ref a2), .val (.ref a3), .val (.int fl), .val (.int us), .val (.int iv), .unset, .unset, .unset] [(.int (lo i)), (.long ((hi i).toInt64))])) _
    refine XS.i2l X0.here hx rfl (hb hby d4_63) rfl ?_
    show Steps p.tables e below (T0.setTop (mkF m 64 #[.val (.ref a1), .val (.ref a2), .val (.ref a3), .val (.int fl), .val (.int us), .val (.int iv), .unset, .unset, .unset] [(.long ((lo i).toInt64)), (.long ((hi i).toInt64))])) _
    refine XS.lsub X0.here hx rfl (hb hby d4_64) rfl ?_
    show Steps p.tables e below (T0.setTop (mkF m 65 #[.val (.ref a1), .val (.ref a2), .val (.ref a3), .val (.int fl), .val (.int us), .val (.int iv), .unset, .unset, .unset] [(.long (((hi i).toInt64) - ((lo i).toInt64)))])) _
    refine XS.lstore X0.here hx rfl (hb hby d4_65) rfl (l' := #[.val (.ref a1), .val (.ref a2), .val (.ref a3), .val (.int fl), .val (.int us), .val (.int iv), .val (.long (((hi i).toInt64) - ((lo i).toInt64))), .second, .unset]) rfl ?_
    show Steps p.tables e below (T0.setTop (mkF m 67 #[.val (.ref a1), .val (.ref a2), .val (.ref a3), .val (.int fl), .val (.int us), .val (.int iv), .val (.long (((hi i).toInt64) - ((lo i).toInt64))), .second, .unset] [])) _
    refine XS.bipush X0.here hx rfl (hb hby d4_67) ?_
    show Steps p.tables e below (T0.setTop (mkF m 69 #[.val (.ref a1), .val (.ref a2), .val (.ref a3), .val (.int fl), .val (.int us), .val (.int iv), .val (.long (((hi i).toInt64) - ((lo i).toInt64))), .second, .unset] [(.int (64 : Int32))])) _
    refine XS.lload X0.here hx rfl (hb hby d4_69) rfl ?_
    exact kt
  clear R85
  obtain ⟨_, _, ⟨T88, L88, k88, n88⟩, -, X88, ⟨Lc88, hQ88, l88, y88, z88⟩, st88⟩ := Jvm.LawKit.callS X0 hx (y := (⟨"java/lang/Long", "numberOfLeadingZeros", "(J)I"⟩ : MethodName)) hown (mvT hZ (hw _ (List.mem_of_getElem? (i := 40) rfl))) (mvT hZ (hw _ (List.mem_of_getElem? (i := 41) rfl))) (mvT hZ (hw _ (List.mem_of_getElem? (i := 42) rfl))) (mvT hZ (hw _ (List.mem_of_getElem? (i := 43) rfl))) (by decide) (backOf (W := 1) (rm_lnlz l Z a0 hw [] (((hi i).toInt64) - ((lo i).toInt64)) h0 n0 Z0) hZ (hw _ (List.mem_of_getElem? (i := 43) rfl)) (hw _ (List.mem_of_getElem? (i := 42) rfl)) (by decide) (by decide)) (g := (mkF m 71 #[.val (.ref a1), .val (.ref a2), .val (.ref a3), .val (.int fl), .val (.int us), .val (.int iv), .val (.long (((hi i).toInt64) - ((lo i).toInt64))), .second, .unset] [(.long (((hi i).toInt64) - ((lo i).toInt64))), (.int (64 : Int32))])) rfl (by rw [hml]; rfl) (argsL := [(.long (((hi i).toInt64) - ((lo i).toInt64)))]) (rest := [(.int (64 : Int32))]) (lenOf pd_1 rfl) rfl (by show 2 * 0 + _ ≤ _; exact Nat.le_of_eq rfl) (hb hby d4_71) (fun _ _ => ⟨rfl, e0, (by decide : 4 + 0 ≤ _), (by decide : 12 + 0 ≤ _)⟩)
  dsimp only [Pt.U, Pt.locs, Pt.cells, Pt.slots] at X88 l88 y88 z88 st88 hQ88
  rw [l88, y88, z88] at X88
  obtain ⟨rfl, N88q, hh88⟩ := hQ88
  have N88 := Fr.app N0 N88q
  have R89 : ∀ t, Steps p.tables e below (T88.setTop (mkF m 75 #[.val (.ref a1), .val (.ref a2), .val (.ref a3), .val (.int fl), .val (.int us), .val (.int iv), .val (.long (((hi i).toInt64) - ((lo i).toInt64))), .second, .unset] [(.int ((64 : Int32) - (own_lnlz (((hi i).toInt64) - ((lo i).toInt64)))))])) t → Steps p.tables e below (T0.setTop (mkF m 47 #[.val (.ref a1), .val (.ref a2), .val (.ref a3), .val (.int fl), .val (.int us), .val (.int iv), .unset, .unset, .unset] [])) t := by
    intro t kt
    refine R87 _ ?_
    refine st88 _ ?_
    show Steps p.tables e below (T88.setTop (mkF m 74 #[.val (.ref a1), .val (.ref a2), .val (.ref a3), .val (.int fl), .val (.int us), .val (.int iv), .val (.long (((hi i).toInt64) - ((lo i).toInt64))), .second, .unset] [(.int (own_lnlz (((hi i).toInt64) - ((lo i).toInt64)))), (.int (64 : Int32))])) _
    refine XS.isub X88.here hx rfl (hb hby d4_74) rfl ?_
    exact kt
  clear R87 st88
  have R90 : ∀ t, Steps p.tables e below (T88.setTop (mkF m 75 #[.val (.ref a1), .val (.ref a2), .val (.ref a3), .val (.int fl), .val (.int us), .val (.int iv), .val (.long (((hi i).toInt64) - ((lo i).toInt64))), .second, .unset] [(.int (own_bits (lo i) (hi i)))])) t → Steps p.tables e below (T0.setTop (mkF m 47 #[.val (.ref a1), .val (.ref a2), .val (.ref a3), .val (.int fl), .val (.int us), .val (.int iv), .unset, .unset, .unset] [])) t := R89
  have R91 : ∀ t, Steps p.tables e below (T88.setTop (mkF m 84 #[.val (.ref a1), .val (.ref a2), .val (.ref a3), .val (.int fl), .val (.int us), .val (.int iv), .val (.long (((hi i).toInt64) - ((lo i).toInt64))), .second, .val (.int (own_bits (lo i) (hi i)))] [(.int (64 : Int32)), (.int (us + (own_bits (lo i) (hi i))))])) t → Steps p.tables e below (T0.setTop (mkF m 47 #[.val (.ref a1), .val (.ref a2), .val (.ref a3), .val (.int fl), .val (.int us), .val (.int iv), .unset, .unset, .unset] [])) t := by
    intro t kt
    refine R90 _ ?_
    show Steps p.tables e below (T88.setTop (mkF m 75 #[.val (.ref a1), .val (.ref a2), .val (.ref a3), .val (.int fl), .val (.int us), .val (.int iv), .val (.long (((hi i).toInt64) - ((lo i).toInt64))), .second, .unset] [(.int (own_bits (lo i) (hi i)))])) _
    refine XS.istore X88.here hx rfl (hb hby d4_75) rfl (l' := #[.val (.ref a1), .val (.ref a2), .val (.ref a3), .val (.int fl), .val (.int us), .val (.int iv), .val (.long (((hi i).toInt64) - ((lo i).toInt64))), .second, .val (.int (own_bits (lo i) (hi i)))]) rfl ?_
    show Steps p.tables e below (T88.setTop (mkF m 77 #[.val (.ref a1), .val (.ref a2), .val (.ref a3), .val (.int fl), .val (.int us), .val (.int iv), .val (.long (((hi i).toInt64) - ((lo i).toInt64))), .second, .val (.int (own_bits (lo i) (hi i)))] [])) _
    refine XS.iload X88.here hx rfl (hb hby d4_77) rfl ?_
    show Steps p.tables e below (T88.setTop (mkF m 79 #[.val (.ref a1), .val (.ref a2), .val (.ref a3), .val (.int fl), .val (.int us), .val (.int iv), .val (.long (((hi i).toInt64) - ((lo i).toInt64))), .second, .val (.int (own_bits (lo i) (hi i)))] [(.int us)])) _
    refine XS.iload X88.here hx rfl (hb hby d4_79) rfl ?_
    show Steps p.tables e below (T88.setTop (mkF m 81 #[.val (.ref a1), .val (.ref a2), .val (.ref a3), .val (.int fl), .val (.int us), .val (.int iv), .val (.long (((hi i).toInt64) - ((lo i).toInt64))), .second, .val (.int (own_bits (lo i) (hi i)))] [(.int (own_bits (lo i) (hi i))), (.int us)])) _
    refine XS.iadd X88.here hx rfl (hb hby d4_81) rfl ?_
    show Steps p.tables e below (T88.setTop (mkF m 82 #[.val (.ref a1), .val (.ref a2), .val (.ref a3), .val (.int fl), .val (.int us), .val (.int iv), .val (.long (((hi i).toInt64) - ((lo i).toInt64))), .second, .val (.int (own_bits (lo i) (hi i)))] [(.int (us + (own_bits (lo i) (hi i))))])) _
    refine XS.bipush X88.here hx rfl (hb hby d4_82) ?_
    exact kt
  clear R90
  by_cases hc84 : (64 : Int32) < (us + (own_bits (lo i) (hi i)))
  · have R92 : ∀ t, Steps p.tables e below (T88.setTop (mkF m 93 #[.val (.ref a1), .val (.ref a2), .val (.ref a3), .val (.int (fl + (1 : Int32))), .val (.int (0 : Int32)), .val (.int iv), .val (.long (((hi i).toInt64) - ((lo i).toInt64))), .second, .val (.int (own_bits (lo i) (hi i)))] [])) t → Steps p.tables e below (T0.setTop (mkF m 47 #[.val (.ref a1), .val (.ref a2), .val (.ref a3), .val (.int fl), .val (.int us), .val (.int iv), .unset, .unset, .unset] [])) t := by
      intro t kt
      refine R91 _ ?_
      show Steps p.tables e below (T88.setTop (mkF m 84 #[.val (.ref a1), .val (.ref a2), .val (.ref a3), .val (.int fl), .val (.int us), .val (.int iv), .val (.long (((hi i).toInt64) - ((lo i).toInt64))), .second, .val (.int (own_bits (lo i) (hi i)))] [(.int (64 : Int32)), (.int (us + (own_bits (lo i) (hi i))))])) _
      refine XS.icmpNo X88.here hx rfl (hb hby d4_84) rfl (tlt (hc84 : (64 : Int32) < (us + (own_bits (lo i) (hi i))))).2.2.2 ?_
      show Steps p.tables e below (T88.setTop (mkF m 87 #[.val (.ref a1), .val (.ref a2), .val (.ref a3), .val (.int fl), .val (.int us), .val (.int iv), .val (.long (((hi i).toInt64) - ((lo i).toInt64))), .second, .val (.int (own_bits (lo i) (hi i)))] [])) _
      refine XS.iinc X88.here hx rfl (hb hby d4_87) rfl (l' := #[.val (.ref a1), .val (.ref a2), .val (.ref a3), .val (.int (fl + (1 : Int32))), .val (.int us), .val (.int iv), .val (.long (((hi i).toInt64) - ((lo i).toInt64))), .second, .val (.int (own_bits (lo i) (hi i)))]) rfl ?_
      show Steps p.tables e below (T88.setTop (mkF m 90 #[.val (.ref a1), .val (.ref a2), .val (.ref a3), .val (.int (fl + (1 : Int32))), .val (.int us), .val (.int iv), .val (.long (((hi i).toInt64) - ((lo i).toInt64))), .second, .val (.int (own_bits (lo i) (hi i)))] [])) _
      refine XS.iconst X88.here hx rfl (hb hby d4_90) ?_
      show Steps p.tables e below (T88.setTop (mkF m 91 #[.val (.ref a1), .val (.ref a2), .val (.ref a3), .val (.int (fl + (1 : Int32))), .val (.int us), .val (.int iv), .val (.long (((hi i).toInt64) - ((lo i).toInt64))), .second, .val (.int (own_bits (lo i) (hi i)))] [(.int (0 : Int32))])) _
      refine XS.istore X88.here hx rfl (hb hby d4_91) rfl (l' := #[.val (.ref a1), .val (.ref a2), .val (.ref a3), .val (.int (fl + (1 : Int32))), .val (.int (0 : Int32)), .val (.int iv), .val (.long (((hi i).toInt64) - ((lo i).toInt64))), .second, .val (.int (own_bits (lo i) (hi i)))]) rfl ?_
      exact kt
    clear R91
    have R93 : ∀ t, Steps p.tables e below (T88.setTop (mkF m 93 #[.val (.ref a1), .val (.ref a2), .val (.ref a3), .val (.int (own_fl fl us (own_bits (lo i) (hi i)))), .val (.int (own_us us (own_bits (lo i) (hi i)))), .val (.int iv), .val (.long ((hi i).toInt64 - (lo i).toInt64)), .second, .val (.int (own_bits (lo i) (hi i)))] [])) t → Steps p.tables e below (T0.setTop (mkF m 47 #[.val (.ref a1), .val (.ref a2), .val (.ref a3), .val (.int fl), .val (.int us), .val (.int iv), .unset, .unset, .unset] [])) t := by rw [own_fl, own_us, if_pos hc84, if_pos hc84]; exact R92
    exact ⟨_, _, X88, hh88, N88, R93⟩
  · have R94 : ∀ t, Steps p.tables e below (T88.setTop (mkF m 93 #[.val (.ref a1), .val (.ref a2), .val (.ref a3), .val (.int fl), .val (.int us), .val (.int iv), .val (.long (((hi i).toInt64) - ((lo i).toInt64))), .second, .val (.int (own_bits (lo i) (hi i)))] [])) t → Steps p.tables e below (T0.setTop (mkF m 47 #[.val (.ref a1), .val (.ref a2), .val (.ref a3), .val (.int fl), .val (.int us), .val (.int iv), .unset, .unset, .unset] [])) t := by
      intro t kt
      refine R91 _ ?_
      show Steps p.tables e below (T88.setTop (mkF m 84 #[.val (.ref a1), .val (.ref a2), .val (.ref a3), .val (.int fl), .val (.int us), .val (.int iv), .val (.long (((hi i).toInt64) - ((lo i).toInt64))), .second, .val (.int (own_bits (lo i) (hi i)))] [(.int (64 : Int32)), (.int (us + (own_bits (lo i) (hi i))))])) _
      refine XS.icmpYes X88.here hx rfl (pc0 := 84) (pc' := 93) rfl (hb hby d4_84) rfl (flt (hc84 : ¬ ((64 : Int32) < (us + (own_bits (lo i) (hi i)))))).2.2.2 (by decide) (by decide) ?_
      exact kt
    clear R91
    have R95 : ∀ t, Steps p.tables e below (T88.setTop (mkF m 93 #[.val (.ref a1), .val (.ref a2), .val (.ref a3), .val (.int (own_fl fl us (own_bits (lo i) (hi i)))), .val (.int (own_us us (own_bits (lo i) (hi i)))), .val (.int iv), .val (.long ((hi i).toInt64 - (lo i).toInt64)), .second, .val (.int (own_bits (lo i) (hi i)))] [])) t → Steps p.tables e below (T0.setTop (mkF m 47 #[.val (.ref a1), .val (.ref a2), .val (.ref a3), .val (.int fl), .val (.int us), .val (.int iv), .unset, .unset, .unset] [])) t := by rw [own_fl, own_us, if_neg hc84, if_neg hc84]; exact R94
    exact ⟨_, _, X88, hh88, N88, R95⟩
set_option maxRecDepth 65536 in
set_option maxHeartbeats 40000000 in
theorem lp_c1B {p : Program} {l : Launch} {e : Env} {s : State} {m : MethodId} {args : Array Value} {below : List Frame} {meth : Method} {c : Code} {Z : State} {a0 : Array Value} {n0 : Nat} {T0 : State} {locs : List Loc} {h0 : Heap} (a1 : Addr) (a2 : Addr) (a3 : Addr) (fl : Int32) (us : Int32) (iv : Int32) (i : Nat) (lo : Nat → Int32) (hi : Nat → Int32) (q6 : Int64) (p8 : Int32) (X0 : Stand p l e ({ frames := 2, cells := 4, slots := 12, locals := 29 } : Room) s m args below meth c T0 locs 4 12) (hx : p.tables.exec = Jvm.exec) (hZ : Z.Warmed39 s.vm) (hw : ∀ d ∈ tables_1, d.before a0 Z = true) (hby : c.code = prog_37_method_1_code) (hml : c.maxLocals = 9) (hown : s.vm.findClass "com/example/inexact_odds/inexactodds/language/Encoding" = some m.cls) (e0 : T0.heap = h0) (N0 : Fr n0 locs) (Z0 : n0 ≤ h0.size) (VL : AV Z h0 a2 .int 3 (fun j => .int (lo j))) (VH : AV Z h0 a3 .int 3 (fun j => .int (hi j))) (hi0 : ¬ iv < 0) (hin : iv.toNatClampNeg = i) (hi3 : i < 3) (hlt : iv < (3 : Int32)) :
    ∃ (T' : State) (L' : List Loc), Stand p l e ({ frames := 2, cells := 4, slots := 12, locals := 29 } : Room) s m args below meth c T' L' 4 12 ∧ T'.heap = h0 ∧ Fr n0 L' ∧ ∀ t, Steps p.tables e below (T'.setTop (mkF m 93 #[.val (.ref a1), .val (.ref a2), .val (.ref a3), .val (.int (own_fl fl us (own_bits (lo i) (hi i)))), .val (.int (own_us us (own_bits (lo i) (hi i)))), .val (.int iv), .val (.long ((hi i).toInt64 - (lo i).toInt64)), .second, .val (.int (own_bits (lo i) (hi i)))] [])) t → Steps p.tables e below (T0.setTop (mkF m 47 #[.val (.ref a1), .val (.ref a2), .val (.ref a3), .val (.int fl), .val (.int us), .val (.int iv), .val (.long q6), .second, .val (.int p8)] [])) t := by
  have R96 : ∀ t, Steps p.tables e below (T0.setTop (mkF m 50 #[.val (.ref a1), .val (.ref a2), .val (.ref a3), .val (.int fl), .val (.int us), .val (.int iv), .val (.long q6), .second, .val (.int p8)] [(.ref a2), (.int iv)])) t → Steps p.tables e below (T0.setTop (mkF m 47 #[.val (.ref a1), .val (.ref a2), .val (.ref a3), .val (.int fl), .val (.int us), .val (.int iv), .val (.long q6), .second, .val (.int p8)] [])) t := by
    intro t kt
    refine (fun (t : State) (k : Steps p.tables e below (T0.setTop (mkF m 47 #[.val (.ref a1), .val (.ref a2), .val (.ref a3), .val (.int fl), .val (.int us), .val (.int iv), .val (.long q6), .second, .val (.int p8)] [])) t) => k) _ ?_
    show Steps p.tables e below (T0.setTop (mkF m 47 #[.val (.ref a1), .val (.ref a2), .val (.ref a3), .val (.int fl), .val (.int us), .val (.int iv), .val (.long q6), .second, .val (.int p8)] [])) _
    refine XS.iload X0.here hx rfl (hb hby d4_47) rfl ?_
    show Steps p.tables e below (T0.setTop (mkF m 49 #[.val (.ref a1), .val (.ref a2), .val (.ref a3), .val (.int fl), .val (.int us), .val (.int iv), .val (.long q6), .second, .val (.int p8)] [(.int iv)])) _
    refine XS.aloadN X0.here hx rfl (hb hby d4_49) rfl rfl ?_
    exact kt
  obtain ⟨cl97, Ar97, ln97⟩ := VL.len
  have R98 : ∀ t, Steps p.tables e below (T0.setTop (mkF m 57 #[.val (.ref a1), .val (.ref a2), .val (.ref a3), .val (.int fl), .val (.int us), .val (.int iv), .val (.long q6), .second, .val (.int p8)] [(.int iv), (.ref a3)])) t → Steps p.tables e below (T0.setTop (mkF m 47 #[.val (.ref a1), .val (.ref a2), .val (.ref a3), .val (.int fl), .val (.int us), .val (.int iv), .val (.long q6), .second, .val (.int p8)] [])) t := by
    intro t kt
    refine R96 _ ?_
    show Steps p.tables e below (T0.setTop (mkF m 50 #[.val (.ref a1), .val (.ref a2), .val (.ref a3), .val (.int fl), .val (.int us), .val (.int iv), .val (.long q6), .second, .val (.int p8)] [(.ref a2), (.int iv)])) _
    refine X0.arraylength hx (by rw [e0]; exact Ar97.1) (State.isArrayOf_alike hZ.alike Ar97.2.1) (g := (mkF m 50 #[.val (.ref a1), .val (.ref a2), .val (.ref a3), .val (.int fl), .val (.int us), .val (.int iv), .val (.long q6), .second, .val (.int p8)] [(.ref a2), (.int iv)])) rfl rfl (hb hby d4_50) _ ?_
    rw [ln97]
    show Steps p.tables e below (T0.setTop (mkF m 51 #[.val (.ref a1), .val (.ref a2), .val (.ref a3), .val (.int fl), .val (.int us), .val (.int iv), .val (.long q6), .second, .val (.int p8)] [(.int (3 : Int32)), (.int iv)])) _
    refine XS.icmpNo X0.here hx rfl (hb hby d4_51) rfl (tlt (hlt : iv < (3 : Int32))).2.1 ?_
    show Steps p.tables e below (T0.setTop (mkF m 54 #[.val (.ref a1), .val (.ref a2), .val (.ref a3), .val (.int fl), .val (.int us), .val (.int iv), .val (.long q6), .second, .val (.int p8)] [])) _
    refine XS.aloadN X0.here hx rfl (hb hby d4_54) rfl rfl ?_
    show Steps p.tables e below (T0.setTop (mkF m 55 #[.val (.ref a1), .val (.ref a2), .val (.ref a3), .val (.int fl), .val (.int us), .val (.int iv), .val (.long q6), .second, .val (.int p8)] [(.ref a3)])) _
    refine XS.iload X0.here hx rfl (hb hby d4_55) rfl ?_
    exact kt
  clear R96
  obtain ⟨cl99, Ar99, hin99, hat99⟩ := VH.at (j := iv) (k := i) hi0 hin hi3
  have R100 : ∀ t, Steps p.tables e below (T0.setTop (mkF m 62 #[.val (.ref a1), .val (.ref a2), .val (.ref a3), .val (.int fl), .val (.int us), .val (.int iv), .val (.long q6), .second, .val (.int p8)] [(.int iv), (.ref a2), (.long ((hi i).toInt64))])) t → Steps p.tables e below (T0.setTop (mkF m 47 #[.val (.ref a1), .val (.ref a2), .val (.ref a3), .val (.int fl), .val (.int us), .val (.int iv), .val (.long q6), .second, .val (.int p8)] [])) t := by
    intro t kt
    refine R98 _ ?_
    show Steps p.tables e below (T0.setTop (mkF m 57 #[.val (.ref a1), .val (.ref a2), .val (.ref a3), .val (.int fl), .val (.int us), .val (.int iv), .val (.long q6), .second, .val (.int p8)] [(.int iv), (.ref a3)])) _
    refine X0.iaload hx (j := iv) (v := (.int (hi i))) (by rw [e0]; exact Ar99.1) (State.isArrayOf_alike hZ.alike Ar99.2.1) Ar99.2.2 hin99 hat99 (g := (mkF m 57 #[.val (.ref a1), .val (.ref a2), .val (.ref a3), .val (.int fl), .val (.int us), .val (.int iv), .val (.long q6), .second, .val (.int p8)] [(.int iv), (.ref a3)])) rfl rfl (hb hby d4_57) _ ?_
    show Steps p.tables e below (T0.setTop (mkF m 58 #[.val (.ref a1), .val (.ref a2), .val (.ref a3), .val (.int fl), .val (.int us), .val (.int iv), .val (.long q6), .second, .val (.int p8)] [(.int (hi i))])) _
    refine XS.i2l X0.here hx rfl (hb hby d4_58) rfl ?_
    show Steps p.tables e below (T0.setTop (mkF m 59 #[.val (.ref a1), .val (.ref a2), .val (.ref a3), .val (.int fl), .val (.int us), .val (.int iv), .val (.long q6), .second, .val (.int p8)] [(.long ((hi i).toInt64))])) _
    refine XS.aloadN X0.here hx rfl (hb hby d4_59) rfl rfl ?_
    show Steps p.tables e below (T0.setTop (mkF m 60 #[.val (.ref a1), .val (.ref a2), .val (.ref a3), .val (.int fl), .val (.int us), .val (.int iv), .val (.long q6), .second, .val (.int p8)] [(.ref a2), (.long ((hi i).toInt64))])) _
    refine XS.iload X0.here hx rfl (hb hby d4_60) rfl ?_
    exact kt
  clear R98
  obtain ⟨cl101, Ar101, hin101, hat101⟩ := VL.at (j := iv) (k := i) hi0 hin hi3
  have R102 : ∀ t, Steps p.tables e below (T0.setTop (mkF m 71 #[.val (.ref a1), .val (.ref a2), .val (.ref a3), .val (.int fl), .val (.int us), .val (.int iv), .val (.long (((hi i).toInt64) - ((lo i).toInt64))), .second, .val (.int p8)] [(.long (((hi i).toInt64) - ((lo i).toInt64))), (.int (64 : Int32))])) t → Steps p.tables e below (T0.setTop (mkF m 47 #[.val (.ref a1), .val (.ref a2), .val (.ref a3), .val (.int fl), .val (.int us), .val (.int iv), .val (.long q6), .second, .val (.int p8)] [])) t := by
    intro t kt
    refine R100 _ ?_
    show Steps p.tables e below (T0.setTop (mkF m 62 #[.val (.ref a1), .val (.ref a2), .val (.ref a3), .val (.int fl), .val (.int us), .val (.int iv), .val (.long q6), .second, .val (.int p8)] [(.int iv), (.ref a2), (.long ((hi i).toInt64))])) _
    refine X0.iaload hx (j := iv) (v := (.int (lo i))) (by rw [e0]; exact Ar101.1) (State.isArrayOf_alike hZ.alike Ar101.2.1) Ar101.2.2 hin101 hat101 (g := (mkF m 62 #[.val (.ref a1), .val (.ref a2), .val (.ref a3), .val (.int fl), .val (.int us), .val (.int iv), .val (.long q6), .second, .val (.int p8)] [(.int iv), (.ref a2), (.long ((hi i).toInt64))])) rfl rfl (hb hby d4_62) _ ?_
    show Steps p.tables e below (T0.setTop (mkF m 63 #[.val (.ref a1), .val (.ref a2), .val (.ref a3), .val (.int fl), .val (.int us), .val (.int iv), .val (.long q6), .second, .val (.int p8)] [(.int (lo i)), (.long ((hi i).toInt64))])) _
    refine XS.i2l X0.here hx rfl (hb hby d4_63) rfl ?_
    show Steps p.tables e below (T0.setTop (mkF m 64 #[.val (.ref a1), .val (.ref a2), .val (.ref a3), .val (.int fl), .val (.int us), .val (.int iv), .val (.long q6), .second, .val (.int p8)] [(.long ((lo i).toInt64)), (.long ((hi i).toInt64))])) _
    refine XS.lsub X0.here hx rfl (hb hby d4_64) rfl ?_
    show Steps p.tables e below (T0.setTop (mkF m 65 #[.val (.ref a1), .val (.ref a2), .val (.ref a3), .val (.int fl), .val (.int us), .val (.int iv), .val (.long q6), .second, .val (.int p8)] [(.long (((hi i).toInt64) - ((lo i).toInt64)))])) _
    refine XS.lstore X0.here hx rfl (hb hby d4_65) rfl (l' := #[.val (.ref a1), .val (.ref a2), .val (.ref a3), .val (.int fl), .val (.int us), .val (.int iv), .val (.long (((hi i).toInt64) - ((lo i).toInt64))), .second, .val (.int p8)]) rfl ?_
    show Steps p.tables e below (T0.setTop (mkF m 67 #[.val (.ref a1), .val (.ref a2), .val (.ref a3), .val (.int fl), .val (.int us), .val (.int iv), .val (.long (((hi i).toInt64) - ((lo i).toInt64))), .second, .val (.int p8)] [])) _
    refine XS.bipush X0.here hx rfl (hb hby d4_67) ?_
    show Steps p.tables e below (T0.setTop (mkF m 69 #[.val (.ref a1), .val (.ref a2), .val (.ref a3), .val (.int fl), .val (.int us), .val (.int iv), .val (.long (((hi i).toInt64) - ((lo i).toInt64))), .second, .val (.int p8)] [(.int (64 : Int32))])) _
    refine XS.lload X0.here hx rfl (hb hby d4_69) rfl ?_
    exact kt
  clear R100
  obtain ⟨_, _, ⟨T103, L103, k103, n103⟩, -, X103, ⟨Lc103, hQ103, l103, y103, z103⟩, st103⟩ := Jvm.LawKit.callS X0 hx (y := (⟨"java/lang/Long", "numberOfLeadingZeros", "(J)I"⟩ : MethodName)) hown (mvT hZ (hw _ (List.mem_of_getElem? (i := 40) rfl))) (mvT hZ (hw _ (List.mem_of_getElem? (i := 41) rfl))) (mvT hZ (hw _ (List.mem_of_getElem? (i := 42) rfl))) (mvT hZ (hw _ (List.mem_of_getElem? (i := 43) rfl))) (by decide) (backOf (W := 1) (rm_lnlz l Z a0 hw [] (((hi i).toInt64) - ((lo i).toInt64)) h0 n0 Z0) hZ (hw _ (List.mem_of_getElem? (i := 43) rfl)) (hw _ (List.mem_of_getElem? (i := 42) rfl)) (by decide) (by decide)) (g := (mkF m 71 #[.val (.ref a1), .val (.ref a2), .val (.ref a3), .val (.int fl), .val (.int us), .val (.int iv), .val (.long (((hi i).toInt64) - ((lo i).toInt64))), .second, .val (.int p8)] [(.long (((hi i).toInt64) - ((lo i).toInt64))), (.int (64 : Int32))])) rfl (by rw [hml]; rfl) (argsL := [(.long (((hi i).toInt64) - ((lo i).toInt64)))]) (rest := [(.int (64 : Int32))]) (lenOf pd_1 rfl) rfl (by show 2 * 0 + _ ≤ _; exact Nat.le_of_eq rfl) (hb hby d4_71) (fun _ _ => ⟨rfl, e0, (by decide : 4 + 0 ≤ _), (by decide : 12 + 0 ≤ _)⟩)
  dsimp only [Pt.U, Pt.locs, Pt.cells, Pt.slots] at X103 l103 y103 z103 st103 hQ103
  rw [l103, y103, z103] at X103
  obtain ⟨rfl, N103q, hh103⟩ := hQ103
  have N103 := Fr.app N0 N103q
  have R104 : ∀ t, Steps p.tables e below (T103.setTop (mkF m 75 #[.val (.ref a1), .val (.ref a2), .val (.ref a3), .val (.int fl), .val (.int us), .val (.int iv), .val (.long (((hi i).toInt64) - ((lo i).toInt64))), .second, .val (.int p8)] [(.int ((64 : Int32) - (own_lnlz (((hi i).toInt64) - ((lo i).toInt64)))))])) t → Steps p.tables e below (T0.setTop (mkF m 47 #[.val (.ref a1), .val (.ref a2), .val (.ref a3), .val (.int fl), .val (.int us), .val (.int iv), .val (.long q6), .second, .val (.int p8)] [])) t := by
    intro t kt
    refine R102 _ ?_
    refine st103 _ ?_
    show Steps p.tables e below (T103.setTop (mkF m 74 #[.val (.ref a1), .val (.ref a2), .val (.ref a3), .val (.int fl), .val (.int us), .val (.int iv), .val (.long (((hi i).toInt64) - ((lo i).toInt64))), .second, .val (.int p8)] [(.int (own_lnlz (((hi i).toInt64) - ((lo i).toInt64)))), (.int (64 : Int32))])) _
    refine XS.isub X103.here hx rfl (hb hby d4_74) rfl ?_
    exact kt
  clear R102 st103
  have R105 : ∀ t, Steps p.tables e below (T103.setTop (mkF m 75 #[.val (.ref a1), .val (.ref a2), .val (.ref a3), .val (.int fl), .val (.int us), .val (.int iv), .val (.long (((hi i).toInt64) - ((lo i).toInt64))), .second, .val (.int p8)] [(.int (own_bits (lo i) (hi i)))])) t → Steps p.tables e below (T0.setTop (mkF m 47 #[.val (.ref a1), .val (.ref a2), .val (.ref a3), .val (.int fl), .val (.int us), .val (.int iv), .val (.long q6), .second, .val (.int p8)] [])) t := R104
  have R106 : ∀ t, Steps p.tables e below (T103.setTop (mkF m 84 #[.val (.ref a1), .val (.ref a2), .val (.ref a3), .val (.int fl), .val (.int us), .val (.int iv), .val (.long (((hi i).toInt64) - ((lo i).toInt64))), .second, .val (.int (own_bits (lo i) (hi i)))] [(.int (64 : Int32)), (.int (us + (own_bits (lo i) (hi i))))])) t → Steps p.tables e below (T0.setTop (mkF m 47 #[.val (.ref a1), .val (.ref a2), .val (.ref a3), .val (.int fl), .val (.int us), .val (.int iv), .val (.long q6), .second, .val (.int p8)] [])) t := by
    intro t kt
    refine R105 _ ?_
    show Steps p.tables e below (T103.setTop (mkF m 75 #[.val (.ref a1), .val (.ref a2), .val (.ref a3), .val (.int fl), .val (.int us), .val (.int iv), .val (.long (((hi i).toInt64) - ((lo i).toInt64))), .second, .val (.int p8)] [(.int (own_bits (lo i) (hi i)))])) _
    refine XS.istore X103.here hx rfl (hb hby d4_75) rfl (l' := #[.val (.ref a1), .val (.ref a2), .val (.ref a3), .val (.int fl), .val (.int us), .val (.int iv), .val (.long (((hi i).toInt64) - ((lo i).toInt64))), .second, .val (.int (own_bits (lo i) (hi i)))]) rfl ?_
    show Steps p.tables e below (T103.setTop (mkF m 77 #[.val (.ref a1), .val (.ref a2), .val (.ref a3), .val (.int fl), .val (.int us), .val (.int iv), .val (.long (((hi i).toInt64) - ((lo i).toInt64))), .second, .val (.int (own_bits (lo i) (hi i)))] [])) _
    refine XS.iload X103.here hx rfl (hb hby d4_77) rfl ?_
    show Steps p.tables e below (T103.setTop (mkF m 79 #[.val (.ref a1), .val (.ref a2), .val (.ref a3), .val (.int fl), .val (.int us), .val (.int iv), .val (.long (((hi i).toInt64) - ((lo i).toInt64))), .second, .val (.int (own_bits (lo i) (hi i)))] [(.int us)])) _
    refine XS.iload X103.here hx rfl (hb hby d4_79) rfl ?_
    show Steps p.tables e below (T103.setTop (mkF m 81 #[.val (.ref a1), .val (.ref a2), .val (.ref a3), .val (.int fl), .val (.int us), .val (.int iv), .val (.long (((hi i).toInt64) - ((lo i).toInt64))), .second, .val (.int (own_bits (lo i) (hi i)))] [(.int (own_bits (lo i) (hi i))), (.int us)])) _
    refine XS.iadd X103.here hx rfl (hb hby d4_81) rfl ?_
    show Steps p.tables e below (T103.setTop (mkF m 82 #[.val (.ref a1), .val (.ref a2), .val (.ref a3), .val (.int fl), .val (.int us), .val (.int iv), .val (.long (((hi i).toInt64) - ((lo i).toInt64))), .second, .val (.int (own_bits (lo i) (hi i)))] [(.int (us + (own_bits (lo i) (hi i))))])) _
    refine XS.bipush X103.here hx rfl (hb hby d4_82) ?_
    exact kt
  clear R105
  by_cases hc84 : (64 : Int32) < (us + (own_bits (lo i) (hi i)))
  · have R107 : ∀ t, Steps p.tables e below (T103.setTop (mkF m 93 #[.val (.ref a1), .val (.ref a2), .val (.ref a3), .val (.int (fl + (1 : Int32))), .val (.int (0 : Int32)), .val (.int iv), .val (.long (((hi i).toInt64) - ((lo i).toInt64))), .second, .val (.int (own_bits (lo i) (hi i)))] [])) t → Steps p.tables e below (T0.setTop (mkF m 47 #[.val (.ref a1), .val (.ref a2), .val (.ref a3), .val (.int fl), .val (.int us), .val (.int iv), .val (.long q6), .second, .val (.int p8)] [])) t := by
      intro t kt
      refine R106 _ ?_
      show Steps p.tables e below (T103.setTop (mkF m 84 #[.val (.ref a1), .val (.ref a2), .val (.ref a3), .val (.int fl), .val (.int us), .val (.int iv), .val (.long (((hi i).toInt64) - ((lo i).toInt64))), .second, .val (.int (own_bits (lo i) (hi i)))] [(.int (64 : Int32)), (.int (us + (own_bits (lo i) (hi i))))])) _
      refine XS.icmpNo X103.here hx rfl (hb hby d4_84) rfl (tlt (hc84 : (64 : Int32) < (us + (own_bits (lo i) (hi i))))).2.2.2 ?_
      show Steps p.tables e below (T103.setTop (mkF m 87 #[.val (.ref a1), .val (.ref a2), .val (.ref a3), .val (.int fl), .val (.int us), .val (.int iv), .val (.long (((hi i).toInt64) - ((lo i).toInt64))), .second, .val (.int (own_bits (lo i) (hi i)))] [])) _
      refine XS.iinc X103.here hx rfl (hb hby d4_87) rfl (l' := #[.val (.ref a1), .val (.ref a2), .val (.ref a3), .val (.int (fl + (1 : Int32))), .val (.int us), .val (.int iv), .val (.long (((hi i).toInt64) - ((lo i).toInt64))), .second, .val (.int (own_bits (lo i) (hi i)))]) rfl ?_
      show Steps p.tables e below (T103.setTop (mkF m 90 #[.val (.ref a1), .val (.ref a2), .val (.ref a3), .val (.int (fl + (1 : Int32))), .val (.int us), .val (.int iv), .val (.long (((hi i).toInt64) - ((lo i).toInt64))), .second, .val (.int (own_bits (lo i) (hi i)))] [])) _
      refine XS.iconst X103.here hx rfl (hb hby d4_90) ?_
      show Steps p.tables e below (T103.setTop (mkF m 91 #[.val (.ref a1), .val (.ref a2), .val (.ref a3), .val (.int (fl + (1 : Int32))), .val (.int us), .val (.int iv), .val (.long (((hi i).toInt64) - ((lo i).toInt64))), .second, .val (.int (own_bits (lo i) (hi i)))] [(.int (0 : Int32))])) _
      refine XS.istore X103.here hx rfl (hb hby d4_91) rfl (l' := #[.val (.ref a1), .val (.ref a2), .val (.ref a3), .val (.int (fl + (1 : Int32))), .val (.int (0 : Int32)), .val (.int iv), .val (.long (((hi i).toInt64) - ((lo i).toInt64))), .second, .val (.int (own_bits (lo i) (hi i)))]) rfl ?_
      exact kt
    clear R106
    have R108 : ∀ t, Steps p.tables e below (T103.setTop (mkF m 93 #[.val (.ref a1), .val (.ref a2), .val (.ref a3), .val (.int (own_fl fl us (own_bits (lo i) (hi i)))), .val (.int (own_us us (own_bits (lo i) (hi i)))), .val (.int iv), .val (.long ((hi i).toInt64 - (lo i).toInt64)), .second, .val (.int (own_bits (lo i) (hi i)))] [])) t → Steps p.tables e below (T0.setTop (mkF m 47 #[.val (.ref a1), .val (.ref a2), .val (.ref a3), .val (.int fl), .val (.int us), .val (.int iv), .val (.long q6), .second, .val (.int p8)] [])) t := by rw [own_fl, own_us, if_pos hc84, if_pos hc84]; exact R107
    exact ⟨_, _, X103, hh103, N103, R108⟩
  · have R109 : ∀ t, Steps p.tables e below (T103.setTop (mkF m 93 #[.val (.ref a1), .val (.ref a2), .val (.ref a3), .val (.int fl), .val (.int us), .val (.int iv), .val (.long (((hi i).toInt64) - ((lo i).toInt64))), .second, .val (.int (own_bits (lo i) (hi i)))] [])) t → Steps p.tables e below (T0.setTop (mkF m 47 #[.val (.ref a1), .val (.ref a2), .val (.ref a3), .val (.int fl), .val (.int us), .val (.int iv), .val (.long q6), .second, .val (.int p8)] [])) t := by
      intro t kt
      refine R106 _ ?_
      show Steps p.tables e below (T103.setTop (mkF m 84 #[.val (.ref a1), .val (.ref a2), .val (.ref a3), .val (.int fl), .val (.int us), .val (.int iv), .val (.long (((hi i).toInt64) - ((lo i).toInt64))), .second, .val (.int (own_bits (lo i) (hi i)))] [(.int (64 : Int32)), (.int (us + (own_bits (lo i) (hi i))))])) _
      refine XS.icmpYes X103.here hx rfl (pc0 := 84) (pc' := 93) rfl (hb hby d4_84) rfl (flt (hc84 : ¬ ((64 : Int32) < (us + (own_bits (lo i) (hi i)))))).2.2.2 (by decide) (by decide) ?_
      exact kt
    clear R106
    have R110 : ∀ t, Steps p.tables e below (T103.setTop (mkF m 93 #[.val (.ref a1), .val (.ref a2), .val (.ref a3), .val (.int (own_fl fl us (own_bits (lo i) (hi i)))), .val (.int (own_us us (own_bits (lo i) (hi i)))), .val (.int iv), .val (.long ((hi i).toInt64 - (lo i).toInt64)), .second, .val (.int (own_bits (lo i) (hi i)))] [])) t → Steps p.tables e below (T0.setTop (mkF m 47 #[.val (.ref a1), .val (.ref a2), .val (.ref a3), .val (.int fl), .val (.int us), .val (.int iv), .val (.long q6), .second, .val (.int p8)] [])) t := by rw [own_fl, own_us, if_neg hc84, if_neg hc84]; exact R109
    exact ⟨_, _, X103, hh103, N103, R110⟩
theorem d4_93 : decode prog_37_method_1_code 93 = .ok (.aload_n 0, 1) := by decide +kernel
theorem d4_94 : decode prog_37_method_1_code 94 = .ok (.getfield 18, 3) := by decide +kernel
theorem d4_97 : decode prog_37_method_1_code 97 = .ok (.iload 5, 2) := by decide +kernel
theorem d4_99 : decode prog_37_method_1_code 99 = .ok (.iload_n 3, 1) := by decide +kernel
theorem d4_100 : decode prog_37_method_1_code 100 = .ok (.iastore, 1) := by decide +kernel
theorem d4_101 : decode prog_37_method_1_code 101 = .ok (.aload_n 0, 1) := by decide +kernel
theorem d4_102 : decode prog_37_method_1_code 102 = .ok (.getfield 21, 3) := by decide +kernel
theorem d4_105 : decode prog_37_method_1_code 105 = .ok (.iload 5, 2) := by decide +kernel
theorem d4_107 : decode prog_37_method_1_code 107 = .ok (.bipush 64, 2) := by decide +kernel
theorem d4_109 : decode prog_37_method_1_code 109 = .ok (.iload 4, 2) := by decide +kernel
theorem d4_111 : decode prog_37_method_1_code 111 = .ok (.isub, 1) := by decide +kernel
theorem d4_112 : decode prog_37_method_1_code 112 = .ok (.iload 8, 2) := by decide +kernel
theorem d4_114 : decode prog_37_method_1_code 114 = .ok (.isub, 1) := by decide +kernel
theorem d4_115 : decode prog_37_method_1_code 115 = .ok (.iastore, 1) := by decide +kernel
theorem d4_116 : decode prog_37_method_1_code 116 = .ok (.aload_n 0, 1) := by decide +kernel
theorem d4_117 : decode prog_37_method_1_code 117 = .ok (.getfield 24, 3) := by decide +kernel
theorem d4_120 : decode prog_37_method_1_code 120 = .ok (.iload 5, 2) := by decide +kernel
theorem d4_122 : decode prog_37_method_1_code 122 = .ok (.iload 8, 2) := by decide +kernel
theorem d4_124 : decode prog_37_method_1_code 124 = .ok (.ifCond .ne 7, 3) := by decide +kernel
theorem d4_127 : decode prog_37_method_1_code 127 = .ok (.lconst 0, 1) := by decide +kernel
theorem d4_128 : decode prog_37_method_1_code 128 = .ok (.goto 12, 3) := by decide +kernel
theorem d4_140 : decode prog_37_method_1_code 140 = .ok (.lastore, 1) := by decide +kernel
theorem d4_141 : decode prog_37_method_1_code 141 = .ok (.iload 4, 2) := by decide +kernel
theorem d4_143 : decode prog_37_method_1_code 143 = .ok (.iload 8, 2) := by decide +kernel
theorem d4_145 : decode prog_37_method_1_code 145 = .ok (.iadd, 1) := by decide +kernel
theorem d4_146 : decode prog_37_method_1_code 146 = .ok (.istore 4, 2) := by decide +kernel
theorem d4_148 : decode prog_37_method_1_code 148 = .ok (.iinc 5 1, 3) := by decide +kernel
theorem d4_151 : decode prog_37_method_1_code 151 = .ok (.goto (-104), 3) := by decide +kernel
theorem d4_131 : decode prog_37_method_1_code 131 = .ok (.ldc2_w 34, 3) := by decide +kernel
theorem d4_134 : decode prog_37_method_1_code 134 = .ok (.bipush 64, 2) := by decide +kernel
theorem d4_136 : decode prog_37_method_1_code 136 = .ok (.iload 8, 2) := by decide +kernel
theorem d4_138 : decode prog_37_method_1_code 138 = .ok (.isub, 1) := by decide +kernel
theorem d4_139 : decode prog_37_method_1_code 139 = .ok (.lushr, 1) := by decide +kernel
set_option maxRecDepth 65536 in
set_option maxHeartbeats 40000000 in
theorem lp_c2 {p : Program} {l : Launch} {e : Env} {s : State} {m : MethodId} {args : Array Value} {below : List Frame} {meth : Method} {c : Code} {Z : State} {a0 : Array Value} {n0 : Nat} {T0 : State} {locs : List Loc} {h0 : Heap} (a1 : Addr) (a2 : Addr) (a3 : Addr) (b2 : Addr) (b3 : Addr) (b4 : Addr) (fl : Int32) (us : Int32) (iv : Int32) (q6 : Int64) (bb : Int32) (i : Nat) (fw : Nat → Int32) (fs : Nat → Int32) (fm : Nat → Int64) (X0 : Stand p l e ({ frames := 2, cells := 4, slots := 12, locals := 29 } : Room) s m args below meth c T0 locs 4 12) (hx : p.tables.exec = Jvm.exec) (hZ : Z.Warmed39 s.vm) (hw : ∀ d ∈ tables_1, d.before a0 Z = true) (hby : c.code = prog_37_method_1_code) (hml : c.maxLocals = 9) (hown : s.vm.findClass "com/example/inexact_odds/inexactodds/language/Encoding" = some m.cls) (e0 : T0.heap = h0) (N0 : Fr n0 locs) (Z0 : n0 ≤ h0.size) (Fw : Fld Z h0 a1 "com/example/inexact_odds/inexactodds/language/Encoding" "word" "[I" (.ref b2)) (Fs : Fld Z h0 a1 "com/example/inexact_odds/inexactodds/language/Encoding" "shift" "[I" (.ref b3)) (Fm : Fld Z h0 a1 "com/example/inexact_odds/inexactodds/language/Encoding" "mask" "[J" (.ref b4)) (VW : AV Z h0 b2 .int 3 (fun j => .int (fw j))) (VS : AV Z h0 b3 .int 3 (fun j => .int (fs j))) (VM : AV Z h0 b4 .long 3 (fun j => .long (fm j))) (gb2 : n0 ≤ b2) (gb3 : n0 ≤ b3) (gb4 : n0 ≤ b4) (n1b2 : a1 ≠ b2) (n1b3 : a1 ≠ b3) (n1b4 : a1 ≠ b4) (n23 : b2 ≠ b3) (n24 : b2 ≠ b4) (n34 : b3 ≠ b4) (hi0 : ¬ iv < 0) (hin : iv.toNatClampNeg = i) (hi3 : i < 3) :
    ∃ (T' : State) (h' : Heap) (L' : List Loc), Stand p l e ({ frames := 2, cells := 4, slots := 12, locals := 29 } : Room) s m args below meth c T' L' 4 12 ∧ T'.heap = h' ∧ Fr n0 L' ∧ Keep h0 h' [b2, b3, b4] ∧ AV Z h' b2 .int 3 (fun j => .int ((own_set fw i fl) j)) ∧ AV Z h' b3 .int 3 (fun j => .int ((own_set fs i (((64 : Int32) - us) - bb)) j)) ∧ AV Z h' b4 .long 3 (fun j => .long ((own_set fm i (own_mask bb)) j)) ∧ ∀ t, Steps p.tables e below (T'.setTop (mkF m 47 #[.val (.ref a1), .val (.ref a2), .val (.ref a3), .val (.int fl), .val (.int (us + bb)), .val (.int (iv + (1 : Int32))), .val (.long q6), .second, .val (.int bb)] [])) t → Steps p.tables e below (T0.setTop (mkF m 93 #[.val (.ref a1), .val (.ref a2), .val (.ref a3), .val (.int fl), .val (.int us), .val (.int iv), .val (.long q6), .second, .val (.int bb)] [])) t := by
  have R111 : ∀ t, Steps p.tables e below (T0.setTop (mkF m 94 #[.val (.ref a1), .val (.ref a2), .val (.ref a3), .val (.int fl), .val (.int us), .val (.int iv), .val (.long q6), .second, .val (.int bb)] [(.ref a1)])) t → Steps p.tables e below (T0.setTop (mkF m 93 #[.val (.ref a1), .val (.ref a2), .val (.ref a3), .val (.int fl), .val (.int us), .val (.int iv), .val (.long q6), .second, .val (.int bb)] [])) t := by
    intro t kt
    refine (fun (t : State) (k : Steps p.tables e below (T0.setTop (mkF m 93 #[.val (.ref a1), .val (.ref a2), .val (.ref a3), .val (.int fl), .val (.int us), .val (.int iv), .val (.long q6), .second, .val (.int bb)] [])) t) => k) _ ?_
    show Steps p.tables e below (T0.setTop (mkF m 93 #[.val (.ref a1), .val (.ref a2), .val (.ref a3), .val (.int fl), .val (.int us), .val (.int iv), .val (.long q6), .second, .val (.int bb)] [])) _
    refine XS.aloadN X0.here hx rfl (hb hby d4_93) rfl rfl ?_
    exact kt
  obtain ⟨T112, X112, e112, st112⟩ := getF X0 hx hZ hown (host := "") (Or.inl (hw _ (List.mem_of_getElem? (i := 33) rfl))) Via.refl e0 Fw (g := (mkF m 94 #[.val (.ref a1), .val (.ref a2), .val (.ref a3), .val (.int fl), .val (.int us), .val (.int iv), .val (.long q6), .second, .val (.int bb)] [(.ref a1)])) rfl rfl (hb hby d4_94)
  have R113 : ∀ t, Steps p.tables e below (T112.setTop (mkF m 100 #[.val (.ref a1), .val (.ref a2), .val (.ref a3), .val (.int fl), .val (.int us), .val (.int iv), .val (.long q6), .second, .val (.int bb)] [(.int fl), (.int iv), (.ref b2)])) t → Steps p.tables e below (T0.setTop (mkF m 93 #[.val (.ref a1), .val (.ref a2), .val (.ref a3), .val (.int fl), .val (.int us), .val (.int iv), .val (.long q6), .second, .val (.int bb)] [])) t := by
    intro t kt
    refine R111 _ ?_
    refine st112 _ ?_
    show Steps p.tables e below (T112.setTop (mkF m 97 #[.val (.ref a1), .val (.ref a2), .val (.ref a3), .val (.int fl), .val (.int us), .val (.int iv), .val (.long q6), .second, .val (.int bb)] [(.ref b2)])) _
    refine XS.iload X112.here hx rfl (hb hby d4_97) rfl ?_
    show Steps p.tables e below (T112.setTop (mkF m 99 #[.val (.ref a1), .val (.ref a2), .val (.ref a3), .val (.int fl), .val (.int us), .val (.int iv), .val (.long q6), .second, .val (.int bb)] [(.int iv), (.ref b2)])) _
    refine XS.iloadN X112.here hx rfl (hb hby d4_99) rfl ?_
    exact kt
  clear R111 st112
  obtain ⟨cl114, Ar114, hin114, -⟩ := VW.at (j := iv) (k := i) hi0 hin hi3
  obtain ⟨T115, h115, X115, e115, W115, st115⟩ := stI X112 hx hZ e112 Ar114 (j := iv) hin114 (g := (mkF m 100 #[.val (.ref a1), .val (.ref a2), .val (.ref a3), .val (.int fl), .val (.int us), .val (.int iv), .val (.long q6), .second, .val (.int bb)] [(.int fl), (.int iv), (.ref b2)])) rfl rfl (hb hby d4_100)
  have N115 := Fr.snoc X115 N0 gb2
  rw [show (iv : Int32).toNatClampNeg = i from hin] at W115
  have VW_115 : AV Z h115 b2 .int 3 (fun j => .int ((own_set fw i fl) j)) := VW.setI W115
  have Fw_115 := Fw.other W115 (Or.inl n1b2)
  have Fs_115 := Fs.other W115 (Or.inl n1b2)
  have Fm_115 := Fm.other W115 (Or.inl n1b2)
  have VS_115 := VS.other W115 (Ne.symm n23)
  have VM_115 := VM.other W115 (Ne.symm n24)
  have Zs115 : n0 ≤ h115.size := Nat.le_trans Z0 (Keep.of_wr W115).1
  have Kw115 : Keep h0 h115 [b2, b3, b4] := Keep.wr (Keep.refl h0 [b2, b3, b4]) W115 (Or.inl (List.mem_of_getElem? (i := 0) rfl))
  have R116 : ∀ t, Steps p.tables e below (T115.setTop (mkF m 102 #[.val (.ref a1), .val (.ref a2), .val (.ref a3), .val (.int fl), .val (.int us), .val (.int iv), .val (.long q6), .second, .val (.int bb)] [(.ref a1)])) t → Steps p.tables e below (T0.setTop (mkF m 93 #[.val (.ref a1), .val (.ref a2), .val (.ref a3), .val (.int fl), .val (.int us), .val (.int iv), .val (.long q6), .second, .val (.int bb)] [])) t := by
    intro t kt
    refine R113 _ ?_
    refine st115 _ ?_
    show Steps p.tables e below (T115.setTop (mkF m 101 #[.val (.ref a1), .val (.ref a2), .val (.ref a3), .val (.int fl), .val (.int us), .val (.int iv), .val (.long q6), .second, .val (.int bb)] [])) _
    refine XS.aloadN X115.here hx rfl (hb hby d4_101) rfl rfl ?_
    exact kt
  clear R113 st115
  obtain ⟨T117, X117, e117, st117⟩ := getF X115 hx hZ hown (host := "") (Or.inl (hw _ (List.mem_of_getElem? (i := 35) rfl))) Via.refl e115 Fs_115 (g := (mkF m 102 #[.val (.ref a1), .val (.ref a2), .val (.ref a3), .val (.int fl), .val (.int us), .val (.int iv), .val (.long q6), .second, .val (.int bb)] [(.ref a1)])) rfl rfl (hb hby d4_102)
  have R118 : ∀ t, Steps p.tables e below (T117.setTop (mkF m 115 #[.val (.ref a1), .val (.ref a2), .val (.ref a3), .val (.int fl), .val (.int us), .val (.int iv), .val (.long q6), .second, .val (.int bb)] [(.int (((64 : Int32) - us) - bb)), (.int iv), (.ref b3)])) t → Steps p.tables e below (T0.setTop (mkF m 93 #[.val (.ref a1), .val (.ref a2), .val (.ref a3), .val (.int fl), .val (.int us), .val (.int iv), .val (.long q6), .second, .val (.int bb)] [])) t := by
    intro t kt
    refine R116 _ ?_
    refine st117 _ ?_
    show Steps p.tables e below (T117.setTop (mkF m 105 #[.val (.ref a1), .val (.ref a2), .val (.ref a3), .val (.int fl), .val (.int us), .val (.int iv), .val (.long q6), .second, .val (.int bb)] [(.ref b3)])) _
    refine XS.iload X117.here hx rfl (hb hby d4_105) rfl ?_
    show Steps p.tables e below (T117.setTop (mkF m 107 #[.val (.ref a1), .val (.ref a2), .val (.ref a3), .val (.int fl), .val (.int us), .val (.int iv), .val (.long q6), .second, .val (.int bb)] [(.int iv), (.ref b3)])) _
    refine XS.bipush X117.here hx rfl (hb hby d4_107) ?_
    show Steps p.tables e below (T117.setTop (mkF m 109 #[.val (.ref a1), .val (.ref a2), .val (.ref a3), .val (.int fl), .val (.int us), .val (.int iv), .val (.long q6), .second, .val (.int bb)] [(.int (64 : Int32)), (.int iv), (.ref b3)])) _
    refine XS.iload X117.here hx rfl (hb hby d4_109) rfl ?_
    show Steps p.tables e below (T117.setTop (mkF m 111 #[.val (.ref a1), .val (.ref a2), .val (.ref a3), .val (.int fl), .val (.int us), .val (.int iv), .val (.long q6), .second, .val (.int bb)] [(.int us), (.int (64 : Int32)), (.int iv), (.ref b3)])) _
    refine XS.isub X117.here hx rfl (hb hby d4_111) rfl ?_
    show Steps p.tables e below (T117.setTop (mkF m 112 #[.val (.ref a1), .val (.ref a2), .val (.ref a3), .val (.int fl), .val (.int us), .val (.int iv), .val (.long q6), .second, .val (.int bb)] [(.int ((64 : Int32) - us)), (.int iv), (.ref b3)])) _
    refine XS.iload X117.here hx rfl (hb hby d4_112) rfl ?_
    show Steps p.tables e below (T117.setTop (mkF m 114 #[.val (.ref a1), .val (.ref a2), .val (.ref a3), .val (.int fl), .val (.int us), .val (.int iv), .val (.long q6), .second, .val (.int bb)] [(.int bb), (.int ((64 : Int32) - us)), (.int iv), (.ref b3)])) _
    refine XS.isub X117.here hx rfl (hb hby d4_114) rfl ?_
    exact kt
  clear R116 st117
  obtain ⟨cl119, Ar119, hin119, -⟩ := VS_115.at (j := iv) (k := i) hi0 hin hi3
  obtain ⟨T120, h120, X120, e120, W120, st120⟩ := stI X117 hx hZ e117 Ar119 (j := iv) hin119 (g := (mkF m 115 #[.val (.ref a1), .val (.ref a2), .val (.ref a3), .val (.int fl), .val (.int us), .val (.int iv), .val (.long q6), .second, .val (.int bb)] [(.int (((64 : Int32) - us) - bb)), (.int iv), (.ref b3)])) rfl rfl (hb hby d4_115)
  have N120 := Fr.snoc X120 N115 gb3
  rw [show (iv : Int32).toNatClampNeg = i from hin] at W120
  have VS_120 : AV Z h120 b3 .int 3 (fun j => .int ((own_set fs i (((64 : Int32) - us) - bb)) j)) := VS_115.setI W120
  have Fw_120 := Fw_115.other W120 (Or.inl n1b3)
  have Fs_120 := Fs_115.other W120 (Or.inl n1b3)
  have Fm_120 := Fm_115.other W120 (Or.inl n1b3)
  have VW_120 := VW_115.other W120 n23
  have VM_120 := VM_115.other W120 (Ne.symm n34)
  clear Fw_115 Fs_115 Fm_115 VW_115 VM_115
  have Zs120 : n0 ≤ h120.size := Nat.le_trans Zs115 (Keep.of_wr W120).1
  have Kw120 : Keep h0 h120 [b2, b3, b4] := Keep.wr Kw115 W120 (Or.inl (List.mem_of_getElem? (i := 1) rfl))
  have R121 : ∀ t, Steps p.tables e below (T120.setTop (mkF m 117 #[.val (.ref a1), .val (.ref a2), .val (.ref a3), .val (.int fl), .val (.int us), .val (.int iv), .val (.long q6), .second, .val (.int bb)] [(.ref a1)])) t → Steps p.tables e below (T0.setTop (mkF m 93 #[.val (.ref a1), .val (.ref a2), .val (.ref a3), .val (.int fl), .val (.int us), .val (.int iv), .val (.long q6), .second, .val (.int bb)] [])) t := by
    intro t kt
    refine R118 _ ?_
    refine st120 _ ?_
    show Steps p.tables e below (T120.setTop (mkF m 116 #[.val (.ref a1), .val (.ref a2), .val (.ref a3), .val (.int fl), .val (.int us), .val (.int iv), .val (.long q6), .second, .val (.int bb)] [])) _
    refine XS.aloadN X120.here hx rfl (hb hby d4_116) rfl rfl ?_
    exact kt
  clear R118 st120
  obtain ⟨T122, X122, e122, st122⟩ := getF X120 hx hZ hown (host := "") (Or.inl (hw _ (List.mem_of_getElem? (i := 38) rfl))) Via.refl e120 Fm_120 (g := (mkF m 117 #[.val (.ref a1), .val (.ref a2), .val (.ref a3), .val (.int fl), .val (.int us), .val (.int iv), .val (.long q6), .second, .val (.int bb)] [(.ref a1)])) rfl rfl (hb hby d4_117)
  have R123 : ∀ t, Steps p.tables e below (T122.setTop (mkF m 124 #[.val (.ref a1), .val (.ref a2), .val (.ref a3), .val (.int fl), .val (.int us), .val (.int iv), .val (.long q6), .second, .val (.int bb)] [(.int bb), (.int iv), (.ref b4)])) t → Steps p.tables e below (T0.setTop (mkF m 93 #[.val (.ref a1), .val (.ref a2), .val (.ref a3), .val (.int fl), .val (.int us), .val (.int iv), .val (.long q6), .second, .val (.int bb)] [])) t := by
    intro t kt
    refine R121 _ ?_
    refine st122 _ ?_
    show Steps p.tables e below (T122.setTop (mkF m 120 #[.val (.ref a1), .val (.ref a2), .val (.ref a3), .val (.int fl), .val (.int us), .val (.int iv), .val (.long q6), .second, .val (.int bb)] [(.ref b4)])) _
    refine XS.iload X122.here hx rfl (hb hby d4_120) rfl ?_
    show Steps p.tables e below (T122.setTop (mkF m 122 #[.val (.ref a1), .val (.ref a2), .val (.ref a3), .val (.int fl), .val (.int us), .val (.int iv), .val (.long q6), .second, .val (.int bb)] [(.int iv), (.ref b4)])) _
    refine XS.iload X122.here hx rfl (hb hby d4_122) rfl ?_
    exact kt
  clear R121 st122
  by_cases hc124 : bb = (0 : Int32)
  · have R124 : ∀ t, Steps p.tables e below (T122.setTop (mkF m 140 #[.val (.ref a1), .val (.ref a2), .val (.ref a3), .val (.int fl), .val (.int us), .val (.int iv), .val (.long q6), .second, .val (.int bb)] [(.long (0 : Int64)), (.int iv), (.ref b4)])) t → Steps p.tables e below (T0.setTop (mkF m 93 #[.val (.ref a1), .val (.ref a2), .val (.ref a3), .val (.int fl), .val (.int us), .val (.int iv), .val (.long q6), .second, .val (.int bb)] [])) t := by
      intro t kt
      refine R123 _ ?_
      show Steps p.tables e below (T122.setTop (mkF m 124 #[.val (.ref a1), .val (.ref a2), .val (.ref a3), .val (.int fl), .val (.int us), .val (.int iv), .val (.long q6), .second, .val (.int bb)] [(.int bb), (.int iv), (.ref b4)])) _
      refine XS.ifNo X122.here hx rfl (hb hby d4_124) rfl ((if0 _ _).trans (teq (hc124 : bb = (0 : Int32))).2) ?_
      show Steps p.tables e below (T122.setTop (mkF m 127 #[.val (.ref a1), .val (.ref a2), .val (.ref a3), .val (.int fl), .val (.int us), .val (.int iv), .val (.long q6), .second, .val (.int bb)] [(.int iv), (.ref b4)])) _
      refine XS.lconst X122.here hx rfl (hb hby d4_127) ?_
      show Steps p.tables e below (T122.setTop (mkF m 128 #[.val (.ref a1), .val (.ref a2), .val (.ref a3), .val (.int fl), .val (.int us), .val (.int iv), .val (.long q6), .second, .val (.int bb)] [(.long (0 : Int64)), (.int iv), (.ref b4)])) _
      refine XS.goto X122.here hx rfl (pc0 := 128) (pc' := 140) rfl (hb hby d4_128) (by decide) (by decide) ?_
      exact kt
    clear R123
    have R125 : ∀ t, Steps p.tables e below (T122.setTop (mkF m 140 #[.val (.ref a1), .val (.ref a2), .val (.ref a3), .val (.int fl), .val (.int us), .val (.int iv), .val (.long q6), .second, .val (.int bb)] [(.long (own_mask bb)), (.int iv), (.ref b4)])) t → Steps p.tables e below (T0.setTop (mkF m 93 #[.val (.ref a1), .val (.ref a2), .val (.ref a3), .val (.int fl), .val (.int us), .val (.int iv), .val (.long q6), .second, .val (.int bb)] [])) t := by rw [own_mask, if_pos hc124]; exact R124
    obtain ⟨cl126, Ar126, hin126, -⟩ := VM_120.at (j := iv) (k := i) hi0 hin hi3
    obtain ⟨T127, h127, X127, e127, W127, st127⟩ := stJ X122 hx hZ e122 Ar126 (j := iv) hin126 (g := (mkF m 140 #[.val (.ref a1), .val (.ref a2), .val (.ref a3), .val (.int fl), .val (.int us), .val (.int iv), .val (.long q6), .second, .val (.int bb)] [(.long (own_mask bb)), (.int iv), (.ref b4)])) rfl rfl (hb hby d4_140)
    have N127 := Fr.snoc X127 N120 gb4
    rw [show (iv : Int32).toNatClampNeg = i from hin] at W127
    have VM_127 : AV Z h127 b4 .long 3 (fun j => .long ((own_set fm i (own_mask bb)) j)) := VM_120.setJ W127
    have Fw_127 := Fw_120.other W127 (Or.inl n1b4)
    have Fs_127 := Fs_120.other W127 (Or.inl n1b4)
    have Fm_127 := Fm_120.other W127 (Or.inl n1b4)
    have VW_127 := VW_120.other W127 n24
    have VS_127 := VS_120.other W127 n34
    clear Fw_120 Fs_120 Fm_120 VW_120 VS_120
    have Zs127 : n0 ≤ h127.size := Nat.le_trans Zs120 (Keep.of_wr W127).1
    have Kw127 : Keep h0 h127 [b2, b3, b4] := Keep.wr Kw120 W127 (Or.inl (List.mem_of_getElem? (i := 2) rfl))
    have R128 : ∀ t, Steps p.tables e below (T127.setTop (mkF m 47 #[.val (.ref a1), .val (.ref a2), .val (.ref a3), .val (.int fl), .val (.int (us + bb)), .val (.int (iv + (1 : Int32))), .val (.long q6), .second, .val (.int bb)] [])) t → Steps p.tables e below (T0.setTop (mkF m 93 #[.val (.ref a1), .val (.ref a2), .val (.ref a3), .val (.int fl), .val (.int us), .val (.int iv), .val (.long q6), .second, .val (.int bb)] [])) t := by
      intro t kt
      refine R125 _ ?_
      refine st127 _ ?_
      show Steps p.tables e below (T127.setTop (mkF m 141 #[.val (.ref a1), .val (.ref a2), .val (.ref a3), .val (.int fl), .val (.int us), .val (.int iv), .val (.long q6), .second, .val (.int bb)] [])) _
      refine XS.iload X127.here hx rfl (hb hby d4_141) rfl ?_
      show Steps p.tables e below (T127.setTop (mkF m 143 #[.val (.ref a1), .val (.ref a2), .val (.ref a3), .val (.int fl), .val (.int us), .val (.int iv), .val (.long q6), .second, .val (.int bb)] [(.int us)])) _
      refine XS.iload X127.here hx rfl (hb hby d4_143) rfl ?_
      show Steps p.tables e below (T127.setTop (mkF m 145 #[.val (.ref a1), .val (.ref a2), .val (.ref a3), .val (.int fl), .val (.int us), .val (.int iv), .val (.long q6), .second, .val (.int bb)] [(.int bb), (.int us)])) _
      refine XS.iadd X127.here hx rfl (hb hby d4_145) rfl ?_
      show Steps p.tables e below (T127.setTop (mkF m 146 #[.val (.ref a1), .val (.ref a2), .val (.ref a3), .val (.int fl), .val (.int us), .val (.int iv), .val (.long q6), .second, .val (.int bb)] [(.int (us + bb))])) _
      refine XS.istore X127.here hx rfl (hb hby d4_146) rfl (l' := #[.val (.ref a1), .val (.ref a2), .val (.ref a3), .val (.int fl), .val (.int (us + bb)), .val (.int iv), .val (.long q6), .second, .val (.int bb)]) rfl ?_
      show Steps p.tables e below (T127.setTop (mkF m 148 #[.val (.ref a1), .val (.ref a2), .val (.ref a3), .val (.int fl), .val (.int (us + bb)), .val (.int iv), .val (.long q6), .second, .val (.int bb)] [])) _
      refine XS.iinc X127.here hx rfl (hb hby d4_148) rfl (l' := #[.val (.ref a1), .val (.ref a2), .val (.ref a3), .val (.int fl), .val (.int (us + bb)), .val (.int (iv + (1 : Int32))), .val (.long q6), .second, .val (.int bb)]) rfl ?_
      show Steps p.tables e below (T127.setTop (mkF m 151 #[.val (.ref a1), .val (.ref a2), .val (.ref a3), .val (.int fl), .val (.int (us + bb)), .val (.int (iv + (1 : Int32))), .val (.long q6), .second, .val (.int bb)] [])) _
      refine XS.goto X127.here hx rfl (pc0 := 151) (pc' := 47) rfl (hb hby d4_151) (by decide) (by decide) ?_
      exact kt
    clear R125 st127
    exact ⟨_, _, _, X127, e127, N127, Kw127, VW_127, VS_127, VM_127, R128⟩
  · have R129 : ∀ t, Steps p.tables e below (T122.setTop (mkF m 140 #[.val (.ref a1), .val (.ref a2), .val (.ref a3), .val (.int fl), .val (.int us), .val (.int iv), .val (.long q6), .second, .val (.int bb)] [(.long (((-1 : Int64).toUInt64 >>> (((64 : Int32) - bb) &&& 0x3f).toInt64.toUInt64).toInt64)), (.int iv), (.ref b4)])) t → Steps p.tables e below (T0.setTop (mkF m 93 #[.val (.ref a1), .val (.ref a2), .val (.ref a3), .val (.int fl), .val (.int us), .val (.int iv), .val (.long q6), .second, .val (.int bb)] [])) t := by
      intro t kt
      refine R123 _ ?_
      show Steps p.tables e below (T122.setTop (mkF m 124 #[.val (.ref a1), .val (.ref a2), .val (.ref a3), .val (.int fl), .val (.int us), .val (.int iv), .val (.long q6), .second, .val (.int bb)] [(.int bb), (.int iv), (.ref b4)])) _
      refine XS.ifYes X122.here hx rfl (pc0 := 124) (pc' := 131) rfl (hb hby d4_124) rfl ((if0 _ _).trans (feq (hc124 : ¬ (bb = (0 : Int32)))).2) (by decide) (by decide) ?_
      show Steps p.tables e below (T122.setTop (mkF m 131 #[.val (.ref a1), .val (.ref a2), .val (.ref a3), .val (.int fl), .val (.int us), .val (.int iv), .val (.long q6), .second, .val (.int bb)] [(.int iv), (.ref b4)])) _
      refine X122.ldc2Long hx hown (mvT hZ (hw _ (List.mem_of_getElem? (i := 49) rfl))) (g := (mkF m 131 #[.val (.ref a1), .val (.ref a2), .val (.ref a3), .val (.int fl), .val (.int us), .val (.int iv), .val (.long q6), .second, .val (.int bb)] [(.int iv), (.ref b4)])) rfl (hb hby d4_131) _ ?_
      show Steps p.tables e below (T122.setTop (mkF m 134 #[.val (.ref a1), .val (.ref a2), .val (.ref a3), .val (.int fl), .val (.int us), .val (.int iv), .val (.long q6), .second, .val (.int bb)] [(.long (-1 : Int64)), (.int iv), (.ref b4)])) _
      refine XS.bipush X122.here hx rfl (hb hby d4_134) ?_
      show Steps p.tables e below (T122.setTop (mkF m 136 #[.val (.ref a1), .val (.ref a2), .val (.ref a3), .val (.int fl), .val (.int us), .val (.int iv), .val (.long q6), .second, .val (.int bb)] [(.int (64 : Int32)), (.long (-1 : Int64)), (.int iv), (.ref b4)])) _
      refine XS.iload X122.here hx rfl (hb hby d4_136) rfl ?_
      show Steps p.tables e below (T122.setTop (mkF m 138 #[.val (.ref a1), .val (.ref a2), .val (.ref a3), .val (.int fl), .val (.int us), .val (.int iv), .val (.long q6), .second, .val (.int bb)] [(.int bb), (.int (64 : Int32)), (.long (-1 : Int64)), (.int iv), (.ref b4)])) _
      refine XS.isub X122.here hx rfl (hb hby d4_138) rfl ?_
      show Steps p.tables e below (T122.setTop (mkF m 139 #[.val (.ref a1), .val (.ref a2), .val (.ref a3), .val (.int fl), .val (.int us), .val (.int iv), .val (.long q6), .second, .val (.int bb)] [(.int ((64 : Int32) - bb)), (.long (-1 : Int64)), (.int iv), (.ref b4)])) _
      refine XS.lushr X122.here hx rfl (hb hby d4_139) rfl ?_
      exact kt
    clear R123
    have R130 : ∀ t, Steps p.tables e below (T122.setTop (mkF m 140 #[.val (.ref a1), .val (.ref a2), .val (.ref a3), .val (.int fl), .val (.int us), .val (.int iv), .val (.long q6), .second, .val (.int bb)] [(.long (own_mask bb)), (.int iv), (.ref b4)])) t → Steps p.tables e below (T0.setTop (mkF m 93 #[.val (.ref a1), .val (.ref a2), .val (.ref a3), .val (.int fl), .val (.int us), .val (.int iv), .val (.long q6), .second, .val (.int bb)] [])) t := by rw [own_mask, if_neg hc124]; exact R129
    obtain ⟨cl131, Ar131, hin131, -⟩ := VM_120.at (j := iv) (k := i) hi0 hin hi3
    obtain ⟨T132, h132, X132, e132, W132, st132⟩ := stJ X122 hx hZ e122 Ar131 (j := iv) hin131 (g := (mkF m 140 #[.val (.ref a1), .val (.ref a2), .val (.ref a3), .val (.int fl), .val (.int us), .val (.int iv), .val (.long q6), .second, .val (.int bb)] [(.long (own_mask bb)), (.int iv), (.ref b4)])) rfl rfl (hb hby d4_140)
    have N132 := Fr.snoc X132 N120 gb4
    rw [show (iv : Int32).toNatClampNeg = i from hin] at W132
    have VM_132 : AV Z h132 b4 .long 3 (fun j => .long ((own_set fm i (own_mask bb)) j)) := VM_120.setJ W132
    have Fw_132 := Fw_120.other W132 (Or.inl n1b4)
    have Fs_132 := Fs_120.other W132 (Or.inl n1b4)
    have Fm_132 := Fm_120.other W132 (Or.inl n1b4)
    have VW_132 := VW_120.other W132 n24
    have VS_132 := VS_120.other W132 n34
    clear Fw_120 Fs_120 Fm_120 VW_120 VS_120
    have Zs132 : n0 ≤ h132.size := Nat.le_trans Zs120 (Keep.of_wr W132).1
    have Kw132 : Keep h0 h132 [b2, b3, b4] := Keep.wr Kw120 W132 (Or.inl (List.mem_of_getElem? (i := 2) rfl))
    have R133 : ∀ t, Steps p.tables e below (T132.setTop (mkF m 47 #[.val (.ref a1), .val (.ref a2), .val (.ref a3), .val (.int fl), .val (.int (us + bb)), .val (.int (iv + (1 : Int32))), .val (.long q6), .second, .val (.int bb)] [])) t → Steps p.tables e below (T0.setTop (mkF m 93 #[.val (.ref a1), .val (.ref a2), .val (.ref a3), .val (.int fl), .val (.int us), .val (.int iv), .val (.long q6), .second, .val (.int bb)] [])) t := by
      intro t kt
      refine R130 _ ?_
      refine st132 _ ?_
      show Steps p.tables e below (T132.setTop (mkF m 141 #[.val (.ref a1), .val (.ref a2), .val (.ref a3), .val (.int fl), .val (.int us), .val (.int iv), .val (.long q6), .second, .val (.int bb)] [])) _
      refine XS.iload X132.here hx rfl (hb hby d4_141) rfl ?_
      show Steps p.tables e below (T132.setTop (mkF m 143 #[.val (.ref a1), .val (.ref a2), .val (.ref a3), .val (.int fl), .val (.int us), .val (.int iv), .val (.long q6), .second, .val (.int bb)] [(.int us)])) _
      refine XS.iload X132.here hx rfl (hb hby d4_143) rfl ?_
      show Steps p.tables e below (T132.setTop (mkF m 145 #[.val (.ref a1), .val (.ref a2), .val (.ref a3), .val (.int fl), .val (.int us), .val (.int iv), .val (.long q6), .second, .val (.int bb)] [(.int bb), (.int us)])) _
      refine XS.iadd X132.here hx rfl (hb hby d4_145) rfl ?_
      show Steps p.tables e below (T132.setTop (mkF m 146 #[.val (.ref a1), .val (.ref a2), .val (.ref a3), .val (.int fl), .val (.int us), .val (.int iv), .val (.long q6), .second, .val (.int bb)] [(.int (us + bb))])) _
      refine XS.istore X132.here hx rfl (hb hby d4_146) rfl (l' := #[.val (.ref a1), .val (.ref a2), .val (.ref a3), .val (.int fl), .val (.int (us + bb)), .val (.int iv), .val (.long q6), .second, .val (.int bb)]) rfl ?_
      show Steps p.tables e below (T132.setTop (mkF m 148 #[.val (.ref a1), .val (.ref a2), .val (.ref a3), .val (.int fl), .val (.int (us + bb)), .val (.int iv), .val (.long q6), .second, .val (.int bb)] [])) _
      refine XS.iinc X132.here hx rfl (hb hby d4_148) rfl (l' := #[.val (.ref a1), .val (.ref a2), .val (.ref a3), .val (.int fl), .val (.int (us + bb)), .val (.int (iv + (1 : Int32))), .val (.long q6), .second, .val (.int bb)]) rfl ?_
      show Steps p.tables e below (T132.setTop (mkF m 151 #[.val (.ref a1), .val (.ref a2), .val (.ref a3), .val (.int fl), .val (.int (us + bb)), .val (.int (iv + (1 : Int32))), .val (.long q6), .second, .val (.int bb)] [])) _
      refine XS.goto X132.here hx rfl (pc0 := 151) (pc' := 47) rfl (hb hby d4_151) (by decide) (by decide) ?_
      exact kt
    clear R130 st132
    exact ⟨_, _, _, X132, e132, N132, Kw132, VW_132, VS_132, VM_132, R133⟩
theorem pn_2 : plainName "com/example/inexact_odds/inexactodds/language/Encoding" = true := by first | (simp [plainName, overriddenIn]; done) | decide +kernel
theorem d4_0 : decode prog_37_method_1_code 0 = .ok (.aload_n 0, 1) := by decide +kernel
theorem d4_1 : decode prog_37_method_1_code 1 = .ok (.invokespecial 1, 3) := by decide +kernel
theorem d4_4 : decode prog_37_method_1_code 4 = .ok (.aload_n 0, 1) := by decide +kernel
theorem d4_5 : decode prog_37_method_1_code 5 = .ok (.aload_n 1, 1) := by decide +kernel
theorem d4_6 : decode prog_37_method_1_code 6 = .ok (.invokevirtual 7, 3) := by decide +kernel
theorem d4_9 : decode prog_37_method_1_code 9 = .ok (.checkcast 8, 3) := by decide +kernel
theorem d4_12 : decode prog_37_method_1_code 12 = .ok (.putfield 13, 3) := by decide +kernel
theorem d4_15 : decode prog_37_method_1_code 15 = .ok (.aload_n 0, 1) := by decide +kernel
theorem d4_16 : decode prog_37_method_1_code 16 = .ok (.aload_n 1, 1) := by decide +kernel
theorem d4_17 : decode prog_37_method_1_code 17 = .ok (.arraylength, 1) := by decide +kernel
theorem d4_18 : decode prog_37_method_1_code 18 = .ok (.newarray .int, 2) := by decide +kernel
theorem d4_20 : decode prog_37_method_1_code 20 = .ok (.putfield 18, 3) := by decide +kernel
theorem d4_23 : decode prog_37_method_1_code 23 = .ok (.aload_n 0, 1) := by decide +kernel
theorem d4_24 : decode prog_37_method_1_code 24 = .ok (.aload_n 1, 1) := by decide +kernel
theorem d4_25 : decode prog_37_method_1_code 25 = .ok (.arraylength, 1) := by decide +kernel
theorem d4_26 : decode prog_37_method_1_code 26 = .ok (.newarray .int, 2) := by decide +kernel
theorem d4_28 : decode prog_37_method_1_code 28 = .ok (.putfield 21, 3) := by decide +kernel
theorem d4_31 : decode prog_37_method_1_code 31 = .ok (.aload_n 0, 1) := by decide +kernel
theorem d4_32 : decode prog_37_method_1_code 32 = .ok (.aload_n 1, 1) := by decide +kernel
theorem d4_33 : decode prog_37_method_1_code 33 = .ok (.arraylength, 1) := by decide +kernel
theorem d4_34 : decode prog_37_method_1_code 34 = .ok (.newarray .long, 2) := by decide +kernel
theorem d4_36 : decode prog_37_method_1_code 36 = .ok (.putfield 24, 3) := by decide +kernel
theorem d4_39 : decode prog_37_method_1_code 39 = .ok (.iconst 0, 1) := by decide +kernel
theorem d4_40 : decode prog_37_method_1_code 40 = .ok (.istore_n 3, 1) := by decide +kernel
theorem d4_41 : decode prog_37_method_1_code 41 = .ok (.iconst 0, 1) := by decide +kernel
theorem d4_42 : decode prog_37_method_1_code 42 = .ok (.istore 4, 2) := by decide +kernel
theorem d4_44 : decode prog_37_method_1_code 44 = .ok (.iconst 0, 1) := by decide +kernel
theorem d4_45 : decode prog_37_method_1_code 45 = .ok (.istore 5, 2) := by decide +kernel
theorem d4_154 : decode prog_37_method_1_code 154 = .ok (.aload_n 0, 1) := by decide +kernel
theorem d4_155 : decode prog_37_method_1_code 155 = .ok (.iload_n 3, 1) := by decide +kernel
theorem d4_156 : decode prog_37_method_1_code 156 = .ok (.iconst 1, 1) := by decide +kernel
theorem d4_157 : decode prog_37_method_1_code 157 = .ok (.iadd, 1) := by decide +kernel
theorem d4_158 : decode prog_37_method_1_code 158 = .ok (.putfield 36, 3) := by decide +kernel
theorem d4_161 : decode prog_37_method_1_code 161 = .ok (.return_, 1) := by decide +kernel
theorem ef_rm_enc (m : MethodId) (a1 : Addr) (a2 : Addr) (a3 : Addr) : entryFrame m #[(.ref a1), (.ref a2), (.ref a3)] 9 = mkF m 0 #[.val (.ref a1), .val (.ref a2), .val (.ref a3), .unset, .unset, .unset, .unset, .unset, .unset] [] := by first | (simp [entryFrame, mkF, argsToLocals, Value.category]; done) | rfl
def Q_rm_enc (Z : State) (a1 : Addr) (a2 : Addr) (a3 : Addr) (lo : Nat → Int32) (hi : Nat → Int32) (h0 : Heap) (n0 : Nat) (v : Option Value) (h : Heap) (L : List Loc) : Prop := v = none ∧ Fr n0 L ∧ Keep h0 h [a1] ∧ Exa Z h a1 "com/example/inexact_odds/inexactodds/language/Encoding" ∧ ∃ b1 b2 b3 b4 : Addr, Fld Z h a1 "com/example/inexact_odds/inexactodds/language/Encoding" "low" "[I" (.ref b1) ∧ Fld Z h a1 "com/example/inexact_odds/inexactodds/language/Encoding" "word" "[I" (.ref b2) ∧ Fld Z h a1 "com/example/inexact_odds/inexactodds/language/Encoding" "shift" "[I" (.ref b3) ∧ Fld Z h a1 "com/example/inexact_odds/inexactodds/language/Encoding" "mask" "[J" (.ref b4) ∧ Fld Z h a1 "com/example/inexact_odds/inexactodds/language/Encoding" "words" "I" (.int ((own_F lo hi 3).1 + (1 : Int32))) ∧ AV Z h b1 .int 3 (fun j => .int (lo j)) ∧ AV Z h b2 .int 3 (fun j => .int ((own_wd lo hi) j)) ∧ AV Z h b3 .int 3 (fun j => .int ((own_sf lo hi) j)) ∧ AV Z h b4 .long 3 (fun j => .long ((own_mk lo hi) j))
set_option maxRecDepth 65536 in
set_option maxHeartbeats 40000000 in
theorem rm_enc (l : Launch) (Z : State) (a0 : Array Value) (hw : ∀ d ∈ tables_1, d.before a0 Z = true) (ws : List Jvm.Cond) (a1 : Addr) (a2 : Addr) (a3 : Addr) (lo : Nat → Int32) (hi : Nat → Int32) (h0 : Heap) (n0 : Nat) (Z0 : n0 ≤ h0.size) (E1 : Exa Z h0 a1 "com/example/inexact_odds/inexactodds/language/Encoding") (Fl : Fld Z h0 a1 "com/example/inexact_odds/inexactodds/language/Encoding" "low" "[I" .null) (Fw : Fld Z h0 a1 "com/example/inexact_odds/inexactodds/language/Encoding" "word" "[I" .null) (Fs : Fld Z h0 a1 "com/example/inexact_odds/inexactodds/language/Encoding" "shift" "[I" .null) (Fm : Fld Z h0 a1 "com/example/inexact_odds/inexactodds/language/Encoding" "mask" "[J" .null) (Fc : Fld Z h0 a1 "com/example/inexact_odds/inexactodds/language/Encoding" "words" "I" (.int (0 : Int32))) (VL : AV Z h0 a2 .int 3 (fun j => .int (lo j))) (VH : AV Z h0 a3 .int 3 (fun j => .int (hi j))) (EL : Exa Z h0 a2 "[I") (ga : n0 ≤ a1) (n12 : a1 ≠ a2) (n13 : a1 ≠ a3) :
    MetFree l (⟨"com/example/inexact_odds/inexactodds/language/Encoding", "<init>", "([I[I)V"⟩ : MethodName) (head1 (Jvm.Cond.code (⟨"com/example/inexact_odds/inexactodds/language/Encoding", "<init>", "([I[I)V"⟩ : MethodName) prog_37_method_1_code 9 none :: ws) ({ frames := 2, cells := 4, slots := 12, locals := 29 } : Room)) (fun a U => a = #[(.ref a1), (.ref a2), (.ref a3)] ∧ Z.Warmed39 U.vm ∧ U.heap = h0) (fun _ _ _ _ _ => True) (fun _ U oC U' => ∃ v L, oC = .returned v ∧ Q_rm_enc Z a1 a2 a3 lo hi h0 n0 v U'.heap L ∧ FrameEnd U oC U' L ({ frames := 2, cells := 4, slots := 12, locals := 29 } : Room).cells ({ frames := 2, cells := 4, slots := 12, locals := 29 } : Room).slots) := by
  refine MetFree.of_bodySF (plainFor_of_name pn_2) hisR ?_
  intro p e s m args below meth c s₁ Bd hml0 hP hK
  obtain ⟨rfl, hZ, hh⟩ := hP
  have hx := Bd.exec
  have hby := Bd.bytes
  have hml : c.maxLocals = 9 := hml0
  have hown : s.vm.findClass "com/example/inexact_odds/inexactodds/language/Encoding" = some m.cls := findClass_of_methodNamed Bd.named
  have hnm := (name_of_methodNamed Bd.named Bd.method).1
  have X0 : Stand p l e ({ frames := 2, cells := 4, slots := 12, locals := 29 } : Room) s m #[(.ref a1), (.ref a2), (.ref a3)] below meth c s₁ [] 0 0 := Stand.of_body Bd
  have e0 : s₁.heap = h0 := by rw [← hh, Bd.state]; rfl
  have N0 := Fr.nil n0
  have pre0 : ∀ t, Steps p.tables e below (s₁.setTop (mkF m 0 #[.val (.ref a1), .val (.ref a2), .val (.ref a3), .unset, .unset, .unset, .unset, .unset, .unset] [])) t → Steps p.tables e below (s₁.setTop (entryFrame m #[(.ref a1), (.ref a2), (.ref a3)] 9)) t := fun t k => castTop (ef_rm_enc m a1 a2 a3) k
  have pre00 : ∀ t, Steps p.tables e below (s₁.setTop (mkF m 0 #[.val (.ref a1), .val (.ref a2), .val (.ref a3), .unset, .unset, .unset, .unset, .unset, .unset] [])) t → Steps p.tables e below (s₁.setTop (mkF m 0 #[.val (.ref a1), .val (.ref a2), .val (.ref a3), .unset, .unset, .unset, .unset, .unset, .unset] [])) t := fun _ k => k
  have R134 : ∀ t, Steps p.tables e below (s₁.setTop (mkF m 1 #[.val (.ref a1), .val (.ref a2), .val (.ref a3), .unset, .unset, .unset, .unset, .unset, .unset] [(.ref a1)])) t → Steps p.tables e below (s₁.setTop (mkF m 0 #[.val (.ref a1), .val (.ref a2), .val (.ref a3), .unset, .unset, .unset, .unset, .unset, .unset] [])) t := by
    intro t kt
    refine pre00 _ ?_
    show Steps p.tables e below (s₁.setTop (mkF m 0 #[.val (.ref a1), .val (.ref a2), .val (.ref a3), .unset, .unset, .unset, .unset, .unset, .unset] [])) _
    refine XS.aloadN X0.here hx rfl (hb hby d4_0) rfl rfl ?_
    exact kt
  obtain ⟨T135, X135, e135, st135⟩ := initO X0 hx hZ hown (hw _ (List.mem_of_getElem? (i := 19) rfl)) (hw _ (List.mem_of_getElem? (i := 20) rfl)) (hw _ (List.mem_of_getElem? (i := 21) rfl)) e0 (g := (mkF m 1 #[.val (.ref a1), .val (.ref a2), .val (.ref a3), .unset, .unset, .unset, .unset, .unset, .unset] [(.ref a1)])) rfl (by rw [hml]; rfl) rfl (hb hby d4_1) (by decide) (W := 0) (by show 2 * 0 + _ ≤ _; exact Nat.le_of_eq rfl) (by decide)
  have R136 : ∀ t, Steps p.tables e below (T135.setTop (mkF m 6 #[.val (.ref a1), .val (.ref a2), .val (.ref a3), .unset, .unset, .unset, .unset, .unset, .unset] [(.ref a2), (.ref a1)])) t → Steps p.tables e below (s₁.setTop (mkF m 0 #[.val (.ref a1), .val (.ref a2), .val (.ref a3), .unset, .unset, .unset, .unset, .unset, .unset] [])) t := by
    intro t kt
    refine R134 _ ?_
    refine st135 _ ?_
    show Steps p.tables e below (T135.setTop (mkF m 4 #[.val (.ref a1), .val (.ref a2), .val (.ref a3), .unset, .unset, .unset, .unset, .unset, .unset] [])) _
    refine XS.aloadN X135.here hx rfl (hb hby d4_4) rfl rfl ?_
    show Steps p.tables e below (T135.setTop (mkF m 5 #[.val (.ref a1), .val (.ref a2), .val (.ref a3), .unset, .unset, .unset, .unset, .unset, .unset] [(.ref a1)])) _
    refine XS.aloadN X135.here hx rfl (hb hby d4_5) rfl rfl ?_
    exact kt
  clear R134 st135
  obtain ⟨cl137, Ar137, Sz137, Hv137⟩ := id VL
  obtain ⟨T137, h137, X137, e137, E137, A137, Q137, st137⟩ := cloneA X135 hx hZ hown (ad := "[I") (hw _ (List.mem_of_getElem? (i := 22) rfl)) (hw _ (List.mem_of_getElem? (i := 23) rfl)) (hw _ (List.mem_of_getElem? (i := 27) rfl)) (hw _ (List.mem_of_getElem? (i := 25) rfl)) (hw _ (List.mem_of_getElem? (i := 26) rfl)) (hw _ (List.mem_of_getElem? (i := 28) rfl)) e135 Ar137 EL (fitC_of Ar137 fun i hi v hv => by rw [(Hv137 i (by omega)).1] at hv; cases hv; exact (Hv137 i (by omega)).2) (g := (mkF m 6 #[.val (.ref a1), .val (.ref a2), .val (.ref a3), .unset, .unset, .unset, .unset, .unset, .unset] [(.ref a2), (.ref a1)])) rfl (by rw [hml]; rfl) rfl (hb hby d4_6) (by decide) (W := 1) (cap := 3) (by show 2 * 0 + _ ≤ _; exact Nat.le_of_eq rfl) (by decide) (Nat.le_of_eq Sz137) (by decide) (by decide)
  obtain ⟨b1, g137⟩ : ∃ z, z = h0.size := ⟨_, rfl⟩
  rw [← g137] at A137 Q137 st137
  have g_b1 : n0 ≤ b1 := Nat.le_trans Z0 (Nat.le_of_eq g137.symm)
  have sz_b1 : h0.size ≤ b1 := Nat.le_trans (Keep.refl h0 [a1]).1 (Nat.le_of_eq g137.symm)
  have ne_a1_b1 : a1 ≠ b1 := Nat.ne_of_lt (Nat.lt_of_lt_of_le Fl.lt (Nat.le_of_eq g137.symm))
  have ne_a2_b1 : a2 ≠ b1 := Nat.ne_of_lt (Nat.lt_of_lt_of_le EL.lt (Nat.le_of_eq g137.symm))
  have ne_a3_b1 : a3 ≠ b1 := Nat.ne_of_lt (Nat.lt_of_lt_of_le VH.lt (Nat.le_of_eq g137.symm))
  have Fl_137 := Fl.ext E137
  have Fw_137 := Fw.ext E137
  have Fs_137 := Fs.ext E137
  have Fm_137 := Fm.ext E137
  have Fc_137 := Fc.ext E137
  have E_a1_137 := E1.ext E137
  have E_a2_137 := EL.ext E137
  have VL_137 := VL.ext E137
  have VH_137 := VH.ext E137
  have Zs137 : n0 ≤ h137.size := Nat.le_trans Z0 E137.1
  have Ke137 : Keep h0 h137 [a1] := Keep.ext (Keep.refl h0 [a1]) E137
  have VB1 : AV Z h137 b1 .int 3 (fun j => .int (lo j)) := ⟨_, A137, Sz137, Hv137⟩
  have E_b1 := Q137
  have R138 : ∀ t, Steps p.tables e below (T137.setTop (mkF m 9 #[.val (.ref a1), .val (.ref a2), .val (.ref a3), .unset, .unset, .unset, .unset, .unset, .unset] [(.ref b1), (.ref a1)])) t → Steps p.tables e below (s₁.setTop (mkF m 0 #[.val (.ref a1), .val (.ref a2), .val (.ref a3), .unset, .unset, .unset, .unset, .unset, .unset] [])) t := by
    intro t kt
    refine R136 _ ?_
    refine st137 _ ?_
    exact kt
  clear R136 st137
  obtain ⟨T139, X139, e139, st139⟩ := castY X137 hx hZ hown (hw _ (List.mem_of_getElem? (i := 29) rfl)) e137 (Ins.self E_b1) (g := (mkF m 9 #[.val (.ref a1), .val (.ref a2), .val (.ref a3), .unset, .unset, .unset, .unset, .unset, .unset] [(.ref b1), (.ref a1)])) rfl rfl (hb hby d4_9)
  have R140 : ∀ t, Steps p.tables e below (T139.setTop (mkF m 12 #[.val (.ref a1), .val (.ref a2), .val (.ref a3), .unset, .unset, .unset, .unset, .unset, .unset] [(.ref b1), (.ref a1)])) t → Steps p.tables e below (s₁.setTop (mkF m 0 #[.val (.ref a1), .val (.ref a2), .val (.ref a3), .unset, .unset, .unset, .unset, .unset, .unset] [])) t := by
    intro t kt
    refine R138 _ ?_
    refine st139 _ ?_
    exact kt
  clear R138 st139
  obtain ⟨T141, h141, X141, e141, W141, st141⟩ := putF X139 hx hZ hown (host := "") (Or.inl (hw _ (List.mem_of_getElem? (i := 31) rfl))) Via.refl e139 Fl_137 E_a1_137 (Or.inr ⟨(hw _ (List.mem_of_getElem? (i := 32) rfl)), rfl, hnm⟩) (hw _ (List.mem_of_getElem? (i := 14) rfl)) (ty := (.array .int)) (by decide) rfl rfl (g := (mkF m 12 #[.val (.ref a1), .val (.ref a2), .val (.ref a3), .unset, .unset, .unset, .unset, .unset, .unset] [(.ref b1), (.ref a1)])) rfl rfl (hb hby d4_12)
  have N141 := Fr.snoc X141 N0 ga
  have Fl_141 := Fl_137.same W141
  have Fw_141 := Fw_137.other W141 (Or.inr (slot_ne (Or.inr (hw _ (List.mem_of_getElem? (i := 34) rfl))) (Or.inr (hw _ (List.mem_of_getElem? (i := 32) rfl))) (by decide) (t := (.array .int)) (t' := (.array .int)) (by decide) (by decide)))
  have Fs_141 := Fs_137.other W141 (Or.inr (slot_ne (Or.inr (hw _ (List.mem_of_getElem? (i := 36) rfl))) (Or.inr (hw _ (List.mem_of_getElem? (i := 32) rfl))) (by decide) (t := (.array .int)) (t' := (.array .int)) (by decide) (by decide)))
  have Fm_141 := Fm_137.other W141 (Or.inr (slot_ne (Or.inr (hw _ (List.mem_of_getElem? (i := 39) rfl))) (Or.inr (hw _ (List.mem_of_getElem? (i := 32) rfl))) (by decide) (t := (.array .long)) (t' := (.array .int)) (by decide) (by decide)))
  have Fc_141 := Fc_137.other W141 (Or.inr (slot_ne (Or.inr (hw _ (List.mem_of_getElem? (i := 51) rfl))) (Or.inr (hw _ (List.mem_of_getElem? (i := 32) rfl))) (by decide) (t := .int) (t' := (.array .int)) (by decide) (by decide)))
  have E_a1_141 := E_a1_137.wr W141
  have E_a2_141 := E_a2_137.wr W141
  have VL_141 := VL_137.other W141 (Ne.symm n12)
  have VH_141 := VH_137.other W141 (Ne.symm n13)
  have VB1_141 := VB1.other W141 (Ne.symm ne_a1_b1)
  have E_b1_141 := E_b1.wr W141
  clear Fw_137 Fs_137 Fm_137 Fc_137 E_a1_137 E_a2_137 VL_137 VH_137
  have Zs141 : n0 ≤ h141.size := Nat.le_trans Zs137 (Keep.of_wr W141).1
  have Kw141 : Keep h0 h141 [a1] := Keep.wr Ke137 W141 (Or.inl (List.mem_of_getElem? (i := 0) rfl))
  have R142 : ∀ t, Steps p.tables e below (T141.setTop (mkF m 17 #[.val (.ref a1), .val (.ref a2), .val (.ref a3), .unset, .unset, .unset, .unset, .unset, .unset] [(.ref a2), (.ref a1)])) t → Steps p.tables e below (s₁.setTop (mkF m 0 #[.val (.ref a1), .val (.ref a2), .val (.ref a3), .unset, .unset, .unset, .unset, .unset, .unset] [])) t := by
    intro t kt
    refine R140 _ ?_
    refine st141 _ ?_
    show Steps p.tables e below (T141.setTop (mkF m 15 #[.val (.ref a1), .val (.ref a2), .val (.ref a3), .unset, .unset, .unset, .unset, .unset, .unset] [])) _
    refine XS.aloadN X141.here hx rfl (hb hby d4_15) rfl rfl ?_
    show Steps p.tables e below (T141.setTop (mkF m 16 #[.val (.ref a1), .val (.ref a2), .val (.ref a3), .unset, .unset, .unset, .unset, .unset, .unset] [(.ref a1)])) _
    refine XS.aloadN X141.here hx rfl (hb hby d4_16) rfl rfl ?_
    exact kt
  clear R140 st141
  obtain ⟨cl143, Ar143, ln143⟩ := VL_141.len
  have R144 : ∀ t, Steps p.tables e below (T141.setTop (mkF m 18 #[.val (.ref a1), .val (.ref a2), .val (.ref a3), .unset, .unset, .unset, .unset, .unset, .unset] [(.int (3 : Int32)), (.ref a1)])) t → Steps p.tables e below (s₁.setTop (mkF m 0 #[.val (.ref a1), .val (.ref a2), .val (.ref a3), .unset, .unset, .unset, .unset, .unset, .unset] [])) t := by
    intro t kt
    refine R142 _ ?_
    show Steps p.tables e below (T141.setTop (mkF m 17 #[.val (.ref a1), .val (.ref a2), .val (.ref a3), .unset, .unset, .unset, .unset, .unset, .unset] [(.ref a2), (.ref a1)])) _
    refine X141.arraylength hx (by rw [e141]; exact Ar143.1) (State.isArrayOf_alike hZ.alike Ar143.2.1) (g := (mkF m 17 #[.val (.ref a1), .val (.ref a2), .val (.ref a3), .unset, .unset, .unset, .unset, .unset, .unset] [(.ref a2), (.ref a1)])) rfl rfl (hb hby d4_17) _ ?_
    rw [ln143]
    exact kt
  clear R142
  obtain ⟨T145, h145, k145, X145, e145, E145, A145, st145⟩ := newP X141 hx hZ (hw _ (List.mem_of_getElem? (i := 0) rfl)) e141 (g := (mkF m 18 #[.val (.ref a1), .val (.ref a2), .val (.ref a3), .unset, .unset, .unset, .unset, .unset, .unset] [(.int (3 : Int32)), (.ref a1)])) rfl (hb hby d4_18) rfl (by decide) (cap := 3) (by decide) (by decide) (by decide) (by decide)
  obtain ⟨b2, g145⟩ : ∃ z, z = h141.size := ⟨_, rfl⟩
  rw [← g145] at A145 st145
  have g_b2 : n0 ≤ b2 := Nat.le_trans Zs141 (Nat.le_of_eq g145.symm)
  have sz_b2 : h0.size ≤ b2 := Nat.le_trans Kw141.1 (Nat.le_of_eq g145.symm)
  have ne_a1_b2 : a1 ≠ b2 := Nat.ne_of_lt (Nat.lt_of_lt_of_le Fl_141.lt (Nat.le_of_eq g145.symm))
  have ne_a2_b2 : a2 ≠ b2 := Nat.ne_of_lt (Nat.lt_of_lt_of_le E_a2_141.lt (Nat.le_of_eq g145.symm))
  have ne_a3_b2 : a3 ≠ b2 := Nat.ne_of_lt (Nat.lt_of_lt_of_le VH_141.lt (Nat.le_of_eq g145.symm))
  have ne_b1_b2 : b1 ≠ b2 := Nat.ne_of_lt (Nat.lt_of_lt_of_le VB1_141.lt (Nat.le_of_eq g145.symm))
  have Fl_145 := Fl_141.ext E145
  have Fw_145 := Fw_141.ext E145
  have Fs_145 := Fs_141.ext E145
  have Fm_145 := Fm_141.ext E145
  have Fc_145 := Fc_141.ext E145
  have E_a1_145 := E_a1_141.ext E145
  have E_a2_145 := E_a2_141.ext E145
  have VL_145 := VL_141.ext E145
  have VH_145 := VH_141.ext E145
  have VB1_145 := VB1_141.ext E145
  have E_b1_145 := E_b1_141.ext E145
  clear Fl_141 Fw_141 Fs_141 Fm_141 Fc_141 E_a1_141 E_a2_141 VL_141 VH_141 VB1_141 E_b1_141
  have Zs145 : n0 ≤ h145.size := Nat.le_trans Zs141 E145.1
  have Ke145 : Keep h0 h145 [a1] := Keep.ext Kw141 E145
  have VWr : AV Z h145 b2 .int 3 (fun _ => defaultValue .int) := AV.new A145 rfl rfl
  have VW : AV Z h145 b2 .int 3 (fun j => .int ((fun _ => (0 : Int32)) j)) := VWr
  have R146 : ∀ t, Steps p.tables e below (T145.setTop (mkF m 20 #[.val (.ref a1), .val (.ref a2), .val (.ref a3), .unset, .unset, .unset, .unset, .unset, .unset] [(.ref b2), (.ref a1)])) t → Steps p.tables e below (s₁.setTop (mkF m 0 #[.val (.ref a1), .val (.ref a2), .val (.ref a3), .unset, .unset, .unset, .unset, .unset, .unset] [])) t := by
    intro t kt
    refine R144 _ ?_
    refine st145 _ ?_
    exact kt
  clear R144 st145
  obtain ⟨T147, h147, X147, e147, W147, st147⟩ := putF X145 hx hZ hown (host := "") (Or.inl (hw _ (List.mem_of_getElem? (i := 33) rfl))) Via.refl e145 Fw_145 E_a1_145 (Or.inr ⟨(hw _ (List.mem_of_getElem? (i := 34) rfl)), rfl, hnm⟩) (hw _ (List.mem_of_getElem? (i := 14) rfl)) (ty := (.array .int)) (by decide) rfl rfl (g := (mkF m 20 #[.val (.ref a1), .val (.ref a2), .val (.ref a3), .unset, .unset, .unset, .unset, .unset, .unset] [(.ref b2), (.ref a1)])) rfl rfl (hb hby d4_20)
  have N147 := Fr.snoc X147 N141 ga
  have Fw_147 := Fw_145.same W147
  have Fl_147 := Fl_145.other W147 (Or.inr (slot_ne (Or.inr (hw _ (List.mem_of_getElem? (i := 32) rfl))) (Or.inr (hw _ (List.mem_of_getElem? (i := 34) rfl))) (by decide) (t := (.array .int)) (t' := (.array .int)) (by decide) (by decide)))
  have Fs_147 := Fs_145.other W147 (Or.inr (slot_ne (Or.inr (hw _ (List.mem_of_getElem? (i := 36) rfl))) (Or.inr (hw _ (List.mem_of_getElem? (i := 34) rfl))) (by decide) (t := (.array .int)) (t' := (.array .int)) (by decide) (by decide)))
  have Fm_147 := Fm_145.other W147 (Or.inr (slot_ne (Or.inr (hw _ (List.mem_of_getElem? (i := 39) rfl))) (Or.inr (hw _ (List.mem_of_getElem? (i := 34) rfl))) (by decide) (t := (.array .long)) (t' := (.array .int)) (by decide) (by decide)))
  have Fc_147 := Fc_145.other W147 (Or.inr (slot_ne (Or.inr (hw _ (List.mem_of_getElem? (i := 51) rfl))) (Or.inr (hw _ (List.mem_of_getElem? (i := 34) rfl))) (by decide) (t := .int) (t' := (.array .int)) (by decide) (by decide)))
  have E_a1_147 := E_a1_145.wr W147
  have E_a2_147 := E_a2_145.wr W147
  have VL_147 := VL_145.other W147 (Ne.symm n12)
  have VH_147 := VH_145.other W147 (Ne.symm n13)
  have VB1_147 := VB1_145.other W147 (Ne.symm ne_a1_b1)
  have E_b1_147 := E_b1_145.wr W147
  have VW_147 := VW.other W147 (Ne.symm ne_a1_b2)
  clear Fl_145 Fs_145 Fm_145 Fc_145 E_a1_145 E_a2_145 VL_145 VH_145 VB1_145 E_b1_145
  have Zs147 : n0 ≤ h147.size := Nat.le_trans Zs145 (Keep.of_wr W147).1
  have Kw147 : Keep h0 h147 [a1] := Keep.wr Ke145 W147 (Or.inl (List.mem_of_getElem? (i := 0) rfl))
  have R148 : ∀ t, Steps p.tables e below (T147.setTop (mkF m 25 #[.val (.ref a1), .val (.ref a2), .val (.ref a3), .unset, .unset, .unset, .unset, .unset, .unset] [(.ref a2), (.ref a1)])) t → Steps p.tables e below (s₁.setTop (mkF m 0 #[.val (.ref a1), .val (.ref a2), .val (.ref a3), .unset, .unset, .unset, .unset, .unset, .unset] [])) t := by
    intro t kt
    refine R146 _ ?_
    refine st147 _ ?_
    show Steps p.tables e below (T147.setTop (mkF m 23 #[.val (.ref a1), .val (.ref a2), .val (.ref a3), .unset, .unset, .unset, .unset, .unset, .unset] [])) _
    refine XS.aloadN X147.here hx rfl (hb hby d4_23) rfl rfl ?_
    show Steps p.tables e below (T147.setTop (mkF m 24 #[.val (.ref a1), .val (.ref a2), .val (.ref a3), .unset, .unset, .unset, .unset, .unset, .unset] [(.ref a1)])) _
    refine XS.aloadN X147.here hx rfl (hb hby d4_24) rfl rfl ?_
    exact kt
  clear R146 st147
  obtain ⟨cl149, Ar149, ln149⟩ := VL_147.len
  have R150 : ∀ t, Steps p.tables e below (T147.setTop (mkF m 26 #[.val (.ref a1), .val (.ref a2), .val (.ref a3), .unset, .unset, .unset, .unset, .unset, .unset] [(.int (3 : Int32)), (.ref a1)])) t → Steps p.tables e below (s₁.setTop (mkF m 0 #[.val (.ref a1), .val (.ref a2), .val (.ref a3), .unset, .unset, .unset, .unset, .unset, .unset] [])) t := by
    intro t kt
    refine R148 _ ?_
    show Steps p.tables e below (T147.setTop (mkF m 25 #[.val (.ref a1), .val (.ref a2), .val (.ref a3), .unset, .unset, .unset, .unset, .unset, .unset] [(.ref a2), (.ref a1)])) _
    refine X147.arraylength hx (by rw [e147]; exact Ar149.1) (State.isArrayOf_alike hZ.alike Ar149.2.1) (g := (mkF m 25 #[.val (.ref a1), .val (.ref a2), .val (.ref a3), .unset, .unset, .unset, .unset, .unset, .unset] [(.ref a2), (.ref a1)])) rfl rfl (hb hby d4_25) _ ?_
    rw [ln149]
    exact kt
  clear R148
  obtain ⟨T151, h151, k151, X151, e151, E151, A151, st151⟩ := newP X147 hx hZ (hw _ (List.mem_of_getElem? (i := 0) rfl)) e147 (g := (mkF m 26 #[.val (.ref a1), .val (.ref a2), .val (.ref a3), .unset, .unset, .unset, .unset, .unset, .unset] [(.int (3 : Int32)), (.ref a1)])) rfl (hb hby d4_26) rfl (by decide) (cap := 3) (by decide) (by decide) (by decide) (by decide)
  obtain ⟨b3, g151⟩ : ∃ z, z = h147.size := ⟨_, rfl⟩
  rw [← g151] at A151 st151
  have g_b3 : n0 ≤ b3 := Nat.le_trans Zs147 (Nat.le_of_eq g151.symm)
  have sz_b3 : h0.size ≤ b3 := Nat.le_trans Kw147.1 (Nat.le_of_eq g151.symm)
  have ne_a1_b3 : a1 ≠ b3 := Nat.ne_of_lt (Nat.lt_of_lt_of_le Fl_147.lt (Nat.le_of_eq g151.symm))
  have ne_a2_b3 : a2 ≠ b3 := Nat.ne_of_lt (Nat.lt_of_lt_of_le E_a2_147.lt (Nat.le_of_eq g151.symm))
  have ne_a3_b3 : a3 ≠ b3 := Nat.ne_of_lt (Nat.lt_of_lt_of_le VH_147.lt (Nat.le_of_eq g151.symm))
  have ne_b1_b3 : b1 ≠ b3 := Nat.ne_of_lt (Nat.lt_of_lt_of_le VB1_147.lt (Nat.le_of_eq g151.symm))
  have ne_b2_b3 : b2 ≠ b3 := Nat.ne_of_lt (Nat.lt_of_lt_of_le VW_147.lt (Nat.le_of_eq g151.symm))
  have Fl_151 := Fl_147.ext E151
  have Fw_151 := Fw_147.ext E151
  have Fs_151 := Fs_147.ext E151
  have Fm_151 := Fm_147.ext E151
  have Fc_151 := Fc_147.ext E151
  have E_a1_151 := E_a1_147.ext E151
  have E_a2_151 := E_a2_147.ext E151
  have VL_151 := VL_147.ext E151
  have VH_151 := VH_147.ext E151
  have VB1_151 := VB1_147.ext E151
  have E_b1_151 := E_b1_147.ext E151
  have VW_151 := VW_147.ext E151
  clear Fl_147 Fw_147 Fs_147 Fm_147 Fc_147 E_a1_147 E_a2_147 VL_147 VH_147 VB1_147 E_b1_147 VW_147
  have Zs151 : n0 ≤ h151.size := Nat.le_trans Zs147 E151.1
  have Ke151 : Keep h0 h151 [a1] := Keep.ext Kw147 E151
  have VSr : AV Z h151 b3 .int 3 (fun _ => defaultValue .int) := AV.new A151 rfl rfl
  have VS : AV Z h151 b3 .int 3 (fun j => .int ((fun _ => (0 : Int32)) j)) := VSr
  have R152 : ∀ t, Steps p.tables e below (T151.setTop (mkF m 28 #[.val (.ref a1), .val (.ref a2), .val (.ref a3), .unset, .unset, .unset, .unset, .unset, .unset] [(.ref b3), (.ref a1)])) t → Steps p.tables e below (s₁.setTop (mkF m 0 #[.val (.ref a1), .val (.ref a2), .val (.ref a3), .unset, .unset, .unset, .unset, .unset, .unset] [])) t := by
    intro t kt
    refine R150 _ ?_
    refine st151 _ ?_
    exact kt
  clear R150 st151
  obtain ⟨T153, h153, X153, e153, W153, st153⟩ := putF X151 hx hZ hown (host := "") (Or.inl (hw _ (List.mem_of_getElem? (i := 35) rfl))) Via.refl e151 Fs_151 E_a1_151 (Or.inr ⟨(hw _ (List.mem_of_getElem? (i := 36) rfl)), rfl, hnm⟩) (hw _ (List.mem_of_getElem? (i := 14) rfl)) (ty := (.array .int)) (by decide) rfl rfl (g := (mkF m 28 #[.val (.ref a1), .val (.ref a2), .val (.ref a3), .unset, .unset, .unset, .unset, .unset, .unset] [(.ref b3), (.ref a1)])) rfl rfl (hb hby d4_28)
  have N153 := Fr.snoc X153 N147 ga
  have Fs_153 := Fs_151.same W153
  have Fl_153 := Fl_151.other W153 (Or.inr (slot_ne (Or.inr (hw _ (List.mem_of_getElem? (i := 32) rfl))) (Or.inr (hw _ (List.mem_of_getElem? (i := 36) rfl))) (by decide) (t := (.array .int)) (t' := (.array .int)) (by decide) (by decide)))
  have Fw_153 := Fw_151.other W153 (Or.inr (slot_ne (Or.inr (hw _ (List.mem_of_getElem? (i := 34) rfl))) (Or.inr (hw _ (List.mem_of_getElem? (i := 36) rfl))) (by decide) (t := (.array .int)) (t' := (.array .int)) (by decide) (by decide)))
  have Fm_153 := Fm_151.other W153 (Or.inr (slot_ne (Or.inr (hw _ (List.mem_of_getElem? (i := 39) rfl))) (Or.inr (hw _ (List.mem_of_getElem? (i := 36) rfl))) (by decide) (t := (.array .long)) (t' := (.array .int)) (by decide) (by decide)))
  have Fc_153 := Fc_151.other W153 (Or.inr (slot_ne (Or.inr (hw _ (List.mem_of_getElem? (i := 51) rfl))) (Or.inr (hw _ (List.mem_of_getElem? (i := 36) rfl))) (by decide) (t := .int) (t' := (.array .int)) (by decide) (by decide)))
  have E_a1_153 := E_a1_151.wr W153
  have E_a2_153 := E_a2_151.wr W153
  have VL_153 := VL_151.other W153 (Ne.symm n12)
  have VH_153 := VH_151.other W153 (Ne.symm n13)
  have VB1_153 := VB1_151.other W153 (Ne.symm ne_a1_b1)
  have E_b1_153 := E_b1_151.wr W153
  have VW_153 := VW_151.other W153 (Ne.symm ne_a1_b2)
  have VS_153 := VS.other W153 (Ne.symm ne_a1_b3)
  clear Fl_151 Fw_151 Fm_151 Fc_151 E_a1_151 E_a2_151 VL_151 VH_151 VB1_151 E_b1_151 VW_151
  have Zs153 : n0 ≤ h153.size := Nat.le_trans Zs151 (Keep.of_wr W153).1
  have Kw153 : Keep h0 h153 [a1] := Keep.wr Ke151 W153 (Or.inl (List.mem_of_getElem? (i := 0) rfl))
  have R154 : ∀ t, Steps p.tables e below (T153.setTop (mkF m 33 #[.val (.ref a1), .val (.ref a2), .val (.ref a3), .unset, .unset, .unset, .unset, .unset, .unset] [(.ref a2), (.ref a1)])) t → Steps p.tables e below (s₁.setTop (mkF m 0 #[.val (.ref a1), .val (.ref a2), .val (.ref a3), .unset, .unset, .unset, .unset, .unset, .unset] [])) t := by
    intro t kt
    refine R152 _ ?_
    refine st153 _ ?_
    show Steps p.tables e below (T153.setTop (mkF m 31 #[.val (.ref a1), .val (.ref a2), .val (.ref a3), .unset, .unset, .unset, .unset, .unset, .unset] [])) _
    refine XS.aloadN X153.here hx rfl (hb hby d4_31) rfl rfl ?_
    show Steps p.tables e below (T153.setTop (mkF m 32 #[.val (.ref a1), .val (.ref a2), .val (.ref a3), .unset, .unset, .unset, .unset, .unset, .unset] [(.ref a1)])) _
    refine XS.aloadN X153.here hx rfl (hb hby d4_32) rfl rfl ?_
    exact kt
  clear R152 st153
  obtain ⟨cl155, Ar155, ln155⟩ := VL_153.len
  have R156 : ∀ t, Steps p.tables e below (T153.setTop (mkF m 34 #[.val (.ref a1), .val (.ref a2), .val (.ref a3), .unset, .unset, .unset, .unset, .unset, .unset] [(.int (3 : Int32)), (.ref a1)])) t → Steps p.tables e below (s₁.setTop (mkF m 0 #[.val (.ref a1), .val (.ref a2), .val (.ref a3), .unset, .unset, .unset, .unset, .unset, .unset] [])) t := by
    intro t kt
    refine R154 _ ?_
    show Steps p.tables e below (T153.setTop (mkF m 33 #[.val (.ref a1), .val (.ref a2), .val (.ref a3), .unset, .unset, .unset, .unset, .unset, .unset] [(.ref a2), (.ref a1)])) _
    refine X153.arraylength hx (by rw [e153]; exact Ar155.1) (State.isArrayOf_alike hZ.alike Ar155.2.1) (g := (mkF m 33 #[.val (.ref a1), .val (.ref a2), .val (.ref a3), .unset, .unset, .unset, .unset, .unset, .unset] [(.ref a2), (.ref a1)])) rfl rfl (hb hby d4_33) _ ?_
    rw [ln155]
    exact kt
  clear R154
  obtain ⟨T157, h157, k157, X157, e157, E157, A157, st157⟩ := newP X153 hx hZ (hw _ (List.mem_of_getElem? (i := 37) rfl)) e153 (g := (mkF m 34 #[.val (.ref a1), .val (.ref a2), .val (.ref a3), .unset, .unset, .unset, .unset, .unset, .unset] [(.int (3 : Int32)), (.ref a1)])) rfl (hb hby d4_34) rfl (by decide) (cap := 3) (by decide) (by decide) (by decide) (by decide)
  obtain ⟨b4, g157⟩ : ∃ z, z = h153.size := ⟨_, rfl⟩
  rw [← g157] at A157 st157
  have g_b4 : n0 ≤ b4 := Nat.le_trans Zs153 (Nat.le_of_eq g157.symm)
  have sz_b4 : h0.size ≤ b4 := Nat.le_trans Kw153.1 (Nat.le_of_eq g157.symm)
  have ne_a1_b4 : a1 ≠ b4 := Nat.ne_of_lt (Nat.lt_of_lt_of_le Fl_153.lt (Nat.le_of_eq g157.symm))
  have ne_a2_b4 : a2 ≠ b4 := Nat.ne_of_lt (Nat.lt_of_lt_of_le E_a2_153.lt (Nat.le_of_eq g157.symm))
  have ne_a3_b4 : a3 ≠ b4 := Nat.ne_of_lt (Nat.lt_of_lt_of_le VH_153.lt (Nat.le_of_eq g157.symm))
  have ne_b1_b4 : b1 ≠ b4 := Nat.ne_of_lt (Nat.lt_of_lt_of_le VB1_153.lt (Nat.le_of_eq g157.symm))
  have ne_b2_b4 : b2 ≠ b4 := Nat.ne_of_lt (Nat.lt_of_lt_of_le VW_153.lt (Nat.le_of_eq g157.symm))
  have ne_b3_b4 : b3 ≠ b4 := Nat.ne_of_lt (Nat.lt_of_lt_of_le VS_153.lt (Nat.le_of_eq g157.symm))
  have Fl_157 := Fl_153.ext E157
  have Fw_157 := Fw_153.ext E157
  have Fs_157 := Fs_153.ext E157
  have Fm_157 := Fm_153.ext E157
  have Fc_157 := Fc_153.ext E157
  have E_a1_157 := E_a1_153.ext E157
  have E_a2_157 := E_a2_153.ext E157
  have VL_157 := VL_153.ext E157
  have VH_157 := VH_153.ext E157
  have VB1_157 := VB1_153.ext E157
  have E_b1_157 := E_b1_153.ext E157
  have VW_157 := VW_153.ext E157
  have VS_157 := VS_153.ext E157
  clear Fl_153 Fw_153 Fs_153 Fm_153 Fc_153 E_a1_153 E_a2_153 VL_153 VH_153 VB1_153 E_b1_153 VW_153 VS_153
  have Zs157 : n0 ≤ h157.size := Nat.le_trans Zs153 E157.1
  have Ke157 : Keep h0 h157 [a1] := Keep.ext Kw153 E157
  have VMr : AV Z h157 b4 .long 3 (fun _ => defaultValue .long) := AV.new A157 rfl rfl
  have VM : AV Z h157 b4 .long 3 (fun j => .long ((fun _ => (0 : Int64)) j)) := VMr
  have R158 : ∀ t, Steps p.tables e below (T157.setTop (mkF m 36 #[.val (.ref a1), .val (.ref a2), .val (.ref a3), .unset, .unset, .unset, .unset, .unset, .unset] [(.ref b4), (.ref a1)])) t → Steps p.tables e below (s₁.setTop (mkF m 0 #[.val (.ref a1), .val (.ref a2), .val (.ref a3), .unset, .unset, .unset, .unset, .unset, .unset] [])) t := by
    intro t kt
    refine R156 _ ?_
    refine st157 _ ?_
    exact kt
  clear R156 st157
  obtain ⟨T159, h159, X159, e159, W159, st159⟩ := putF X157 hx hZ hown (host := "") (Or.inl (hw _ (List.mem_of_getElem? (i := 38) rfl))) Via.refl e157 Fm_157 E_a1_157 (Or.inr ⟨(hw _ (List.mem_of_getElem? (i := 39) rfl)), rfl, hnm⟩) (hw _ (List.mem_of_getElem? (i := 14) rfl)) (ty := (.array .long)) (by decide) rfl rfl (g := (mkF m 36 #[.val (.ref a1), .val (.ref a2), .val (.ref a3), .unset, .unset, .unset, .unset, .unset, .unset] [(.ref b4), (.ref a1)])) rfl rfl (hb hby d4_36)
  have N159 := Fr.snoc X159 N153 ga
  have Fm_159 := Fm_157.same W159
  have Fl_159 := Fl_157.other W159 (Or.inr (slot_ne (Or.inr (hw _ (List.mem_of_getElem? (i := 32) rfl))) (Or.inr (hw _ (List.mem_of_getElem? (i := 39) rfl))) (by decide) (t := (.array .int)) (t' := (.array .long)) (by decide) (by decide)))
  have Fw_159 := Fw_157.other W159 (Or.inr (slot_ne (Or.inr (hw _ (List.mem_of_getElem? (i := 34) rfl))) (Or.inr (hw _ (List.mem_of_getElem? (i := 39) rfl))) (by decide) (t := (.array .int)) (t' := (.array .long)) (by decide) (by decide)))
  have Fs_159 := Fs_157.other W159 (Or.inr (slot_ne (Or.inr (hw _ (List.mem_of_getElem? (i := 36) rfl))) (Or.inr (hw _ (List.mem_of_getElem? (i := 39) rfl))) (by decide) (t := (.array .int)) (t' := (.array .long)) (by decide) (by decide)))
  have Fc_159 := Fc_157.other W159 (Or.inr (slot_ne (Or.inr (hw _ (List.mem_of_getElem? (i := 51) rfl))) (Or.inr (hw _ (List.mem_of_getElem? (i := 39) rfl))) (by decide) (t := .int) (t' := (.array .long)) (by decide) (by decide)))
  have E_a1_159 := E_a1_157.wr W159
  have E_a2_159 := E_a2_157.wr W159
  have VL_159 := VL_157.other W159 (Ne.symm n12)
  have VH_159 := VH_157.other W159 (Ne.symm n13)
  have VB1_159 := VB1_157.other W159 (Ne.symm ne_a1_b1)
  have E_b1_159 := E_b1_157.wr W159
  have VW_159 := VW_157.other W159 (Ne.symm ne_a1_b2)
  have VS_159 := VS_157.other W159 (Ne.symm ne_a1_b3)
  have VM_159 := VM.other W159 (Ne.symm ne_a1_b4)
  clear Fl_157 Fw_157 Fs_157 Fc_157 E_a1_157 E_a2_157 VL_157 VH_157 VB1_157 E_b1_157 VW_157 VS_157
  have Zs159 : n0 ≤ h159.size := Nat.le_trans Zs157 (Keep.of_wr W159).1
  have Kw159 : Keep h0 h159 [a1] := Keep.wr Ke157 W159 (Or.inl (List.mem_of_getElem? (i := 0) rfl))
  have R160 : ∀ t, Steps p.tables e below (T159.setTop (mkF m 47 #[.val (.ref a1), .val (.ref a2), .val (.ref a3), .val (.int (0 : Int32)), .val (.int (0 : Int32)), .val (.int (0 : Int32)), .unset, .unset, .unset] [])) t → Steps p.tables e below (s₁.setTop (mkF m 0 #[.val (.ref a1), .val (.ref a2), .val (.ref a3), .unset, .unset, .unset, .unset, .unset, .unset] [])) t := by
    intro t kt
    refine R158 _ ?_
    refine st159 _ ?_
    show Steps p.tables e below (T159.setTop (mkF m 39 #[.val (.ref a1), .val (.ref a2), .val (.ref a3), .unset, .unset, .unset, .unset, .unset, .unset] [])) _
    refine XS.iconst X159.here hx rfl (hb hby d4_39) ?_
    show Steps p.tables e below (T159.setTop (mkF m 40 #[.val (.ref a1), .val (.ref a2), .val (.ref a3), .unset, .unset, .unset, .unset, .unset, .unset] [(.int (0 : Int32))])) _
    refine XS.istoreN X159.here hx rfl (hb hby d4_40) rfl (l' := #[.val (.ref a1), .val (.ref a2), .val (.ref a3), .val (.int (0 : Int32)), .unset, .unset, .unset, .unset, .unset]) rfl ?_
    show Steps p.tables e below (T159.setTop (mkF m 41 #[.val (.ref a1), .val (.ref a2), .val (.ref a3), .val (.int (0 : Int32)), .unset, .unset, .unset, .unset, .unset] [])) _
    refine XS.iconst X159.here hx rfl (hb hby d4_41) ?_
    show Steps p.tables e below (T159.setTop (mkF m 42 #[.val (.ref a1), .val (.ref a2), .val (.ref a3), .val (.int (0 : Int32)), .unset, .unset, .unset, .unset, .unset] [(.int (0 : Int32))])) _
    refine XS.istore X159.here hx rfl (hb hby d4_42) rfl (l' := #[.val (.ref a1), .val (.ref a2), .val (.ref a3), .val (.int (0 : Int32)), .val (.int (0 : Int32)), .unset, .unset, .unset, .unset]) rfl ?_
    show Steps p.tables e below (T159.setTop (mkF m 44 #[.val (.ref a1), .val (.ref a2), .val (.ref a3), .val (.int (0 : Int32)), .val (.int (0 : Int32)), .unset, .unset, .unset, .unset] [])) _
    refine XS.iconst X159.here hx rfl (hb hby d4_44) ?_
    show Steps p.tables e below (T159.setTop (mkF m 45 #[.val (.ref a1), .val (.ref a2), .val (.ref a3), .val (.int (0 : Int32)), .val (.int (0 : Int32)), .unset, .unset, .unset, .unset] [(.int (0 : Int32))])) _
    refine XS.istore X159.here hx rfl (hb hby d4_45) rfl (l' := #[.val (.ref a1), .val (.ref a2), .val (.ref a3), .val (.int (0 : Int32)), .val (.int (0 : Int32)), .val (.int (0 : Int32)), .unset, .unset, .unset]) rfl ?_
    exact kt
  clear R158 st159
  have R161 : ∀ t, Steps p.tables e below (T159.setTop (mkF m 47 #[.val (.ref a1), .val (.ref a2), .val (.ref a3), .val (.int (own_F lo hi 0).1), .val (.int (own_F lo hi 0).2), .val (.int (0 : Int32)), .unset, .unset, .unset] [])) t → Steps p.tables e below (s₁.setTop (mkF m 0 #[.val (.ref a1), .val (.ref a2), .val (.ref a3), .unset, .unset, .unset, .unset, .unset, .unset] [])) t := by exact R160
  obtain ⟨T162, L162, X162, e162, N162, st162⟩ := lp_c1A a1 a2 a3 (own_F lo hi 0).1 (own_F lo hi 0).2 (0 : Int32) 0 lo hi X159 hx hZ hw hby hml hown e159 N159 Zs159 VL_159 VH_159 (by decide) (by decide) (by decide) (by decide)
  have R163 : ∀ t, Steps p.tables e below (T162.setTop (mkF m 93 #[.val (.ref a1), .val (.ref a2), .val (.ref a3), .val (.int (own_fl (own_F lo hi 0).1 (own_F lo hi 0).2 (own_bits (lo 0) (hi 0)))), .val (.int (own_us (own_F lo hi 0).2 (own_bits (lo 0) (hi 0)))), .val (.int (0 : Int32)), .val (.long ((hi 0).toInt64 - (lo 0).toInt64)), .second, .val (.int (own_bits (lo 0) (hi 0)))] [])) t → Steps p.tables e below (s₁.setTop (mkF m 0 #[.val (.ref a1), .val (.ref a2), .val (.ref a3), .unset, .unset, .unset, .unset, .unset, .unset] [])) t := by
    intro t kt
    refine R161 _ ?_
    refine st162 _ ?_
    exact kt
  clear R161 st162
  obtain ⟨T164, h164, L164, X164, e164, N164, K164, VW164, VS164, VM164, st164⟩ := lp_c2 a1 a2 a3 b2 b3 b4 (own_fl (own_F lo hi 0).1 (own_F lo hi 0).2 (own_bits (lo 0) (hi 0))) (own_us (own_F lo hi 0).2 (own_bits (lo 0) (hi 0))) (0 : Int32) ((hi 0).toInt64 - (lo 0).toInt64) (own_bits (lo 0) (hi 0)) 0 (fun _ => (0 : Int32)) (fun _ => (0 : Int32)) (fun _ => (0 : Int64)) X162 hx hZ hw hby hml hown e162 N162 Zs159 Fw_159 Fs_159 Fm_159 VW_159 VS_159 VM_159 g_b2 g_b3 g_b4 ne_a1_b2 ne_a1_b3 ne_a1_b4 ne_b2_b3 ne_b2_b4 ne_b3_b4 (by decide) (by decide) (by decide)
  have Fl_165 := Fl_159.keep K164 (own_notin3 ne_a1_b2 ne_a1_b3 ne_a1_b4)
  have Fw_165 := Fw_159.keep K164 (own_notin3 ne_a1_b2 ne_a1_b3 ne_a1_b4)
  have Fs_165 := Fs_159.keep K164 (own_notin3 ne_a1_b2 ne_a1_b3 ne_a1_b4)
  have Fm_165 := Fm_159.keep K164 (own_notin3 ne_a1_b2 ne_a1_b3 ne_a1_b4)
  have Fc_165 := Fc_159.keep K164 (own_notin3 ne_a1_b2 ne_a1_b3 ne_a1_b4)
  have E_a1_165 := E_a1_159.keep K164
  have E_a2_165 := E_a2_159.keep K164
  have VL_165 := VL_159.keep K164 (own_notin3 ne_a2_b2 ne_a2_b3 ne_a2_b4)
  have VH_165 := VH_159.keep K164 (own_notin3 ne_a3_b2 ne_a3_b3 ne_a3_b4)
  have VB1_165 := VB1_159.keep K164 (own_notin3 ne_b1_b2 ne_b1_b3 ne_b1_b4)
  clear Fl_159 Fw_159 Fs_159 Fm_159 Fc_159 E_a1_159 E_a2_159 VL_159 VH_159 VB1_159
  have Zs165 : n0 ≤ h164.size := Nat.le_trans Zs159 K164.1
  have Kk165 : Keep h0 h164 [a1] := Keep.trans Kw159 K164 (own_trans3 (Or.inr sz_b2) (Or.inr sz_b3) (Or.inr sz_b4))
  have R166 : ∀ t, Steps p.tables e below (T164.setTop (mkF m 47 #[.val (.ref a1), .val (.ref a2), .val (.ref a3), .val (.int (own_fl (own_F lo hi 0).1 (own_F lo hi 0).2 (own_bits (lo 0) (hi 0)))), .val (.int ((own_us (own_F lo hi 0).2 (own_bits (lo 0) (hi 0))) + (own_bits (lo 0) (hi 0)))), .val (.int ((0 : Int32) + (1 : Int32))), .val (.long ((hi 0).toInt64 - (lo 0).toInt64)), .second, .val (.int (own_bits (lo 0) (hi 0)))] [])) t → Steps p.tables e below (s₁.setTop (mkF m 0 #[.val (.ref a1), .val (.ref a2), .val (.ref a3), .unset, .unset, .unset, .unset, .unset, .unset] [])) t := by
    intro t kt
    refine R163 _ ?_
    refine st164 _ ?_
    exact kt
  clear R163 st164
  have R167 : ∀ t, Steps p.tables e below (T164.setTop (mkF m 47 #[.val (.ref a1), .val (.ref a2), .val (.ref a3), .val (.int (own_F lo hi 1).1), .val (.int (own_F lo hi 1).2), .val (.int ((0 : Int32) + (1 : Int32))), .val (.long ((hi 0).toInt64 - (lo 0).toInt64)), .second, .val (.int (own_bits (lo 0) (hi 0)))] [])) t → Steps p.tables e below (s₁.setTop (mkF m 0 #[.val (.ref a1), .val (.ref a2), .val (.ref a3), .unset, .unset, .unset, .unset, .unset, .unset] [])) t := by exact R166
  obtain ⟨T168, L168, X168, e168, N168, st168⟩ := lp_c1B a1 a2 a3 (own_F lo hi 1).1 (own_F lo hi 1).2 ((0 : Int32) + (1 : Int32)) 1 lo hi ((hi 0).toInt64 - (lo 0).toInt64) (own_bits (lo 0) (hi 0)) X164 hx hZ hw hby hml hown e164 N164 Zs165 VL_165 VH_165 (by decide) (by decide) (by decide) (by decide)
  have R169 : ∀ t, Steps p.tables e below (T168.setTop (mkF m 93 #[.val (.ref a1), .val (.ref a2), .val (.ref a3), .val (.int (own_fl (own_F lo hi 1).1 (own_F lo hi 1).2 (own_bits (lo 1) (hi 1)))), .val (.int (own_us (own_F lo hi 1).2 (own_bits (lo 1) (hi 1)))), .val (.int ((0 : Int32) + (1 : Int32))), .val (.long ((hi 1).toInt64 - (lo 1).toInt64)), .second, .val (.int (own_bits (lo 1) (hi 1)))] [])) t → Steps p.tables e below (s₁.setTop (mkF m 0 #[.val (.ref a1), .val (.ref a2), .val (.ref a3), .unset, .unset, .unset, .unset, .unset, .unset] [])) t := by
    intro t kt
    refine R167 _ ?_
    refine st168 _ ?_
    exact kt
  clear R167 st168
  obtain ⟨T170, h170, L170, X170, e170, N170, K170, VW170, VS170, VM170, st170⟩ := lp_c2 a1 a2 a3 b2 b3 b4 (own_fl (own_F lo hi 1).1 (own_F lo hi 1).2 (own_bits (lo 1) (hi 1))) (own_us (own_F lo hi 1).2 (own_bits (lo 1) (hi 1))) ((0 : Int32) + (1 : Int32)) ((hi 1).toInt64 - (lo 1).toInt64) (own_bits (lo 1) (hi 1)) 1 (own_set (fun _ => (0 : Int32)) 0 (own_wd lo hi 0)) (own_set (fun _ => (0 : Int32)) 0 (own_sf lo hi 0)) (own_set (fun _ => (0 : Int64)) 0 (own_mk lo hi 0)) X168 hx hZ hw hby hml hown e168 N168 Zs165 Fw_165 Fs_165 Fm_165 VW164 VS164 VM164 g_b2 g_b3 g_b4 ne_a1_b2 ne_a1_b3 ne_a1_b4 ne_b2_b3 ne_b2_b4 ne_b3_b4 (by decide) (by decide) (by decide)
  have Fl_171 := Fl_165.keep K170 (own_notin3 ne_a1_b2 ne_a1_b3 ne_a1_b4)
  have Fw_171 := Fw_165.keep K170 (own_notin3 ne_a1_b2 ne_a1_b3 ne_a1_b4)
  have Fs_171 := Fs_165.keep K170 (own_notin3 ne_a1_b2 ne_a1_b3 ne_a1_b4)
  have Fm_171 := Fm_165.keep K170 (own_notin3 ne_a1_b2 ne_a1_b3 ne_a1_b4)
  have Fc_171 := Fc_165.keep K170 (own_notin3 ne_a1_b2 ne_a1_b3 ne_a1_b4)
  have E_a1_171 := E_a1_165.keep K170
  have E_a2_171 := E_a2_165.keep K170
  have VL_171 := VL_165.keep K170 (own_notin3 ne_a2_b2 ne_a2_b3 ne_a2_b4)
  have VH_171 := VH_165.keep K170 (own_notin3 ne_a3_b2 ne_a3_b3 ne_a3_b4)
  have VB1_171 := VB1_165.keep K170 (own_notin3 ne_b1_b2 ne_b1_b3 ne_b1_b4)
  clear Fl_165 Fw_165 Fs_165 Fm_165 Fc_165 E_a1_165 E_a2_165 VL_165 VH_165 VB1_165
  have Zs171 : n0 ≤ h170.size := Nat.le_trans Zs165 K170.1
  have Kk171 : Keep h0 h170 [a1] := Keep.trans Kk165 K170 (own_trans3 (Or.inr sz_b2) (Or.inr sz_b3) (Or.inr sz_b4))
  have R172 : ∀ t, Steps p.tables e below (T170.setTop (mkF m 47 #[.val (.ref a1), .val (.ref a2), .val (.ref a3), .val (.int (own_fl (own_F lo hi 1).1 (own_F lo hi 1).2 (own_bits (lo 1) (hi 1)))), .val (.int ((own_us (own_F lo hi 1).2 (own_bits (lo 1) (hi 1))) + (own_bits (lo 1) (hi 1)))), .val (.int (((0 : Int32) + (1 : Int32)) + (1 : Int32))), .val (.long ((hi 1).toInt64 - (lo 1).toInt64)), .second, .val (.int (own_bits (lo 1) (hi 1)))] [])) t → Steps p.tables e below (s₁.setTop (mkF m 0 #[.val (.ref a1), .val (.ref a2), .val (.ref a3), .unset, .unset, .unset, .unset, .unset, .unset] [])) t := by
    intro t kt
    refine R169 _ ?_
    refine st170 _ ?_
    exact kt
  clear R169 st170
  have R173 : ∀ t, Steps p.tables e below (T170.setTop (mkF m 47 #[.val (.ref a1), .val (.ref a2), .val (.ref a3), .val (.int (own_F lo hi 2).1), .val (.int (own_F lo hi 2).2), .val (.int (((0 : Int32) + (1 : Int32)) + (1 : Int32))), .val (.long ((hi 1).toInt64 - (lo 1).toInt64)), .second, .val (.int (own_bits (lo 1) (hi 1)))] [])) t → Steps p.tables e below (s₁.setTop (mkF m 0 #[.val (.ref a1), .val (.ref a2), .val (.ref a3), .unset, .unset, .unset, .unset, .unset, .unset] [])) t := by exact R172
  obtain ⟨T174, L174, X174, e174, N174, st174⟩ := lp_c1B a1 a2 a3 (own_F lo hi 2).1 (own_F lo hi 2).2 (((0 : Int32) + (1 : Int32)) + (1 : Int32)) 2 lo hi ((hi 1).toInt64 - (lo 1).toInt64) (own_bits (lo 1) (hi 1)) X170 hx hZ hw hby hml hown e170 N170 Zs171 VL_171 VH_171 (by decide) (by decide) (by decide) (by decide)
  have R175 : ∀ t, Steps p.tables e below (T174.setTop (mkF m 93 #[.val (.ref a1), .val (.ref a2), .val (.ref a3), .val (.int (own_fl (own_F lo hi 2).1 (own_F lo hi 2).2 (own_bits (lo 2) (hi 2)))), .val (.int (own_us (own_F lo hi 2).2 (own_bits (lo 2) (hi 2)))), .val (.int (((0 : Int32) + (1 : Int32)) + (1 : Int32))), .val (.long ((hi 2).toInt64 - (lo 2).toInt64)), .second, .val (.int (own_bits (lo 2) (hi 2)))] [])) t → Steps p.tables e below (s₁.setTop (mkF m 0 #[.val (.ref a1), .val (.ref a2), .val (.ref a3), .unset, .unset, .unset, .unset, .unset, .unset] [])) t := by
    intro t kt
    refine R173 _ ?_
    refine st174 _ ?_
    exact kt
  clear R173 st174
  obtain ⟨T176, h176, L176, X176, e176, N176, K176, VW176, VS176, VM176, st176⟩ := lp_c2 a1 a2 a3 b2 b3 b4 (own_fl (own_F lo hi 2).1 (own_F lo hi 2).2 (own_bits (lo 2) (hi 2))) (own_us (own_F lo hi 2).2 (own_bits (lo 2) (hi 2))) (((0 : Int32) + (1 : Int32)) + (1 : Int32)) ((hi 2).toInt64 - (lo 2).toInt64) (own_bits (lo 2) (hi 2)) 2 (own_set (own_set (fun _ => (0 : Int32)) 0 (own_wd lo hi 0)) 1 (own_wd lo hi 1)) (own_set (own_set (fun _ => (0 : Int32)) 0 (own_sf lo hi 0)) 1 (own_sf lo hi 1)) (own_set (own_set (fun _ => (0 : Int64)) 0 (own_mk lo hi 0)) 1 (own_mk lo hi 1)) X174 hx hZ hw hby hml hown e174 N174 Zs171 Fw_171 Fs_171 Fm_171 VW170 VS170 VM170 g_b2 g_b3 g_b4 ne_a1_b2 ne_a1_b3 ne_a1_b4 ne_b2_b3 ne_b2_b4 ne_b3_b4 (by decide) (by decide) (by decide)
  have Fl_177 := Fl_171.keep K176 (own_notin3 ne_a1_b2 ne_a1_b3 ne_a1_b4)
  have Fw_177 := Fw_171.keep K176 (own_notin3 ne_a1_b2 ne_a1_b3 ne_a1_b4)
  have Fs_177 := Fs_171.keep K176 (own_notin3 ne_a1_b2 ne_a1_b3 ne_a1_b4)
  have Fm_177 := Fm_171.keep K176 (own_notin3 ne_a1_b2 ne_a1_b3 ne_a1_b4)
  have Fc_177 := Fc_171.keep K176 (own_notin3 ne_a1_b2 ne_a1_b3 ne_a1_b4)
  have E_a1_177 := E_a1_171.keep K176
  have E_a2_177 := E_a2_171.keep K176
  have VL_177 := VL_171.keep K176 (own_notin3 ne_a2_b2 ne_a2_b3 ne_a2_b4)
  have VH_177 := VH_171.keep K176 (own_notin3 ne_a3_b2 ne_a3_b3 ne_a3_b4)
  have VB1_177 := VB1_171.keep K176 (own_notin3 ne_b1_b2 ne_b1_b3 ne_b1_b4)
  clear Fl_171 Fw_171 Fs_171 Fm_171 Fc_171 E_a1_171 E_a2_171 VL_171 VH_171 VB1_171
  have Zs177 : n0 ≤ h176.size := Nat.le_trans Zs171 K176.1
  have Kk177 : Keep h0 h176 [a1] := Keep.trans Kk171 K176 (own_trans3 (Or.inr sz_b2) (Or.inr sz_b3) (Or.inr sz_b4))
  have R178 : ∀ t, Steps p.tables e below (T176.setTop (mkF m 47 #[.val (.ref a1), .val (.ref a2), .val (.ref a3), .val (.int (own_fl (own_F lo hi 2).1 (own_F lo hi 2).2 (own_bits (lo 2) (hi 2)))), .val (.int ((own_us (own_F lo hi 2).2 (own_bits (lo 2) (hi 2))) + (own_bits (lo 2) (hi 2)))), .val (.int ((((0 : Int32) + (1 : Int32)) + (1 : Int32)) + (1 : Int32))), .val (.long ((hi 2).toInt64 - (lo 2).toInt64)), .second, .val (.int (own_bits (lo 2) (hi 2)))] [])) t → Steps p.tables e below (s₁.setTop (mkF m 0 #[.val (.ref a1), .val (.ref a2), .val (.ref a3), .unset, .unset, .unset, .unset, .unset, .unset] [])) t := by
    intro t kt
    refine R175 _ ?_
    refine st176 _ ?_
    exact kt
  clear R175 st176
  have R179 : ∀ t, Steps p.tables e below (T176.setTop (mkF m 47 #[.val (.ref a1), .val (.ref a2), .val (.ref a3), .val (.int (own_F lo hi 3).1), .val (.int (own_F lo hi 3).2), .val (.int ((((0 : Int32) + (1 : Int32)) + (1 : Int32)) + (1 : Int32))), .val (.long ((hi 2).toInt64 - (lo 2).toInt64)), .second, .val (.int (own_bits (lo 2) (hi 2)))] [])) t → Steps p.tables e below (s₁.setTop (mkF m 0 #[.val (.ref a1), .val (.ref a2), .val (.ref a3), .unset, .unset, .unset, .unset, .unset, .unset] [])) t := by exact R178
  have R180 : ∀ t, Steps p.tables e below (T176.setTop (mkF m 50 #[.val (.ref a1), .val (.ref a2), .val (.ref a3), .val (.int (own_F lo hi 3).1), .val (.int (own_F lo hi 3).2), .val (.int ((((0 : Int32) + (1 : Int32)) + (1 : Int32)) + (1 : Int32))), .val (.long ((hi 2).toInt64 - (lo 2).toInt64)), .second, .val (.int (own_bits (lo 2) (hi 2)))] [(.ref a2), (.int ((((0 : Int32) + (1 : Int32)) + (1 : Int32)) + (1 : Int32)))])) t → Steps p.tables e below (s₁.setTop (mkF m 0 #[.val (.ref a1), .val (.ref a2), .val (.ref a3), .unset, .unset, .unset, .unset, .unset, .unset] [])) t := by
    intro t kt
    refine R179 _ ?_
    show Steps p.tables e below (T176.setTop (mkF m 47 #[.val (.ref a1), .val (.ref a2), .val (.ref a3), .val (.int (own_F lo hi 3).1), .val (.int (own_F lo hi 3).2), .val (.int ((((0 : Int32) + (1 : Int32)) + (1 : Int32)) + (1 : Int32))), .val (.long ((hi 2).toInt64 - (lo 2).toInt64)), .second, .val (.int (own_bits (lo 2) (hi 2)))] [])) _
    refine XS.iload X176.here hx rfl (hb hby d4_47) rfl ?_
    show Steps p.tables e below (T176.setTop (mkF m 49 #[.val (.ref a1), .val (.ref a2), .val (.ref a3), .val (.int (own_F lo hi 3).1), .val (.int (own_F lo hi 3).2), .val (.int ((((0 : Int32) + (1 : Int32)) + (1 : Int32)) + (1 : Int32))), .val (.long ((hi 2).toInt64 - (lo 2).toInt64)), .second, .val (.int (own_bits (lo 2) (hi 2)))] [(.int ((((0 : Int32) + (1 : Int32)) + (1 : Int32)) + (1 : Int32)))])) _
    refine XS.aloadN X176.here hx rfl (hb hby d4_49) rfl rfl ?_
    exact kt
  clear R179
  obtain ⟨cl181, Ar181, ln181⟩ := VL_177.len
  have R182 : ∀ t, Steps p.tables e below (T176.setTop (mkF m 158 #[.val (.ref a1), .val (.ref a2), .val (.ref a3), .val (.int (own_F lo hi 3).1), .val (.int (own_F lo hi 3).2), .val (.int ((((0 : Int32) + (1 : Int32)) + (1 : Int32)) + (1 : Int32))), .val (.long ((hi 2).toInt64 - (lo 2).toInt64)), .second, .val (.int (own_bits (lo 2) (hi 2)))] [(.int ((own_F lo hi 3).1 + (1 : Int32))), (.ref a1)])) t → Steps p.tables e below (s₁.setTop (mkF m 0 #[.val (.ref a1), .val (.ref a2), .val (.ref a3), .unset, .unset, .unset, .unset, .unset, .unset] [])) t := by
    intro t kt
    refine R180 _ ?_
    show Steps p.tables e below (T176.setTop (mkF m 50 #[.val (.ref a1), .val (.ref a2), .val (.ref a3), .val (.int (own_F lo hi 3).1), .val (.int (own_F lo hi 3).2), .val (.int ((((0 : Int32) + (1 : Int32)) + (1 : Int32)) + (1 : Int32))), .val (.long ((hi 2).toInt64 - (lo 2).toInt64)), .second, .val (.int (own_bits (lo 2) (hi 2)))] [(.ref a2), (.int ((((0 : Int32) + (1 : Int32)) + (1 : Int32)) + (1 : Int32)))])) _
    refine X176.arraylength hx (by rw [e176]; exact Ar181.1) (State.isArrayOf_alike hZ.alike Ar181.2.1) (g := (mkF m 50 #[.val (.ref a1), .val (.ref a2), .val (.ref a3), .val (.int (own_F lo hi 3).1), .val (.int (own_F lo hi 3).2), .val (.int ((((0 : Int32) + (1 : Int32)) + (1 : Int32)) + (1 : Int32))), .val (.long ((hi 2).toInt64 - (lo 2).toInt64)), .second, .val (.int (own_bits (lo 2) (hi 2)))] [(.ref a2), (.int ((((0 : Int32) + (1 : Int32)) + (1 : Int32)) + (1 : Int32)))])) rfl rfl (hb hby d4_50) _ ?_
    rw [ln181]
    show Steps p.tables e below (T176.setTop (mkF m 51 #[.val (.ref a1), .val (.ref a2), .val (.ref a3), .val (.int (own_F lo hi 3).1), .val (.int (own_F lo hi 3).2), .val (.int ((((0 : Int32) + (1 : Int32)) + (1 : Int32)) + (1 : Int32))), .val (.long ((hi 2).toInt64 - (lo 2).toInt64)), .second, .val (.int (own_bits (lo 2) (hi 2)))] [(.int (3 : Int32)), (.int ((((0 : Int32) + (1 : Int32)) + (1 : Int32)) + (1 : Int32)))])) _
    refine XS.icmpYes X176.here hx rfl (pc0 := 51) (pc' := 154) rfl (hb hby d4_51) rfl (flt (by decide : ¬ (((((0 : Int32) + (1 : Int32)) + (1 : Int32)) + (1 : Int32)) < (3 : Int32)))).2.1 (by decide) (by decide) ?_
    show Steps p.tables e below (T176.setTop (mkF m 154 #[.val (.ref a1), .val (.ref a2), .val (.ref a3), .val (.int (own_F lo hi 3).1), .val (.int (own_F lo hi 3).2), .val (.int ((((0 : Int32) + (1 : Int32)) + (1 : Int32)) + (1 : Int32))), .val (.long ((hi 2).toInt64 - (lo 2).toInt64)), .second, .val (.int (own_bits (lo 2) (hi 2)))] [])) _
    refine XS.aloadN X176.here hx rfl (hb hby d4_154) rfl rfl ?_
    show Steps p.tables e below (T176.setTop (mkF m 155 #[.val (.ref a1), .val (.ref a2), .val (.ref a3), .val (.int (own_F lo hi 3).1), .val (.int (own_F lo hi 3).2), .val (.int ((((0 : Int32) + (1 : Int32)) + (1 : Int32)) + (1 : Int32))), .val (.long ((hi 2).toInt64 - (lo 2).toInt64)), .second, .val (.int (own_bits (lo 2) (hi 2)))] [(.ref a1)])) _
    refine XS.iloadN X176.here hx rfl (hb hby d4_155) rfl ?_
    show Steps p.tables e below (T176.setTop (mkF m 156 #[.val (.ref a1), .val (.ref a2), .val (.ref a3), .val (.int (own_F lo hi 3).1), .val (.int (own_F lo hi 3).2), .val (.int ((((0 : Int32) + (1 : Int32)) + (1 : Int32)) + (1 : Int32))), .val (.long ((hi 2).toInt64 - (lo 2).toInt64)), .second, .val (.int (own_bits (lo 2) (hi 2)))] [(.int (own_F lo hi 3).1), (.ref a1)])) _
    refine XS.iconst X176.here hx rfl (hb hby d4_156) ?_
    show Steps p.tables e below (T176.setTop (mkF m 157 #[.val (.ref a1), .val (.ref a2), .val (.ref a3), .val (.int (own_F lo hi 3).1), .val (.int (own_F lo hi 3).2), .val (.int ((((0 : Int32) + (1 : Int32)) + (1 : Int32)) + (1 : Int32))), .val (.long ((hi 2).toInt64 - (lo 2).toInt64)), .second, .val (.int (own_bits (lo 2) (hi 2)))] [(.int (1 : Int32)), (.int (own_F lo hi 3).1), (.ref a1)])) _
    refine XS.iadd X176.here hx rfl (hb hby d4_157) rfl ?_
    exact kt
  clear R180
  obtain ⟨T183, h183, X183, e183, W183, st183⟩ := putF X176 hx hZ hown (host := "") (Or.inl (hw _ (List.mem_of_getElem? (i := 50) rfl))) Via.refl e176 Fc_177 E_a1_177 (Or.inr ⟨(hw _ (List.mem_of_getElem? (i := 51) rfl)), rfl, hnm⟩) (hw _ (List.mem_of_getElem? (i := 14) rfl)) (ty := .int) (by decide) rfl rfl (g := (mkF m 158 #[.val (.ref a1), .val (.ref a2), .val (.ref a3), .val (.int (own_F lo hi 3).1), .val (.int (own_F lo hi 3).2), .val (.int ((((0 : Int32) + (1 : Int32)) + (1 : Int32)) + (1 : Int32))), .val (.long ((hi 2).toInt64 - (lo 2).toInt64)), .second, .val (.int (own_bits (lo 2) (hi 2)))] [(.int ((own_F lo hi 3).1 + (1 : Int32))), (.ref a1)])) rfl rfl (hb hby d4_158)
  have N183 := Fr.snoc X183 N176 ga
  have Fc_183 := Fc_177.same W183
  have Fl_183 := Fl_177.other W183 (Or.inr (slot_ne (Or.inr (hw _ (List.mem_of_getElem? (i := 32) rfl))) (Or.inr (hw _ (List.mem_of_getElem? (i := 51) rfl))) (by decide) (t := (.array .int)) (t' := .int) (by decide) (by decide)))
  have Fw_183 := Fw_177.other W183 (Or.inr (slot_ne (Or.inr (hw _ (List.mem_of_getElem? (i := 34) rfl))) (Or.inr (hw _ (List.mem_of_getElem? (i := 51) rfl))) (by decide) (t := (.array .int)) (t' := .int) (by decide) (by decide)))
  have Fs_183 := Fs_177.other W183 (Or.inr (slot_ne (Or.inr (hw _ (List.mem_of_getElem? (i := 36) rfl))) (Or.inr (hw _ (List.mem_of_getElem? (i := 51) rfl))) (by decide) (t := (.array .int)) (t' := .int) (by decide) (by decide)))
  have Fm_183 := Fm_177.other W183 (Or.inr (slot_ne (Or.inr (hw _ (List.mem_of_getElem? (i := 39) rfl))) (Or.inr (hw _ (List.mem_of_getElem? (i := 51) rfl))) (by decide) (t := (.array .long)) (t' := .int) (by decide) (by decide)))
  have E_a1_183 := E_a1_177.wr W183
  have E_a2_183 := E_a2_177.wr W183
  have VL_183 := VL_177.other W183 (Ne.symm n12)
  have VH_183 := VH_177.other W183 (Ne.symm n13)
  have VB1_183 := VB1_177.other W183 (Ne.symm ne_a1_b1)
  have VW_183 := VW176.other W183 (Ne.symm ne_a1_b2)
  have VS_183 := VS176.other W183 (Ne.symm ne_a1_b3)
  have VM_183 := VM176.other W183 (Ne.symm ne_a1_b4)
  clear Fl_177 Fw_177 Fs_177 Fm_177 E_a1_177 E_a2_177 VL_177 VH_177 VB1_177
  have Zs183 : n0 ≤ h183.size := Nat.le_trans Zs177 (Keep.of_wr W183).1
  have Kw183 : Keep h0 h183 [a1] := Keep.wr Kk177 W183 (Or.inl (List.mem_of_getElem? (i := 0) rfl))
  have R184 : ∀ t, Steps p.tables e below (T183.setTop (mkF m 161 #[.val (.ref a1), .val (.ref a2), .val (.ref a3), .val (.int (own_F lo hi 3).1), .val (.int (own_F lo hi 3).2), .val (.int ((((0 : Int32) + (1 : Int32)) + (1 : Int32)) + (1 : Int32))), .val (.long ((hi 2).toInt64 - (lo 2).toInt64)), .second, .val (.int (own_bits (lo 2) (hi 2)))] [])) t → Steps p.tables e below (s₁.setTop (mkF m 0 #[.val (.ref a1), .val (.ref a2), .val (.ref a3), .unset, .unset, .unset, .unset, .unset, .unset] [])) t := by
    intro t kt
    refine R182 _ ?_
    refine st183 _ ?_
    exact kt
  clear R182 st183
  have VWz : AV Z h183 b2 .int 3 (fun j => .int ((own_wd lo hi) j)) := AV.congr VW_183 (fun j hj => congrArg _ (own_three (own_wd lo hi) _ j hj))
  have VSz : AV Z h183 b3 .int 3 (fun j => .int ((own_sf lo hi) j)) := AV.congr VS_183 (fun j hj => congrArg _ (own_three (own_sf lo hi) _ j hj))
  have VMz : AV Z h183 b4 .long 3 (fun j => .long ((own_mk lo hi) j)) := AV.congr VM_183 (fun j hj => congrArg _ (own_three (own_mk lo hi) _ j hj))
  obtain ⟨fs, hr, hrun, hended, hW, hsame⟩ := X183.leave (v := none) (fun _ => rfl)
  refine ⟨_, _, pre0 _ (R184 _ ?_), hrun, hended, _, _, rfl, ?_, ⟨_, rfl⟩, hW, hsame.mono (by decide) (by decide)⟩
  · exact X183.returnOut hx Bd.returns (hb hby d4_161) hr
  · show Q_rm_enc Z a1 a2 a3 lo hi h0 n0 _ T183.heap _
    rw [e183]
    exact ⟨rfl, N183, Kw183, E_a1_183, b1, b2, b3, b4, Fl_183, Fw_183, Fs_183, Fm_183, Fc_183, VB1_183, VWz, VSz, VMz⟩
theorem d8_0 : decode prog_37_method_3_code 0 = .ok (.iconst 0, 1) := by decide +kernel
theorem d8_1 : decode prog_37_method_3_code 1 = .ok (.istore 4, 2) := by decide +kernel
theorem d8_3 : decode prog_37_method_3_code 3 = .ok (.iload 4, 2) := by decide +kernel
theorem d8_5 : decode prog_37_method_3_code 5 = .ok (.aload_n 0, 1) := by decide +kernel
theorem d8_6 : decode prog_37_method_3_code 6 = .ok (.getfield 36, 3) := by decide +kernel
theorem d8_9 : decode prog_37_method_3_code 9 = .ok (.if_icmp .ge 16, 3) := by decide +kernel
theorem d8_12 : decode prog_37_method_3_code 12 = .ok (.aload_n 2, 1) := by decide +kernel
theorem d8_13 : decode prog_37_method_3_code 13 = .ok (.iload_n 3, 1) := by decide +kernel
theorem d8_14 : decode prog_37_method_3_code 14 = .ok (.iload 4, 2) := by decide +kernel
theorem d8_16 : decode prog_37_method_3_code 16 = .ok (.iadd, 1) := by decide +kernel
theorem d8_17 : decode prog_37_method_3_code 17 = .ok (.lconst 0, 1) := by decide +kernel
theorem d8_18 : decode prog_37_method_3_code 18 = .ok (.lastore, 1) := by decide +kernel
theorem d8_19 : decode prog_37_method_3_code 19 = .ok (.iinc 4 1, 3) := by decide +kernel
theorem d8_22 : decode prog_37_method_3_code 22 = .ok (.goto (-19), 3) := by decide +kernel
theorem d8_25 : decode prog_37_method_3_code 25 = .ok (.iconst 0, 1) := by decide +kernel
theorem d8_26 : decode prog_37_method_3_code 26 = .ok (.istore 4, 2) := by decide +kernel
theorem d8_28 : decode prog_37_method_3_code 28 = .ok (.iload 4, 2) := by decide +kernel
theorem d8_30 : decode prog_37_method_3_code 30 = .ok (.aload_n 0, 1) := by decide +kernel
theorem d8_31 : decode prog_37_method_3_code 31 = .ok (.getfield 13, 3) := by decide +kernel
theorem d8_34 : decode prog_37_method_3_code 34 = .ok (.arraylength, 1) := by decide +kernel
theorem d8_35 : decode prog_37_method_3_code 35 = .ok (.if_icmp .ge 45, 3) := by decide +kernel
theorem d8_38 : decode prog_37_method_3_code 38 = .ok (.aload_n 2, 1) := by decide +kernel
theorem d8_39 : decode prog_37_method_3_code 39 = .ok (.iload_n 3, 1) := by decide +kernel
theorem d8_40 : decode prog_37_method_3_code 40 = .ok (.aload_n 0, 1) := by decide +kernel
theorem d8_41 : decode prog_37_method_3_code 41 = .ok (.getfield 18, 3) := by decide +kernel
theorem d8_44 : decode prog_37_method_3_code 44 = .ok (.iload 4, 2) := by decide +kernel
theorem d8_46 : decode prog_37_method_3_code 46 = .ok (.iaload, 1) := by decide +kernel
theorem d8_47 : decode prog_37_method_3_code 47 = .ok (.iadd, 1) := by decide +kernel
theorem d8_48 : decode prog_37_method_3_code 48 = .ok (.dup2, 1) := by decide +kernel
theorem d8_49 : decode prog_37_method_3_code 49 = .ok (.laload, 1) := by decide +kernel
theorem d8_50 : decode prog_37_method_3_code 50 = .ok (.aload_n 1, 1) := by decide +kernel
theorem d8_51 : decode prog_37_method_3_code 51 = .ok (.iload 4, 2) := by decide +kernel
theorem d8_53 : decode prog_37_method_3_code 53 = .ok (.iaload, 1) := by decide +kernel
theorem d8_54 : decode prog_37_method_3_code 54 = .ok (.i2l, 1) := by decide +kernel
theorem d8_55 : decode prog_37_method_3_code 55 = .ok (.aload_n 0, 1) := by decide +kernel
theorem d8_56 : decode prog_37_method_3_code 56 = .ok (.getfield 13, 3) := by decide +kernel
theorem d8_59 : decode prog_37_method_3_code 59 = .ok (.iload 4, 2) := by decide +kernel
theorem d8_61 : decode prog_37_method_3_code 61 = .ok (.iaload, 1) := by decide +kernel
theorem d8_62 : decode prog_37_method_3_code 62 = .ok (.i2l, 1) := by decide +kernel
theorem d8_63 : decode prog_37_method_3_code 63 = .ok (.lsub, 1) := by decide +kernel
theorem d8_64 : decode prog_37_method_3_code 64 = .ok (.aload_n 0, 1) := by decide +kernel
theorem d8_65 : decode prog_37_method_3_code 65 = .ok (.getfield 21, 3) := by decide +kernel
theorem d8_68 : decode prog_37_method_3_code 68 = .ok (.iload 4, 2) := by decide +kernel
theorem d8_70 : decode prog_37_method_3_code 70 = .ok (.iaload, 1) := by decide +kernel
theorem d8_71 : decode prog_37_method_3_code 71 = .ok (.lshl, 1) := by decide +kernel
theorem d8_72 : decode prog_37_method_3_code 72 = .ok (.lor, 1) := by decide +kernel
theorem d8_73 : decode prog_37_method_3_code 73 = .ok (.lastore, 1) := by decide +kernel
theorem d8_74 : decode prog_37_method_3_code 74 = .ok (.iinc 4 1, 3) := by decide +kernel
theorem d8_77 : decode prog_37_method_3_code 77 = .ok (.goto (-49), 3) := by decide +kernel
theorem d8_80 : decode prog_37_method_3_code 80 = .ok (.return_, 1) := by decide +kernel
theorem ef_rm_encode (m : MethodId) (a1 : Addr) (a2 : Addr) (a3 : Addr) (p4 : Int32) : entryFrame m #[(.ref a1), (.ref a2), (.ref a3), (.int p4)] 5 = mkF m 0 #[.val (.ref a1), .val (.ref a2), .val (.ref a3), .val (.int p4), .unset] [] := by first | (simp [entryFrame, mkF, argsToLocals, Value.category]; done) | rfl
def Q_rm_encode (Z : State) (a1 : Addr) (a2 : Addr) (a3 : Addr) (p4 : Int32) (b1 : Addr) (b2 : Addr) (b3 : Addr) (words : Int32) (lo : Nat → Int32) (wd : Nat → Int32) (sh : Nat → Int32) (val : Nat → Int32) (fk : Nat → Int64) (NN : Nat) (o : Nat) (nw : Nat) (wn : Nat → Nat) (h0 : Heap) (n0 : Nat) (v : Option Value) (h : Heap) (L : List Loc) : Prop := v = none ∧ Fr n0 L ∧ Keep h0 h [a3] ∧ AV Z h a3 .long NN (fun j => .long ((own_enc fk o nw wn lo val sh) j))
set_option maxRecDepth 65536 in
set_option maxHeartbeats 40000000 in
theorem rm_encode (l : Launch) (Z : State) (a0 : Array Value) (hw : ∀ d ∈ tables_1, d.before a0 Z = true) (ws : List Jvm.Cond) (a1 : Addr) (a2 : Addr) (a3 : Addr) (p4 : Int32) (b1 : Addr) (b2 : Addr) (b3 : Addr) (words : Int32) (lo : Nat → Int32) (wd : Nat → Int32) (sh : Nat → Int32) (val : Nat → Int32) (fk : Nat → Int64) (NN : Nat) (o : Nat) (nw : Nat) (wn : Nat → Nat) (h0 : Heap) (n0 : Nat) (Z0 : n0 ≤ h0.size) (Fl : Fld Z h0 a1 "com/example/inexact_odds/inexactodds/language/Encoding" "low" "[I" (.ref b1)) (Fw : Fld Z h0 a1 "com/example/inexact_odds/inexactodds/language/Encoding" "word" "[I" (.ref b2)) (Fs : Fld Z h0 a1 "com/example/inexact_odds/inexactodds/language/Encoding" "shift" "[I" (.ref b3)) (Fc : Fld Z h0 a1 "com/example/inexact_odds/inexactodds/language/Encoding" "words" "I" (.int words)) (VL : AV Z h0 b1 .int 3 (fun j => .int (lo j))) (VW : AV Z h0 b2 .int 3 (fun j => .int (wd j))) (VS : AV Z h0 b3 .int 3 (fun j => .int (sh j))) (VV : AV Z h0 a2 .int 3 (fun j => .int (val j))) (VK : AV Z h0 a3 .long NN (fun j => .long (fk j))) (ga : n0 ≤ a3) (m1 : a1 ≠ a3) (m2 : a2 ≠ a3) (m3 : b1 ≠ a3) (m4 : b2 ≠ a3) (m5 : b3 ≠ a3) (ho : p4.toInt = o) (hnn : o + nw ≤ NN) (h8 : NN ≤ 8) (hwds : words.toInt = nw) (hnw : nw = 1 ∨ nw = 2) (hwn : ∀ j, j < 3 → (wd j).toInt = wn j ∧ wn j < nw) :
    MetFree l (⟨"com/example/inexact_odds/inexactodds/language/Encoding", "encode", "([I[JI)V"⟩ : MethodName) (head1 (Jvm.Cond.code (⟨"com/example/inexact_odds/inexactodds/language/Encoding", "encode", "([I[JI)V"⟩ : MethodName) prog_37_method_3_code 5 none :: ws) ({ frames := 0, cells := 0, slots := 0, locals := 0 } : Room)) (fun a U => a = #[(.ref a1), (.ref a2), (.ref a3), (.int p4)] ∧ Z.Warmed39 U.vm ∧ U.heap = h0) (fun _ _ _ _ _ => True) (fun _ U oC U' => ∃ v L, oC = .returned v ∧ Q_rm_encode Z a1 a2 a3 p4 b1 b2 b3 words lo wd sh val fk NN o nw wn h0 n0 v U'.heap L ∧ FrameEnd U oC U' L ({ frames := 0, cells := 0, slots := 0, locals := 0 } : Room).cells ({ frames := 0, cells := 0, slots := 0, locals := 0 } : Room).slots) := by
  refine MetFree.of_bodySF (plainFor_of_name pn_2) hisR ?_
  intro p e s m args below meth c s₁ Bd hml0 hP hK
  obtain ⟨rfl, hZ, hh⟩ := hP
  have hx := Bd.exec
  have hby := Bd.bytes
  have hml : c.maxLocals = 5 := hml0
  have hown : s.vm.findClass "com/example/inexact_odds/inexactodds/language/Encoding" = some m.cls := findClass_of_methodNamed Bd.named
  have hnm := (name_of_methodNamed Bd.named Bd.method).1
  have X0 : Stand p l e ({ frames := 0, cells := 0, slots := 0, locals := 0 } : Room) s m #[(.ref a1), (.ref a2), (.ref a3), (.int p4)] below meth c s₁ [] 0 0 := Stand.of_body Bd
  have e0 : s₁.heap = h0 := by rw [← hh, Bd.state]; rfl
  have N0 := Fr.nil n0
  have pre0 : ∀ t, Steps p.tables e below (s₁.setTop (mkF m 0 #[.val (.ref a1), .val (.ref a2), .val (.ref a3), .val (.int p4), .unset] [])) t → Steps p.tables e below (s₁.setTop (entryFrame m #[(.ref a1), (.ref a2), (.ref a3), (.int p4)] 5)) t := fun t k => castTop (ef_rm_encode m a1 a2 a3 p4) k
  have pre00 : ∀ t, Steps p.tables e below (s₁.setTop (mkF m 0 #[.val (.ref a1), .val (.ref a2), .val (.ref a3), .val (.int p4), .unset] [])) t → Steps p.tables e below (s₁.setTop (mkF m 0 #[.val (.ref a1), .val (.ref a2), .val (.ref a3), .val (.int p4), .unset] [])) t := fun _ k => k
  obtain ⟨c0, d0⟩ := hwn 0 (by decide)
  obtain ⟨c1, d1⟩ := hwn 1 (by decide)
  obtain ⟨c2, d2⟩ := hwn 2 (by decide)
  rcases hnw with hn | hn
  · rw [hn] at hwds hnn d0 d1 d2
    have R185 : ∀ t, Steps p.tables e below (s₁.setTop (mkF m 6 #[.val (.ref a1), .val (.ref a2), .val (.ref a3), .val (.int p4), .val (.int (0 : Int32))] [(.ref a1), (.int (0 : Int32))])) t → Steps p.tables e below (s₁.setTop (mkF m 0 #[.val (.ref a1), .val (.ref a2), .val (.ref a3), .val (.int p4), .unset] [])) t := by
      intro t kt
      refine pre00 _ ?_
      show Steps p.tables e below (s₁.setTop (mkF m 0 #[.val (.ref a1), .val (.ref a2), .val (.ref a3), .val (.int p4), .unset] [])) _
      refine XS.iconst X0.here hx rfl (hb hby d8_0) ?_
      show Steps p.tables e below (s₁.setTop (mkF m 1 #[.val (.ref a1), .val (.ref a2), .val (.ref a3), .val (.int p4), .unset] [(.int (0 : Int32))])) _
      refine XS.istore X0.here hx rfl (hb hby d8_1) rfl (l' := #[.val (.ref a1), .val (.ref a2), .val (.ref a3), .val (.int p4), .val (.int (0 : Int32))]) rfl ?_
      show Steps p.tables e below (s₁.setTop (mkF m 3 #[.val (.ref a1), .val (.ref a2), .val (.ref a3), .val (.int p4), .val (.int (0 : Int32))] [])) _
      refine XS.iload X0.here hx rfl (hb hby d8_3) rfl ?_
      show Steps p.tables e below (s₁.setTop (mkF m 5 #[.val (.ref a1), .val (.ref a2), .val (.ref a3), .val (.int p4), .val (.int (0 : Int32))] [(.int (0 : Int32))])) _
      refine XS.aloadN X0.here hx rfl (hb hby d8_5) rfl rfl ?_
      exact kt
    obtain ⟨T186, X186, e186, st186⟩ := getF X0 hx hZ hown (host := "") (Or.inl (hw _ (List.mem_of_getElem? (i := 50) rfl))) Via.refl e0 Fc (g := (mkF m 6 #[.val (.ref a1), .val (.ref a2), .val (.ref a3), .val (.int p4), .val (.int (0 : Int32))] [(.ref a1), (.int (0 : Int32))])) rfl rfl (hb hby d8_6)
    have R187 : ∀ t, Steps p.tables e below (T186.setTop (mkF m 18 #[.val (.ref a1), .val (.ref a2), .val (.ref a3), .val (.int p4), .val (.int (0 : Int32))] [(.long (0 : Int64)), (.int (p4 + (0 : Int32))), (.ref a3)])) t → Steps p.tables e below (s₁.setTop (mkF m 0 #[.val (.ref a1), .val (.ref a2), .val (.ref a3), .val (.int p4), .unset] [])) t := by
      intro t kt
      refine R185 _ ?_
      refine st186 _ ?_
      show Steps p.tables e below (T186.setTop (mkF m 9 #[.val (.ref a1), .val (.ref a2), .val (.ref a3), .val (.int p4), .val (.int (0 : Int32))] [(.int words), (.int (0 : Int32))])) _
      refine XS.icmpNo X186.here hx rfl (hb hby d8_9) rfl (tlt (own_lt_of (m := 0) (n := 1) rfl hwds (by decide) : (0 : Int32) < words)).2.1 ?_
      show Steps p.tables e below (T186.setTop (mkF m 12 #[.val (.ref a1), .val (.ref a2), .val (.ref a3), .val (.int p4), .val (.int (0 : Int32))] [])) _
      refine XS.aloadN X186.here hx rfl (hb hby d8_12) rfl rfl ?_
      show Steps p.tables e below (T186.setTop (mkF m 13 #[.val (.ref a1), .val (.ref a2), .val (.ref a3), .val (.int p4), .val (.int (0 : Int32))] [(.ref a3)])) _
      refine XS.iloadN X186.here hx rfl (hb hby d8_13) rfl ?_
      show Steps p.tables e below (T186.setTop (mkF m 14 #[.val (.ref a1), .val (.ref a2), .val (.ref a3), .val (.int p4), .val (.int (0 : Int32))] [(.int p4), (.ref a3)])) _
      refine XS.iload X186.here hx rfl (hb hby d8_14) rfl ?_
      show Steps p.tables e below (T186.setTop (mkF m 16 #[.val (.ref a1), .val (.ref a2), .val (.ref a3), .val (.int p4), .val (.int (0 : Int32))] [(.int (0 : Int32)), (.int p4), (.ref a3)])) _
      refine XS.iadd X186.here hx rfl (hb hby d8_16) rfl ?_
      show Steps p.tables e below (T186.setTop (mkF m 17 #[.val (.ref a1), .val (.ref a2), .val (.ref a3), .val (.int p4), .val (.int (0 : Int32))] [(.int (p4 + (0 : Int32))), (.ref a3)])) _
      refine XS.lconst X186.here hx rfl (hb hby d8_17) ?_
      exact kt
    clear R185 st186
    have q1_0 := own_ix p4 (0 : Int32) o 0 NN ho rfl (Nat.lt_of_lt_of_le (Nat.add_lt_add_left (by decide : 0 < 1) o) hnn) h8
    obtain ⟨cl188, Ar188, hin188, -⟩ := VK.at (j := (p4 + (0 : Int32))) (k := o) q1_0.1 q1_0.2 (Nat.lt_of_lt_of_le (Nat.add_lt_add_left (by decide : 0 < 1) o) hnn)
    obtain ⟨T189, h189, X189, e189, W189, st189⟩ := stJ X186 hx hZ e186 Ar188 (j := (p4 + (0 : Int32))) hin188 (g := (mkF m 18 #[.val (.ref a1), .val (.ref a2), .val (.ref a3), .val (.int p4), .val (.int (0 : Int32))] [(.long (0 : Int64)), (.int (p4 + (0 : Int32))), (.ref a3)])) rfl rfl (hb hby d8_18)
    have N189 := Fr.snoc X189 N0 ga
    rw [show ((p4 + (0 : Int32)) : Int32).toNatClampNeg = o from q1_0.2] at W189
    have VK_189 : AV Z h189 a3 .long NN (fun j => .long ((own_set fk o (0 : Int64)) j)) := VK.setJ W189
    have Fl_189 := Fl.other W189 (Or.inl m1)
    have Fw_189 := Fw.other W189 (Or.inl m1)
    have Fs_189 := Fs.other W189 (Or.inl m1)
    have Fc_189 := Fc.other W189 (Or.inl m1)
    have VL_189 := VL.other W189 m3
    have VW_189 := VW.other W189 m4
    have VS_189 := VS.other W189 m5
    have VV_189 := VV.other W189 m2
    have Zs189 : n0 ≤ h189.size := Nat.le_trans Z0 (Keep.of_wr W189).1
    have Kw189 : Keep h0 h189 [a3] := Keep.wr (Keep.refl h0 [a3]) W189 (Or.inl (List.mem_of_getElem? (i := 0) rfl))
    have R190 : ∀ t, Steps p.tables e below (T189.setTop (mkF m 6 #[.val (.ref a1), .val (.ref a2), .val (.ref a3), .val (.int p4), .val (.int ((0 : Int32) + (1 : Int32)))] [(.ref a1), (.int ((0 : Int32) + (1 : Int32)))])) t → Steps p.tables e below (s₁.setTop (mkF m 0 #[.val (.ref a1), .val (.ref a2), .val (.ref a3), .val (.int p4), .unset] [])) t := by
      intro t kt
      refine R187 _ ?_
      refine st189 _ ?_
      show Steps p.tables e below (T189.setTop (mkF m 19 #[.val (.ref a1), .val (.ref a2), .val (.ref a3), .val (.int p4), .val (.int (0 : Int32))] [])) _
      refine XS.iinc X189.here hx rfl (hb hby d8_19) rfl (l' := #[.val (.ref a1), .val (.ref a2), .val (.ref a3), .val (.int p4), .val (.int ((0 : Int32) + (1 : Int32)))]) rfl ?_
      show Steps p.tables e below (T189.setTop (mkF m 22 #[.val (.ref a1), .val (.ref a2), .val (.ref a3), .val (.int p4), .val (.int ((0 : Int32) + (1 : Int32)))] [])) _
      refine XS.goto X189.here hx rfl (pc0 := 22) (pc' := 3) rfl (hb hby d8_22) (by decide) (by decide) ?_
      show Steps p.tables e below (T189.setTop (mkF m 3 #[.val (.ref a1), .val (.ref a2), .val (.ref a3), .val (.int p4), .val (.int ((0 : Int32) + (1 : Int32)))] [])) _
      refine XS.iload X189.here hx rfl (hb hby d8_3) rfl ?_
      show Steps p.tables e below (T189.setTop (mkF m 5 #[.val (.ref a1), .val (.ref a2), .val (.ref a3), .val (.int p4), .val (.int ((0 : Int32) + (1 : Int32)))] [(.int ((0 : Int32) + (1 : Int32)))])) _
      refine XS.aloadN X189.here hx rfl (hb hby d8_5) rfl rfl ?_
      exact kt
    clear R187 st189
    obtain ⟨T191, X191, e191, st191⟩ := getF X189 hx hZ hown (host := "") (Or.inl (hw _ (List.mem_of_getElem? (i := 50) rfl))) Via.refl e189 Fc_189 (g := (mkF m 6 #[.val (.ref a1), .val (.ref a2), .val (.ref a3), .val (.int p4), .val (.int ((0 : Int32) + (1 : Int32)))] [(.ref a1), (.int ((0 : Int32) + (1 : Int32)))])) rfl rfl (hb hby d8_6)
    have R192 : ∀ t, Steps p.tables e below (T191.setTop (mkF m 31 #[.val (.ref a1), .val (.ref a2), .val (.ref a3), .val (.int p4), .val (.int (0 : Int32))] [(.ref a1), (.int (0 : Int32))])) t → Steps p.tables e below (s₁.setTop (mkF m 0 #[.val (.ref a1), .val (.ref a2), .val (.ref a3), .val (.int p4), .unset] [])) t := by
      intro t kt
      refine R190 _ ?_
      refine st191 _ ?_
      show Steps p.tables e below (T191.setTop (mkF m 9 #[.val (.ref a1), .val (.ref a2), .val (.ref a3), .val (.int p4), .val (.int ((0 : Int32) + (1 : Int32)))] [(.int words), (.int ((0 : Int32) + (1 : Int32)))])) _
      refine XS.icmpYes X191.here hx rfl (pc0 := 9) (pc' := 25) rfl (hb hby d8_9) rfl (flt (own_nlt_of (m := 1) (n := 1) rfl hwds (by decide) : ¬ (((0 : Int32) + (1 : Int32)) < words))).2.1 (by decide) (by decide) ?_
      show Steps p.tables e below (T191.setTop (mkF m 25 #[.val (.ref a1), .val (.ref a2), .val (.ref a3), .val (.int p4), .val (.int ((0 : Int32) + (1 : Int32)))] [])) _
      refine XS.iconst X191.here hx rfl (hb hby d8_25) ?_
      show Steps p.tables e below (T191.setTop (mkF m 26 #[.val (.ref a1), .val (.ref a2), .val (.ref a3), .val (.int p4), .val (.int ((0 : Int32) + (1 : Int32)))] [(.int (0 : Int32))])) _
      refine XS.istore X191.here hx rfl (hb hby d8_26) rfl (l' := #[.val (.ref a1), .val (.ref a2), .val (.ref a3), .val (.int p4), .val (.int (0 : Int32))]) rfl ?_
      show Steps p.tables e below (T191.setTop (mkF m 28 #[.val (.ref a1), .val (.ref a2), .val (.ref a3), .val (.int p4), .val (.int (0 : Int32))] [])) _
      refine XS.iload X191.here hx rfl (hb hby d8_28) rfl ?_
      show Steps p.tables e below (T191.setTop (mkF m 30 #[.val (.ref a1), .val (.ref a2), .val (.ref a3), .val (.int p4), .val (.int (0 : Int32))] [(.int (0 : Int32))])) _
      refine XS.aloadN X191.here hx rfl (hb hby d8_30) rfl rfl ?_
      exact kt
    clear R190 st191
    have VK0_1 : AV Z h189 a3 .long NN (fun j => .long ((own_zero fk o nw) j)) := by rw [own_zero, hn]; exact VK_189
    obtain ⟨T193, X193, e193, st193⟩ := getF X191 hx hZ hown (host := "") (Or.inl (hw _ (List.mem_of_getElem? (i := 31) rfl))) Via.refl e191 Fl_189 (g := (mkF m 31 #[.val (.ref a1), .val (.ref a2), .val (.ref a3), .val (.int p4), .val (.int (0 : Int32))] [(.ref a1), (.int (0 : Int32))])) rfl rfl (hb hby d8_31)
    have R194 : ∀ t, Steps p.tables e below (T193.setTop (mkF m 34 #[.val (.ref a1), .val (.ref a2), .val (.ref a3), .val (.int p4), .val (.int (0 : Int32))] [(.ref b1), (.int (0 : Int32))])) t → Steps p.tables e below (s₁.setTop (mkF m 0 #[.val (.ref a1), .val (.ref a2), .val (.ref a3), .val (.int p4), .unset] [])) t := by
      intro t kt
      refine R192 _ ?_
      refine st193 _ ?_
      exact kt
    clear R192 st193
    obtain ⟨cl195, Ar195, ln195⟩ := VL_189.len
    have R196 : ∀ t, Steps p.tables e below (T193.setTop (mkF m 41 #[.val (.ref a1), .val (.ref a2), .val (.ref a3), .val (.int p4), .val (.int (0 : Int32))] [(.ref a1), (.int p4), (.ref a3)])) t → Steps p.tables e below (s₁.setTop (mkF m 0 #[.val (.ref a1), .val (.ref a2), .val (.ref a3), .val (.int p4), .unset] [])) t := by
      intro t kt
      refine R194 _ ?_
      show Steps p.tables e below (T193.setTop (mkF m 34 #[.val (.ref a1), .val (.ref a2), .val (.ref a3), .val (.int p4), .val (.int (0 : Int32))] [(.ref b1), (.int (0 : Int32))])) _
      refine X193.arraylength hx (by rw [e193]; exact Ar195.1) (State.isArrayOf_alike hZ.alike Ar195.2.1) (g := (mkF m 34 #[.val (.ref a1), .val (.ref a2), .val (.ref a3), .val (.int p4), .val (.int (0 : Int32))] [(.ref b1), (.int (0 : Int32))])) rfl rfl (hb hby d8_34) _ ?_
      rw [ln195]
      show Steps p.tables e below (T193.setTop (mkF m 35 #[.val (.ref a1), .val (.ref a2), .val (.ref a3), .val (.int p4), .val (.int (0 : Int32))] [(.int (3 : Int32)), (.int (0 : Int32))])) _
      refine XS.icmpNo X193.here hx rfl (hb hby d8_35) rfl (tlt (by decide : (0 : Int32) < (3 : Int32))).2.1 ?_
      show Steps p.tables e below (T193.setTop (mkF m 38 #[.val (.ref a1), .val (.ref a2), .val (.ref a3), .val (.int p4), .val (.int (0 : Int32))] [])) _
      refine XS.aloadN X193.here hx rfl (hb hby d8_38) rfl rfl ?_
      show Steps p.tables e below (T193.setTop (mkF m 39 #[.val (.ref a1), .val (.ref a2), .val (.ref a3), .val (.int p4), .val (.int (0 : Int32))] [(.ref a3)])) _
      refine XS.iloadN X193.here hx rfl (hb hby d8_39) rfl ?_
      show Steps p.tables e below (T193.setTop (mkF m 40 #[.val (.ref a1), .val (.ref a2), .val (.ref a3), .val (.int p4), .val (.int (0 : Int32))] [(.int p4), (.ref a3)])) _
      refine XS.aloadN X193.here hx rfl (hb hby d8_40) rfl rfl ?_
      exact kt
    clear R194
    obtain ⟨T197, X197, e197, st197⟩ := getF X193 hx hZ hown (host := "") (Or.inl (hw _ (List.mem_of_getElem? (i := 33) rfl))) Via.refl e193 Fw_189 (g := (mkF m 41 #[.val (.ref a1), .val (.ref a2), .val (.ref a3), .val (.int p4), .val (.int (0 : Int32))] [(.ref a1), (.int p4), (.ref a3)])) rfl rfl (hb hby d8_41)
    have R198 : ∀ t, Steps p.tables e below (T197.setTop (mkF m 46 #[.val (.ref a1), .val (.ref a2), .val (.ref a3), .val (.int p4), .val (.int (0 : Int32))] [(.int (0 : Int32)), (.ref b2), (.int p4), (.ref a3)])) t → Steps p.tables e below (s₁.setTop (mkF m 0 #[.val (.ref a1), .val (.ref a2), .val (.ref a3), .val (.int p4), .unset] [])) t := by
      intro t kt
      refine R196 _ ?_
      refine st197 _ ?_
      show Steps p.tables e below (T197.setTop (mkF m 44 #[.val (.ref a1), .val (.ref a2), .val (.ref a3), .val (.int p4), .val (.int (0 : Int32))] [(.ref b2), (.int p4), (.ref a3)])) _
      refine XS.iload X197.here hx rfl (hb hby d8_44) rfl ?_
      exact kt
    clear R196 st197
    obtain ⟨cl199, Ar199, hin199, hat199⟩ := VW_189.at (j := (0 : Int32)) (k := 0) (by decide) rfl (by decide)
    have R200 : ∀ t, Steps p.tables e below (T197.setTop (mkF m 49 #[.val (.ref a1), .val (.ref a2), .val (.ref a3), .val (.int p4), .val (.int (0 : Int32))] [(.int (p4 + (wd 0))), (.ref a3), (.int (p4 + (wd 0))), (.ref a3)])) t → Steps p.tables e below (s₁.setTop (mkF m 0 #[.val (.ref a1), .val (.ref a2), .val (.ref a3), .val (.int p4), .unset] [])) t := by
      intro t kt
      refine R198 _ ?_
      show Steps p.tables e below (T197.setTop (mkF m 46 #[.val (.ref a1), .val (.ref a2), .val (.ref a3), .val (.int p4), .val (.int (0 : Int32))] [(.int (0 : Int32)), (.ref b2), (.int p4), (.ref a3)])) _
      refine X197.iaload hx (j := (0 : Int32)) (v := (.int (wd 0))) (by rw [e197]; exact Ar199.1) (State.isArrayOf_alike hZ.alike Ar199.2.1) Ar199.2.2 hin199 hat199 (g := (mkF m 46 #[.val (.ref a1), .val (.ref a2), .val (.ref a3), .val (.int p4), .val (.int (0 : Int32))] [(.int (0 : Int32)), (.ref b2), (.int p4), (.ref a3)])) rfl rfl (hb hby d8_46) _ ?_
      show Steps p.tables e below (T197.setTop (mkF m 47 #[.val (.ref a1), .val (.ref a2), .val (.ref a3), .val (.int p4), .val (.int (0 : Int32))] [(.int (wd 0)), (.int p4), (.ref a3)])) _
      refine XS.iadd X197.here hx rfl (hb hby d8_47) rfl ?_
      show Steps p.tables e below (T197.setTop (mkF m 48 #[.val (.ref a1), .val (.ref a2), .val (.ref a3), .val (.int p4), .val (.int (0 : Int32))] [(.int (p4 + (wd 0))), (.ref a3)])) _
      jvm_step X197.here [X197.here.top, hx, (hb hby d8_48), Value.category]
      exact kt
    clear R198
    have r1_0 := own_ix p4 (wd 0) o (wn 0) NN ho c0 (Nat.lt_of_lt_of_le (Nat.add_lt_add_left d0 o) hnn) h8
    obtain ⟨cl201, Ar201, hin201, hat201⟩ := VK0_1.at (j := (p4 + (wd 0))) (k := (o + wn 0)) r1_0.1 r1_0.2 (Nat.lt_of_lt_of_le (Nat.add_lt_add_left d0 o) hnn)
    have R202 : ∀ t, Steps p.tables e below (T197.setTop (mkF m 53 #[.val (.ref a1), .val (.ref a2), .val (.ref a3), .val (.int p4), .val (.int (0 : Int32))] [(.int (0 : Int32)), (.ref a2), (.long ((own_zero fk o nw) (o + wn 0))), (.int (p4 + (wd 0))), (.ref a3)])) t → Steps p.tables e below (s₁.setTop (mkF m 0 #[.val (.ref a1), .val (.ref a2), .val (.ref a3), .val (.int p4), .unset] [])) t := by
      intro t kt
      refine R200 _ ?_
      show Steps p.tables e below (T197.setTop (mkF m 49 #[.val (.ref a1), .val (.ref a2), .val (.ref a3), .val (.int p4), .val (.int (0 : Int32))] [(.int (p4 + (wd 0))), (.ref a3), (.int (p4 + (wd 0))), (.ref a3)])) _
      refine X197.laload hx (j := (p4 + (wd 0))) (v := (.long ((own_zero fk o nw) (o + wn 0)))) (by rw [e197]; exact Ar201.1) (State.isArrayOf_alike hZ.alike Ar201.2.1) Ar201.2.2 hin201 hat201 (g := (mkF m 49 #[.val (.ref a1), .val (.ref a2), .val (.ref a3), .val (.int p4), .val (.int (0 : Int32))] [(.int (p4 + (wd 0))), (.ref a3), (.int (p4 + (wd 0))), (.ref a3)])) rfl rfl (hb hby d8_49) _ ?_
      show Steps p.tables e below (T197.setTop (mkF m 50 #[.val (.ref a1), .val (.ref a2), .val (.ref a3), .val (.int p4), .val (.int (0 : Int32))] [(.long ((own_zero fk o nw) (o + wn 0))), (.int (p4 + (wd 0))), (.ref a3)])) _
      refine XS.aloadN X197.here hx rfl (hb hby d8_50) rfl rfl ?_
      show Steps p.tables e below (T197.setTop (mkF m 51 #[.val (.ref a1), .val (.ref a2), .val (.ref a3), .val (.int p4), .val (.int (0 : Int32))] [(.ref a2), (.long ((own_zero fk o nw) (o + wn 0))), (.int (p4 + (wd 0))), (.ref a3)])) _
      refine XS.iload X197.here hx rfl (hb hby d8_51) rfl ?_
      exact kt
    clear R200
    obtain ⟨cl203, Ar203, hin203, hat203⟩ := VV_189.at (j := (0 : Int32)) (k := 0) (by decide) rfl (by decide)
    have R204 : ∀ t, Steps p.tables e below (T197.setTop (mkF m 56 #[.val (.ref a1), .val (.ref a2), .val (.ref a3), .val (.int p4), .val (.int (0 : Int32))] [(.ref a1), (.long ((val 0).toInt64)), (.long ((own_zero fk o nw) (o + wn 0))), (.int (p4 + (wd 0))), (.ref a3)])) t → Steps p.tables e below (s₁.setTop (mkF m 0 #[.val (.ref a1), .val (.ref a2), .val (.ref a3), .val (.int p4), .unset] [])) t := by
      intro t kt
      refine R202 _ ?_
      show Steps p.tables e below (T197.setTop (mkF m 53 #[.val (.ref a1), .val (.ref a2), .val (.ref a3), .val (.int p4), .val (.int (0 : Int32))] [(.int (0 : Int32)), (.ref a2), (.long ((own_zero fk o nw) (o + wn 0))), (.int (p4 + (wd 0))), (.ref a3)])) _
      refine X197.iaload hx (j := (0 : Int32)) (v := (.int (val 0))) (by rw [e197]; exact Ar203.1) (State.isArrayOf_alike hZ.alike Ar203.2.1) Ar203.2.2 hin203 hat203 (g := (mkF m 53 #[.val (.ref a1), .val (.ref a2), .val (.ref a3), .val (.int p4), .val (.int (0 : Int32))] [(.int (0 : Int32)), (.ref a2), (.long ((own_zero fk o nw) (o + wn 0))), (.int (p4 + (wd 0))), (.ref a3)])) rfl rfl (hb hby d8_53) _ ?_
      show Steps p.tables e below (T197.setTop (mkF m 54 #[.val (.ref a1), .val (.ref a2), .val (.ref a3), .val (.int p4), .val (.int (0 : Int32))] [(.int (val 0)), (.long ((own_zero fk o nw) (o + wn 0))), (.int (p4 + (wd 0))), (.ref a3)])) _
      refine XS.i2l X197.here hx rfl (hb hby d8_54) rfl ?_
      show Steps p.tables e below (T197.setTop (mkF m 55 #[.val (.ref a1), .val (.ref a2), .val (.ref a3), .val (.int p4), .val (.int (0 : Int32))] [(.long ((val 0).toInt64)), (.long ((own_zero fk o nw) (o + wn 0))), (.int (p4 + (wd 0))), (.ref a3)])) _
      refine XS.aloadN X197.here hx rfl (hb hby d8_55) rfl rfl ?_
      exact kt
    clear R202
    obtain ⟨T205, X205, e205, st205⟩ := getF X197 hx hZ hown (host := "") (Or.inl (hw _ (List.mem_of_getElem? (i := 31) rfl))) Via.refl e197 Fl_189 (g := (mkF m 56 #[.val (.ref a1), .val (.ref a2), .val (.ref a3), .val (.int p4), .val (.int (0 : Int32))] [(.ref a1), (.long ((val 0).toInt64)), (.long ((own_zero fk o nw) (o + wn 0))), (.int (p4 + (wd 0))), (.ref a3)])) rfl rfl (hb hby d8_56)
    have R206 : ∀ t, Steps p.tables e below (T205.setTop (mkF m 61 #[.val (.ref a1), .val (.ref a2), .val (.ref a3), .val (.int p4), .val (.int (0 : Int32))] [(.int (0 : Int32)), (.ref b1), (.long ((val 0).toInt64)), (.long ((own_zero fk o nw) (o + wn 0))), (.int (p4 + (wd 0))), (.ref a3)])) t → Steps p.tables e below (s₁.setTop (mkF m 0 #[.val (.ref a1), .val (.ref a2), .val (.ref a3), .val (.int p4), .unset] [])) t := by
      intro t kt
      refine R204 _ ?_
      refine st205 _ ?_
      show Steps p.tables e below (T205.setTop (mkF m 59 #[.val (.ref a1), .val (.ref a2), .val (.ref a3), .val (.int p4), .val (.int (0 : Int32))] [(.ref b1), (.long ((val 0).toInt64)), (.long ((own_zero fk o nw) (o + wn 0))), (.int (p4 + (wd 0))), (.ref a3)])) _
      refine XS.iload X205.here hx rfl (hb hby d8_59) rfl ?_
      exact kt
    clear R204 st205
    obtain ⟨cl207, Ar207, hin207, hat207⟩ := VL_189.at (j := (0 : Int32)) (k := 0) (by decide) rfl (by decide)
    have R208 : ∀ t, Steps p.tables e below (T205.setTop (mkF m 65 #[.val (.ref a1), .val (.ref a2), .val (.ref a3), .val (.int p4), .val (.int (0 : Int32))] [(.ref a1), (.long (((val 0).toInt64) - ((lo 0).toInt64))), (.long ((own_zero fk o nw) (o + wn 0))), (.int (p4 + (wd 0))), (.ref a3)])) t → Steps p.tables e below (s₁.setTop (mkF m 0 #[.val (.ref a1), .val (.ref a2), .val (.ref a3), .val (.int p4), .unset] [])) t := by
      intro t kt
      refine R206 _ ?_
      show Steps p.tables e below (T205.setTop (mkF m 61 #[.val (.ref a1), .val (.ref a2), .val (.ref a3), .val (.int p4), .val (.int (0 : Int32))] [(.int (0 : Int32)), (.ref b1), (.long ((val 0).toInt64)), (.long ((own_zero fk o nw) (o + wn 0))), (.int (p4 + (wd 0))), (.ref a3)])) _
      refine X205.iaload hx (j := (0 : Int32)) (v := (.int (lo 0))) (by rw [e205]; exact Ar207.1) (State.isArrayOf_alike hZ.alike Ar207.2.1) Ar207.2.2 hin207 hat207 (g := (mkF m 61 #[.val (.ref a1), .val (.ref a2), .val (.ref a3), .val (.int p4), .val (.int (0 : Int32))] [(.int (0 : Int32)), (.ref b1), (.long ((val 0).toInt64)), (.long ((own_zero fk o nw) (o + wn 0))), (.int (p4 + (wd 0))), (.ref a3)])) rfl rfl (hb hby d8_61) _ ?_
      show Steps p.tables e below (T205.setTop (mkF m 62 #[.val (.ref a1), .val (.ref a2), .val (.ref a3), .val (.int p4), .val (.int (0 : Int32))] [(.int (lo 0)), (.long ((val 0).toInt64)), (.long ((own_zero fk o nw) (o + wn 0))), (.int (p4 + (wd 0))), (.ref a3)])) _
      refine XS.i2l X205.here hx rfl (hb hby d8_62) rfl ?_
      show Steps p.tables e below (T205.setTop (mkF m 63 #[.val (.ref a1), .val (.ref a2), .val (.ref a3), .val (.int p4), .val (.int (0 : Int32))] [(.long ((lo 0).toInt64)), (.long ((val 0).toInt64)), (.long ((own_zero fk o nw) (o + wn 0))), (.int (p4 + (wd 0))), (.ref a3)])) _
      refine XS.lsub X205.here hx rfl (hb hby d8_63) rfl ?_
      show Steps p.tables e below (T205.setTop (mkF m 64 #[.val (.ref a1), .val (.ref a2), .val (.ref a3), .val (.int p4), .val (.int (0 : Int32))] [(.long (((val 0).toInt64) - ((lo 0).toInt64))), (.long ((own_zero fk o nw) (o + wn 0))), (.int (p4 + (wd 0))), (.ref a3)])) _
      refine XS.aloadN X205.here hx rfl (hb hby d8_64) rfl rfl ?_
      exact kt
    clear R206
    obtain ⟨T209, X209, e209, st209⟩ := getF X205 hx hZ hown (host := "") (Or.inl (hw _ (List.mem_of_getElem? (i := 35) rfl))) Via.refl e205 Fs_189 (g := (mkF m 65 #[.val (.ref a1), .val (.ref a2), .val (.ref a3), .val (.int p4), .val (.int (0 : Int32))] [(.ref a1), (.long (((val 0).toInt64) - ((lo 0).toInt64))), (.long ((own_zero fk o nw) (o + wn 0))), (.int (p4 + (wd 0))), (.ref a3)])) rfl rfl (hb hby d8_65)
    have R210 : ∀ t, Steps p.tables e below (T209.setTop (mkF m 70 #[.val (.ref a1), .val (.ref a2), .val (.ref a3), .val (.int p4), .val (.int (0 : Int32))] [(.int (0 : Int32)), (.ref b3), (.long (((val 0).toInt64) - ((lo 0).toInt64))), (.long ((own_zero fk o nw) (o + wn 0))), (.int (p4 + (wd 0))), (.ref a3)])) t → Steps p.tables e below (s₁.setTop (mkF m 0 #[.val (.ref a1), .val (.ref a2), .val (.ref a3), .val (.int p4), .unset] [])) t := by
      intro t kt
      refine R208 _ ?_
      refine st209 _ ?_
      show Steps p.tables e below (T209.setTop (mkF m 68 #[.val (.ref a1), .val (.ref a2), .val (.ref a3), .val (.int p4), .val (.int (0 : Int32))] [(.ref b3), (.long (((val 0).toInt64) - ((lo 0).toInt64))), (.long ((own_zero fk o nw) (o + wn 0))), (.int (p4 + (wd 0))), (.ref a3)])) _
      refine XS.iload X209.here hx rfl (hb hby d8_68) rfl ?_
      exact kt
    clear R208 st209
    obtain ⟨cl211, Ar211, hin211, hat211⟩ := VS_189.at (j := (0 : Int32)) (k := 0) (by decide) rfl (by decide)
    have R212 : ∀ t, Steps p.tables e below (T209.setTop (mkF m 73 #[.val (.ref a1), .val (.ref a2), .val (.ref a3), .val (.int p4), .val (.int (0 : Int32))] [(.long (((own_zero fk o nw) (o + wn 0)) ||| ((((val 0).toInt64) - ((lo 0).toInt64)) <<< ((sh 0) &&& 0x3f).toInt64))), (.int (p4 + (wd 0))), (.ref a3)])) t → Steps p.tables e below (s₁.setTop (mkF m 0 #[.val (.ref a1), .val (.ref a2), .val (.ref a3), .val (.int p4), .unset] [])) t := by
      intro t kt
      refine R210 _ ?_
      show Steps p.tables e below (T209.setTop (mkF m 70 #[.val (.ref a1), .val (.ref a2), .val (.ref a3), .val (.int p4), .val (.int (0 : Int32))] [(.int (0 : Int32)), (.ref b3), (.long (((val 0).toInt64) - ((lo 0).toInt64))), (.long ((own_zero fk o nw) (o + wn 0))), (.int (p4 + (wd 0))), (.ref a3)])) _
      refine X209.iaload hx (j := (0 : Int32)) (v := (.int (sh 0))) (by rw [e209]; exact Ar211.1) (State.isArrayOf_alike hZ.alike Ar211.2.1) Ar211.2.2 hin211 hat211 (g := (mkF m 70 #[.val (.ref a1), .val (.ref a2), .val (.ref a3), .val (.int p4), .val (.int (0 : Int32))] [(.int (0 : Int32)), (.ref b3), (.long (((val 0).toInt64) - ((lo 0).toInt64))), (.long ((own_zero fk o nw) (o + wn 0))), (.int (p4 + (wd 0))), (.ref a3)])) rfl rfl (hb hby d8_70) _ ?_
      show Steps p.tables e below (T209.setTop (mkF m 71 #[.val (.ref a1), .val (.ref a2), .val (.ref a3), .val (.int p4), .val (.int (0 : Int32))] [(.int (sh 0)), (.long (((val 0).toInt64) - ((lo 0).toInt64))), (.long ((own_zero fk o nw) (o + wn 0))), (.int (p4 + (wd 0))), (.ref a3)])) _
      refine XS.lshl X209.here hx rfl (hb hby d8_71) rfl ?_
      show Steps p.tables e below (T209.setTop (mkF m 72 #[.val (.ref a1), .val (.ref a2), .val (.ref a3), .val (.int p4), .val (.int (0 : Int32))] [(.long ((((val 0).toInt64) - ((lo 0).toInt64)) <<< ((sh 0) &&& 0x3f).toInt64)), (.long ((own_zero fk o nw) (o + wn 0))), (.int (p4 + (wd 0))), (.ref a3)])) _
      refine XS.lor X209.here hx rfl (hb hby d8_72) rfl ?_
      exact kt
    clear R210
    obtain ⟨cl213, Ar213, hin213, -⟩ := VK0_1.at (j := (p4 + (wd 0))) (k := (o + wn 0)) r1_0.1 r1_0.2 (Nat.lt_of_lt_of_le (Nat.add_lt_add_left d0 o) hnn)
    obtain ⟨T214, h214, X214, e214, W214, st214⟩ := stJ X209 hx hZ e209 Ar213 (j := (p4 + (wd 0))) hin213 (g := (mkF m 73 #[.val (.ref a1), .val (.ref a2), .val (.ref a3), .val (.int p4), .val (.int (0 : Int32))] [(.long (((own_zero fk o nw) (o + wn 0)) ||| ((((val 0).toInt64) - ((lo 0).toInt64)) <<< ((sh 0) &&& 0x3f).toInt64))), (.int (p4 + (wd 0))), (.ref a3)])) rfl rfl (hb hby d8_73)
    have N214 := Fr.snoc X214 N189 ga
    rw [show ((p4 + (wd 0)) : Int32).toNatClampNeg = (o + wn 0) from r1_0.2] at W214
    have VK_214 : AV Z h214 a3 .long NN (fun j => .long ((own_or (own_zero fk o nw) (o + wn 0) (own_shl (own_dd lo val 0) (sh 0))) j)) := VK0_1.setJ W214
    have Fl_214 := Fl_189.other W214 (Or.inl m1)
    have Fw_214 := Fw_189.other W214 (Or.inl m1)
    have Fs_214 := Fs_189.other W214 (Or.inl m1)
    have Fc_214 := Fc_189.other W214 (Or.inl m1)
    have VL_214 := VL_189.other W214 m3
    have VW_214 := VW_189.other W214 m4
    have VS_214 := VS_189.other W214 m5
    have VV_214 := VV_189.other W214 m2
    clear Fl_189 Fw_189 Fs_189 Fc_189 VL_189 VW_189 VS_189 VV_189
    have Zs214 : n0 ≤ h214.size := Nat.le_trans Zs189 (Keep.of_wr W214).1
    have Kw214 : Keep h0 h214 [a3] := Keep.wr Kw189 W214 (Or.inl (List.mem_of_getElem? (i := 0) rfl))
    have R215 : ∀ t, Steps p.tables e below (T214.setTop (mkF m 31 #[.val (.ref a1), .val (.ref a2), .val (.ref a3), .val (.int p4), .val (.int ((0 : Int32) + (1 : Int32)))] [(.ref a1), (.int ((0 : Int32) + (1 : Int32)))])) t → Steps p.tables e below (s₁.setTop (mkF m 0 #[.val (.ref a1), .val (.ref a2), .val (.ref a3), .val (.int p4), .unset] [])) t := by
      intro t kt
      refine R212 _ ?_
      refine st214 _ ?_
      show Steps p.tables e below (T214.setTop (mkF m 74 #[.val (.ref a1), .val (.ref a2), .val (.ref a3), .val (.int p4), .val (.int (0 : Int32))] [])) _
      refine XS.iinc X214.here hx rfl (hb hby d8_74) rfl (l' := #[.val (.ref a1), .val (.ref a2), .val (.ref a3), .val (.int p4), .val (.int ((0 : Int32) + (1 : Int32)))]) rfl ?_
      show Steps p.tables e below (T214.setTop (mkF m 77 #[.val (.ref a1), .val (.ref a2), .val (.ref a3), .val (.int p4), .val (.int ((0 : Int32) + (1 : Int32)))] [])) _
      refine XS.goto X214.here hx rfl (pc0 := 77) (pc' := 28) rfl (hb hby d8_77) (by decide) (by decide) ?_
      show Steps p.tables e below (T214.setTop (mkF m 28 #[.val (.ref a1), .val (.ref a2), .val (.ref a3), .val (.int p4), .val (.int ((0 : Int32) + (1 : Int32)))] [])) _
      refine XS.iload X214.here hx rfl (hb hby d8_28) rfl ?_
      show Steps p.tables e below (T214.setTop (mkF m 30 #[.val (.ref a1), .val (.ref a2), .val (.ref a3), .val (.int p4), .val (.int ((0 : Int32) + (1 : Int32)))] [(.int ((0 : Int32) + (1 : Int32)))])) _
      refine XS.aloadN X214.here hx rfl (hb hby d8_30) rfl rfl ?_
      exact kt
    clear R212 st214
    obtain ⟨T216, X216, e216, st216⟩ := getF X214 hx hZ hown (host := "") (Or.inl (hw _ (List.mem_of_getElem? (i := 31) rfl))) Via.refl e214 Fl_214 (g := (mkF m 31 #[.val (.ref a1), .val (.ref a2), .val (.ref a3), .val (.int p4), .val (.int ((0 : Int32) + (1 : Int32)))] [(.ref a1), (.int ((0 : Int32) + (1 : Int32)))])) rfl rfl (hb hby d8_31)
    have R217 : ∀ t, Steps p.tables e below (T216.setTop (mkF m 34 #[.val (.ref a1), .val (.ref a2), .val (.ref a3), .val (.int p4), .val (.int ((0 : Int32) + (1 : Int32)))] [(.ref b1), (.int ((0 : Int32) + (1 : Int32)))])) t → Steps p.tables e below (s₁.setTop (mkF m 0 #[.val (.ref a1), .val (.ref a2), .val (.ref a3), .val (.int p4), .unset] [])) t := by
      intro t kt
      refine R215 _ ?_
      refine st216 _ ?_
      exact kt
    clear R215 st216
    obtain ⟨cl218, Ar218, ln218⟩ := VL_214.len
    have R219 : ∀ t, Steps p.tables e below (T216.setTop (mkF m 41 #[.val (.ref a1), .val (.ref a2), .val (.ref a3), .val (.int p4), .val (.int ((0 : Int32) + (1 : Int32)))] [(.ref a1), (.int p4), (.ref a3)])) t → Steps p.tables e below (s₁.setTop (mkF m 0 #[.val (.ref a1), .val (.ref a2), .val (.ref a3), .val (.int p4), .unset] [])) t := by
      intro t kt
      refine R217 _ ?_
      show Steps p.tables e below (T216.setTop (mkF m 34 #[.val (.ref a1), .val (.ref a2), .val (.ref a3), .val (.int p4), .val (.int ((0 : Int32) + (1 : Int32)))] [(.ref b1), (.int ((0 : Int32) + (1 : Int32)))])) _
      refine X216.arraylength hx (by rw [e216]; exact Ar218.1) (State.isArrayOf_alike hZ.alike Ar218.2.1) (g := (mkF m 34 #[.val (.ref a1), .val (.ref a2), .val (.ref a3), .val (.int p4), .val (.int ((0 : Int32) + (1 : Int32)))] [(.ref b1), (.int ((0 : Int32) + (1 : Int32)))])) rfl rfl (hb hby d8_34) _ ?_
      rw [ln218]
      show Steps p.tables e below (T216.setTop (mkF m 35 #[.val (.ref a1), .val (.ref a2), .val (.ref a3), .val (.int p4), .val (.int ((0 : Int32) + (1 : Int32)))] [(.int (3 : Int32)), (.int ((0 : Int32) + (1 : Int32)))])) _
      refine XS.icmpNo X216.here hx rfl (hb hby d8_35) rfl (tlt (by decide : ((0 : Int32) + (1 : Int32)) < (3 : Int32))).2.1 ?_
      show Steps p.tables e below (T216.setTop (mkF m 38 #[.val (.ref a1), .val (.ref a2), .val (.ref a3), .val (.int p4), .val (.int ((0 : Int32) + (1 : Int32)))] [])) _
      refine XS.aloadN X216.here hx rfl (hb hby d8_38) rfl rfl ?_
      show Steps p.tables e below (T216.setTop (mkF m 39 #[.val (.ref a1), .val (.ref a2), .val (.ref a3), .val (.int p4), .val (.int ((0 : Int32) + (1 : Int32)))] [(.ref a3)])) _
      refine XS.iloadN X216.here hx rfl (hb hby d8_39) rfl ?_
      show Steps p.tables e below (T216.setTop (mkF m 40 #[.val (.ref a1), .val (.ref a2), .val (.ref a3), .val (.int p4), .val (.int ((0 : Int32) + (1 : Int32)))] [(.int p4), (.ref a3)])) _
      refine XS.aloadN X216.here hx rfl (hb hby d8_40) rfl rfl ?_
      exact kt
    clear R217
    obtain ⟨T220, X220, e220, st220⟩ := getF X216 hx hZ hown (host := "") (Or.inl (hw _ (List.mem_of_getElem? (i := 33) rfl))) Via.refl e216 Fw_214 (g := (mkF m 41 #[.val (.ref a1), .val (.ref a2), .val (.ref a3), .val (.int p4), .val (.int ((0 : Int32) + (1 : Int32)))] [(.ref a1), (.int p4), (.ref a3)])) rfl rfl (hb hby d8_41)
    have R221 : ∀ t, Steps p.tables e below (T220.setTop (mkF m 46 #[.val (.ref a1), .val (.ref a2), .val (.ref a3), .val (.int p4), .val (.int ((0 : Int32) + (1 : Int32)))] [(.int ((0 : Int32) + (1 : Int32))), (.ref b2), (.int p4), (.ref a3)])) t → Steps p.tables e below (s₁.setTop (mkF m 0 #[.val (.ref a1), .val (.ref a2), .val (.ref a3), .val (.int p4), .unset] [])) t := by
      intro t kt
      refine R219 _ ?_
      refine st220 _ ?_
      show Steps p.tables e below (T220.setTop (mkF m 44 #[.val (.ref a1), .val (.ref a2), .val (.ref a3), .val (.int p4), .val (.int ((0 : Int32) + (1 : Int32)))] [(.ref b2), (.int p4), (.ref a3)])) _
      refine XS.iload X220.here hx rfl (hb hby d8_44) rfl ?_
      exact kt
    clear R219 st220
    obtain ⟨cl222, Ar222, hin222, hat222⟩ := VW_214.at (j := ((0 : Int32) + (1 : Int32))) (k := 1) (by decide) rfl (by decide)
    have R223 : ∀ t, Steps p.tables e below (T220.setTop (mkF m 49 #[.val (.ref a1), .val (.ref a2), .val (.ref a3), .val (.int p4), .val (.int ((0 : Int32) + (1 : Int32)))] [(.int (p4 + (wd 1))), (.ref a3), (.int (p4 + (wd 1))), (.ref a3)])) t → Steps p.tables e below (s₁.setTop (mkF m 0 #[.val (.ref a1), .val (.ref a2), .val (.ref a3), .val (.int p4), .unset] [])) t := by
      intro t kt
      refine R221 _ ?_
      show Steps p.tables e below (T220.setTop (mkF m 46 #[.val (.ref a1), .val (.ref a2), .val (.ref a3), .val (.int p4), .val (.int ((0 : Int32) + (1 : Int32)))] [(.int ((0 : Int32) + (1 : Int32))), (.ref b2), (.int p4), (.ref a3)])) _
      refine X220.iaload hx (j := ((0 : Int32) + (1 : Int32))) (v := (.int (wd 1))) (by rw [e220]; exact Ar222.1) (State.isArrayOf_alike hZ.alike Ar222.2.1) Ar222.2.2 hin222 hat222 (g := (mkF m 46 #[.val (.ref a1), .val (.ref a2), .val (.ref a3), .val (.int p4), .val (.int ((0 : Int32) + (1 : Int32)))] [(.int ((0 : Int32) + (1 : Int32))), (.ref b2), (.int p4), (.ref a3)])) rfl rfl (hb hby d8_46) _ ?_
      show Steps p.tables e below (T220.setTop (mkF m 47 #[.val (.ref a1), .val (.ref a2), .val (.ref a3), .val (.int p4), .val (.int ((0 : Int32) + (1 : Int32)))] [(.int (wd 1)), (.int p4), (.ref a3)])) _
      refine XS.iadd X220.here hx rfl (hb hby d8_47) rfl ?_
      show Steps p.tables e below (T220.setTop (mkF m 48 #[.val (.ref a1), .val (.ref a2), .val (.ref a3), .val (.int p4), .val (.int ((0 : Int32) + (1 : Int32)))] [(.int (p4 + (wd 1))), (.ref a3)])) _
      jvm_step X220.here [X220.here.top, hx, (hb hby d8_48), Value.category]
      exact kt
    clear R221
    have r1_1 := own_ix p4 (wd 1) o (wn 1) NN ho c1 (Nat.lt_of_lt_of_le (Nat.add_lt_add_left d1 o) hnn) h8
    obtain ⟨cl224, Ar224, hin224, hat224⟩ := VK_214.at (j := (p4 + (wd 1))) (k := (o + wn 1)) r1_1.1 r1_1.2 (Nat.lt_of_lt_of_le (Nat.add_lt_add_left d1 o) hnn)
    have R225 : ∀ t, Steps p.tables e below (T220.setTop (mkF m 53 #[.val (.ref a1), .val (.ref a2), .val (.ref a3), .val (.int p4), .val (.int ((0 : Int32) + (1 : Int32)))] [(.int ((0 : Int32) + (1 : Int32))), (.ref a2), (.long ((own_or (own_zero fk o nw) (o + wn 0) (own_shl (own_dd lo val 0) (sh 0))) (o + wn 1))), (.int (p4 + (wd 1))), (.ref a3)])) t → Steps p.tables e below (s₁.setTop (mkF m 0 #[.val (.ref a1), .val (.ref a2), .val (.ref a3), .val (.int p4), .unset] [])) t := by
      intro t kt
      refine R223 _ ?_
      show Steps p.tables e below (T220.setTop (mkF m 49 #[.val (.ref a1), .val (.ref a2), .val (.ref a3), .val (.int p4), .val (.int ((0 : Int32) + (1 : Int32)))] [(.int (p4 + (wd 1))), (.ref a3), (.int (p4 + (wd 1))), (.ref a3)])) _
      refine X220.laload hx (j := (p4 + (wd 1))) (v := (.long ((own_or (own_zero fk o nw) (o + wn 0) (own_shl (own_dd lo val 0) (sh 0))) (o + wn 1)))) (by rw [e220]; exact Ar224.1) (State.isArrayOf_alike hZ.alike Ar224.2.1) Ar224.2.2 hin224 hat224 (g := (mkF m 49 #[.val (.ref a1), .val (.ref a2), .val (.ref a3), .val (.int p4), .val (.int ((0 : Int32) + (1 : Int32)))] [(.int (p4 + (wd 1))), (.ref a3), (.int (p4 + (wd 1))), (.ref a3)])) rfl rfl (hb hby d8_49) _ ?_
      show Steps p.tables e below (T220.setTop (mkF m 50 #[.val (.ref a1), .val (.ref a2), .val (.ref a3), .val (.int p4), .val (.int ((0 : Int32) + (1 : Int32)))] [(.long ((own_or (own_zero fk o nw) (o + wn 0) (own_shl (own_dd lo val 0) (sh 0))) (o + wn 1))), (.int (p4 + (wd 1))), (.ref a3)])) _
      refine XS.aloadN X220.here hx rfl (hb hby d8_50) rfl rfl ?_
      show Steps p.tables e below (T220.setTop (mkF m 51 #[.val (.ref a1), .val (.ref a2), .val (.ref a3), .val (.int p4), .val (.int ((0 : Int32) + (1 : Int32)))] [(.ref a2), (.long ((own_or (own_zero fk o nw) (o + wn 0) (own_shl (own_dd lo val 0) (sh 0))) (o + wn 1))), (.int (p4 + (wd 1))), (.ref a3)])) _
      refine XS.iload X220.here hx rfl (hb hby d8_51) rfl ?_
      exact kt
    clear R223
    obtain ⟨cl226, Ar226, hin226, hat226⟩ := VV_214.at (j := ((0 : Int32) + (1 : Int32))) (k := 1) (by decide) rfl (by decide)
    have R227 : ∀ t, Steps p.tables e below (T220.setTop (mkF m 56 #[.val (.ref a1), .val (.ref a2), .val (.ref a3), .val (.int p4), .val (.int ((0 : Int32) + (1 : Int32)))] [(.ref a1), (.long ((val 1).toInt64)), (.long ((own_or (own_zero fk o nw) (o + wn 0) (own_shl (own_dd lo val 0) (sh 0))) (o + wn 1))), (.int (p4 + (wd 1))), (.ref a3)])) t → Steps p.tables e below (s₁.setTop (mkF m 0 #[.val (.ref a1), .val (.ref a2), .val (.ref a3), .val (.int p4), .unset] [])) t := by
      intro t kt
      refine R225 _ ?_
      show Steps p.tables e below (T220.setTop (mkF m 53 #[.val (.ref a1), .val (.ref a2), .val (.ref a3), .val (.int p4), .val (.int ((0 : Int32) + (1 : Int32)))] [(.int ((0 : Int32) + (1 : Int32))), (.ref a2), (.long ((own_or (own_zero fk o nw) (o + wn 0) (own_shl (own_dd lo val 0) (sh 0))) (o + wn 1))), (.int (p4 + (wd 1))), (.ref a3)])) _
      refine X220.iaload hx (j := ((0 : Int32) + (1 : Int32))) (v := (.int (val 1))) (by rw [e220]; exact Ar226.1) (State.isArrayOf_alike hZ.alike Ar226.2.1) Ar226.2.2 hin226 hat226 (g := (mkF m 53 #[.val (.ref a1), .val (.ref a2), .val (.ref a3), .val (.int p4), .val (.int ((0 : Int32) + (1 : Int32)))] [(.int ((0 : Int32) + (1 : Int32))), (.ref a2), (.long ((own_or (own_zero fk o nw) (o + wn 0) (own_shl (own_dd lo val 0) (sh 0))) (o + wn 1))), (.int (p4 + (wd 1))), (.ref a3)])) rfl rfl (hb hby d8_53) _ ?_
      show Steps p.tables e below (T220.setTop (mkF m 54 #[.val (.ref a1), .val (.ref a2), .val (.ref a3), .val (.int p4), .val (.int ((0 : Int32) + (1 : Int32)))] [(.int (val 1)), (.long ((own_or (own_zero fk o nw) (o + wn 0) (own_shl (own_dd lo val 0) (sh 0))) (o + wn 1))), (.int (p4 + (wd 1))), (.ref a3)])) _
      refine XS.i2l X220.here hx rfl (hb hby d8_54) rfl ?_
      show Steps p.tables e below (T220.setTop (mkF m 55 #[.val (.ref a1), .val (.ref a2), .val (.ref a3), .val (.int p4), .val (.int ((0 : Int32) + (1 : Int32)))] [(.long ((val 1).toInt64)), (.long ((own_or (own_zero fk o nw) (o + wn 0) (own_shl (own_dd lo val 0) (sh 0))) (o + wn 1))), (.int (p4 + (wd 1))), (.ref a3)])) _
      refine XS.aloadN X220.here hx rfl (hb hby d8_55) rfl rfl ?_
      exact kt
    clear R225
    obtain ⟨T228, X228, e228, st228⟩ := getF X220 hx hZ hown (host := "") (Or.inl (hw _ (List.mem_of_getElem? (i := 31) rfl))) Via.refl e220 Fl_214 (g := (mkF m 56 #[.val (.ref a1), .val (.ref a2), .val (.ref a3), .val (.int p4), .val (.int ((0 : Int32) + (1 : Int32)))] [(.ref a1), (.long ((val 1).toInt64)), (.long ((own_or (own_zero fk o nw) (o + wn 0) (own_shl (own_dd lo val 0) (sh 0))) (o + wn 1))), (.int (p4 + (wd 1))), (.ref a3)])) rfl rfl (hb hby d8_56)
    have R229 : ∀ t, Steps p.tables e below (T228.setTop (mkF m 61 #[.val (.ref a1), .val (.ref a2), .val (.ref a3), .val (.int p4), .val (.int ((0 : Int32) + (1 : Int32)))] [(.int ((0 : Int32) + (1 : Int32))), (.ref b1), (.long ((val 1).toInt64)), (.long ((own_or (own_zero fk o nw) (o + wn 0) (own_shl (own_dd lo val 0) (sh 0))) (o + wn 1))), (.int (p4 + (wd 1))), (.ref a3)])) t → Steps p.tables e below (s₁.setTop (mkF m 0 #[.val (.ref a1), .val (.ref a2), .val (.ref a3), .val (.int p4), .unset] [])) t := by
      intro t kt
      refine R227 _ ?_
      refine st228 _ ?_
      show Steps p.tables e below (T228.setTop (mkF m 59 #[.val (.ref a1), .val (.ref a2), .val (.ref a3), .val (.int p4), .val (.int ((0 : Int32) + (1 : Int32)))] [(.ref b1), (.long ((val 1).toInt64)), (.long ((own_or (own_zero fk o nw) (o + wn 0) (own_shl (own_dd lo val 0) (sh 0))) (o + wn 1))), (.int (p4 + (wd 1))), (.ref a3)])) _
      refine XS.iload X228.here hx rfl (hb hby d8_59) rfl ?_
      exact kt
    clear R227 st228
    obtain ⟨cl230, Ar230, hin230, hat230⟩ := VL_214.at (j := ((0 : Int32) + (1 : Int32))) (k := 1) (by decide) rfl (by decide)
    have R231 : ∀ t, Steps p.tables e below (T228.setTop (mkF m 65 #[.val (.ref a1), .val (.ref a2), .val (.ref a3), .val (.int p4), .val (.int ((0 : Int32) + (1 : Int32)))] [(.ref a1), (.long (((val 1).toInt64) - ((lo 1).toInt64))), (.long ((own_or (own_zero fk o nw) (o + wn 0) (own_shl (own_dd lo val 0) (sh 0))) (o + wn 1))), (.int (p4 + (wd 1))), (.ref a3)])) t → Steps p.tables e below (s₁.setTop (mkF m 0 #[.val (.ref a1), .val (.ref a2), .val (.ref a3), .val (.int p4), .unset] [])) t := by
      intro t kt
      refine R229 _ ?_
      show Steps p.tables e below (T228.setTop (mkF m 61 #[.val (.ref a1), .val (.ref a2), .val (.ref a3), .val (.int p4), .val (.int ((0 : Int32) + (1 : Int32)))] [(.int ((0 : Int32) + (1 : Int32))), (.ref b1), (.long ((val 1).toInt64)), (.long ((own_or (own_zero fk o nw) (o + wn 0) (own_shl (own_dd lo val 0) (sh 0))) (o + wn 1))), (.int (p4 + (wd 1))), (.ref a3)])) _
      refine X228.iaload hx (j := ((0 : Int32) + (1 : Int32))) (v := (.int (lo 1))) (by rw [e228]; exact Ar230.1) (State.isArrayOf_alike hZ.alike Ar230.2.1) Ar230.2.2 hin230 hat230 (g := (mkF m 61 #[.val (.ref a1), .val (.ref a2), .val (.ref a3), .val (.int p4), .val (.int ((0 : Int32) + (1 : Int32)))] [(.int ((0 : Int32) + (1 : Int32))), (.ref b1), (.long ((val 1).toInt64)), (.long ((own_or (own_zero fk o nw) (o + wn 0) (own_shl (own_dd lo val 0) (sh 0))) (o + wn 1))), (.int (p4 + (wd 1))), (.ref a3)])) rfl rfl (hb hby d8_61) _ ?_
      show Steps p.tables e below (T228.setTop (mkF m 62 #[.val (.ref a1), .val (.ref a2), .val (.ref a3), .val (.int p4), .val (.int ((0 : Int32) + (1 : Int32)))] [(.int (lo 1)), (.long ((val 1).toInt64)), (.long ((own_or (own_zero fk o nw) (o + wn 0) (own_shl (own_dd lo val 0) (sh 0))) (o + wn 1))), (.int (p4 + (wd 1))), (.ref a3)])) _
      refine XS.i2l X228.here hx rfl (hb hby d8_62) rfl ?_
      show Steps p.tables e below (T228.setTop (mkF m 63 #[.val (.ref a1), .val (.ref a2), .val (.ref a3), .val (.int p4), .val (.int ((0 : Int32) + (1 : Int32)))] [(.long ((lo 1).toInt64)), (.long ((val 1).toInt64)), (.long ((own_or (own_zero fk o nw) (o + wn 0) (own_shl (own_dd lo val 0) (sh 0))) (o + wn 1))), (.int (p4 + (wd 1))), (.ref a3)])) _
      refine XS.lsub X228.here hx rfl (hb hby d8_63) rfl ?_
      show Steps p.tables e below (T228.setTop (mkF m 64 #[.val (.ref a1), .val (.ref a2), .val (.ref a3), .val (.int p4), .val (.int ((0 : Int32) + (1 : Int32)))] [(.long (((val 1).toInt64) - ((lo 1).toInt64))), (.long ((own_or (own_zero fk o nw) (o + wn 0) (own_shl (own_dd lo val 0) (sh 0))) (o + wn 1))), (.int (p4 + (wd 1))), (.ref a3)])) _
      refine XS.aloadN X228.here hx rfl (hb hby d8_64) rfl rfl ?_
      exact kt
    clear R229
    obtain ⟨T232, X232, e232, st232⟩ := getF X228 hx hZ hown (host := "") (Or.inl (hw _ (List.mem_of_getElem? (i := 35) rfl))) Via.refl e228 Fs_214 (g := (mkF m 65 #[.val (.ref a1), .val (.ref a2), .val (.ref a3), .val (.int p4), .val (.int ((0 : Int32) + (1 : Int32)))] [(.ref a1), (.long (((val 1).toInt64) - ((lo 1).toInt64))), (.long ((own_or (own_zero fk o nw) (o + wn 0) (own_shl (own_dd lo val 0) (sh 0))) (o + wn 1))), (.int (p4 + (wd 1))), (.ref a3)])) rfl rfl (hb hby d8_65)
    have R233 : ∀ t, Steps p.tables e below (T232.setTop (mkF m 70 #[.val (.ref a1), .val (.ref a2), .val (.ref a3), .val (.int p4), .val (.int ((0 : Int32) + (1 : Int32)))] [(.int ((0 : Int32) + (1 : Int32))), (.ref b3), (.long (((val 1).toInt64) - ((lo 1).toInt64))), (.long ((own_or (own_zero fk o nw) (o + wn 0) (own_shl (own_dd lo val 0) (sh 0))) (o + wn 1))), (.int (p4 + (wd 1))), (.ref a3)])) t → Steps p.tables e below (s₁.setTop (mkF m 0 #[.val (.ref a1), .val (.ref a2), .val (.ref a3), .val (.int p4), .unset] [])) t := by
      intro t kt
      refine R231 _ ?_
      refine st232 _ ?_
      show Steps p.tables e below (T232.setTop (mkF m 68 #[.val (.ref a1), .val (.ref a2), .val (.ref a3), .val (.int p4), .val (.int ((0 : Int32) + (1 : Int32)))] [(.ref b3), (.long (((val 1).toInt64) - ((lo 1).toInt64))), (.long ((own_or (own_zero fk o nw) (o + wn 0) (own_shl (own_dd lo val 0) (sh 0))) (o + wn 1))), (.int (p4 + (wd 1))), (.ref a3)])) _
      refine XS.iload X232.here hx rfl (hb hby d8_68) rfl ?_
      exact kt
    clear R231 st232
    obtain ⟨cl234, Ar234, hin234, hat234⟩ := VS_214.at (j := ((0 : Int32) + (1 : Int32))) (k := 1) (by decide) rfl (by decide)
    have R235 : ∀ t, Steps p.tables e below (T232.setTop (mkF m 73 #[.val (.ref a1), .val (.ref a2), .val (.ref a3), .val (.int p4), .val (.int ((0 : Int32) + (1 : Int32)))] [(.long (((own_or (own_zero fk o nw) (o + wn 0) (own_shl (own_dd lo val 0) (sh 0))) (o + wn 1)) ||| ((((val 1).toInt64) - ((lo 1).toInt64)) <<< ((sh 1) &&& 0x3f).toInt64))), (.int (p4 + (wd 1))), (.ref a3)])) t → Steps p.tables e below (s₁.setTop (mkF m 0 #[.val (.ref a1), .val (.ref a2), .val (.ref a3), .val (.int p4), .unset] [])) t := by
      intro t kt
      refine R233 _ ?_
      show Steps p.tables e below (T232.setTop (mkF m 70 #[.val (.ref a1), .val (.ref a2), .val (.ref a3), .val (.int p4), .val (.int ((0 : Int32) + (1 : Int32)))] [(.int ((0 : Int32) + (1 : Int32))), (.ref b3), (.long (((val 1).toInt64) - ((lo 1).toInt64))), (.long ((own_or (own_zero fk o nw) (o + wn 0) (own_shl (own_dd lo val 0) (sh 0))) (o + wn 1))), (.int (p4 + (wd 1))), (.ref a3)])) _
      refine X232.iaload hx (j := ((0 : Int32) + (1 : Int32))) (v := (.int (sh 1))) (by rw [e232]; exact Ar234.1) (State.isArrayOf_alike hZ.alike Ar234.2.1) Ar234.2.2 hin234 hat234 (g := (mkF m 70 #[.val (.ref a1), .val (.ref a2), .val (.ref a3), .val (.int p4), .val (.int ((0 : Int32) + (1 : Int32)))] [(.int ((0 : Int32) + (1 : Int32))), (.ref b3), (.long (((val 1).toInt64) - ((lo 1).toInt64))), (.long ((own_or (own_zero fk o nw) (o + wn 0) (own_shl (own_dd lo val 0) (sh 0))) (o + wn 1))), (.int (p4 + (wd 1))), (.ref a3)])) rfl rfl (hb hby d8_70) _ ?_
      show Steps p.tables e below (T232.setTop (mkF m 71 #[.val (.ref a1), .val (.ref a2), .val (.ref a3), .val (.int p4), .val (.int ((0 : Int32) + (1 : Int32)))] [(.int (sh 1)), (.long (((val 1).toInt64) - ((lo 1).toInt64))), (.long ((own_or (own_zero fk o nw) (o + wn 0) (own_shl (own_dd lo val 0) (sh 0))) (o + wn 1))), (.int (p4 + (wd 1))), (.ref a3)])) _
      refine XS.lshl X232.here hx rfl (hb hby d8_71) rfl ?_
      show Steps p.tables e below (T232.setTop (mkF m 72 #[.val (.ref a1), .val (.ref a2), .val (.ref a3), .val (.int p4), .val (.int ((0 : Int32) + (1 : Int32)))] [(.long ((((val 1).toInt64) - ((lo 1).toInt64)) <<< ((sh 1) &&& 0x3f).toInt64)), (.long ((own_or (own_zero fk o nw) (o + wn 0) (own_shl (own_dd lo val 0) (sh 0))) (o + wn 1))), (.int (p4 + (wd 1))), (.ref a3)])) _
      refine XS.lor X232.here hx rfl (hb hby d8_72) rfl ?_
      exact kt
    clear R233
    obtain ⟨cl236, Ar236, hin236, -⟩ := VK_214.at (j := (p4 + (wd 1))) (k := (o + wn 1)) r1_1.1 r1_1.2 (Nat.lt_of_lt_of_le (Nat.add_lt_add_left d1 o) hnn)
    obtain ⟨T237, h237, X237, e237, W237, st237⟩ := stJ X232 hx hZ e232 Ar236 (j := (p4 + (wd 1))) hin236 (g := (mkF m 73 #[.val (.ref a1), .val (.ref a2), .val (.ref a3), .val (.int p4), .val (.int ((0 : Int32) + (1 : Int32)))] [(.long (((own_or (own_zero fk o nw) (o + wn 0) (own_shl (own_dd lo val 0) (sh 0))) (o + wn 1)) ||| ((((val 1).toInt64) - ((lo 1).toInt64)) <<< ((sh 1) &&& 0x3f).toInt64))), (.int (p4 + (wd 1))), (.ref a3)])) rfl rfl (hb hby d8_73)
    have N237 := Fr.snoc X237 N214 ga
    rw [show ((p4 + (wd 1)) : Int32).toNatClampNeg = (o + wn 1) from r1_1.2] at W237
    have VK_237 : AV Z h237 a3 .long NN (fun j => .long ((own_or (own_or (own_zero fk o nw) (o + wn 0) (own_shl (own_dd lo val 0) (sh 0))) (o + wn 1) (own_shl (own_dd lo val 1) (sh 1))) j)) := VK_214.setJ W237
    have Fl_237 := Fl_214.other W237 (Or.inl m1)
    have Fw_237 := Fw_214.other W237 (Or.inl m1)
    have Fs_237 := Fs_214.other W237 (Or.inl m1)
    have Fc_237 := Fc_214.other W237 (Or.inl m1)
    have VL_237 := VL_214.other W237 m3
    have VW_237 := VW_214.other W237 m4
    have VS_237 := VS_214.other W237 m5
    have VV_237 := VV_214.other W237 m2
    clear Fl_214 Fw_214 Fs_214 Fc_214 VL_214 VW_214 VS_214 VV_214
    have Zs237 : n0 ≤ h237.size := Nat.le_trans Zs214 (Keep.of_wr W237).1
    have Kw237 : Keep h0 h237 [a3] := Keep.wr Kw214 W237 (Or.inl (List.mem_of_getElem? (i := 0) rfl))
    have R238 : ∀ t, Steps p.tables e below (T237.setTop (mkF m 31 #[.val (.ref a1), .val (.ref a2), .val (.ref a3), .val (.int p4), .val (.int (((0 : Int32) + (1 : Int32)) + (1 : Int32)))] [(.ref a1), (.int (((0 : Int32) + (1 : Int32)) + (1 : Int32)))])) t → Steps p.tables e below (s₁.setTop (mkF m 0 #[.val (.ref a1), .val (.ref a2), .val (.ref a3), .val (.int p4), .unset] [])) t := by
      intro t kt
      refine R235 _ ?_
      refine st237 _ ?_
      show Steps p.tables e below (T237.setTop (mkF m 74 #[.val (.ref a1), .val (.ref a2), .val (.ref a3), .val (.int p4), .val (.int ((0 : Int32) + (1 : Int32)))] [])) _
      refine XS.iinc X237.here hx rfl (hb hby d8_74) rfl (l' := #[.val (.ref a1), .val (.ref a2), .val (.ref a3), .val (.int p4), .val (.int (((0 : Int32) + (1 : Int32)) + (1 : Int32)))]) rfl ?_
      show Steps p.tables e below (T237.setTop (mkF m 77 #[.val (.ref a1), .val (.ref a2), .val (.ref a3), .val (.int p4), .val (.int (((0 : Int32) + (1 : Int32)) + (1 : Int32)))] [])) _
      refine XS.goto X237.here hx rfl (pc0 := 77) (pc' := 28) rfl (hb hby d8_77) (by decide) (by decide) ?_
      show Steps p.tables e below (T237.setTop (mkF m 28 #[.val (.ref a1), .val (.ref a2), .val (.ref a3), .val (.int p4), .val (.int (((0 : Int32) + (1 : Int32)) + (1 : Int32)))] [])) _
      refine XS.iload X237.here hx rfl (hb hby d8_28) rfl ?_
      show Steps p.tables e below (T237.setTop (mkF m 30 #[.val (.ref a1), .val (.ref a2), .val (.ref a3), .val (.int p4), .val (.int (((0 : Int32) + (1 : Int32)) + (1 : Int32)))] [(.int (((0 : Int32) + (1 : Int32)) + (1 : Int32)))])) _
      refine XS.aloadN X237.here hx rfl (hb hby d8_30) rfl rfl ?_
      exact kt
    clear R235 st237
    obtain ⟨T239, X239, e239, st239⟩ := getF X237 hx hZ hown (host := "") (Or.inl (hw _ (List.mem_of_getElem? (i := 31) rfl))) Via.refl e237 Fl_237 (g := (mkF m 31 #[.val (.ref a1), .val (.ref a2), .val (.ref a3), .val (.int p4), .val (.int (((0 : Int32) + (1 : Int32)) + (1 : Int32)))] [(.ref a1), (.int (((0 : Int32) + (1 : Int32)) + (1 : Int32)))])) rfl rfl (hb hby d8_31)
    have R240 : ∀ t, Steps p.tables e below (T239.setTop (mkF m 34 #[.val (.ref a1), .val (.ref a2), .val (.ref a3), .val (.int p4), .val (.int (((0 : Int32) + (1 : Int32)) + (1 : Int32)))] [(.ref b1), (.int (((0 : Int32) + (1 : Int32)) + (1 : Int32)))])) t → Steps p.tables e below (s₁.setTop (mkF m 0 #[.val (.ref a1), .val (.ref a2), .val (.ref a3), .val (.int p4), .unset] [])) t := by
      intro t kt
      refine R238 _ ?_
      refine st239 _ ?_
      exact kt
    clear R238 st239
    obtain ⟨cl241, Ar241, ln241⟩ := VL_237.len
    have R242 : ∀ t, Steps p.tables e below (T239.setTop (mkF m 41 #[.val (.ref a1), .val (.ref a2), .val (.ref a3), .val (.int p4), .val (.int (((0 : Int32) + (1 : Int32)) + (1 : Int32)))] [(.ref a1), (.int p4), (.ref a3)])) t → Steps p.tables e below (s₁.setTop (mkF m 0 #[.val (.ref a1), .val (.ref a2), .val (.ref a3), .val (.int p4), .unset] [])) t := by
      intro t kt
      refine R240 _ ?_
      show Steps p.tables e below (T239.setTop (mkF m 34 #[.val (.ref a1), .val (.ref a2), .val (.ref a3), .val (.int p4), .val (.int (((0 : Int32) + (1 : Int32)) + (1 : Int32)))] [(.ref b1), (.int (((0 : Int32) + (1 : Int32)) + (1 : Int32)))])) _
      refine X239.arraylength hx (by rw [e239]; exact Ar241.1) (State.isArrayOf_alike hZ.alike Ar241.2.1) (g := (mkF m 34 #[.val (.ref a1), .val (.ref a2), .val (.ref a3), .val (.int p4), .val (.int (((0 : Int32) + (1 : Int32)) + (1 : Int32)))] [(.ref b1), (.int (((0 : Int32) + (1 : Int32)) + (1 : Int32)))])) rfl rfl (hb hby d8_34) _ ?_
      rw [ln241]
      show Steps p.tables e below (T239.setTop (mkF m 35 #[.val (.ref a1), .val (.ref a2), .val (.ref a3), .val (.int p4), .val (.int (((0 : Int32) + (1 : Int32)) + (1 : Int32)))] [(.int (3 : Int32)), (.int (((0 : Int32) + (1 : Int32)) + (1 : Int32)))])) _
      refine XS.icmpNo X239.here hx rfl (hb hby d8_35) rfl (tlt (by decide : (((0 : Int32) + (1 : Int32)) + (1 : Int32)) < (3 : Int32))).2.1 ?_
      show Steps p.tables e below (T239.setTop (mkF m 38 #[.val (.ref a1), .val (.ref a2), .val (.ref a3), .val (.int p4), .val (.int (((0 : Int32) + (1 : Int32)) + (1 : Int32)))] [])) _
      refine XS.aloadN X239.here hx rfl (hb hby d8_38) rfl rfl ?_
      show Steps p.tables e below (T239.setTop (mkF m 39 #[.val (.ref a1), .val (.ref a2), .val (.ref a3), .val (.int p4), .val (.int (((0 : Int32) + (1 : Int32)) + (1 : Int32)))] [(.ref a3)])) _
      refine XS.iloadN X239.here hx rfl (hb hby d8_39) rfl ?_
      show Steps p.tables e below (T239.setTop (mkF m 40 #[.val (.ref a1), .val (.ref a2), .val (.ref a3), .val (.int p4), .val (.int (((0 : Int32) + (1 : Int32)) + (1 : Int32)))] [(.int p4), (.ref a3)])) _
      refine XS.aloadN X239.here hx rfl (hb hby d8_40) rfl rfl ?_
      exact kt
    clear R240
    obtain ⟨T243, X243, e243, st243⟩ := getF X239 hx hZ hown (host := "") (Or.inl (hw _ (List.mem_of_getElem? (i := 33) rfl))) Via.refl e239 Fw_237 (g := (mkF m 41 #[.val (.ref a1), .val (.ref a2), .val (.ref a3), .val (.int p4), .val (.int (((0 : Int32) + (1 : Int32)) + (1 : Int32)))] [(.ref a1), (.int p4), (.ref a3)])) rfl rfl (hb hby d8_41)
    have R244 : ∀ t, Steps p.tables e below (T243.setTop (mkF m 46 #[.val (.ref a1), .val (.ref a2), .val (.ref a3), .val (.int p4), .val (.int (((0 : Int32) + (1 : Int32)) + (1 : Int32)))] [(.int (((0 : Int32) + (1 : Int32)) + (1 : Int32))), (.ref b2), (.int p4), (.ref a3)])) t → Steps p.tables e below (s₁.setTop (mkF m 0 #[.val (.ref a1), .val (.ref a2), .val (.ref a3), .val (.int p4), .unset] [])) t := by
      intro t kt
      refine R242 _ ?_
      refine st243 _ ?_
      show Steps p.tables e below (T243.setTop (mkF m 44 #[.val (.ref a1), .val (.ref a2), .val (.ref a3), .val (.int p4), .val (.int (((0 : Int32) + (1 : Int32)) + (1 : Int32)))] [(.ref b2), (.int p4), (.ref a3)])) _
      refine XS.iload X243.here hx rfl (hb hby d8_44) rfl ?_
      exact kt
    clear R242 st243
    obtain ⟨cl245, Ar245, hin245, hat245⟩ := VW_237.at (j := (((0 : Int32) + (1 : Int32)) + (1 : Int32))) (k := 2) (by decide) rfl (by decide)
    have R246 : ∀ t, Steps p.tables e below (T243.setTop (mkF m 49 #[.val (.ref a1), .val (.ref a2), .val (.ref a3), .val (.int p4), .val (.int (((0 : Int32) + (1 : Int32)) + (1 : Int32)))] [(.int (p4 + (wd 2))), (.ref a3), (.int (p4 + (wd 2))), (.ref a3)])) t → Steps p.tables e below (s₁.setTop (mkF m 0 #[.val (.ref a1), .val (.ref a2), .val (.ref a3), .val (.int p4), .unset] [])) t := by
      intro t kt
      refine R244 _ ?_
      show Steps p.tables e below (T243.setTop (mkF m 46 #[.val (.ref a1), .val (.ref a2), .val (.ref a3), .val (.int p4), .val (.int (((0 : Int32) + (1 : Int32)) + (1 : Int32)))] [(.int (((0 : Int32) + (1 : Int32)) + (1 : Int32))), (.ref b2), (.int p4), (.ref a3)])) _
      refine X243.iaload hx (j := (((0 : Int32) + (1 : Int32)) + (1 : Int32))) (v := (.int (wd 2))) (by rw [e243]; exact Ar245.1) (State.isArrayOf_alike hZ.alike Ar245.2.1) Ar245.2.2 hin245 hat245 (g := (mkF m 46 #[.val (.ref a1), .val (.ref a2), .val (.ref a3), .val (.int p4), .val (.int (((0 : Int32) + (1 : Int32)) + (1 : Int32)))] [(.int (((0 : Int32) + (1 : Int32)) + (1 : Int32))), (.ref b2), (.int p4), (.ref a3)])) rfl rfl (hb hby d8_46) _ ?_
      show Steps p.tables e below (T243.setTop (mkF m 47 #[.val (.ref a1), .val (.ref a2), .val (.ref a3), .val (.int p4), .val (.int (((0 : Int32) + (1 : Int32)) + (1 : Int32)))] [(.int (wd 2)), (.int p4), (.ref a3)])) _
      refine XS.iadd X243.here hx rfl (hb hby d8_47) rfl ?_
      show Steps p.tables e below (T243.setTop (mkF m 48 #[.val (.ref a1), .val (.ref a2), .val (.ref a3), .val (.int p4), .val (.int (((0 : Int32) + (1 : Int32)) + (1 : Int32)))] [(.int (p4 + (wd 2))), (.ref a3)])) _
      jvm_step X243.here [X243.here.top, hx, (hb hby d8_48), Value.category]
      exact kt
    clear R244
    have r1_2 := own_ix p4 (wd 2) o (wn 2) NN ho c2 (Nat.lt_of_lt_of_le (Nat.add_lt_add_left d2 o) hnn) h8
    obtain ⟨cl247, Ar247, hin247, hat247⟩ := VK_237.at (j := (p4 + (wd 2))) (k := (o + wn 2)) r1_2.1 r1_2.2 (Nat.lt_of_lt_of_le (Nat.add_lt_add_left d2 o) hnn)
    have R248 : ∀ t, Steps p.tables e below (T243.setTop (mkF m 53 #[.val (.ref a1), .val (.ref a2), .val (.ref a3), .val (.int p4), .val (.int (((0 : Int32) + (1 : Int32)) + (1 : Int32)))] [(.int (((0 : Int32) + (1 : Int32)) + (1 : Int32))), (.ref a2), (.long ((own_or (own_or (own_zero fk o nw) (o + wn 0) (own_shl (own_dd lo val 0) (sh 0))) (o + wn 1) (own_shl (own_dd lo val 1) (sh 1))) (o + wn 2))), (.int (p4 + (wd 2))), (.ref a3)])) t → Steps p.tables e below (s₁.setTop (mkF m 0 #[.val (.ref a1), .val (.ref a2), .val (.ref a3), .val (.int p4), .unset] [])) t := by
      intro t kt
      refine R246 _ ?_
      show Steps p.tables e below (T243.setTop (mkF m 49 #[.val (.ref a1), .val (.ref a2), .val (.ref a3), .val (.int p4), .val (.int (((0 : Int32) + (1 : Int32)) + (1 : Int32)))] [(.int (p4 + (wd 2))), (.ref a3), (.int (p4 + (wd 2))), (.ref a3)])) _
      refine X243.laload hx (j := (p4 + (wd 2))) (v := (.long ((own_or (own_or (own_zero fk o nw) (o + wn 0) (own_shl (own_dd lo val 0) (sh 0))) (o + wn 1) (own_shl (own_dd lo val 1) (sh 1))) (o + wn 2)))) (by rw [e243]; exact Ar247.1) (State.isArrayOf_alike hZ.alike Ar247.2.1) Ar247.2.2 hin247 hat247 (g := (mkF m 49 #[.val (.ref a1), .val (.ref a2), .val (.ref a3), .val (.int p4), .val (.int (((0 : Int32) + (1 : Int32)) + (1 : Int32)))] [(.int (p4 + (wd 2))), (.ref a3), (.int (p4 + (wd 2))), (.ref a3)])) rfl rfl (hb hby d8_49) _ ?_
      show Steps p.tables e below (T243.setTop (mkF m 50 #[.val (.ref a1), .val (.ref a2), .val (.ref a3), .val (.int p4), .val (.int (((0 : Int32) + (1 : Int32)) + (1 : Int32)))] [(.long ((own_or (own_or (own_zero fk o nw) (o + wn 0) (own_shl (own_dd lo val 0) (sh 0))) (o + wn 1) (own_shl (own_dd lo val 1) (sh 1))) (o + wn 2))), (.int (p4 + (wd 2))), (.ref a3)])) _
      refine XS.aloadN X243.here hx rfl (hb hby d8_50) rfl rfl ?_
      show Steps p.tables e below (T243.setTop (mkF m 51 #[.val (.ref a1), .val (.ref a2), .val (.ref a3), .val (.int p4), .val (.int (((0 : Int32) + (1 : Int32)) + (1 : Int32)))] [(.ref a2), (.long ((own_or (own_or (own_zero fk o nw) (o + wn 0) (own_shl (own_dd lo val 0) (sh 0))) (o + wn 1) (own_shl (own_dd lo val 1) (sh 1))) (o + wn 2))), (.int (p4 + (wd 2))), (.ref a3)])) _
      refine XS.iload X243.here hx rfl (hb hby d8_51) rfl ?_
      exact kt
    clear R246
    obtain ⟨cl249, Ar249, hin249, hat249⟩ := VV_237.at (j := (((0 : Int32) + (1 : Int32)) + (1 : Int32))) (k := 2) (by decide) rfl (by decide)
    have R250 : ∀ t, Steps p.tables e below (T243.setTop (mkF m 56 #[.val (.ref a1), .val (.ref a2), .val (.ref a3), .val (.int p4), .val (.int (((0 : Int32) + (1 : Int32)) + (1 : Int32)))] [(.ref a1), (.long ((val 2).toInt64)), (.long ((own_or (own_or (own_zero fk o nw) (o + wn 0) (own_shl (own_dd lo val 0) (sh 0))) (o + wn 1) (own_shl (own_dd lo val 1) (sh 1))) (o + wn 2))), (.int (p4 + (wd 2))), (.ref a3)])) t → Steps p.tables e below (s₁.setTop (mkF m 0 #[.val (.ref a1), .val (.ref a2), .val (.ref a3), .val (.int p4), .unset] [])) t := by
      intro t kt
      refine R248 _ ?_
      show Steps p.tables e below (T243.setTop (mkF m 53 #[.val (.ref a1), .val (.ref a2), .val (.ref a3), .val (.int p4), .val (.int (((0 : Int32) + (1 : Int32)) + (1 : Int32)))] [(.int (((0 : Int32) + (1 : Int32)) + (1 : Int32))), (.ref a2), (.long ((own_or (own_or (own_zero fk o nw) (o + wn 0) (own_shl (own_dd lo val 0) (sh 0))) (o + wn 1) (own_shl (own_dd lo val 1) (sh 1))) (o + wn 2))), (.int (p4 + (wd 2))), (.ref a3)])) _
      refine X243.iaload hx (j := (((0 : Int32) + (1 : Int32)) + (1 : Int32))) (v := (.int (val 2))) (by rw [e243]; exact Ar249.1) (State.isArrayOf_alike hZ.alike Ar249.2.1) Ar249.2.2 hin249 hat249 (g := (mkF m 53 #[.val (.ref a1), .val (.ref a2), .val (.ref a3), .val (.int p4), .val (.int (((0 : Int32) + (1 : Int32)) + (1 : Int32)))] [(.int (((0 : Int32) + (1 : Int32)) + (1 : Int32))), (.ref a2), (.long ((own_or (own_or (own_zero fk o nw) (o + wn 0) (own_shl (own_dd lo val 0) (sh 0))) (o + wn 1) (own_shl (own_dd lo val 1) (sh 1))) (o + wn 2))), (.int (p4 + (wd 2))), (.ref a3)])) rfl rfl (hb hby d8_53) _ ?_
      show Steps p.tables e below (T243.setTop (mkF m 54 #[.val (.ref a1), .val (.ref a2), .val (.ref a3), .val (.int p4), .val (.int (((0 : Int32) + (1 : Int32)) + (1 : Int32)))] [(.int (val 2)), (.long ((own_or (own_or (own_zero fk o nw) (o + wn 0) (own_shl (own_dd lo val 0) (sh 0))) (o + wn 1) (own_shl (own_dd lo val 1) (sh 1))) (o + wn 2))), (.int (p4 + (wd 2))), (.ref a3)])) _
      refine XS.i2l X243.here hx rfl (hb hby d8_54) rfl ?_
      show Steps p.tables e below (T243.setTop (mkF m 55 #[.val (.ref a1), .val (.ref a2), .val (.ref a3), .val (.int p4), .val (.int (((0 : Int32) + (1 : Int32)) + (1 : Int32)))] [(.long ((val 2).toInt64)), (.long ((own_or (own_or (own_zero fk o nw) (o + wn 0) (own_shl (own_dd lo val 0) (sh 0))) (o + wn 1) (own_shl (own_dd lo val 1) (sh 1))) (o + wn 2))), (.int (p4 + (wd 2))), (.ref a3)])) _
      refine XS.aloadN X243.here hx rfl (hb hby d8_55) rfl rfl ?_
      exact kt
    clear R248
    obtain ⟨T251, X251, e251, st251⟩ := getF X243 hx hZ hown (host := "") (Or.inl (hw _ (List.mem_of_getElem? (i := 31) rfl))) Via.refl e243 Fl_237 (g := (mkF m 56 #[.val (.ref a1), .val (.ref a2), .val (.ref a3), .val (.int p4), .val (.int (((0 : Int32) + (1 : Int32)) + (1 : Int32)))] [(.ref a1), (.long ((val 2).toInt64)), (.long ((own_or (own_or (own_zero fk o nw) (o + wn 0) (own_shl (own_dd lo val 0) (sh 0))) (o + wn 1) (own_shl (own_dd lo val 1) (sh 1))) (o + wn 2))), (.int (p4 + (wd 2))), (.ref a3)])) rfl rfl (hb hby d8_56)
    have R252 : ∀ t, Steps p.tables e below (T251.setTop (mkF m 61 #[.val (.ref a1), .val (.ref a2), .val (.ref a3), .val (.int p4), .val (.int (((0 : Int32) + (1 : Int32)) + (1 : Int32)))] [(.int (((0 : Int32) + (1 : Int32)) + (1 : Int32))), (.ref b1), (.long ((val 2).toInt64)), (.long ((own_or (own_or (own_zero fk o nw) (o + wn 0) (own_shl (own_dd lo val 0) (sh 0))) (o + wn 1) (own_shl (own_dd lo val 1) (sh 1))) (o + wn 2))), (.int (p4 + (wd 2))), (.ref a3)])) t → Steps p.tables e below (s₁.setTop (mkF m 0 #[.val (.ref a1), .val (.ref a2), .val (.ref a3), .val (.int p4), .unset] [])) t := by
      intro t kt
      refine R250 _ ?_
      refine st251 _ ?_
      show Steps p.tables e below (T251.setTop (mkF m 59 #[.val (.ref a1), .val (.ref a2), .val (.ref a3), .val (.int p4), .val (.int (((0 : Int32) + (1 : Int32)) + (1 : Int32)))] [(.ref b1), (.long ((val 2).toInt64)), (.long ((own_or (own_or (own_zero fk o nw) (o + wn 0) (own_shl (own_dd lo val 0) (sh 0))) (o + wn 1) (own_shl (own_dd lo val 1) (sh 1))) (o + wn 2))), (.int (p4 + (wd 2))), (.ref a3)])) _
      refine XS.iload X251.here hx rfl (hb hby d8_59) rfl ?_
      exact kt
    clear R250 st251
    obtain ⟨cl253, Ar253, hin253, hat253⟩ := VL_237.at (j := (((0 : Int32) + (1 : Int32)) + (1 : Int32))) (k := 2) (by decide) rfl (by decide)
    have R254 : ∀ t, Steps p.tables e below (T251.setTop (mkF m 65 #[.val (.ref a1), .val (.ref a2), .val (.ref a3), .val (.int p4), .val (.int (((0 : Int32) + (1 : Int32)) + (1 : Int32)))] [(.ref a1), (.long (((val 2).toInt64) - ((lo 2).toInt64))), (.long ((own_or (own_or (own_zero fk o nw) (o + wn 0) (own_shl (own_dd lo val 0) (sh 0))) (o + wn 1) (own_shl (own_dd lo val 1) (sh 1))) (o + wn 2))), (.int (p4 + (wd 2))), (.ref a3)])) t → Steps p.tables e below (s₁.setTop (mkF m 0 #[.val (.ref a1), .val (.ref a2), .val (.ref a3), .val (.int p4), .unset] [])) t := by
      intro t kt
      refine R252 _ ?_
      show Steps p.tables e below (T251.setTop (mkF m 61 #[.val (.ref a1), .val (.ref a2), .val (.ref a3), .val (.int p4), .val (.int (((0 : Int32) + (1 : Int32)) + (1 : Int32)))] [(.int (((0 : Int32) + (1 : Int32)) + (1 : Int32))), (.ref b1), (.long ((val 2).toInt64)), (.long ((own_or (own_or (own_zero fk o nw) (o + wn 0) (own_shl (own_dd lo val 0) (sh 0))) (o + wn 1) (own_shl (own_dd lo val 1) (sh 1))) (o + wn 2))), (.int (p4 + (wd 2))), (.ref a3)])) _
      refine X251.iaload hx (j := (((0 : Int32) + (1 : Int32)) + (1 : Int32))) (v := (.int (lo 2))) (by rw [e251]; exact Ar253.1) (State.isArrayOf_alike hZ.alike Ar253.2.1) Ar253.2.2 hin253 hat253 (g := (mkF m 61 #[.val (.ref a1), .val (.ref a2), .val (.ref a3), .val (.int p4), .val (.int (((0 : Int32) + (1 : Int32)) + (1 : Int32)))] [(.int (((0 : Int32) + (1 : Int32)) + (1 : Int32))), (.ref b1), (.long ((val 2).toInt64)), (.long ((own_or (own_or (own_zero fk o nw) (o + wn 0) (own_shl (own_dd lo val 0) (sh 0))) (o + wn 1) (own_shl (own_dd lo val 1) (sh 1))) (o + wn 2))), (.int (p4 + (wd 2))), (.ref a3)])) rfl rfl (hb hby d8_61) _ ?_
      show Steps p.tables e below (T251.setTop (mkF m 62 #[.val (.ref a1), .val (.ref a2), .val (.ref a3), .val (.int p4), .val (.int (((0 : Int32) + (1 : Int32)) + (1 : Int32)))] [(.int (lo 2)), (.long ((val 2).toInt64)), (.long ((own_or (own_or (own_zero fk o nw) (o + wn 0) (own_shl (own_dd lo val 0) (sh 0))) (o + wn 1) (own_shl (own_dd lo val 1) (sh 1))) (o + wn 2))), (.int (p4 + (wd 2))), (.ref a3)])) _
      refine XS.i2l X251.here hx rfl (hb hby d8_62) rfl ?_
      show Steps p.tables e below (T251.setTop (mkF m 63 #[.val (.ref a1), .val (.ref a2), .val (.ref a3), .val (.int p4), .val (.int (((0 : Int32) + (1 : Int32)) + (1 : Int32)))] [(.long ((lo 2).toInt64)), (.long ((val 2).toInt64)), (.long ((own_or (own_or (own_zero fk o nw) (o + wn 0) (own_shl (own_dd lo val 0) (sh 0))) (o + wn 1) (own_shl (own_dd lo val 1) (sh 1))) (o + wn 2))), (.int (p4 + (wd 2))), (.ref a3)])) _
      refine XS.lsub X251.here hx rfl (hb hby d8_63) rfl ?_
      show Steps p.tables e below (T251.setTop (mkF m 64 #[.val (.ref a1), .val (.ref a2), .val (.ref a3), .val (.int p4), .val (.int (((0 : Int32) + (1 : Int32)) + (1 : Int32)))] [(.long (((val 2).toInt64) - ((lo 2).toInt64))), (.long ((own_or (own_or (own_zero fk o nw) (o + wn 0) (own_shl (own_dd lo val 0) (sh 0))) (o + wn 1) (own_shl (own_dd lo val 1) (sh 1))) (o + wn 2))), (.int (p4 + (wd 2))), (.ref a3)])) _
      refine XS.aloadN X251.here hx rfl (hb hby d8_64) rfl rfl ?_
      exact kt
    clear R252
    obtain ⟨T255, X255, e255, st255⟩ := getF X251 hx hZ hown (host := "") (Or.inl (hw _ (List.mem_of_getElem? (i := 35) rfl))) Via.refl e251 Fs_237 (g := (mkF m 65 #[.val (.ref a1), .val (.ref a2), .val (.ref a3), .val (.int p4), .val (.int (((0 : Int32) + (1 : Int32)) + (1 : Int32)))] [(.ref a1), (.long (((val 2).toInt64) - ((lo 2).toInt64))), (.long ((own_or (own_or (own_zero fk o nw) (o + wn 0) (own_shl (own_dd lo val 0) (sh 0))) (o + wn 1) (own_shl (own_dd lo val 1) (sh 1))) (o + wn 2))), (.int (p4 + (wd 2))), (.ref a3)])) rfl rfl (hb hby d8_65)
    have R256 : ∀ t, Steps p.tables e below (T255.setTop (mkF m 70 #[.val (.ref a1), .val (.ref a2), .val (.ref a3), .val (.int p4), .val (.int (((0 : Int32) + (1 : Int32)) + (1 : Int32)))] [(.int (((0 : Int32) + (1 : Int32)) + (1 : Int32))), (.ref b3), (.long (((val 2).toInt64) - ((lo 2).toInt64))), (.long ((own_or (own_or (own_zero fk o nw) (o + wn 0) (own_shl (own_dd lo val 0) (sh 0))) (o + wn 1) (own_shl (own_dd lo val 1) (sh 1))) (o + wn 2))), (.int (p4 + (wd 2))), (.ref a3)])) t → Steps p.tables e below (s₁.setTop (mkF m 0 #[.val (.ref a1), .val (.ref a2), .val (.ref a3), .val (.int p4), .unset] [])) t := by
      intro t kt
      refine R254 _ ?_
      refine st255 _ ?_
      show Steps p.tables e below (T255.setTop (mkF m 68 #[.val (.ref a1), .val (.ref a2), .val (.ref a3), .val (.int p4), .val (.int (((0 : Int32) + (1 : Int32)) + (1 : Int32)))] [(.ref b3), (.long (((val 2).toInt64) - ((lo 2).toInt64))), (.long ((own_or (own_or (own_zero fk o nw) (o + wn 0) (own_shl (own_dd lo val 0) (sh 0))) (o + wn 1) (own_shl (own_dd lo val 1) (sh 1))) (o + wn 2))), (.int (p4 + (wd 2))), (.ref a3)])) _
      refine XS.iload X255.here hx rfl (hb hby d8_68) rfl ?_
      exact kt
    clear R254 st255
    obtain ⟨cl257, Ar257, hin257, hat257⟩ := VS_237.at (j := (((0 : Int32) + (1 : Int32)) + (1 : Int32))) (k := 2) (by decide) rfl (by decide)
    have R258 : ∀ t, Steps p.tables e below (T255.setTop (mkF m 73 #[.val (.ref a1), .val (.ref a2), .val (.ref a3), .val (.int p4), .val (.int (((0 : Int32) + (1 : Int32)) + (1 : Int32)))] [(.long (((own_or (own_or (own_zero fk o nw) (o + wn 0) (own_shl (own_dd lo val 0) (sh 0))) (o + wn 1) (own_shl (own_dd lo val 1) (sh 1))) (o + wn 2)) ||| ((((val 2).toInt64) - ((lo 2).toInt64)) <<< ((sh 2) &&& 0x3f).toInt64))), (.int (p4 + (wd 2))), (.ref a3)])) t → Steps p.tables e below (s₁.setTop (mkF m 0 #[.val (.ref a1), .val (.ref a2), .val (.ref a3), .val (.int p4), .unset] [])) t := by
      intro t kt
      refine R256 _ ?_
      show Steps p.tables e below (T255.setTop (mkF m 70 #[.val (.ref a1), .val (.ref a2), .val (.ref a3), .val (.int p4), .val (.int (((0 : Int32) + (1 : Int32)) + (1 : Int32)))] [(.int (((0 : Int32) + (1 : Int32)) + (1 : Int32))), (.ref b3), (.long (((val 2).toInt64) - ((lo 2).toInt64))), (.long ((own_or (own_or (own_zero fk o nw) (o + wn 0) (own_shl (own_dd lo val 0) (sh 0))) (o + wn 1) (own_shl (own_dd lo val 1) (sh 1))) (o + wn 2))), (.int (p4 + (wd 2))), (.ref a3)])) _
      refine X255.iaload hx (j := (((0 : Int32) + (1 : Int32)) + (1 : Int32))) (v := (.int (sh 2))) (by rw [e255]; exact Ar257.1) (State.isArrayOf_alike hZ.alike Ar257.2.1) Ar257.2.2 hin257 hat257 (g := (mkF m 70 #[.val (.ref a1), .val (.ref a2), .val (.ref a3), .val (.int p4), .val (.int (((0 : Int32) + (1 : Int32)) + (1 : Int32)))] [(.int (((0 : Int32) + (1 : Int32)) + (1 : Int32))), (.ref b3), (.long (((val 2).toInt64) - ((lo 2).toInt64))), (.long ((own_or (own_or (own_zero fk o nw) (o + wn 0) (own_shl (own_dd lo val 0) (sh 0))) (o + wn 1) (own_shl (own_dd lo val 1) (sh 1))) (o + wn 2))), (.int (p4 + (wd 2))), (.ref a3)])) rfl rfl (hb hby d8_70) _ ?_
      show Steps p.tables e below (T255.setTop (mkF m 71 #[.val (.ref a1), .val (.ref a2), .val (.ref a3), .val (.int p4), .val (.int (((0 : Int32) + (1 : Int32)) + (1 : Int32)))] [(.int (sh 2)), (.long (((val 2).toInt64) - ((lo 2).toInt64))), (.long ((own_or (own_or (own_zero fk o nw) (o + wn 0) (own_shl (own_dd lo val 0) (sh 0))) (o + wn 1) (own_shl (own_dd lo val 1) (sh 1))) (o + wn 2))), (.int (p4 + (wd 2))), (.ref a3)])) _
      refine XS.lshl X255.here hx rfl (hb hby d8_71) rfl ?_
      show Steps p.tables e below (T255.setTop (mkF m 72 #[.val (.ref a1), .val (.ref a2), .val (.ref a3), .val (.int p4), .val (.int (((0 : Int32) + (1 : Int32)) + (1 : Int32)))] [(.long ((((val 2).toInt64) - ((lo 2).toInt64)) <<< ((sh 2) &&& 0x3f).toInt64)), (.long ((own_or (own_or (own_zero fk o nw) (o + wn 0) (own_shl (own_dd lo val 0) (sh 0))) (o + wn 1) (own_shl (own_dd lo val 1) (sh 1))) (o + wn 2))), (.int (p4 + (wd 2))), (.ref a3)])) _
      refine XS.lor X255.here hx rfl (hb hby d8_72) rfl ?_
      exact kt
    clear R256
    obtain ⟨cl259, Ar259, hin259, -⟩ := VK_237.at (j := (p4 + (wd 2))) (k := (o + wn 2)) r1_2.1 r1_2.2 (Nat.lt_of_lt_of_le (Nat.add_lt_add_left d2 o) hnn)
    obtain ⟨T260, h260, X260, e260, W260, st260⟩ := stJ X255 hx hZ e255 Ar259 (j := (p4 + (wd 2))) hin259 (g := (mkF m 73 #[.val (.ref a1), .val (.ref a2), .val (.ref a3), .val (.int p4), .val (.int (((0 : Int32) + (1 : Int32)) + (1 : Int32)))] [(.long (((own_or (own_or (own_zero fk o nw) (o + wn 0) (own_shl (own_dd lo val 0) (sh 0))) (o + wn 1) (own_shl (own_dd lo val 1) (sh 1))) (o + wn 2)) ||| ((((val 2).toInt64) - ((lo 2).toInt64)) <<< ((sh 2) &&& 0x3f).toInt64))), (.int (p4 + (wd 2))), (.ref a3)])) rfl rfl (hb hby d8_73)
    have N260 := Fr.snoc X260 N237 ga
    rw [show ((p4 + (wd 2)) : Int32).toNatClampNeg = (o + wn 2) from r1_2.2] at W260
    have VK_260 : AV Z h260 a3 .long NN (fun j => .long ((own_or (own_or (own_or (own_zero fk o nw) (o + wn 0) (own_shl (own_dd lo val 0) (sh 0))) (o + wn 1) (own_shl (own_dd lo val 1) (sh 1))) (o + wn 2) (own_shl (own_dd lo val 2) (sh 2))) j)) := VK_237.setJ W260
    have Fl_260 := Fl_237.other W260 (Or.inl m1)
    have Fw_260 := Fw_237.other W260 (Or.inl m1)
    have Fs_260 := Fs_237.other W260 (Or.inl m1)
    have Fc_260 := Fc_237.other W260 (Or.inl m1)
    have VL_260 := VL_237.other W260 m3
    have VW_260 := VW_237.other W260 m4
    have VS_260 := VS_237.other W260 m5
    have VV_260 := VV_237.other W260 m2
    clear Fl_237 Fw_237 Fs_237 Fc_237 VL_237 VW_237 VS_237 VV_237
    have Zs260 : n0 ≤ h260.size := Nat.le_trans Zs237 (Keep.of_wr W260).1
    have Kw260 : Keep h0 h260 [a3] := Keep.wr Kw237 W260 (Or.inl (List.mem_of_getElem? (i := 0) rfl))
    have R261 : ∀ t, Steps p.tables e below (T260.setTop (mkF m 31 #[.val (.ref a1), .val (.ref a2), .val (.ref a3), .val (.int p4), .val (.int ((((0 : Int32) + (1 : Int32)) + (1 : Int32)) + (1 : Int32)))] [(.ref a1), (.int ((((0 : Int32) + (1 : Int32)) + (1 : Int32)) + (1 : Int32)))])) t → Steps p.tables e below (s₁.setTop (mkF m 0 #[.val (.ref a1), .val (.ref a2), .val (.ref a3), .val (.int p4), .unset] [])) t := by
      intro t kt
      refine R258 _ ?_
      refine st260 _ ?_
      show Steps p.tables e below (T260.setTop (mkF m 74 #[.val (.ref a1), .val (.ref a2), .val (.ref a3), .val (.int p4), .val (.int (((0 : Int32) + (1 : Int32)) + (1 : Int32)))] [])) _
      refine XS.iinc X260.here hx rfl (hb hby d8_74) rfl (l' := #[.val (.ref a1), .val (.ref a2), .val (.ref a3), .val (.int p4), .val (.int ((((0 : Int32) + (1 : Int32)) + (1 : Int32)) + (1 : Int32)))]) rfl ?_
      show Steps p.tables e below (T260.setTop (mkF m 77 #[.val (.ref a1), .val (.ref a2), .val (.ref a3), .val (.int p4), .val (.int ((((0 : Int32) + (1 : Int32)) + (1 : Int32)) + (1 : Int32)))] [])) _
      refine XS.goto X260.here hx rfl (pc0 := 77) (pc' := 28) rfl (hb hby d8_77) (by decide) (by decide) ?_
      show Steps p.tables e below (T260.setTop (mkF m 28 #[.val (.ref a1), .val (.ref a2), .val (.ref a3), .val (.int p4), .val (.int ((((0 : Int32) + (1 : Int32)) + (1 : Int32)) + (1 : Int32)))] [])) _
      refine XS.iload X260.here hx rfl (hb hby d8_28) rfl ?_
      show Steps p.tables e below (T260.setTop (mkF m 30 #[.val (.ref a1), .val (.ref a2), .val (.ref a3), .val (.int p4), .val (.int ((((0 : Int32) + (1 : Int32)) + (1 : Int32)) + (1 : Int32)))] [(.int ((((0 : Int32) + (1 : Int32)) + (1 : Int32)) + (1 : Int32)))])) _
      refine XS.aloadN X260.here hx rfl (hb hby d8_30) rfl rfl ?_
      exact kt
    clear R258 st260
    obtain ⟨T262, X262, e262, st262⟩ := getF X260 hx hZ hown (host := "") (Or.inl (hw _ (List.mem_of_getElem? (i := 31) rfl))) Via.refl e260 Fl_260 (g := (mkF m 31 #[.val (.ref a1), .val (.ref a2), .val (.ref a3), .val (.int p4), .val (.int ((((0 : Int32) + (1 : Int32)) + (1 : Int32)) + (1 : Int32)))] [(.ref a1), (.int ((((0 : Int32) + (1 : Int32)) + (1 : Int32)) + (1 : Int32)))])) rfl rfl (hb hby d8_31)
    have R263 : ∀ t, Steps p.tables e below (T262.setTop (mkF m 34 #[.val (.ref a1), .val (.ref a2), .val (.ref a3), .val (.int p4), .val (.int ((((0 : Int32) + (1 : Int32)) + (1 : Int32)) + (1 : Int32)))] [(.ref b1), (.int ((((0 : Int32) + (1 : Int32)) + (1 : Int32)) + (1 : Int32)))])) t → Steps p.tables e below (s₁.setTop (mkF m 0 #[.val (.ref a1), .val (.ref a2), .val (.ref a3), .val (.int p4), .unset] [])) t := by
      intro t kt
      refine R261 _ ?_
      refine st262 _ ?_
      exact kt
    clear R261 st262
    obtain ⟨cl264, Ar264, ln264⟩ := VL_260.len
    have R265 : ∀ t, Steps p.tables e below (T262.setTop (mkF m 80 #[.val (.ref a1), .val (.ref a2), .val (.ref a3), .val (.int p4), .val (.int ((((0 : Int32) + (1 : Int32)) + (1 : Int32)) + (1 : Int32)))] [])) t → Steps p.tables e below (s₁.setTop (mkF m 0 #[.val (.ref a1), .val (.ref a2), .val (.ref a3), .val (.int p4), .unset] [])) t := by
      intro t kt
      refine R263 _ ?_
      show Steps p.tables e below (T262.setTop (mkF m 34 #[.val (.ref a1), .val (.ref a2), .val (.ref a3), .val (.int p4), .val (.int ((((0 : Int32) + (1 : Int32)) + (1 : Int32)) + (1 : Int32)))] [(.ref b1), (.int ((((0 : Int32) + (1 : Int32)) + (1 : Int32)) + (1 : Int32)))])) _
      refine X262.arraylength hx (by rw [e262]; exact Ar264.1) (State.isArrayOf_alike hZ.alike Ar264.2.1) (g := (mkF m 34 #[.val (.ref a1), .val (.ref a2), .val (.ref a3), .val (.int p4), .val (.int ((((0 : Int32) + (1 : Int32)) + (1 : Int32)) + (1 : Int32)))] [(.ref b1), (.int ((((0 : Int32) + (1 : Int32)) + (1 : Int32)) + (1 : Int32)))])) rfl rfl (hb hby d8_34) _ ?_
      rw [ln264]
      show Steps p.tables e below (T262.setTop (mkF m 35 #[.val (.ref a1), .val (.ref a2), .val (.ref a3), .val (.int p4), .val (.int ((((0 : Int32) + (1 : Int32)) + (1 : Int32)) + (1 : Int32)))] [(.int (3 : Int32)), (.int ((((0 : Int32) + (1 : Int32)) + (1 : Int32)) + (1 : Int32)))])) _
      refine XS.icmpYes X262.here hx rfl (pc0 := 35) (pc' := 80) rfl (hb hby d8_35) rfl (flt (by decide : ¬ (((((0 : Int32) + (1 : Int32)) + (1 : Int32)) + (1 : Int32)) < (3 : Int32)))).2.1 (by decide) (by decide) ?_
      exact kt
    clear R263
    obtain ⟨fs, hr, hrun, hended, hW, hsame⟩ := X262.leave (v := none) (fun _ => rfl)
    refine ⟨_, _, pre0 _ (R265 _ ?_), hrun, hended, _, _, rfl, ?_, ⟨_, rfl⟩, hW, hsame.mono (by decide) (by decide)⟩
    · exact X262.returnOut hx Bd.returns (hb hby d8_80) hr
    · show Q_rm_encode Z a1 a2 a3 p4 b1 b2 b3 words lo wd sh val fk NN o nw wn h0 n0 _ T262.heap _
      rw [e262]
      exact ⟨rfl, N260, Kw260, VK_260⟩
  · rw [hn] at hwds hnn d0 d1 d2
    have R266 : ∀ t, Steps p.tables e below (s₁.setTop (mkF m 6 #[.val (.ref a1), .val (.ref a2), .val (.ref a3), .val (.int p4), .val (.int (0 : Int32))] [(.ref a1), (.int (0 : Int32))])) t → Steps p.tables e below (s₁.setTop (mkF m 0 #[.val (.ref a1), .val (.ref a2), .val (.ref a3), .val (.int p4), .unset] [])) t := by
      intro t kt
      refine pre00 _ ?_
      show Steps p.tables e below (s₁.setTop (mkF m 0 #[.val (.ref a1), .val (.ref a2), .val (.ref a3), .val (.int p4), .unset] [])) _
      refine XS.iconst X0.here hx rfl (hb hby d8_0) ?_
      show Steps p.tables e below (s₁.setTop (mkF m 1 #[.val (.ref a1), .val (.ref a2), .val (.ref a3), .val (.int p4), .unset] [(.int (0 : Int32))])) _
      refine XS.istore X0.here hx rfl (hb hby d8_1) rfl (l' := #[.val (.ref a1), .val (.ref a2), .val (.ref a3), .val (.int p4), .val (.int (0 : Int32))]) rfl ?_
      show Steps p.tables e below (s₁.setTop (mkF m 3 #[.val (.ref a1), .val (.ref a2), .val (.ref a3), .val (.int p4), .val (.int (0 : Int32))] [])) _
      refine XS.iload X0.here hx rfl (hb hby d8_3) rfl ?_
      show Steps p.tables e below (s₁.setTop (mkF m 5 #[.val (.ref a1), .val (.ref a2), .val (.ref a3), .val (.int p4), .val (.int (0 : Int32))] [(.int (0 : Int32))])) _
      refine XS.aloadN X0.here hx rfl (hb hby d8_5) rfl rfl ?_
      exact kt
    obtain ⟨T267, X267, e267, st267⟩ := getF X0 hx hZ hown (host := "") (Or.inl (hw _ (List.mem_of_getElem? (i := 50) rfl))) Via.refl e0 Fc (g := (mkF m 6 #[.val (.ref a1), .val (.ref a2), .val (.ref a3), .val (.int p4), .val (.int (0 : Int32))] [(.ref a1), (.int (0 : Int32))])) rfl rfl (hb hby d8_6)
    have R268 : ∀ t, Steps p.tables e below (T267.setTop (mkF m 18 #[.val (.ref a1), .val (.ref a2), .val (.ref a3), .val (.int p4), .val (.int (0 : Int32))] [(.long (0 : Int64)), (.int (p4 + (0 : Int32))), (.ref a3)])) t → Steps p.tables e below (s₁.setTop (mkF m 0 #[.val (.ref a1), .val (.ref a2), .val (.ref a3), .val (.int p4), .unset] [])) t := by
      intro t kt
      refine R266 _ ?_
      refine st267 _ ?_
      show Steps p.tables e below (T267.setTop (mkF m 9 #[.val (.ref a1), .val (.ref a2), .val (.ref a3), .val (.int p4), .val (.int (0 : Int32))] [(.int words), (.int (0 : Int32))])) _
      refine XS.icmpNo X267.here hx rfl (hb hby d8_9) rfl (tlt (own_lt_of (m := 0) (n := 2) rfl hwds (by decide) : (0 : Int32) < words)).2.1 ?_
      show Steps p.tables e below (T267.setTop (mkF m 12 #[.val (.ref a1), .val (.ref a2), .val (.ref a3), .val (.int p4), .val (.int (0 : Int32))] [])) _
      refine XS.aloadN X267.here hx rfl (hb hby d8_12) rfl rfl ?_
      show Steps p.tables e below (T267.setTop (mkF m 13 #[.val (.ref a1), .val (.ref a2), .val (.ref a3), .val (.int p4), .val (.int (0 : Int32))] [(.ref a3)])) _
      refine XS.iloadN X267.here hx rfl (hb hby d8_13) rfl ?_
      show Steps p.tables e below (T267.setTop (mkF m 14 #[.val (.ref a1), .val (.ref a2), .val (.ref a3), .val (.int p4), .val (.int (0 : Int32))] [(.int p4), (.ref a3)])) _
      refine XS.iload X267.here hx rfl (hb hby d8_14) rfl ?_
      show Steps p.tables e below (T267.setTop (mkF m 16 #[.val (.ref a1), .val (.ref a2), .val (.ref a3), .val (.int p4), .val (.int (0 : Int32))] [(.int (0 : Int32)), (.int p4), (.ref a3)])) _
      refine XS.iadd X267.here hx rfl (hb hby d8_16) rfl ?_
      show Steps p.tables e below (T267.setTop (mkF m 17 #[.val (.ref a1), .val (.ref a2), .val (.ref a3), .val (.int p4), .val (.int (0 : Int32))] [(.int (p4 + (0 : Int32))), (.ref a3)])) _
      refine XS.lconst X267.here hx rfl (hb hby d8_17) ?_
      exact kt
    clear R266 st267
    have q2_0 := own_ix p4 (0 : Int32) o 0 NN ho rfl (Nat.lt_of_lt_of_le (Nat.add_lt_add_left (by decide : 0 < 2) o) hnn) h8
    obtain ⟨cl269, Ar269, hin269, -⟩ := VK.at (j := (p4 + (0 : Int32))) (k := o) q2_0.1 q2_0.2 (Nat.lt_of_lt_of_le (Nat.add_lt_add_left (by decide : 0 < 2) o) hnn)
    obtain ⟨T270, h270, X270, e270, W270, st270⟩ := stJ X267 hx hZ e267 Ar269 (j := (p4 + (0 : Int32))) hin269 (g := (mkF m 18 #[.val (.ref a1), .val (.ref a2), .val (.ref a3), .val (.int p4), .val (.int (0 : Int32))] [(.long (0 : Int64)), (.int (p4 + (0 : Int32))), (.ref a3)])) rfl rfl (hb hby d8_18)
    have N270 := Fr.snoc X270 N0 ga
    rw [show ((p4 + (0 : Int32)) : Int32).toNatClampNeg = o from q2_0.2] at W270
    have VK_270 : AV Z h270 a3 .long NN (fun j => .long ((own_set fk o (0 : Int64)) j)) := VK.setJ W270
    have Fl_270 := Fl.other W270 (Or.inl m1)
    have Fw_270 := Fw.other W270 (Or.inl m1)
    have Fs_270 := Fs.other W270 (Or.inl m1)
    have Fc_270 := Fc.other W270 (Or.inl m1)
    have VL_270 := VL.other W270 m3
    have VW_270 := VW.other W270 m4
    have VS_270 := VS.other W270 m5
    have VV_270 := VV.other W270 m2
    have Zs270 : n0 ≤ h270.size := Nat.le_trans Z0 (Keep.of_wr W270).1
    have Kw270 : Keep h0 h270 [a3] := Keep.wr (Keep.refl h0 [a3]) W270 (Or.inl (List.mem_of_getElem? (i := 0) rfl))
    have R271 : ∀ t, Steps p.tables e below (T270.setTop (mkF m 6 #[.val (.ref a1), .val (.ref a2), .val (.ref a3), .val (.int p4), .val (.int ((0 : Int32) + (1 : Int32)))] [(.ref a1), (.int ((0 : Int32) + (1 : Int32)))])) t → Steps p.tables e below (s₁.setTop (mkF m 0 #[.val (.ref a1), .val (.ref a2), .val (.ref a3), .val (.int p4), .unset] [])) t := by
      intro t kt
      refine R268 _ ?_
      refine st270 _ ?_
      show Steps p.tables e below (T270.setTop (mkF m 19 #[.val (.ref a1), .val (.ref a2), .val (.ref a3), .val (.int p4), .val (.int (0 : Int32))] [])) _
      refine XS.iinc X270.here hx rfl (hb hby d8_19) rfl (l' := #[.val (.ref a1), .val (.ref a2), .val (.ref a3), .val (.int p4), .val (.int ((0 : Int32) + (1 : Int32)))]) rfl ?_
      show Steps p.tables e below (T270.setTop (mkF m 22 #[.val (.ref a1), .val (.ref a2), .val (.ref a3), .val (.int p4), .val (.int ((0 : Int32) + (1 : Int32)))] [])) _
      refine XS.goto X270.here hx rfl (pc0 := 22) (pc' := 3) rfl (hb hby d8_22) (by decide) (by decide) ?_
      show Steps p.tables e below (T270.setTop (mkF m 3 #[.val (.ref a1), .val (.ref a2), .val (.ref a3), .val (.int p4), .val (.int ((0 : Int32) + (1 : Int32)))] [])) _
      refine XS.iload X270.here hx rfl (hb hby d8_3) rfl ?_
      show Steps p.tables e below (T270.setTop (mkF m 5 #[.val (.ref a1), .val (.ref a2), .val (.ref a3), .val (.int p4), .val (.int ((0 : Int32) + (1 : Int32)))] [(.int ((0 : Int32) + (1 : Int32)))])) _
      refine XS.aloadN X270.here hx rfl (hb hby d8_5) rfl rfl ?_
      exact kt
    clear R268 st270
    obtain ⟨T272, X272, e272, st272⟩ := getF X270 hx hZ hown (host := "") (Or.inl (hw _ (List.mem_of_getElem? (i := 50) rfl))) Via.refl e270 Fc_270 (g := (mkF m 6 #[.val (.ref a1), .val (.ref a2), .val (.ref a3), .val (.int p4), .val (.int ((0 : Int32) + (1 : Int32)))] [(.ref a1), (.int ((0 : Int32) + (1 : Int32)))])) rfl rfl (hb hby d8_6)
    have R273 : ∀ t, Steps p.tables e below (T272.setTop (mkF m 18 #[.val (.ref a1), .val (.ref a2), .val (.ref a3), .val (.int p4), .val (.int ((0 : Int32) + (1 : Int32)))] [(.long (0 : Int64)), (.int (p4 + ((0 : Int32) + (1 : Int32)))), (.ref a3)])) t → Steps p.tables e below (s₁.setTop (mkF m 0 #[.val (.ref a1), .val (.ref a2), .val (.ref a3), .val (.int p4), .unset] [])) t := by
      intro t kt
      refine R271 _ ?_
      refine st272 _ ?_
      show Steps p.tables e below (T272.setTop (mkF m 9 #[.val (.ref a1), .val (.ref a2), .val (.ref a3), .val (.int p4), .val (.int ((0 : Int32) + (1 : Int32)))] [(.int words), (.int ((0 : Int32) + (1 : Int32)))])) _
      refine XS.icmpNo X272.here hx rfl (hb hby d8_9) rfl (tlt (own_lt_of (m := 1) (n := 2) rfl hwds (by decide) : ((0 : Int32) + (1 : Int32)) < words)).2.1 ?_
      show Steps p.tables e below (T272.setTop (mkF m 12 #[.val (.ref a1), .val (.ref a2), .val (.ref a3), .val (.int p4), .val (.int ((0 : Int32) + (1 : Int32)))] [])) _
      refine XS.aloadN X272.here hx rfl (hb hby d8_12) rfl rfl ?_
      show Steps p.tables e below (T272.setTop (mkF m 13 #[.val (.ref a1), .val (.ref a2), .val (.ref a3), .val (.int p4), .val (.int ((0 : Int32) + (1 : Int32)))] [(.ref a3)])) _
      refine XS.iloadN X272.here hx rfl (hb hby d8_13) rfl ?_
      show Steps p.tables e below (T272.setTop (mkF m 14 #[.val (.ref a1), .val (.ref a2), .val (.ref a3), .val (.int p4), .val (.int ((0 : Int32) + (1 : Int32)))] [(.int p4), (.ref a3)])) _
      refine XS.iload X272.here hx rfl (hb hby d8_14) rfl ?_
      show Steps p.tables e below (T272.setTop (mkF m 16 #[.val (.ref a1), .val (.ref a2), .val (.ref a3), .val (.int p4), .val (.int ((0 : Int32) + (1 : Int32)))] [(.int ((0 : Int32) + (1 : Int32))), (.int p4), (.ref a3)])) _
      refine XS.iadd X272.here hx rfl (hb hby d8_16) rfl ?_
      show Steps p.tables e below (T272.setTop (mkF m 17 #[.val (.ref a1), .val (.ref a2), .val (.ref a3), .val (.int p4), .val (.int ((0 : Int32) + (1 : Int32)))] [(.int (p4 + ((0 : Int32) + (1 : Int32)))), (.ref a3)])) _
      refine XS.lconst X272.here hx rfl (hb hby d8_17) ?_
      exact kt
    clear R271 st272
    have q2_1 := own_ix p4 ((0 : Int32) + (1 : Int32)) o 1 NN ho rfl (Nat.lt_of_lt_of_le (Nat.add_lt_add_left (by decide : 1 < 2) o) hnn) h8
    obtain ⟨cl274, Ar274, hin274, -⟩ := VK_270.at (j := (p4 + ((0 : Int32) + (1 : Int32)))) (k := (o + 1)) q2_1.1 q2_1.2 (Nat.lt_of_lt_of_le (Nat.add_lt_add_left (by decide : 1 < 2) o) hnn)
    obtain ⟨T275, h275, X275, e275, W275, st275⟩ := stJ X272 hx hZ e272 Ar274 (j := (p4 + ((0 : Int32) + (1 : Int32)))) hin274 (g := (mkF m 18 #[.val (.ref a1), .val (.ref a2), .val (.ref a3), .val (.int p4), .val (.int ((0 : Int32) + (1 : Int32)))] [(.long (0 : Int64)), (.int (p4 + ((0 : Int32) + (1 : Int32)))), (.ref a3)])) rfl rfl (hb hby d8_18)
    have N275 := Fr.snoc X275 N270 ga
    rw [show ((p4 + ((0 : Int32) + (1 : Int32))) : Int32).toNatClampNeg = (o + 1) from q2_1.2] at W275
    have VK_275 : AV Z h275 a3 .long NN (fun j => .long ((own_set (own_set fk o (0 : Int64)) (o + 1) (0 : Int64)) j)) := VK_270.setJ W275
    have Fl_275 := Fl_270.other W275 (Or.inl m1)
    have Fw_275 := Fw_270.other W275 (Or.inl m1)
    have Fs_275 := Fs_270.other W275 (Or.inl m1)
    have Fc_275 := Fc_270.other W275 (Or.inl m1)
    have VL_275 := VL_270.other W275 m3
    have VW_275 := VW_270.other W275 m4
    have VS_275 := VS_270.other W275 m5
    have VV_275 := VV_270.other W275 m2
    clear Fl_270 Fw_270 Fs_270 Fc_270 VL_270 VW_270 VS_270 VV_270
    have Zs275 : n0 ≤ h275.size := Nat.le_trans Zs270 (Keep.of_wr W275).1
    have Kw275 : Keep h0 h275 [a3] := Keep.wr Kw270 W275 (Or.inl (List.mem_of_getElem? (i := 0) rfl))
    have R276 : ∀ t, Steps p.tables e below (T275.setTop (mkF m 6 #[.val (.ref a1), .val (.ref a2), .val (.ref a3), .val (.int p4), .val (.int (((0 : Int32) + (1 : Int32)) + (1 : Int32)))] [(.ref a1), (.int (((0 : Int32) + (1 : Int32)) + (1 : Int32)))])) t → Steps p.tables e below (s₁.setTop (mkF m 0 #[.val (.ref a1), .val (.ref a2), .val (.ref a3), .val (.int p4), .unset] [])) t := by
      intro t kt
      refine R273 _ ?_
      refine st275 _ ?_
      show Steps p.tables e below (T275.setTop (mkF m 19 #[.val (.ref a1), .val (.ref a2), .val (.ref a3), .val (.int p4), .val (.int ((0 : Int32) + (1 : Int32)))] [])) _
      refine XS.iinc X275.here hx rfl (hb hby d8_19) rfl (l' := #[.val (.ref a1), .val (.ref a2), .val (.ref a3), .val (.int p4), .val (.int (((0 : Int32) + (1 : Int32)) + (1 : Int32)))]) rfl ?_
      show Steps p.tables e below (T275.setTop (mkF m 22 #[.val (.ref a1), .val (.ref a2), .val (.ref a3), .val (.int p4), .val (.int (((0 : Int32) + (1 : Int32)) + (1 : Int32)))] [])) _
      refine XS.goto X275.here hx rfl (pc0 := 22) (pc' := 3) rfl (hb hby d8_22) (by decide) (by decide) ?_
      show Steps p.tables e below (T275.setTop (mkF m 3 #[.val (.ref a1), .val (.ref a2), .val (.ref a3), .val (.int p4), .val (.int (((0 : Int32) + (1 : Int32)) + (1 : Int32)))] [])) _
      refine XS.iload X275.here hx rfl (hb hby d8_3) rfl ?_
      show Steps p.tables e below (T275.setTop (mkF m 5 #[.val (.ref a1), .val (.ref a2), .val (.ref a3), .val (.int p4), .val (.int (((0 : Int32) + (1 : Int32)) + (1 : Int32)))] [(.int (((0 : Int32) + (1 : Int32)) + (1 : Int32)))])) _
      refine XS.aloadN X275.here hx rfl (hb hby d8_5) rfl rfl ?_
      exact kt
    clear R273 st275
    obtain ⟨T277, X277, e277, st277⟩ := getF X275 hx hZ hown (host := "") (Or.inl (hw _ (List.mem_of_getElem? (i := 50) rfl))) Via.refl e275 Fc_275 (g := (mkF m 6 #[.val (.ref a1), .val (.ref a2), .val (.ref a3), .val (.int p4), .val (.int (((0 : Int32) + (1 : Int32)) + (1 : Int32)))] [(.ref a1), (.int (((0 : Int32) + (1 : Int32)) + (1 : Int32)))])) rfl rfl (hb hby d8_6)
    have R278 : ∀ t, Steps p.tables e below (T277.setTop (mkF m 31 #[.val (.ref a1), .val (.ref a2), .val (.ref a3), .val (.int p4), .val (.int (0 : Int32))] [(.ref a1), (.int (0 : Int32))])) t → Steps p.tables e below (s₁.setTop (mkF m 0 #[.val (.ref a1), .val (.ref a2), .val (.ref a3), .val (.int p4), .unset] [])) t := by
      intro t kt
      refine R276 _ ?_
      refine st277 _ ?_
      show Steps p.tables e below (T277.setTop (mkF m 9 #[.val (.ref a1), .val (.ref a2), .val (.ref a3), .val (.int p4), .val (.int (((0 : Int32) + (1 : Int32)) + (1 : Int32)))] [(.int words), (.int (((0 : Int32) + (1 : Int32)) + (1 : Int32)))])) _
      refine XS.icmpYes X277.here hx rfl (pc0 := 9) (pc' := 25) rfl (hb hby d8_9) rfl (flt (own_nlt_of (m := 2) (n := 2) rfl hwds (by decide) : ¬ ((((0 : Int32) + (1 : Int32)) + (1 : Int32)) < words))).2.1 (by decide) (by decide) ?_
      show Steps p.tables e below (T277.setTop (mkF m 25 #[.val (.ref a1), .val (.ref a2), .val (.ref a3), .val (.int p4), .val (.int (((0 : Int32) + (1 : Int32)) + (1 : Int32)))] [])) _
      refine XS.iconst X277.here hx rfl (hb hby d8_25) ?_
      show Steps p.tables e below (T277.setTop (mkF m 26 #[.val (.ref a1), .val (.ref a2), .val (.ref a3), .val (.int p4), .val (.int (((0 : Int32) + (1 : Int32)) + (1 : Int32)))] [(.int (0 : Int32))])) _
      refine XS.istore X277.here hx rfl (hb hby d8_26) rfl (l' := #[.val (.ref a1), .val (.ref a2), .val (.ref a3), .val (.int p4), .val (.int (0 : Int32))]) rfl ?_
      show Steps p.tables e below (T277.setTop (mkF m 28 #[.val (.ref a1), .val (.ref a2), .val (.ref a3), .val (.int p4), .val (.int (0 : Int32))] [])) _
      refine XS.iload X277.here hx rfl (hb hby d8_28) rfl ?_
      show Steps p.tables e below (T277.setTop (mkF m 30 #[.val (.ref a1), .val (.ref a2), .val (.ref a3), .val (.int p4), .val (.int (0 : Int32))] [(.int (0 : Int32))])) _
      refine XS.aloadN X277.here hx rfl (hb hby d8_30) rfl rfl ?_
      exact kt
    clear R276 st277
    have VK0_2 : AV Z h275 a3 .long NN (fun j => .long ((own_zero fk o nw) j)) := by rw [own_zero, hn]; exact VK_275
    obtain ⟨T279, X279, e279, st279⟩ := getF X277 hx hZ hown (host := "") (Or.inl (hw _ (List.mem_of_getElem? (i := 31) rfl))) Via.refl e277 Fl_275 (g := (mkF m 31 #[.val (.ref a1), .val (.ref a2), .val (.ref a3), .val (.int p4), .val (.int (0 : Int32))] [(.ref a1), (.int (0 : Int32))])) rfl rfl (hb hby d8_31)
    have R280 : ∀ t, Steps p.tables e below (T279.setTop (mkF m 34 #[.val (.ref a1), .val (.ref a2), .val (.ref a3), .val (.int p4), .val (.int (0 : Int32))] [(.ref b1), (.int (0 : Int32))])) t → Steps p.tables e below (s₁.setTop (mkF m 0 #[.val (.ref a1), .val (.ref a2), .val (.ref a3), .val (.int p4), .unset] [])) t := by
      intro t kt
      refine R278 _ ?_
      refine st279 _ ?_
      exact kt
    clear R278 st279
    obtain ⟨cl281, Ar281, ln281⟩ := VL_275.len
    have R282 : ∀ t, Steps p.tables e below (T279.setTop (mkF m 41 #[.val (.ref a1), .val (.ref a2), .val (.ref a3), .val (.int p4), .val (.int (0 : Int32))] [(.ref a1), (.int p4), (.ref a3)])) t → Steps p.tables e below (s₁.setTop (mkF m 0 #[.val (.ref a1), .val (.ref a2), .val (.ref a3), .val (.int p4), .unset] [])) t := by
      intro t kt
      refine R280 _ ?_
      show Steps p.tables e below (T279.setTop (mkF m 34 #[.val (.ref a1), .val (.ref a2), .val (.ref a3), .val (.int p4), .val (.int (0 : Int32))] [(.ref b1), (.int (0 : Int32))])) _
      refine X279.arraylength hx (by rw [e279]; exact Ar281.1) (State.isArrayOf_alike hZ.alike Ar281.2.1) (g := (mkF m 34 #[.val (.ref a1), .val (.ref a2), .val (.ref a3), .val (.int p4), .val (.int (0 : Int32))] [(.ref b1), (.int (0 : Int32))])) rfl rfl (hb hby d8_34) _ ?_
      rw [ln281]
      show Steps p.tables e below (T279.setTop (mkF m 35 #[.val (.ref a1), .val (.ref a2), .val (.ref a3), .val (.int p4), .val (.int (0 : Int32))] [(.int (3 : Int32)), (.int (0 : Int32))])) _
      refine XS.icmpNo X279.here hx rfl (hb hby d8_35) rfl (tlt (by decide : (0 : Int32) < (3 : Int32))).2.1 ?_
      show Steps p.tables e below (T279.setTop (mkF m 38 #[.val (.ref a1), .val (.ref a2), .val (.ref a3), .val (.int p4), .val (.int (0 : Int32))] [])) _
      refine XS.aloadN X279.here hx rfl (hb hby d8_38) rfl rfl ?_
      show Steps p.tables e below (T279.setTop (mkF m 39 #[.val (.ref a1), .val (.ref a2), .val (.ref a3), .val (.int p4), .val (.int (0 : Int32))] [(.ref a3)])) _
      refine XS.iloadN X279.here hx rfl (hb hby d8_39) rfl ?_
      show Steps p.tables e below (T279.setTop (mkF m 40 #[.val (.ref a1), .val (.ref a2), .val (.ref a3), .val (.int p4), .val (.int (0 : Int32))] [(.int p4), (.ref a3)])) _
      refine XS.aloadN X279.here hx rfl (hb hby d8_40) rfl rfl ?_
      exact kt
    clear R280
    obtain ⟨T283, X283, e283, st283⟩ := getF X279 hx hZ hown (host := "") (Or.inl (hw _ (List.mem_of_getElem? (i := 33) rfl))) Via.refl e279 Fw_275 (g := (mkF m 41 #[.val (.ref a1), .val (.ref a2), .val (.ref a3), .val (.int p4), .val (.int (0 : Int32))] [(.ref a1), (.int p4), (.ref a3)])) rfl rfl (hb hby d8_41)
    have R284 : ∀ t, Steps p.tables e below (T283.setTop (mkF m 46 #[.val (.ref a1), .val (.ref a2), .val (.ref a3), .val (.int p4), .val (.int (0 : Int32))] [(.int (0 : Int32)), (.ref b2), (.int p4), (.ref a3)])) t → Steps p.tables e below (s₁.setTop (mkF m 0 #[.val (.ref a1), .val (.ref a2), .val (.ref a3), .val (.int p4), .unset] [])) t := by
      intro t kt
      refine R282 _ ?_
      refine st283 _ ?_
      show Steps p.tables e below (T283.setTop (mkF m 44 #[.val (.ref a1), .val (.ref a2), .val (.ref a3), .val (.int p4), .val (.int (0 : Int32))] [(.ref b2), (.int p4), (.ref a3)])) _
      refine XS.iload X283.here hx rfl (hb hby d8_44) rfl ?_
      exact kt
    clear R282 st283
    obtain ⟨cl285, Ar285, hin285, hat285⟩ := VW_275.at (j := (0 : Int32)) (k := 0) (by decide) rfl (by decide)
    have R286 : ∀ t, Steps p.tables e below (T283.setTop (mkF m 49 #[.val (.ref a1), .val (.ref a2), .val (.ref a3), .val (.int p4), .val (.int (0 : Int32))] [(.int (p4 + (wd 0))), (.ref a3), (.int (p4 + (wd 0))), (.ref a3)])) t → Steps p.tables e below (s₁.setTop (mkF m 0 #[.val (.ref a1), .val (.ref a2), .val (.ref a3), .val (.int p4), .unset] [])) t := by
      intro t kt
      refine R284 _ ?_
      show Steps p.tables e below (T283.setTop (mkF m 46 #[.val (.ref a1), .val (.ref a2), .val (.ref a3), .val (.int p4), .val (.int (0 : Int32))] [(.int (0 : Int32)), (.ref b2), (.int p4), (.ref a3)])) _
      refine X283.iaload hx (j := (0 : Int32)) (v := (.int (wd 0))) (by rw [e283]; exact Ar285.1) (State.isArrayOf_alike hZ.alike Ar285.2.1) Ar285.2.2 hin285 hat285 (g := (mkF m 46 #[.val (.ref a1), .val (.ref a2), .val (.ref a3), .val (.int p4), .val (.int (0 : Int32))] [(.int (0 : Int32)), (.ref b2), (.int p4), (.ref a3)])) rfl rfl (hb hby d8_46) _ ?_
      show Steps p.tables e below (T283.setTop (mkF m 47 #[.val (.ref a1), .val (.ref a2), .val (.ref a3), .val (.int p4), .val (.int (0 : Int32))] [(.int (wd 0)), (.int p4), (.ref a3)])) _
      refine XS.iadd X283.here hx rfl (hb hby d8_47) rfl ?_
      show Steps p.tables e below (T283.setTop (mkF m 48 #[.val (.ref a1), .val (.ref a2), .val (.ref a3), .val (.int p4), .val (.int (0 : Int32))] [(.int (p4 + (wd 0))), (.ref a3)])) _
      jvm_step X283.here [X283.here.top, hx, (hb hby d8_48), Value.category]
      exact kt
    clear R284
    have r2_0 := own_ix p4 (wd 0) o (wn 0) NN ho c0 (Nat.lt_of_lt_of_le (Nat.add_lt_add_left d0 o) hnn) h8
    obtain ⟨cl287, Ar287, hin287, hat287⟩ := VK0_2.at (j := (p4 + (wd 0))) (k := (o + wn 0)) r2_0.1 r2_0.2 (Nat.lt_of_lt_of_le (Nat.add_lt_add_left d0 o) hnn)
    have R288 : ∀ t, Steps p.tables e below (T283.setTop (mkF m 53 #[.val (.ref a1), .val (.ref a2), .val (.ref a3), .val (.int p4), .val (.int (0 : Int32))] [(.int (0 : Int32)), (.ref a2), (.long ((own_zero fk o nw) (o + wn 0))), (.int (p4 + (wd 0))), (.ref a3)])) t → Steps p.tables e below (s₁.setTop (mkF m 0 #[.val (.ref a1), .val (.ref a2), .val (.ref a3), .val (.int p4), .unset] [])) t := by
      intro t kt
      refine R286 _ ?_
      show Steps p.tables e below (T283.setTop (mkF m 49 #[.val (.ref a1), .val (.ref a2), .val (.ref a3), .val (.int p4), .val (.int (0 : Int32))] [(.int (p4 + (wd 0))), (.ref a3), (.int (p4 + (wd 0))), (.ref a3)])) _
      refine X283.laload hx (j := (p4 + (wd 0))) (v := (.long ((own_zero fk o nw) (o + wn 0)))) (by rw [e283]; exact Ar287.1) (State.isArrayOf_alike hZ.alike Ar287.2.1) Ar287.2.2 hin287 hat287 (g := (mkF m 49 #[.val (.ref a1), .val (.ref a2), .val (.ref a3), .val (.int p4), .val (.int (0 : Int32))] [(.int (p4 + (wd 0))), (.ref a3), (.int (p4 + (wd 0))), (.ref a3)])) rfl rfl (hb hby d8_49) _ ?_
      show Steps p.tables e below (T283.setTop (mkF m 50 #[.val (.ref a1), .val (.ref a2), .val (.ref a3), .val (.int p4), .val (.int (0 : Int32))] [(.long ((own_zero fk o nw) (o + wn 0))), (.int (p4 + (wd 0))), (.ref a3)])) _
      refine XS.aloadN X283.here hx rfl (hb hby d8_50) rfl rfl ?_
      show Steps p.tables e below (T283.setTop (mkF m 51 #[.val (.ref a1), .val (.ref a2), .val (.ref a3), .val (.int p4), .val (.int (0 : Int32))] [(.ref a2), (.long ((own_zero fk o nw) (o + wn 0))), (.int (p4 + (wd 0))), (.ref a3)])) _
      refine XS.iload X283.here hx rfl (hb hby d8_51) rfl ?_
      exact kt
    clear R286
    obtain ⟨cl289, Ar289, hin289, hat289⟩ := VV_275.at (j := (0 : Int32)) (k := 0) (by decide) rfl (by decide)
    have R290 : ∀ t, Steps p.tables e below (T283.setTop (mkF m 56 #[.val (.ref a1), .val (.ref a2), .val (.ref a3), .val (.int p4), .val (.int (0 : Int32))] [(.ref a1), (.long ((val 0).toInt64)), (.long ((own_zero fk o nw) (o + wn 0))), (.int (p4 + (wd 0))), (.ref a3)])) t → Steps p.tables e below (s₁.setTop (mkF m 0 #[.val (.ref a1), .val (.ref a2), .val (.ref a3), .val (.int p4), .unset] [])) t := by
      intro t kt
      refine R288 _ ?_
      show Steps p.tables e below (T283.setTop (mkF m 53 #[.val (.ref a1), .val (.ref a2), .val (.ref a3), .val (.int p4), .val (.int (0 : Int32))] [(.int (0 : Int32)), (.ref a2), (.long ((own_zero fk o nw) (o + wn 0))), (.int (p4 + (wd 0))), (.ref a3)])) _
      refine X283.iaload hx (j := (0 : Int32)) (v := (.int (val 0))) (by rw [e283]; exact Ar289.1) (State.isArrayOf_alike hZ.alike Ar289.2.1) Ar289.2.2 hin289 hat289 (g := (mkF m 53 #[.val (.ref a1), .val (.ref a2), .val (.ref a3), .val (.int p4), .val (.int (0 : Int32))] [(.int (0 : Int32)), (.ref a2), (.long ((own_zero fk o nw) (o + wn 0))), (.int (p4 + (wd 0))), (.ref a3)])) rfl rfl (hb hby d8_53) _ ?_
      show Steps p.tables e below (T283.setTop (mkF m 54 #[.val (.ref a1), .val (.ref a2), .val (.ref a3), .val (.int p4), .val (.int (0 : Int32))] [(.int (val 0)), (.long ((own_zero fk o nw) (o + wn 0))), (.int (p4 + (wd 0))), (.ref a3)])) _
      refine XS.i2l X283.here hx rfl (hb hby d8_54) rfl ?_
      show Steps p.tables e below (T283.setTop (mkF m 55 #[.val (.ref a1), .val (.ref a2), .val (.ref a3), .val (.int p4), .val (.int (0 : Int32))] [(.long ((val 0).toInt64)), (.long ((own_zero fk o nw) (o + wn 0))), (.int (p4 + (wd 0))), (.ref a3)])) _
      refine XS.aloadN X283.here hx rfl (hb hby d8_55) rfl rfl ?_
      exact kt
    clear R288
    obtain ⟨T291, X291, e291, st291⟩ := getF X283 hx hZ hown (host := "") (Or.inl (hw _ (List.mem_of_getElem? (i := 31) rfl))) Via.refl e283 Fl_275 (g := (mkF m 56 #[.val (.ref a1), .val (.ref a2), .val (.ref a3), .val (.int p4), .val (.int (0 : Int32))] [(.ref a1), (.long ((val 0).toInt64)), (.long ((own_zero fk o nw) (o + wn 0))), (.int (p4 + (wd 0))), (.ref a3)])) rfl rfl (hb hby d8_56)
    have R292 : ∀ t, Steps p.tables e below (T291.setTop (mkF m 61 #[.val (.ref a1), .val (.ref a2), .val (.ref a3), .val (.int p4), .val (.int (0 : Int32))] [(.int (0 : Int32)), (.ref b1), (.long ((val 0).toInt64)), (.long ((own_zero fk o nw) (o + wn 0))), (.int (p4 + (wd 0))), (.ref a3)])) t → Steps p.tables e below (s₁.setTop (mkF m 0 #[.val (.ref a1), .val (.ref a2), .val (.ref a3), .val (.int p4), .unset] [])) t := by
      intro t kt
      refine R290 _ ?_
      refine st291 _ ?_
      show Steps p.tables e below (T291.setTop (mkF m 59 #[.val (.ref a1), .val (.ref a2), .val (.ref a3), .val (.int p4), .val (.int (0 : Int32))] [(.ref b1), (.long ((val 0).toInt64)), (.long ((own_zero fk o nw) (o + wn 0))), (.int (p4 + (wd 0))), (.ref a3)])) _
      refine XS.iload X291.here hx rfl (hb hby d8_59) rfl ?_
      exact kt
    clear R290 st291
    obtain ⟨cl293, Ar293, hin293, hat293⟩ := VL_275.at (j := (0 : Int32)) (k := 0) (by decide) rfl (by decide)
    have R294 : ∀ t, Steps p.tables e below (T291.setTop (mkF m 65 #[.val (.ref a1), .val (.ref a2), .val (.ref a3), .val (.int p4), .val (.int (0 : Int32))] [(.ref a1), (.long (((val 0).toInt64) - ((lo 0).toInt64))), (.long ((own_zero fk o nw) (o + wn 0))), (.int (p4 + (wd 0))), (.ref a3)])) t → Steps p.tables e below (s₁.setTop (mkF m 0 #[.val (.ref a1), .val (.ref a2), .val (.ref a3), .val (.int p4), .unset] [])) t := by
      intro t kt
      refine R292 _ ?_
      show Steps p.tables e below (T291.setTop (mkF m 61 #[.val (.ref a1), .val (.ref a2), .val (.ref a3), .val (.int p4), .val (.int (0 : Int32))] [(.int (0 : Int32)), (.ref b1), (.long ((val 0).toInt64)), (.long ((own_zero fk o nw) (o + wn 0))), (.int (p4 + (wd 0))), (.ref a3)])) _
      refine X291.iaload hx (j := (0 : Int32)) (v := (.int (lo 0))) (by rw [e291]; exact Ar293.1) (State.isArrayOf_alike hZ.alike Ar293.2.1) Ar293.2.2 hin293 hat293 (g := (mkF m 61 #[.val (.ref a1), .val (.ref a2), .val (.ref a3), .val (.int p4), .val (.int (0 : Int32))] [(.int (0 : Int32)), (.ref b1), (.long ((val 0).toInt64)), (.long ((own_zero fk o nw) (o + wn 0))), (.int (p4 + (wd 0))), (.ref a3)])) rfl rfl (hb hby d8_61) _ ?_
      show Steps p.tables e below (T291.setTop (mkF m 62 #[.val (.ref a1), .val (.ref a2), .val (.ref a3), .val (.int p4), .val (.int (0 : Int32))] [(.int (lo 0)), (.long ((val 0).toInt64)), (.long ((own_zero fk o nw) (o + wn 0))), (.int (p4 + (wd 0))), (.ref a3)])) _
      refine XS.i2l X291.here hx rfl (hb hby d8_62) rfl ?_
      show Steps p.tables e below (T291.setTop (mkF m 63 #[.val (.ref a1), .val (.ref a2), .val (.ref a3), .val (.int p4), .val (.int (0 : Int32))] [(.long ((lo 0).toInt64)), (.long ((val 0).toInt64)), (.long ((own_zero fk o nw) (o + wn 0))), (.int (p4 + (wd 0))), (.ref a3)])) _
      refine XS.lsub X291.here hx rfl (hb hby d8_63) rfl ?_
      show Steps p.tables e below (T291.setTop (mkF m 64 #[.val (.ref a1), .val (.ref a2), .val (.ref a3), .val (.int p4), .val (.int (0 : Int32))] [(.long (((val 0).toInt64) - ((lo 0).toInt64))), (.long ((own_zero fk o nw) (o + wn 0))), (.int (p4 + (wd 0))), (.ref a3)])) _
      refine XS.aloadN X291.here hx rfl (hb hby d8_64) rfl rfl ?_
      exact kt
    clear R292
    obtain ⟨T295, X295, e295, st295⟩ := getF X291 hx hZ hown (host := "") (Or.inl (hw _ (List.mem_of_getElem? (i := 35) rfl))) Via.refl e291 Fs_275 (g := (mkF m 65 #[.val (.ref a1), .val (.ref a2), .val (.ref a3), .val (.int p4), .val (.int (0 : Int32))] [(.ref a1), (.long (((val 0).toInt64) - ((lo 0).toInt64))), (.long ((own_zero fk o nw) (o + wn 0))), (.int (p4 + (wd 0))), (.ref a3)])) rfl rfl (hb hby d8_65)
    have R296 : ∀ t, Steps p.tables e below (T295.setTop (mkF m 70 #[.val (.ref a1), .val (.ref a2), .val (.ref a3), .val (.int p4), .val (.int (0 : Int32))] [(.int (0 : Int32)), (.ref b3), (.long (((val 0).toInt64) - ((lo 0).toInt64))), (.long ((own_zero fk o nw) (o + wn 0))), (.int (p4 + (wd 0))), (.ref a3)])) t → Steps p.tables e below (s₁.setTop (mkF m 0 #[.val (.ref a1), .val (.ref a2), .val (.ref a3), .val (.int p4), .unset] [])) t := by
      intro t kt
      refine R294 _ ?_
      refine st295 _ ?_
      show Steps p.tables e below (T295.setTop (mkF m 68 #[.val (.ref a1), .val (.ref a2), .val (.ref a3), .val (.int p4), .val (.int (0 : Int32))] [(.ref b3), (.long (((val 0).toInt64) - ((lo 0).toInt64))), (.long ((own_zero fk o nw) (o + wn 0))), (.int (p4 + (wd 0))), (.ref a3)])) _
      refine XS.iload X295.here hx rfl (hb hby d8_68) rfl ?_
      exact kt
    clear R294 st295
    obtain ⟨cl297, Ar297, hin297, hat297⟩ := VS_275.at (j := (0 : Int32)) (k := 0) (by decide) rfl (by decide)
    have R298 : ∀ t, Steps p.tables e below (T295.setTop (mkF m 73 #[.val (.ref a1), .val (.ref a2), .val (.ref a3), .val (.int p4), .val (.int (0 : Int32))] [(.long (((own_zero fk o nw) (o + wn 0)) ||| ((((val 0).toInt64) - ((lo 0).toInt64)) <<< ((sh 0) &&& 0x3f).toInt64))), (.int (p4 + (wd 0))), (.ref a3)])) t → Steps p.tables e below (s₁.setTop (mkF m 0 #[.val (.ref a1), .val (.ref a2), .val (.ref a3), .val (.int p4), .unset] [])) t := by
      intro t kt
      refine R296 _ ?_
      show Steps p.tables e below (T295.setTop (mkF m 70 #[.val (.ref a1), .val (.ref a2), .val (.ref a3), .val (.int p4), .val (.int (0 : Int32))] [(.int (0 : Int32)), (.ref b3), (.long (((val 0).toInt64) - ((lo 0).toInt64))), (.long ((own_zero fk o nw) (o + wn 0))), (.int (p4 + (wd 0))), (.ref a3)])) _
      refine X295.iaload hx (j := (0 : Int32)) (v := (.int (sh 0))) (by rw [e295]; exact Ar297.1) (State.isArrayOf_alike hZ.alike Ar297.2.1) Ar297.2.2 hin297 hat297 (g := (mkF m 70 #[.val (.ref a1), .val (.ref a2), .val (.ref a3), .val (.int p4), .val (.int (0 : Int32))] [(.int (0 : Int32)), (.ref b3), (.long (((val 0).toInt64) - ((lo 0).toInt64))), (.long ((own_zero fk o nw) (o + wn 0))), (.int (p4 + (wd 0))), (.ref a3)])) rfl rfl (hb hby d8_70) _ ?_
      show Steps p.tables e below (T295.setTop (mkF m 71 #[.val (.ref a1), .val (.ref a2), .val (.ref a3), .val (.int p4), .val (.int (0 : Int32))] [(.int (sh 0)), (.long (((val 0).toInt64) - ((lo 0).toInt64))), (.long ((own_zero fk o nw) (o + wn 0))), (.int (p4 + (wd 0))), (.ref a3)])) _
      refine XS.lshl X295.here hx rfl (hb hby d8_71) rfl ?_
      show Steps p.tables e below (T295.setTop (mkF m 72 #[.val (.ref a1), .val (.ref a2), .val (.ref a3), .val (.int p4), .val (.int (0 : Int32))] [(.long ((((val 0).toInt64) - ((lo 0).toInt64)) <<< ((sh 0) &&& 0x3f).toInt64)), (.long ((own_zero fk o nw) (o + wn 0))), (.int (p4 + (wd 0))), (.ref a3)])) _
      refine XS.lor X295.here hx rfl (hb hby d8_72) rfl ?_
      exact kt
    clear R296
    obtain ⟨cl299, Ar299, hin299, -⟩ := VK0_2.at (j := (p4 + (wd 0))) (k := (o + wn 0)) r2_0.1 r2_0.2 (Nat.lt_of_lt_of_le (Nat.add_lt_add_left d0 o) hnn)
    obtain ⟨T300, h300, X300, e300, W300, st300⟩ := stJ X295 hx hZ e295 Ar299 (j := (p4 + (wd 0))) hin299 (g := (mkF m 73 #[.val (.ref a1), .val (.ref a2), .val (.ref a3), .val (.int p4), .val (.int (0 : Int32))] [(.long (((own_zero fk o nw) (o + wn 0)) ||| ((((val 0).toInt64) - ((lo 0).toInt64)) <<< ((sh 0) &&& 0x3f).toInt64))), (.int (p4 + (wd 0))), (.ref a3)])) rfl rfl (hb hby d8_73)
    have N300 := Fr.snoc X300 N275 ga
    rw [show ((p4 + (wd 0)) : Int32).toNatClampNeg = (o + wn 0) from r2_0.2] at W300
    have VK_300 : AV Z h300 a3 .long NN (fun j => .long ((own_or (own_zero fk o nw) (o + wn 0) (own_shl (own_dd lo val 0) (sh 0))) j)) := VK0_2.setJ W300
    have Fl_300 := Fl_275.other W300 (Or.inl m1)
    have Fw_300 := Fw_275.other W300 (Or.inl m1)
    have Fs_300 := Fs_275.other W300 (Or.inl m1)
    have Fc_300 := Fc_275.other W300 (Or.inl m1)
    have VL_300 := VL_275.other W300 m3
    have VW_300 := VW_275.other W300 m4
    have VS_300 := VS_275.other W300 m5
    have VV_300 := VV_275.other W300 m2
    clear Fl_275 Fw_275 Fs_275 Fc_275 VL_275 VW_275 VS_275 VV_275
    have Zs300 : n0 ≤ h300.size := Nat.le_trans Zs275 (Keep.of_wr W300).1
    have Kw300 : Keep h0 h300 [a3] := Keep.wr Kw275 W300 (Or.inl (List.mem_of_getElem? (i := 0) rfl))
    have R301 : ∀ t, Steps p.tables e below (T300.setTop (mkF m 31 #[.val (.ref a1), .val (.ref a2), .val (.ref a3), .val (.int p4), .val (.int ((0 : Int32) + (1 : Int32)))] [(.ref a1), (.int ((0 : Int32) + (1 : Int32)))])) t → Steps p.tables e below (s₁.setTop (mkF m 0 #[.val (.ref a1), .val (.ref a2), .val (.ref a3), .val (.int p4), .unset] [])) t := by
      intro t kt
      refine R298 _ ?_
      refine st300 _ ?_
      show Steps p.tables e below (T300.setTop (mkF m 74 #[.val (.ref a1), .val (.ref a2), .val (.ref a3), .val (.int p4), .val (.int (0 : Int32))] [])) _
      refine XS.iinc X300.here hx rfl (hb hby d8_74) rfl (l' := #[.val (.ref a1), .val (.ref a2), .val (.ref a3), .val (.int p4), .val (.int ((0 : Int32) + (1 : Int32)))]) rfl ?_
      show Steps p.tables e below (T300.setTop (mkF m 77 #[.val (.ref a1), .val (.ref a2), .val (.ref a3), .val (.int p4), .val (.int ((0 : Int32) + (1 : Int32)))] [])) _
      refine XS.goto X300.here hx rfl (pc0 := 77) (pc' := 28) rfl (hb hby d8_77) (by decide) (by decide) ?_
      show Steps p.tables e below (T300.setTop (mkF m 28 #[.val (.ref a1), .val (.ref a2), .val (.ref a3), .val (.int p4), .val (.int ((0 : Int32) + (1 : Int32)))] [])) _
      refine XS.iload X300.here hx rfl (hb hby d8_28) rfl ?_
      show Steps p.tables e below (T300.setTop (mkF m 30 #[.val (.ref a1), .val (.ref a2), .val (.ref a3), .val (.int p4), .val (.int ((0 : Int32) + (1 : Int32)))] [(.int ((0 : Int32) + (1 : Int32)))])) _
      refine XS.aloadN X300.here hx rfl (hb hby d8_30) rfl rfl ?_
      exact kt
    clear R298 st300
    obtain ⟨T302, X302, e302, st302⟩ := getF X300 hx hZ hown (host := "") (Or.inl (hw _ (List.mem_of_getElem? (i := 31) rfl))) Via.refl e300 Fl_300 (g := (mkF m 31 #[.val (.ref a1), .val (.ref a2), .val (.ref a3), .val (.int p4), .val (.int ((0 : Int32) + (1 : Int32)))] [(.ref a1), (.int ((0 : Int32) + (1 : Int32)))])) rfl rfl (hb hby d8_31)
    have R303 : ∀ t, Steps p.tables e below (T302.setTop (mkF m 34 #[.val (.ref a1), .val (.ref a2), .val (.ref a3), .val (.int p4), .val (.int ((0 : Int32) + (1 : Int32)))] [(.ref b1), (.int ((0 : Int32) + (1 : Int32)))])) t → Steps p.tables e below (s₁.setTop (mkF m 0 #[.val (.ref a1), .val (.ref a2), .val (.ref a3), .val (.int p4), .unset] [])) t := by
      intro t kt
      refine R301 _ ?_
      refine st302 _ ?_
      exact kt
    clear R301 st302
    obtain ⟨cl304, Ar304, ln304⟩ := VL_300.len
    have R305 : ∀ t, Steps p.tables e below (T302.setTop (mkF m 41 #[.val (.ref a1), .val (.ref a2), .val (.ref a3), .val (.int p4), .val (.int ((0 : Int32) + (1 : Int32)))] [(.ref a1), (.int p4), (.ref a3)])) t → Steps p.tables e below (s₁.setTop (mkF m 0 #[.val (.ref a1), .val (.ref a2), .val (.ref a3), .val (.int p4), .unset] [])) t := by
      intro t kt
      refine R303 _ ?_
      show Steps p.tables e below (T302.setTop (mkF m 34 #[.val (.ref a1), .val (.ref a2), .val (.ref a3), .val (.int p4), .val (.int ((0 : Int32) + (1 : Int32)))] [(.ref b1), (.int ((0 : Int32) + (1 : Int32)))])) _
      refine X302.arraylength hx (by rw [e302]; exact Ar304.1) (State.isArrayOf_alike hZ.alike Ar304.2.1) (g := (mkF m 34 #[.val (.ref a1), .val (.ref a2), .val (.ref a3), .val (.int p4), .val (.int ((0 : Int32) + (1 : Int32)))] [(.ref b1), (.int ((0 : Int32) + (1 : Int32)))])) rfl rfl (hb hby d8_34) _ ?_
      rw [ln304]
      show Steps p.tables e below (T302.setTop (mkF m 35 #[.val (.ref a1), .val (.ref a2), .val (.ref a3), .val (.int p4), .val (.int ((0 : Int32) + (1 : Int32)))] [(.int (3 : Int32)), (.int ((0 : Int32) + (1 : Int32)))])) _
      refine XS.icmpNo X302.here hx rfl (hb hby d8_35) rfl (tlt (by decide : ((0 : Int32) + (1 : Int32)) < (3 : Int32))).2.1 ?_
      show Steps p.tables e below (T302.setTop (mkF m 38 #[.val (.ref a1), .val (.ref a2), .val (.ref a3), .val (.int p4), .val (.int ((0 : Int32) + (1 : Int32)))] [])) _
      refine XS.aloadN X302.here hx rfl (hb hby d8_38) rfl rfl ?_
      show Steps p.tables e below (T302.setTop (mkF m 39 #[.val (.ref a1), .val (.ref a2), .val (.ref a3), .val (.int p4), .val (.int ((0 : Int32) + (1 : Int32)))] [(.ref a3)])) _
      refine XS.iloadN X302.here hx rfl (hb hby d8_39) rfl ?_
      show Steps p.tables e below (T302.setTop (mkF m 40 #[.val (.ref a1), .val (.ref a2), .val (.ref a3), .val (.int p4), .val (.int ((0 : Int32) + (1 : Int32)))] [(.int p4), (.ref a3)])) _
      refine XS.aloadN X302.here hx rfl (hb hby d8_40) rfl rfl ?_
      exact kt
    clear R303
    obtain ⟨T306, X306, e306, st306⟩ := getF X302 hx hZ hown (host := "") (Or.inl (hw _ (List.mem_of_getElem? (i := 33) rfl))) Via.refl e302 Fw_300 (g := (mkF m 41 #[.val (.ref a1), .val (.ref a2), .val (.ref a3), .val (.int p4), .val (.int ((0 : Int32) + (1 : Int32)))] [(.ref a1), (.int p4), (.ref a3)])) rfl rfl (hb hby d8_41)
    have R307 : ∀ t, Steps p.tables e below (T306.setTop (mkF m 46 #[.val (.ref a1), .val (.ref a2), .val (.ref a3), .val (.int p4), .val (.int ((0 : Int32) + (1 : Int32)))] [(.int ((0 : Int32) + (1 : Int32))), (.ref b2), (.int p4), (.ref a3)])) t → Steps p.tables e below (s₁.setTop (mkF m 0 #[.val (.ref a1), .val (.ref a2), .val (.ref a3), .val (.int p4), .unset] [])) t := by
      intro t kt
      refine R305 _ ?_
      refine st306 _ ?_
      show Steps p.tables e below (T306.setTop (mkF m 44 #[.val (.ref a1), .val (.ref a2), .val (.ref a3), .val (.int p4), .val (.int ((0 : Int32) + (1 : Int32)))] [(.ref b2), (.int p4), (.ref a3)])) _
      refine XS.iload X306.here hx rfl (hb hby d8_44) rfl ?_
      exact kt
    clear R305 st306
    obtain ⟨cl308, Ar308, hin308, hat308⟩ := VW_300.at (j := ((0 : Int32) + (1 : Int32))) (k := 1) (by decide) rfl (by decide)
    have R309 : ∀ t, Steps p.tables e below (T306.setTop (mkF m 49 #[.val (.ref a1), .val (.ref a2), .val (.ref a3), .val (.int p4), .val (.int ((0 : Int32) + (1 : Int32)))] [(.int (p4 + (wd 1))), (.ref a3), (.int (p4 + (wd 1))), (.ref a3)])) t → Steps p.tables e below (s₁.setTop (mkF m 0 #[.val (.ref a1), .val (.ref a2), .val (.ref a3), .val (.int p4), .unset] [])) t := by
      intro t kt
      refine R307 _ ?_
      show Steps p.tables e below (T306.setTop (mkF m 46 #[.val (.ref a1), .val (.ref a2), .val (.ref a3), .val (.int p4), .val (.int ((0 : Int32) + (1 : Int32)))] [(.int ((0 : Int32) + (1 : Int32))), (.ref b2), (.int p4), (.ref a3)])) _
      refine X306.iaload hx (j := ((0 : Int32) + (1 : Int32))) (v := (.int (wd 1))) (by rw [e306]; exact Ar308.1) (State.isArrayOf_alike hZ.alike Ar308.2.1) Ar308.2.2 hin308 hat308 (g := (mkF m 46 #[.val (.ref a1), .val (.ref a2), .val (.ref a3), .val (.int p4), .val (.int ((0 : Int32) + (1 : Int32)))] [(.int ((0 : Int32) + (1 : Int32))), (.ref b2), (.int p4), (.ref a3)])) rfl rfl (hb hby d8_46) _ ?_
      show Steps p.tables e below (T306.setTop (mkF m 47 #[.val (.ref a1), .val (.ref a2), .val (.ref a3), .val (.int p4), .val (.int ((0 : Int32) + (1 : Int32)))] [(.int (wd 1)), (.int p4), (.ref a3)])) _
      refine XS.iadd X306.here hx rfl (hb hby d8_47) rfl ?_
      show Steps p.tables e below (T306.setTop (mkF m 48 #[.val (.ref a1), .val (.ref a2), .val (.ref a3), .val (.int p4), .val (.int ((0 : Int32) + (1 : Int32)))] [(.int (p4 + (wd 1))), (.ref a3)])) _
      jvm_step X306.here [X306.here.top, hx, (hb hby d8_48), Value.category]
      exact kt
    clear R307
    have r2_1 := own_ix p4 (wd 1) o (wn 1) NN ho c1 (Nat.lt_of_lt_of_le (Nat.add_lt_add_left d1 o) hnn) h8
    obtain ⟨cl310, Ar310, hin310, hat310⟩ := VK_300.at (j := (p4 + (wd 1))) (k := (o + wn 1)) r2_1.1 r2_1.2 (Nat.lt_of_lt_of_le (Nat.add_lt_add_left d1 o) hnn)
    have R311 : ∀ t, Steps p.tables e below (T306.setTop (mkF m 53 #[.val (.ref a1), .val (.ref a2), .val (.ref a3), .val (.int p4), .val (.int ((0 : Int32) + (1 : Int32)))] [(.int ((0 : Int32) + (1 : Int32))), (.ref a2), (.long ((own_or (own_zero fk o nw) (o + wn 0) (own_shl (own_dd lo val 0) (sh 0))) (o + wn 1))), (.int (p4 + (wd 1))), (.ref a3)])) t → Steps p.tables e below (s₁.setTop (mkF m 0 #[.val (.ref a1), .val (.ref a2), .val (.ref a3), .val (.int p4), .unset] [])) t := by
      intro t kt
      refine R309 _ ?_
      show Steps p.tables e below (T306.setTop (mkF m 49 #[.val (.ref a1), .val (.ref a2), .val (.ref a3), .val (.int p4), .val (.int ((0 : Int32) + (1 : Int32)))] [(.int (p4 + (wd 1))), (.ref a3), (.int (p4 + (wd 1))), (.ref a3)])) _
      refine X306.laload hx (j := (p4 + (wd 1))) (v := (.long ((own_or (own_zero fk o nw) (o + wn 0) (own_shl (own_dd lo val 0) (sh 0))) (o + wn 1)))) (by rw [e306]; exact Ar310.1) (State.isArrayOf_alike hZ.alike Ar310.2.1) Ar310.2.2 hin310 hat310 (g := (mkF m 49 #[.val (.ref a1), .val (.ref a2), .val (.ref a3), .val (.int p4), .val (.int ((0 : Int32) + (1 : Int32)))] [(.int (p4 + (wd 1))), (.ref a3), (.int (p4 + (wd 1))), (.ref a3)])) rfl rfl (hb hby d8_49) _ ?_
      show Steps p.tables e below (T306.setTop (mkF m 50 #[.val (.ref a1), .val (.ref a2), .val (.ref a3), .val (.int p4), .val (.int ((0 : Int32) + (1 : Int32)))] [(.long ((own_or (own_zero fk o nw) (o + wn 0) (own_shl (own_dd lo val 0) (sh 0))) (o + wn 1))), (.int (p4 + (wd 1))), (.ref a3)])) _
      refine XS.aloadN X306.here hx rfl (hb hby d8_50) rfl rfl ?_
      show Steps p.tables e below (T306.setTop (mkF m 51 #[.val (.ref a1), .val (.ref a2), .val (.ref a3), .val (.int p4), .val (.int ((0 : Int32) + (1 : Int32)))] [(.ref a2), (.long ((own_or (own_zero fk o nw) (o + wn 0) (own_shl (own_dd lo val 0) (sh 0))) (o + wn 1))), (.int (p4 + (wd 1))), (.ref a3)])) _
      refine XS.iload X306.here hx rfl (hb hby d8_51) rfl ?_
      exact kt
    clear R309
    obtain ⟨cl312, Ar312, hin312, hat312⟩ := VV_300.at (j := ((0 : Int32) + (1 : Int32))) (k := 1) (by decide) rfl (by decide)
    have R313 : ∀ t, Steps p.tables e below (T306.setTop (mkF m 56 #[.val (.ref a1), .val (.ref a2), .val (.ref a3), .val (.int p4), .val (.int ((0 : Int32) + (1 : Int32)))] [(.ref a1), (.long ((val 1).toInt64)), (.long ((own_or (own_zero fk o nw) (o + wn 0) (own_shl (own_dd lo val 0) (sh 0))) (o + wn 1))), (.int (p4 + (wd 1))), (.ref a3)])) t → Steps p.tables e below (s₁.setTop (mkF m 0 #[.val (.ref a1), .val (.ref a2), .val (.ref a3), .val (.int p4), .unset] [])) t := by
      intro t kt
      refine R311 _ ?_
      show Steps p.tables e below (T306.setTop (mkF m 53 #[.val (.ref a1), .val (.ref a2), .val (.ref a3), .val (.int p4), .val (.int ((0 : Int32) + (1 : Int32)))] [(.int ((0 : Int32) + (1 : Int32))), (.ref a2), (.long ((own_or (own_zero fk o nw) (o + wn 0) (own_shl (own_dd lo val 0) (sh 0))) (o + wn 1))), (.int (p4 + (wd 1))), (.ref a3)])) _
      refine X306.iaload hx (j := ((0 : Int32) + (1 : Int32))) (v := (.int (val 1))) (by rw [e306]; exact Ar312.1) (State.isArrayOf_alike hZ.alike Ar312.2.1) Ar312.2.2 hin312 hat312 (g := (mkF m 53 #[.val (.ref a1), .val (.ref a2), .val (.ref a3), .val (.int p4), .val (.int ((0 : Int32) + (1 : Int32)))] [(.int ((0 : Int32) + (1 : Int32))), (.ref a2), (.long ((own_or (own_zero fk o nw) (o + wn 0) (own_shl (own_dd lo val 0) (sh 0))) (o + wn 1))), (.int (p4 + (wd 1))), (.ref a3)])) rfl rfl (hb hby d8_53) _ ?_
      show Steps p.tables e below (T306.setTop (mkF m 54 #[.val (.ref a1), .val (.ref a2), .val (.ref a3), .val (.int p4), .val (.int ((0 : Int32) + (1 : Int32)))] [(.int (val 1)), (.long ((own_or (own_zero fk o nw) (o + wn 0) (own_shl (own_dd lo val 0) (sh 0))) (o + wn 1))), (.int (p4 + (wd 1))), (.ref a3)])) _
      refine XS.i2l X306.here hx rfl (hb hby d8_54) rfl ?_
      show Steps p.tables e below (T306.setTop (mkF m 55 #[.val (.ref a1), .val (.ref a2), .val (.ref a3), .val (.int p4), .val (.int ((0 : Int32) + (1 : Int32)))] [(.long ((val 1).toInt64)), (.long ((own_or (own_zero fk o nw) (o + wn 0) (own_shl (own_dd lo val 0) (sh 0))) (o + wn 1))), (.int (p4 + (wd 1))), (.ref a3)])) _
      refine XS.aloadN X306.here hx rfl (hb hby d8_55) rfl rfl ?_
      exact kt
    clear R311
    obtain ⟨T314, X314, e314, st314⟩ := getF X306 hx hZ hown (host := "") (Or.inl (hw _ (List.mem_of_getElem? (i := 31) rfl))) Via.refl e306 Fl_300 (g := (mkF m 56 #[.val (.ref a1), .val (.ref a2), .val (.ref a3), .val (.int p4), .val (.int ((0 : Int32) + (1 : Int32)))] [(.ref a1), (.long ((val 1).toInt64)), (.long ((own_or (own_zero fk o nw) (o + wn 0) (own_shl (own_dd lo val 0) (sh 0))) (o + wn 1))), (.int (p4 + (wd 1))), (.ref a3)])) rfl rfl (hb hby d8_56)
    have R315 : ∀ t, Steps p.tables e below (T314.setTop (mkF m 61 #[.val (.ref a1), .val (.ref a2), .val (.ref a3), .val (.int p4), .val (.int ((0 : Int32) + (1 : Int32)))] [(.int ((0 : Int32) + (1 : Int32))), (.ref b1), (.long ((val 1).toInt64)), (.long ((own_or (own_zero fk o nw) (o + wn 0) (own_shl (own_dd lo val 0) (sh 0))) (o + wn 1))), (.int (p4 + (wd 1))), (.ref a3)])) t → Steps p.tables e below (s₁.setTop (mkF m 0 #[.val (.ref a1), .val (.ref a2), .val (.ref a3), .val (.int p4), .unset] [])) t := by
      intro t kt
      refine R313 _ ?_
      refine st314 _ ?_
      show Steps p.tables e below (T314.setTop (mkF m 59 #[.val (.ref a1), .val (.ref a2), .val (.ref a3), .val (.int p4), .val (.int ((0 : Int32) + (1 : Int32)))] [(.ref b1), (.long ((val 1).toInt64)), (.long ((own_or (own_zero fk o nw) (o + wn 0) (own_shl (own_dd lo val 0) (sh 0))) (o + wn 1))), (.int (p4 + (wd 1))), (.ref a3)])) _
      refine XS.iload X314.here hx rfl (hb hby d8_59) rfl ?_
      exact kt
    clear R313 st314
    obtain ⟨cl316, Ar316, hin316, hat316⟩ := VL_300.at (j := ((0 : Int32) + (1 : Int32))) (k := 1) (by decide) rfl (by decide)
    have R317 : ∀ t, Steps p.tables e below (T314.setTop (mkF m 65 #[.val (.ref a1), .val (.ref a2), .val (.ref a3), .val (.int p4), .val (.int ((0 : Int32) + (1 : Int32)))] [(.ref a1), (.long (((val 1).toInt64) - ((lo 1).toInt64))), (.long ((own_or (own_zero fk o nw) (o + wn 0) (own_shl (own_dd lo val 0) (sh 0))) (o + wn 1))), (.int (p4 + (wd 1))), (.ref a3)])) t → Steps p.tables e below (s₁.setTop (mkF m 0 #[.val (.ref a1), .val (.ref a2), .val (.ref a3), .val (.int p4), .unset] [])) t := by
      intro t kt
      refine R315 _ ?_
      show Steps p.tables e below (T314.setTop (mkF m 61 #[.val (.ref a1), .val (.ref a2), .val (.ref a3), .val (.int p4), .val (.int ((0 : Int32) + (1 : Int32)))] [(.int ((0 : Int32) + (1 : Int32))), (.ref b1), (.long ((val 1).toInt64)), (.long ((own_or (own_zero fk o nw) (o + wn 0) (own_shl (own_dd lo val 0) (sh 0))) (o + wn 1))), (.int (p4 + (wd 1))), (.ref a3)])) _
      refine X314.iaload hx (j := ((0 : Int32) + (1 : Int32))) (v := (.int (lo 1))) (by rw [e314]; exact Ar316.1) (State.isArrayOf_alike hZ.alike Ar316.2.1) Ar316.2.2 hin316 hat316 (g := (mkF m 61 #[.val (.ref a1), .val (.ref a2), .val (.ref a3), .val (.int p4), .val (.int ((0 : Int32) + (1 : Int32)))] [(.int ((0 : Int32) + (1 : Int32))), (.ref b1), (.long ((val 1).toInt64)), (.long ((own_or (own_zero fk o nw) (o + wn 0) (own_shl (own_dd lo val 0) (sh 0))) (o + wn 1))), (.int (p4 + (wd 1))), (.ref a3)])) rfl rfl (hb hby d8_61) _ ?_
      show Steps p.tables e below (T314.setTop (mkF m 62 #[.val (.ref a1), .val (.ref a2), .val (.ref a3), .val (.int p4), .val (.int ((0 : Int32) + (1 : Int32)))] [(.int (lo 1)), (.long ((val 1).toInt64)), (.long ((own_or (own_zero fk o nw) (o + wn 0) (own_shl (own_dd lo val 0) (sh 0))) (o + wn 1))), (.int (p4 + (wd 1))), (.ref a3)])) _
      refine XS.i2l X314.here hx rfl (hb hby d8_62) rfl ?_
      show Steps p.tables e below (T314.setTop (mkF m 63 #[.val (.ref a1), .val (.ref a2), .val (.ref a3), .val (.int p4), .val (.int ((0 : Int32) + (1 : Int32)))] [(.long ((lo 1).toInt64)), (.long ((val 1).toInt64)), (.long ((own_or (own_zero fk o nw) (o + wn 0) (own_shl (own_dd lo val 0) (sh 0))) (o + wn 1))), (.int (p4 + (wd 1))), (.ref a3)])) _
      refine XS.lsub X314.here hx rfl (hb hby d8_63) rfl ?_
      show Steps p.tables e below (T314.setTop (mkF m 64 #[.val (.ref a1), .val (.ref a2), .val (.ref a3), .val (.int p4), .val (.int ((0 : Int32) + (1 : Int32)))] [(.long (((val 1).toInt64) - ((lo 1).toInt64))), (.long ((own_or (own_zero fk o nw) (o + wn 0) (own_shl (own_dd lo val 0) (sh 0))) (o + wn 1))), (.int (p4 + (wd 1))), (.ref a3)])) _
      refine XS.aloadN X314.here hx rfl (hb hby d8_64) rfl rfl ?_
      exact kt
    clear R315
    obtain ⟨T318, X318, e318, st318⟩ := getF X314 hx hZ hown (host := "") (Or.inl (hw _ (List.mem_of_getElem? (i := 35) rfl))) Via.refl e314 Fs_300 (g := (mkF m 65 #[.val (.ref a1), .val (.ref a2), .val (.ref a3), .val (.int p4), .val (.int ((0 : Int32) + (1 : Int32)))] [(.ref a1), (.long (((val 1).toInt64) - ((lo 1).toInt64))), (.long ((own_or (own_zero fk o nw) (o + wn 0) (own_shl (own_dd lo val 0) (sh 0))) (o + wn 1))), (.int (p4 + (wd 1))), (.ref a3)])) rfl rfl (hb hby d8_65)
    have R319 : ∀ t, Steps p.tables e below (T318.setTop (mkF m 70 #[.val (.ref a1), .val (.ref a2), .val (.ref a3), .val (.int p4), .val (.int ((0 : Int32) + (1 : Int32)))] [(.int ((0 : Int32) + (1 : Int32))), (.ref b3), (.long (((val 1).toInt64) - ((lo 1).toInt64))), (.long ((own_or (own_zero fk o nw) (o + wn 0) (own_shl (own_dd lo val 0) (sh 0))) (o + wn 1))), (.int (p4 + (wd 1))), (.ref a3)])) t → Steps p.tables e below (s₁.setTop (mkF m 0 #[.val (.ref a1), .val (.ref a2), .val (.ref a3), .val (.int p4), .unset] [])) t := by
      intro t kt
      refine R317 _ ?_
      refine st318 _ ?_
      show Steps p.tables e below (T318.setTop (mkF m 68 #[.val (.ref a1), .val (.ref a2), .val (.ref a3), .val (.int p4), .val (.int ((0 : Int32) + (1 : Int32)))] [(.ref b3), (.long (((val 1).toInt64) - ((lo 1).toInt64))), (.long ((own_or (own_zero fk o nw) (o + wn 0) (own_shl (own_dd lo val 0) (sh 0))) (o + wn 1))), (.int (p4 + (wd 1))), (.ref a3)])) _
      refine XS.iload X318.here hx rfl (hb hby d8_68) rfl ?_
      exact kt
    clear R317 st318
    obtain ⟨cl320, Ar320, hin320, hat320⟩ := VS_300.at (j := ((0 : Int32) + (1 : Int32))) (k := 1) (by decide) rfl (by decide)
    have R321 : ∀ t, Steps p.tables e below (T318.setTop (mkF m 73 #[.val (.ref a1), .val (.ref a2), .val (.ref a3), .val (.int p4), .val (.int ((0 : Int32) + (1 : Int32)))] [(.long (((own_or (own_zero fk o nw) (o + wn 0) (own_shl (own_dd lo val 0) (sh 0))) (o + wn 1)) ||| ((((val 1).toInt64) - ((lo 1).toInt64)) <<< ((sh 1) &&& 0x3f).toInt64))), (.int (p4 + (wd 1))), (.ref a3)])) t → Steps p.tables e below (s₁.setTop (mkF m 0 #[.val (.ref a1), .val (.ref a2), .val (.ref a3), .val (.int p4), .unset] [])) t := by
      intro t kt
      refine R319 _ ?_
      show Steps p.tables e below (T318.setTop (mkF m 70 #[.val (.ref a1), .val (.ref a2), .val (.ref a3), .val (.int p4), .val (.int ((0 : Int32) + (1 : Int32)))] [(.int ((0 : Int32) + (1 : Int32))), (.ref b3), (.long (((val 1).toInt64) - ((lo 1).toInt64))), (.long ((own_or (own_zero fk o nw) (o + wn 0) (own_shl (own_dd lo val 0) (sh 0))) (o + wn 1))), (.int (p4 + (wd 1))), (.ref a3)])) _
      refine X318.iaload hx (j := ((0 : Int32) + (1 : Int32))) (v := (.int (sh 1))) (by rw [e318]; exact Ar320.1) (State.isArrayOf_alike hZ.alike Ar320.2.1) Ar320.2.2 hin320 hat320 (g := (mkF m 70 #[.val (.ref a1), .val (.ref a2), .val (.ref a3), .val (.int p4), .val (.int ((0 : Int32) + (1 : Int32)))] [(.int ((0 : Int32) + (1 : Int32))), (.ref b3), (.long (((val 1).toInt64) - ((lo 1).toInt64))), (.long ((own_or (own_zero fk o nw) (o + wn 0) (own_shl (own_dd lo val 0) (sh 0))) (o + wn 1))), (.int (p4 + (wd 1))), (.ref a3)])) rfl rfl (hb hby d8_70) _ ?_
      show Steps p.tables e below (T318.setTop (mkF m 71 #[.val (.ref a1), .val (.ref a2), .val (.ref a3), .val (.int p4), .val (.int ((0 : Int32) + (1 : Int32)))] [(.int (sh 1)), (.long (((val 1).toInt64) - ((lo 1).toInt64))), (.long ((own_or (own_zero fk o nw) (o + wn 0) (own_shl (own_dd lo val 0) (sh 0))) (o + wn 1))), (.int (p4 + (wd 1))), (.ref a3)])) _
      refine XS.lshl X318.here hx rfl (hb hby d8_71) rfl ?_
      show Steps p.tables e below (T318.setTop (mkF m 72 #[.val (.ref a1), .val (.ref a2), .val (.ref a3), .val (.int p4), .val (.int ((0 : Int32) + (1 : Int32)))] [(.long ((((val 1).toInt64) - ((lo 1).toInt64)) <<< ((sh 1) &&& 0x3f).toInt64)), (.long ((own_or (own_zero fk o nw) (o + wn 0) (own_shl (own_dd lo val 0) (sh 0))) (o + wn 1))), (.int (p4 + (wd 1))), (.ref a3)])) _
      refine XS.lor X318.here hx rfl (hb hby d8_72) rfl ?_
      exact kt
    clear R319
    obtain ⟨cl322, Ar322, hin322, -⟩ := VK_300.at (j := (p4 + (wd 1))) (k := (o + wn 1)) r2_1.1 r2_1.2 (Nat.lt_of_lt_of_le (Nat.add_lt_add_left d1 o) hnn)
    obtain ⟨T323, h323, X323, e323, W323, st323⟩ := stJ X318 hx hZ e318 Ar322 (j := (p4 + (wd 1))) hin322 (g := (mkF m 73 #[.val (.ref a1), .val (.ref a2), .val (.ref a3), .val (.int p4), .val (.int ((0 : Int32) + (1 : Int32)))] [(.long (((own_or (own_zero fk o nw) (o + wn 0) (own_shl (own_dd lo val 0) (sh 0))) (o + wn 1)) ||| ((((val 1).toInt64) - ((lo 1).toInt64)) <<< ((sh 1) &&& 0x3f).toInt64))), (.int (p4 + (wd 1))), (.ref a3)])) rfl rfl (hb hby d8_73)
    have N323 := Fr.snoc X323 N300 ga
    rw [show ((p4 + (wd 1)) : Int32).toNatClampNeg = (o + wn 1) from r2_1.2] at W323
    have VK_323 : AV Z h323 a3 .long NN (fun j => .long ((own_or (own_or (own_zero fk o nw) (o + wn 0) (own_shl (own_dd lo val 0) (sh 0))) (o + wn 1) (own_shl (own_dd lo val 1) (sh 1))) j)) := VK_300.setJ W323
    have Fl_323 := Fl_300.other W323 (Or.inl m1)
    have Fw_323 := Fw_300.other W323 (Or.inl m1)
    have Fs_323 := Fs_300.other W323 (Or.inl m1)
    have Fc_323 := Fc_300.other W323 (Or.inl m1)
    have VL_323 := VL_300.other W323 m3
    have VW_323 := VW_300.other W323 m4
    have VS_323 := VS_300.other W323 m5
    have VV_323 := VV_300.other W323 m2
    clear Fl_300 Fw_300 Fs_300 Fc_300 VL_300 VW_300 VS_300 VV_300
    have Zs323 : n0 ≤ h323.size := Nat.le_trans Zs300 (Keep.of_wr W323).1
    have Kw323 : Keep h0 h323 [a3] := Keep.wr Kw300 W323 (Or.inl (List.mem_of_getElem? (i := 0) rfl))
    have R324 : ∀ t, Steps p.tables e below (T323.setTop (mkF m 31 #[.val (.ref a1), .val (.ref a2), .val (.ref a3), .val (.int p4), .val (.int (((0 : Int32) + (1 : Int32)) + (1 : Int32)))] [(.ref a1), (.int (((0 : Int32) + (1 : Int32)) + (1 : Int32)))])) t → Steps p.tables e below (s₁.setTop (mkF m 0 #[.val (.ref a1), .val (.ref a2), .val (.ref a3), .val (.int p4), .unset] [])) t := by
      intro t kt
      refine R321 _ ?_
      refine st323 _ ?_
      show Steps p.tables e below (T323.setTop (mkF m 74 #[.val (.ref a1), .val (.ref a2), .val (.ref a3), .val (.int p4), .val (.int ((0 : Int32) + (1 : Int32)))] [])) _
      refine XS.iinc X323.here hx rfl (hb hby d8_74) rfl (l' := #[.val (.ref a1), .val (.ref a2), .val (.ref a3), .val (.int p4), .val (.int (((0 : Int32) + (1 : Int32)) + (1 : Int32)))]) rfl ?_
      show Steps p.tables e below (T323.setTop (mkF m 77 #[.val (.ref a1), .val (.ref a2), .val (.ref a3), .val (.int p4), .val (.int (((0 : Int32) + (1 : Int32)) + (1 : Int32)))] [])) _
      refine XS.goto X323.here hx rfl (pc0 := 77) (pc' := 28) rfl (hb hby d8_77) (by decide) (by decide) ?_
      show Steps p.tables e below (T323.setTop (mkF m 28 #[.val (.ref a1), .val (.ref a2), .val (.ref a3), .val (.int p4), .val (.int (((0 : Int32) + (1 : Int32)) + (1 : Int32)))] [])) _
      refine XS.iload X323.here hx rfl (hb hby d8_28) rfl ?_
      show Steps p.tables e below (T323.setTop (mkF m 30 #[.val (.ref a1), .val (.ref a2), .val (.ref a3), .val (.int p4), .val (.int (((0 : Int32) + (1 : Int32)) + (1 : Int32)))] [(.int (((0 : Int32) + (1 : Int32)) + (1 : Int32)))])) _
      refine XS.aloadN X323.here hx rfl (hb hby d8_30) rfl rfl ?_
      exact kt
    clear R321 st323
    obtain ⟨T325, X325, e325, st325⟩ := getF X323 hx hZ hown (host := "") (Or.inl (hw _ (List.mem_of_getElem? (i := 31) rfl))) Via.refl e323 Fl_323 (g := (mkF m 31 #[.val (.ref a1), .val (.ref a2), .val (.ref a3), .val (.int p4), .val (.int (((0 : Int32) + (1 : Int32)) + (1 : Int32)))] [(.ref a1), (.int (((0 : Int32) + (1 : Int32)) + (1 : Int32)))])) rfl rfl (hb hby d8_31)
    have R326 : ∀ t, Steps p.tables e below (T325.setTop (mkF m 34 #[.val (.ref a1), .val (.ref a2), .val (.ref a3), .val (.int p4), .val (.int (((0 : Int32) + (1 : Int32)) + (1 : Int32)))] [(.ref b1), (.int (((0 : Int32) + (1 : Int32)) + (1 : Int32)))])) t → Steps p.tables e below (s₁.setTop (mkF m 0 #[.val (.ref a1), .val (.ref a2), .val (.ref a3), .val (.int p4), .unset] [])) t := by
      intro t kt
      refine R324 _ ?_
      refine st325 _ ?_
      exact kt
    clear R324 st325
    obtain ⟨cl327, Ar327, ln327⟩ := VL_323.len
    have R328 : ∀ t, Steps p.tables e below (T325.setTop (mkF m 41 #[.val (.ref a1), .val (.ref a2), .val (.ref a3), .val (.int p4), .val (.int (((0 : Int32) + (1 : Int32)) + (1 : Int32)))] [(.ref a1), (.int p4), (.ref a3)])) t → Steps p.tables e below (s₁.setTop (mkF m 0 #[.val (.ref a1), .val (.ref a2), .val (.ref a3), .val (.int p4), .unset] [])) t := by
      intro t kt
      refine R326 _ ?_
      show Steps p.tables e below (T325.setTop (mkF m 34 #[.val (.ref a1), .val (.ref a2), .val (.ref a3), .val (.int p4), .val (.int (((0 : Int32) + (1 : Int32)) + (1 : Int32)))] [(.ref b1), (.int (((0 : Int32) + (1 : Int32)) + (1 : Int32)))])) _
      refine X325.arraylength hx (by rw [e325]; exact Ar327.1) (State.isArrayOf_alike hZ.alike Ar327.2.1) (g := (mkF m 34 #[.val (.ref a1), .val (.ref a2), .val (.ref a3), .val (.int p4), .val (.int (((0 : Int32) + (1 : Int32)) + (1 : Int32)))] [(.ref b1), (.int (((0 : Int32) + (1 : Int32)) + (1 : Int32)))])) rfl rfl (hb hby d8_34) _ ?_
      rw [ln327]
      show Steps p.tables e below (T325.setTop (mkF m 35 #[.val (.ref a1), .val (.ref a2), .val (.ref a3), .val (.int p4), .val (.int (((0 : Int32) + (1 : Int32)) + (1 : Int32)))] [(.int (3 : Int32)), (.int (((0 : Int32) + (1 : Int32)) + (1 : Int32)))])) _
      refine XS.icmpNo X325.here hx rfl (hb hby d8_35) rfl (tlt (by decide : (((0 : Int32) + (1 : Int32)) + (1 : Int32)) < (3 : Int32))).2.1 ?_
      show Steps p.tables e below (T325.setTop (mkF m 38 #[.val (.ref a1), .val (.ref a2), .val (.ref a3), .val (.int p4), .val (.int (((0 : Int32) + (1 : Int32)) + (1 : Int32)))] [])) _
      refine XS.aloadN X325.here hx rfl (hb hby d8_38) rfl rfl ?_
      show Steps p.tables e below (T325.setTop (mkF m 39 #[.val (.ref a1), .val (.ref a2), .val (.ref a3), .val (.int p4), .val (.int (((0 : Int32) + (1 : Int32)) + (1 : Int32)))] [(.ref a3)])) _
      refine XS.iloadN X325.here hx rfl (hb hby d8_39) rfl ?_
      show Steps p.tables e below (T325.setTop (mkF m 40 #[.val (.ref a1), .val (.ref a2), .val (.ref a3), .val (.int p4), .val (.int (((0 : Int32) + (1 : Int32)) + (1 : Int32)))] [(.int p4), (.ref a3)])) _
      refine XS.aloadN X325.here hx rfl (hb hby d8_40) rfl rfl ?_
      exact kt
    clear R326
    obtain ⟨T329, X329, e329, st329⟩ := getF X325 hx hZ hown (host := "") (Or.inl (hw _ (List.mem_of_getElem? (i := 33) rfl))) Via.refl e325 Fw_323 (g := (mkF m 41 #[.val (.ref a1), .val (.ref a2), .val (.ref a3), .val (.int p4), .val (.int (((0 : Int32) + (1 : Int32)) + (1 : Int32)))] [(.ref a1), (.int p4), (.ref a3)])) rfl rfl (hb hby d8_41)
    have R330 : ∀ t, Steps p.tables e below (T329.setTop (mkF m 46 #[.val (.ref a1), .val (.ref a2), .val (.ref a3), .val (.int p4), .val (.int (((0 : Int32) + (1 : Int32)) + (1 : Int32)))] [(.int (((0 : Int32) + (1 : Int32)) + (1 : Int32))), (.ref b2), (.int p4), (.ref a3)])) t → Steps p.tables e below (s₁.setTop (mkF m 0 #[.val (.ref a1), .val (.ref a2), .val (.ref a3), .val (.int p4), .unset] [])) t := by
      intro t kt
      refine R328 _ ?_
      refine st329 _ ?_
      show Steps p.tables e below (T329.setTop (mkF m 44 #[.val (.ref a1), .val (.ref a2), .val (.ref a3), .val (.int p4), .val (.int (((0 : Int32) + (1 : Int32)) + (1 : Int32)))] [(.ref b2), (.int p4), (.ref a3)])) _
      refine XS.iload X329.here hx rfl (hb hby d8_44) rfl ?_
      exact kt
    clear R328 st329
    obtain ⟨cl331, Ar331, hin331, hat331⟩ := VW_323.at (j := (((0 : Int32) + (1 : Int32)) + (1 : Int32))) (k := 2) (by decide) rfl (by decide)
    have R332 : ∀ t, Steps p.tables e below (T329.setTop (mkF m 49 #[.val (.ref a1), .val (.ref a2), .val (.ref a3), .val (.int p4), .val (.int (((0 : Int32) + (1 : Int32)) + (1 : Int32)))] [(.int (p4 + (wd 2))), (.ref a3), (.int (p4 + (wd 2))), (.ref a3)])) t → Steps p.tables e below (s₁.setTop (mkF m 0 #[.val (.ref a1), .val (.ref a2), .val (.ref a3), .val (.int p4), .unset] [])) t := by
      intro t kt
      refine R330 _ ?_
      show Steps p.tables e below (T329.setTop (mkF m 46 #[.val (.ref a1), .val (.ref a2), .val (.ref a3), .val (.int p4), .val (.int (((0 : Int32) + (1 : Int32)) + (1 : Int32)))] [(.int (((0 : Int32) + (1 : Int32)) + (1 : Int32))), (.ref b2), (.int p4), (.ref a3)])) _
      refine X329.iaload hx (j := (((0 : Int32) + (1 : Int32)) + (1 : Int32))) (v := (.int (wd 2))) (by rw [e329]; exact Ar331.1) (State.isArrayOf_alike hZ.alike Ar331.2.1) Ar331.2.2 hin331 hat331 (g := (mkF m 46 #[.val (.ref a1), .val (.ref a2), .val (.ref a3), .val (.int p4), .val (.int (((0 : Int32) + (1 : Int32)) + (1 : Int32)))] [(.int (((0 : Int32) + (1 : Int32)) + (1 : Int32))), (.ref b2), (.int p4), (.ref a3)])) rfl rfl (hb hby d8_46) _ ?_
      show Steps p.tables e below (T329.setTop (mkF m 47 #[.val (.ref a1), .val (.ref a2), .val (.ref a3), .val (.int p4), .val (.int (((0 : Int32) + (1 : Int32)) + (1 : Int32)))] [(.int (wd 2)), (.int p4), (.ref a3)])) _
      refine XS.iadd X329.here hx rfl (hb hby d8_47) rfl ?_
      show Steps p.tables e below (T329.setTop (mkF m 48 #[.val (.ref a1), .val (.ref a2), .val (.ref a3), .val (.int p4), .val (.int (((0 : Int32) + (1 : Int32)) + (1 : Int32)))] [(.int (p4 + (wd 2))), (.ref a3)])) _
      jvm_step X329.here [X329.here.top, hx, (hb hby d8_48), Value.category]
      exact kt
    clear R330
    have r2_2 := own_ix p4 (wd 2) o (wn 2) NN ho c2 (Nat.lt_of_lt_of_le (Nat.add_lt_add_left d2 o) hnn) h8
    obtain ⟨cl333, Ar333, hin333, hat333⟩ := VK_323.at (j := (p4 + (wd 2))) (k := (o + wn 2)) r2_2.1 r2_2.2 (Nat.lt_of_lt_of_le (Nat.add_lt_add_left d2 o) hnn)
    have R334 : ∀ t, Steps p.tables e below (T329.setTop (mkF m 53 #[.val (.ref a1), .val (.ref a2), .val (.ref a3), .val (.int p4), .val (.int (((0 : Int32) + (1 : Int32)) + (1 : Int32)))] [(.int (((0 : Int32) + (1 : Int32)) + (1 : Int32))), (.ref a2), (.long ((own_or (own_or (own_zero fk o nw) (o + wn 0) (own_shl (own_dd lo val 0) (sh 0))) (o + wn 1) (own_shl (own_dd lo val 1) (sh 1))) (o + wn 2))), (.int (p4 + (wd 2))), (.ref a3)])) t → Steps p.tables e below (s₁.setTop (mkF m 0 #[.val (.ref a1), .val (.ref a2), .val (.ref a3), .val (.int p4), .unset] [])) t := by
      intro t kt
      refine R332 _ ?_
      show Steps p.tables e below (T329.setTop (mkF m 49 #[.val (.ref a1), .val (.ref a2), .val (.ref a3), .val (.int p4), .val (.int (((0 : Int32) + (1 : Int32)) + (1 : Int32)))] [(.int (p4 + (wd 2))), (.ref a3), (.int (p4 + (wd 2))), (.ref a3)])) _
      refine X329.laload hx (j := (p4 + (wd 2))) (v := (.long ((own_or (own_or (own_zero fk o nw) (o + wn 0) (own_shl (own_dd lo val 0) (sh 0))) (o + wn 1) (own_shl (own_dd lo val 1) (sh 1))) (o + wn 2)))) (by rw [e329]; exact Ar333.1) (State.isArrayOf_alike hZ.alike Ar333.2.1) Ar333.2.2 hin333 hat333 (g := (mkF m 49 #[.val (.ref a1), .val (.ref a2), .val (.ref a3), .val (.int p4), .val (.int (((0 : Int32) + (1 : Int32)) + (1 : Int32)))] [(.int (p4 + (wd 2))), (.ref a3), (.int (p4 + (wd 2))), (.ref a3)])) rfl rfl (hb hby d8_49) _ ?_
      show Steps p.tables e below (T329.setTop (mkF m 50 #[.val (.ref a1), .val (.ref a2), .val (.ref a3), .val (.int p4), .val (.int (((0 : Int32) + (1 : Int32)) + (1 : Int32)))] [(.long ((own_or (own_or (own_zero fk o nw) (o + wn 0) (own_shl (own_dd lo val 0) (sh 0))) (o + wn 1) (own_shl (own_dd lo val 1) (sh 1))) (o + wn 2))), (.int (p4 + (wd 2))), (.ref a3)])) _
      refine XS.aloadN X329.here hx rfl (hb hby d8_50) rfl rfl ?_
      show Steps p.tables e below (T329.setTop (mkF m 51 #[.val (.ref a1), .val (.ref a2), .val (.ref a3), .val (.int p4), .val (.int (((0 : Int32) + (1 : Int32)) + (1 : Int32)))] [(.ref a2), (.long ((own_or (own_or (own_zero fk o nw) (o + wn 0) (own_shl (own_dd lo val 0) (sh 0))) (o + wn 1) (own_shl (own_dd lo val 1) (sh 1))) (o + wn 2))), (.int (p4 + (wd 2))), (.ref a3)])) _
      refine XS.iload X329.here hx rfl (hb hby d8_51) rfl ?_
      exact kt
    clear R332
    obtain ⟨cl335, Ar335, hin335, hat335⟩ := VV_323.at (j := (((0 : Int32) + (1 : Int32)) + (1 : Int32))) (k := 2) (by decide) rfl (by decide)
    have R336 : ∀ t, Steps p.tables e below (T329.setTop (mkF m 56 #[.val (.ref a1), .val (.ref a2), .val (.ref a3), .val (.int p4), .val (.int (((0 : Int32) + (1 : Int32)) + (1 : Int32)))] [(.ref a1), (.long ((val 2).toInt64)), (.long ((own_or (own_or (own_zero fk o nw) (o + wn 0) (own_shl (own_dd lo val 0) (sh 0))) (o + wn 1) (own_shl (own_dd lo val 1) (sh 1))) (o + wn 2))), (.int (p4 + (wd 2))), (.ref a3)])) t → Steps p.tables e below (s₁.setTop (mkF m 0 #[.val (.ref a1), .val (.ref a2), .val (.ref a3), .val (.int p4), .unset] [])) t := by
      intro t kt
      refine R334 _ ?_
      show Steps p.tables e below (T329.setTop (mkF m 53 #[.val (.ref a1), .val (.ref a2), .val (.ref a3), .val (.int p4), .val (.int (((0 : Int32) + (1 : Int32)) + (1 : Int32)))] [(.int (((0 : Int32) + (1 : Int32)) + (1 : Int32))), (.ref a2), (.long ((own_or (own_or (own_zero fk o nw) (o + wn 0) (own_shl (own_dd lo val 0) (sh 0))) (o + wn 1) (own_shl (own_dd lo val 1) (sh 1))) (o + wn 2))), (.int (p4 + (wd 2))), (.ref a3)])) _
      refine X329.iaload hx (j := (((0 : Int32) + (1 : Int32)) + (1 : Int32))) (v := (.int (val 2))) (by rw [e329]; exact Ar335.1) (State.isArrayOf_alike hZ.alike Ar335.2.1) Ar335.2.2 hin335 hat335 (g := (mkF m 53 #[.val (.ref a1), .val (.ref a2), .val (.ref a3), .val (.int p4), .val (.int (((0 : Int32) + (1 : Int32)) + (1 : Int32)))] [(.int (((0 : Int32) + (1 : Int32)) + (1 : Int32))), (.ref a2), (.long ((own_or (own_or (own_zero fk o nw) (o + wn 0) (own_shl (own_dd lo val 0) (sh 0))) (o + wn 1) (own_shl (own_dd lo val 1) (sh 1))) (o + wn 2))), (.int (p4 + (wd 2))), (.ref a3)])) rfl rfl (hb hby d8_53) _ ?_
      show Steps p.tables e below (T329.setTop (mkF m 54 #[.val (.ref a1), .val (.ref a2), .val (.ref a3), .val (.int p4), .val (.int (((0 : Int32) + (1 : Int32)) + (1 : Int32)))] [(.int (val 2)), (.long ((own_or (own_or (own_zero fk o nw) (o + wn 0) (own_shl (own_dd lo val 0) (sh 0))) (o + wn 1) (own_shl (own_dd lo val 1) (sh 1))) (o + wn 2))), (.int (p4 + (wd 2))), (.ref a3)])) _
      refine XS.i2l X329.here hx rfl (hb hby d8_54) rfl ?_
      show Steps p.tables e below (T329.setTop (mkF m 55 #[.val (.ref a1), .val (.ref a2), .val (.ref a3), .val (.int p4), .val (.int (((0 : Int32) + (1 : Int32)) + (1 : Int32)))] [(.long ((val 2).toInt64)), (.long ((own_or (own_or (own_zero fk o nw) (o + wn 0) (own_shl (own_dd lo val 0) (sh 0))) (o + wn 1) (own_shl (own_dd lo val 1) (sh 1))) (o + wn 2))), (.int (p4 + (wd 2))), (.ref a3)])) _
      refine XS.aloadN X329.here hx rfl (hb hby d8_55) rfl rfl ?_
      exact kt
    clear R334
    obtain ⟨T337, X337, e337, st337⟩ := getF X329 hx hZ hown (host := "") (Or.inl (hw _ (List.mem_of_getElem? (i := 31) rfl))) Via.refl e329 Fl_323 (g := (mkF m 56 #[.val (.ref a1), .val (.ref a2), .val (.ref a3), .val (.int p4), .val (.int (((0 : Int32) + (1 : Int32)) + (1 : Int32)))] [(.ref a1), (.long ((val 2).toInt64)), (.long ((own_or (own_or (own_zero fk o nw) (o + wn 0) (own_shl (own_dd lo val 0) (sh 0))) (o + wn 1) (own_shl (own_dd lo val 1) (sh 1))) (o + wn 2))), (.int (p4 + (wd 2))), (.ref a3)])) rfl rfl (hb hby d8_56)
    have R338 : ∀ t, Steps p.tables e below (T337.setTop (mkF m 61 #[.val (.ref a1), .val (.ref a2), .val (.ref a3), .val (.int p4), .val (.int (((0 : Int32) + (1 : Int32)) + (1 : Int32)))] [(.int (((0 : Int32) + (1 : Int32)) + (1 : Int32))), (.ref b1), (.long ((val 2).toInt64)), (.long ((own_or (own_or (own_zero fk o nw) (o + wn 0) (own_shl (own_dd lo val 0) (sh 0))) (o + wn 1) (own_shl (own_dd lo val 1) (sh 1))) (o + wn 2))), (.int (p4 + (wd 2))), (.ref a3)])) t → Steps p.tables e below (s₁.setTop (mkF m 0 #[.val (.ref a1), .val (.ref a2), .val (.ref a3), .val (.int p4), .unset] [])) t := by
      intro t kt
      refine R336 _ ?_
      refine st337 _ ?_
      show Steps p.tables e below (T337.setTop (mkF m 59 #[.val (.ref a1), .val (.ref a2), .val (.ref a3), .val (.int p4), .val (.int (((0 : Int32) + (1 : Int32)) + (1 : Int32)))] [(.ref b1), (.long ((val 2).toInt64)), (.long ((own_or (own_or (own_zero fk o nw) (o + wn 0) (own_shl (own_dd lo val 0) (sh 0))) (o + wn 1) (own_shl (own_dd lo val 1) (sh 1))) (o + wn 2))), (.int (p4 + (wd 2))), (.ref a3)])) _
      refine XS.iload X337.here hx rfl (hb hby d8_59) rfl ?_
      exact kt
    clear R336 st337
    obtain ⟨cl339, Ar339, hin339, hat339⟩ := VL_323.at (j := (((0 : Int32) + (1 : Int32)) + (1 : Int32))) (k := 2) (by decide) rfl (by decide)
    have R340 : ∀ t, Steps p.tables e below (T337.setTop (mkF m 65 #[.val (.ref a1), .val (.ref a2), .val (.ref a3), .val (.int p4), .val (.int (((0 : Int32) + (1 : Int32)) + (1 : Int32)))] [(.ref a1), (.long (((val 2).toInt64) - ((lo 2).toInt64))), (.long ((own_or (own_or (own_zero fk o nw) (o + wn 0) (own_shl (own_dd lo val 0) (sh 0))) (o + wn 1) (own_shl (own_dd lo val 1) (sh 1))) (o + wn 2))), (.int (p4 + (wd 2))), (.ref a3)])) t → Steps p.tables e below (s₁.setTop (mkF m 0 #[.val (.ref a1), .val (.ref a2), .val (.ref a3), .val (.int p4), .unset] [])) t := by
      intro t kt
      refine R338 _ ?_
      show Steps p.tables e below (T337.setTop (mkF m 61 #[.val (.ref a1), .val (.ref a2), .val (.ref a3), .val (.int p4), .val (.int (((0 : Int32) + (1 : Int32)) + (1 : Int32)))] [(.int (((0 : Int32) + (1 : Int32)) + (1 : Int32))), (.ref b1), (.long ((val 2).toInt64)), (.long ((own_or (own_or (own_zero fk o nw) (o + wn 0) (own_shl (own_dd lo val 0) (sh 0))) (o + wn 1) (own_shl (own_dd lo val 1) (sh 1))) (o + wn 2))), (.int (p4 + (wd 2))), (.ref a3)])) _
      refine X337.iaload hx (j := (((0 : Int32) + (1 : Int32)) + (1 : Int32))) (v := (.int (lo 2))) (by rw [e337]; exact Ar339.1) (State.isArrayOf_alike hZ.alike Ar339.2.1) Ar339.2.2 hin339 hat339 (g := (mkF m 61 #[.val (.ref a1), .val (.ref a2), .val (.ref a3), .val (.int p4), .val (.int (((0 : Int32) + (1 : Int32)) + (1 : Int32)))] [(.int (((0 : Int32) + (1 : Int32)) + (1 : Int32))), (.ref b1), (.long ((val 2).toInt64)), (.long ((own_or (own_or (own_zero fk o nw) (o + wn 0) (own_shl (own_dd lo val 0) (sh 0))) (o + wn 1) (own_shl (own_dd lo val 1) (sh 1))) (o + wn 2))), (.int (p4 + (wd 2))), (.ref a3)])) rfl rfl (hb hby d8_61) _ ?_
      show Steps p.tables e below (T337.setTop (mkF m 62 #[.val (.ref a1), .val (.ref a2), .val (.ref a3), .val (.int p4), .val (.int (((0 : Int32) + (1 : Int32)) + (1 : Int32)))] [(.int (lo 2)), (.long ((val 2).toInt64)), (.long ((own_or (own_or (own_zero fk o nw) (o + wn 0) (own_shl (own_dd lo val 0) (sh 0))) (o + wn 1) (own_shl (own_dd lo val 1) (sh 1))) (o + wn 2))), (.int (p4 + (wd 2))), (.ref a3)])) _
      refine XS.i2l X337.here hx rfl (hb hby d8_62) rfl ?_
      show Steps p.tables e below (T337.setTop (mkF m 63 #[.val (.ref a1), .val (.ref a2), .val (.ref a3), .val (.int p4), .val (.int (((0 : Int32) + (1 : Int32)) + (1 : Int32)))] [(.long ((lo 2).toInt64)), (.long ((val 2).toInt64)), (.long ((own_or (own_or (own_zero fk o nw) (o + wn 0) (own_shl (own_dd lo val 0) (sh 0))) (o + wn 1) (own_shl (own_dd lo val 1) (sh 1))) (o + wn 2))), (.int (p4 + (wd 2))), (.ref a3)])) _
      refine XS.lsub X337.here hx rfl (hb hby d8_63) rfl ?_
      show Steps p.tables e below (T337.setTop (mkF m 64 #[.val (.ref a1), .val (.ref a2), .val (.ref a3), .val (.int p4), .val (.int (((0 : Int32) + (1 : Int32)) + (1 : Int32)))] [(.long (((val 2).toInt64) - ((lo 2).toInt64))), (.long ((own_or (own_or (own_zero fk o nw) (o + wn 0) (own_shl (own_dd lo val 0) (sh 0))) (o + wn 1) (own_shl (own_dd lo val 1) (sh 1))) (o + wn 2))), (.int (p4 + (wd 2))), (.ref a3)])) _
      refine XS.aloadN X337.here hx rfl (hb hby d8_64) rfl rfl ?_
      exact kt
    clear R338
    obtain ⟨T341, X341, e341, st341⟩ := getF X337 hx hZ hown (host := "") (Or.inl (hw _ (List.mem_of_getElem? (i := 35) rfl))) Via.refl e337 Fs_323 (g := (mkF m 65 #[.val (.ref a1), .val (.ref a2), .val (.ref a3), .val (.int p4), .val (.int (((0 : Int32) + (1 : Int32)) + (1 : Int32)))] [(.ref a1), (.long (((val 2).toInt64) - ((lo 2).toInt64))), (.long ((own_or (own_or (own_zero fk o nw) (o + wn 0) (own_shl (own_dd lo val 0) (sh 0))) (o + wn 1) (own_shl (own_dd lo val 1) (sh 1))) (o + wn 2))), (.int (p4 + (wd 2))), (.ref a3)])) rfl rfl (hb hby d8_65)
    have R342 : ∀ t, Steps p.tables e below (T341.setTop (mkF m 70 #[.val (.ref a1), .val (.ref a2), .val (.ref a3), .val (.int p4), .val (.int (((0 : Int32) + (1 : Int32)) + (1 : Int32)))] [(.int (((0 : Int32) + (1 : Int32)) + (1 : Int32))), (.ref b3), (.long (((val 2).toInt64) - ((lo 2).toInt64))), (.long ((own_or (own_or (own_zero fk o nw) (o + wn 0) (own_shl (own_dd lo val 0) (sh 0))) (o + wn 1) (own_shl (own_dd lo val 1) (sh 1))) (o + wn 2))), (.int (p4 + (wd 2))), (.ref a3)])) t → Steps p.tables e below (s₁.setTop (mkF m 0 #[.val (.ref a1), .val (.ref a2), .val (.ref a3), .val (.int p4), .unset] [])) t := by
      intro t kt
      refine R340 _ ?_
      refine st341 _ ?_
      show Steps p.tables e below (T341.setTop (mkF m 68 #[.val (.ref a1), .val (.ref a2), .val (.ref a3), .val (.int p4), .val (.int (((0 : Int32) + (1 : Int32)) + (1 : Int32)))] [(.ref b3), (.long (((val 2).toInt64) - ((lo 2).toInt64))), (.long ((own_or (own_or (own_zero fk o nw) (o + wn 0) (own_shl (own_dd lo val 0) (sh 0))) (o + wn 1) (own_shl (own_dd lo val 1) (sh 1))) (o + wn 2))), (.int (p4 + (wd 2))), (.ref a3)])) _
      refine XS.iload X341.here hx rfl (hb hby d8_68) rfl ?_
      exact kt
    clear R340 st341
    obtain ⟨cl343, Ar343, hin343, hat343⟩ := VS_323.at (j := (((0 : Int32) + (1 : Int32)) + (1 : Int32))) (k := 2) (by decide) rfl (by decide)
    have R344 : ∀ t, Steps p.tables e below (T341.setTop (mkF m 73 #[.val (.ref a1), .val (.ref a2), .val (.ref a3), .val (.int p4), .val (.int (((0 : Int32) + (1 : Int32)) + (1 : Int32)))] [(.long (((own_or (own_or (own_zero fk o nw) (o + wn 0) (own_shl (own_dd lo val 0) (sh 0))) (o + wn 1) (own_shl (own_dd lo val 1) (sh 1))) (o + wn 2)) ||| ((((val 2).toInt64) - ((lo 2).toInt64)) <<< ((sh 2) &&& 0x3f).toInt64))), (.int (p4 + (wd 2))), (.ref a3)])) t → Steps p.tables e below (s₁.setTop (mkF m 0 #[.val (.ref a1), .val (.ref a2), .val (.ref a3), .val (.int p4), .unset] [])) t := by
      intro t kt
      refine R342 _ ?_
      show Steps p.tables e below (T341.setTop (mkF m 70 #[.val (.ref a1), .val (.ref a2), .val (.ref a3), .val (.int p4), .val (.int (((0 : Int32) + (1 : Int32)) + (1 : Int32)))] [(.int (((0 : Int32) + (1 : Int32)) + (1 : Int32))), (.ref b3), (.long (((val 2).toInt64) - ((lo 2).toInt64))), (.long ((own_or (own_or (own_zero fk o nw) (o + wn 0) (own_shl (own_dd lo val 0) (sh 0))) (o + wn 1) (own_shl (own_dd lo val 1) (sh 1))) (o + wn 2))), (.int (p4 + (wd 2))), (.ref a3)])) _
      refine X341.iaload hx (j := (((0 : Int32) + (1 : Int32)) + (1 : Int32))) (v := (.int (sh 2))) (by rw [e341]; exact Ar343.1) (State.isArrayOf_alike hZ.alike Ar343.2.1) Ar343.2.2 hin343 hat343 (g := (mkF m 70 #[.val (.ref a1), .val (.ref a2), .val (.ref a3), .val (.int p4), .val (.int (((0 : Int32) + (1 : Int32)) + (1 : Int32)))] [(.int (((0 : Int32) + (1 : Int32)) + (1 : Int32))), (.ref b3), (.long (((val 2).toInt64) - ((lo 2).toInt64))), (.long ((own_or (own_or (own_zero fk o nw) (o + wn 0) (own_shl (own_dd lo val 0) (sh 0))) (o + wn 1) (own_shl (own_dd lo val 1) (sh 1))) (o + wn 2))), (.int (p4 + (wd 2))), (.ref a3)])) rfl rfl (hb hby d8_70) _ ?_
      show Steps p.tables e below (T341.setTop (mkF m 71 #[.val (.ref a1), .val (.ref a2), .val (.ref a3), .val (.int p4), .val (.int (((0 : Int32) + (1 : Int32)) + (1 : Int32)))] [(.int (sh 2)), (.long (((val 2).toInt64) - ((lo 2).toInt64))), (.long ((own_or (own_or (own_zero fk o nw) (o + wn 0) (own_shl (own_dd lo val 0) (sh 0))) (o + wn 1) (own_shl (own_dd lo val 1) (sh 1))) (o + wn 2))), (.int (p4 + (wd 2))), (.ref a3)])) _
      refine XS.lshl X341.here hx rfl (hb hby d8_71) rfl ?_
      show Steps p.tables e below (T341.setTop (mkF m 72 #[.val (.ref a1), .val (.ref a2), .val (.ref a3), .val (.int p4), .val (.int (((0 : Int32) + (1 : Int32)) + (1 : Int32)))] [(.long ((((val 2).toInt64) - ((lo 2).toInt64)) <<< ((sh 2) &&& 0x3f).toInt64)), (.long ((own_or (own_or (own_zero fk o nw) (o + wn 0) (own_shl (own_dd lo val 0) (sh 0))) (o + wn 1) (own_shl (own_dd lo val 1) (sh 1))) (o + wn 2))), (.int (p4 + (wd 2))), (.ref a3)])) _
      refine XS.lor X341.here hx rfl (hb hby d8_72) rfl ?_
      exact kt
    clear R342
    obtain ⟨cl345, Ar345, hin345, -⟩ := VK_323.at (j := (p4 + (wd 2))) (k := (o + wn 2)) r2_2.1 r2_2.2 (Nat.lt_of_lt_of_le (Nat.add_lt_add_left d2 o) hnn)
    obtain ⟨T346, h346, X346, e346, W346, st346⟩ := stJ X341 hx hZ e341 Ar345 (j := (p4 + (wd 2))) hin345 (g := (mkF m 73 #[.val (.ref a1), .val (.ref a2), .val (.ref a3), .val (.int p4), .val (.int (((0 : Int32) + (1 : Int32)) + (1 : Int32)))] [(.long (((own_or (own_or (own_zero fk o nw) (o + wn 0) (own_shl (own_dd lo val 0) (sh 0))) (o + wn 1) (own_shl (own_dd lo val 1) (sh 1))) (o + wn 2)) ||| ((((val 2).toInt64) - ((lo 2).toInt64)) <<< ((sh 2) &&& 0x3f).toInt64))), (.int (p4 + (wd 2))), (.ref a3)])) rfl rfl (hb hby d8_73)
    have N346 := Fr.snoc X346 N323 ga
    rw [show ((p4 + (wd 2)) : Int32).toNatClampNeg = (o + wn 2) from r2_2.2] at W346
    have VK_346 : AV Z h346 a3 .long NN (fun j => .long ((own_or (own_or (own_or (own_zero fk o nw) (o + wn 0) (own_shl (own_dd lo val 0) (sh 0))) (o + wn 1) (own_shl (own_dd lo val 1) (sh 1))) (o + wn 2) (own_shl (own_dd lo val 2) (sh 2))) j)) := VK_323.setJ W346
    have Fl_346 := Fl_323.other W346 (Or.inl m1)
    have Fw_346 := Fw_323.other W346 (Or.inl m1)
    have Fs_346 := Fs_323.other W346 (Or.inl m1)
    have Fc_346 := Fc_323.other W346 (Or.inl m1)
    have VL_346 := VL_323.other W346 m3
    have VW_346 := VW_323.other W346 m4
    have VS_346 := VS_323.other W346 m5
    have VV_346 := VV_323.other W346 m2
    clear Fl_323 Fw_323 Fs_323 Fc_323 VL_323 VW_323 VS_323 VV_323
    have Zs346 : n0 ≤ h346.size := Nat.le_trans Zs323 (Keep.of_wr W346).1
    have Kw346 : Keep h0 h346 [a3] := Keep.wr Kw323 W346 (Or.inl (List.mem_of_getElem? (i := 0) rfl))
    have R347 : ∀ t, Steps p.tables e below (T346.setTop (mkF m 31 #[.val (.ref a1), .val (.ref a2), .val (.ref a3), .val (.int p4), .val (.int ((((0 : Int32) + (1 : Int32)) + (1 : Int32)) + (1 : Int32)))] [(.ref a1), (.int ((((0 : Int32) + (1 : Int32)) + (1 : Int32)) + (1 : Int32)))])) t → Steps p.tables e below (s₁.setTop (mkF m 0 #[.val (.ref a1), .val (.ref a2), .val (.ref a3), .val (.int p4), .unset] [])) t := by
      intro t kt
      refine R344 _ ?_
      refine st346 _ ?_
      show Steps p.tables e below (T346.setTop (mkF m 74 #[.val (.ref a1), .val (.ref a2), .val (.ref a3), .val (.int p4), .val (.int (((0 : Int32) + (1 : Int32)) + (1 : Int32)))] [])) _
      refine XS.iinc X346.here hx rfl (hb hby d8_74) rfl (l' := #[.val (.ref a1), .val (.ref a2), .val (.ref a3), .val (.int p4), .val (.int ((((0 : Int32) + (1 : Int32)) + (1 : Int32)) + (1 : Int32)))]) rfl ?_
      show Steps p.tables e below (T346.setTop (mkF m 77 #[.val (.ref a1), .val (.ref a2), .val (.ref a3), .val (.int p4), .val (.int ((((0 : Int32) + (1 : Int32)) + (1 : Int32)) + (1 : Int32)))] [])) _
      refine XS.goto X346.here hx rfl (pc0 := 77) (pc' := 28) rfl (hb hby d8_77) (by decide) (by decide) ?_
      show Steps p.tables e below (T346.setTop (mkF m 28 #[.val (.ref a1), .val (.ref a2), .val (.ref a3), .val (.int p4), .val (.int ((((0 : Int32) + (1 : Int32)) + (1 : Int32)) + (1 : Int32)))] [])) _
      refine XS.iload X346.here hx rfl (hb hby d8_28) rfl ?_
      show Steps p.tables e below (T346.setTop (mkF m 30 #[.val (.ref a1), .val (.ref a2), .val (.ref a3), .val (.int p4), .val (.int ((((0 : Int32) + (1 : Int32)) + (1 : Int32)) + (1 : Int32)))] [(.int ((((0 : Int32) + (1 : Int32)) + (1 : Int32)) + (1 : Int32)))])) _
      refine XS.aloadN X346.here hx rfl (hb hby d8_30) rfl rfl ?_
      exact kt
    clear R344 st346
    obtain ⟨T348, X348, e348, st348⟩ := getF X346 hx hZ hown (host := "") (Or.inl (hw _ (List.mem_of_getElem? (i := 31) rfl))) Via.refl e346 Fl_346 (g := (mkF m 31 #[.val (.ref a1), .val (.ref a2), .val (.ref a3), .val (.int p4), .val (.int ((((0 : Int32) + (1 : Int32)) + (1 : Int32)) + (1 : Int32)))] [(.ref a1), (.int ((((0 : Int32) + (1 : Int32)) + (1 : Int32)) + (1 : Int32)))])) rfl rfl (hb hby d8_31)
    have R349 : ∀ t, Steps p.tables e below (T348.setTop (mkF m 34 #[.val (.ref a1), .val (.ref a2), .val (.ref a3), .val (.int p4), .val (.int ((((0 : Int32) + (1 : Int32)) + (1 : Int32)) + (1 : Int32)))] [(.ref b1), (.int ((((0 : Int32) + (1 : Int32)) + (1 : Int32)) + (1 : Int32)))])) t → Steps p.tables e below (s₁.setTop (mkF m 0 #[.val (.ref a1), .val (.ref a2), .val (.ref a3), .val (.int p4), .unset] [])) t := by
      intro t kt
      refine R347 _ ?_
      refine st348 _ ?_
      exact kt
    clear R347 st348
    obtain ⟨cl350, Ar350, ln350⟩ := VL_346.len
    have R351 : ∀ t, Steps p.tables e below (T348.setTop (mkF m 80 #[.val (.ref a1), .val (.ref a2), .val (.ref a3), .val (.int p4), .val (.int ((((0 : Int32) + (1 : Int32)) + (1 : Int32)) + (1 : Int32)))] [])) t → Steps p.tables e below (s₁.setTop (mkF m 0 #[.val (.ref a1), .val (.ref a2), .val (.ref a3), .val (.int p4), .unset] [])) t := by
      intro t kt
      refine R349 _ ?_
      show Steps p.tables e below (T348.setTop (mkF m 34 #[.val (.ref a1), .val (.ref a2), .val (.ref a3), .val (.int p4), .val (.int ((((0 : Int32) + (1 : Int32)) + (1 : Int32)) + (1 : Int32)))] [(.ref b1), (.int ((((0 : Int32) + (1 : Int32)) + (1 : Int32)) + (1 : Int32)))])) _
      refine X348.arraylength hx (by rw [e348]; exact Ar350.1) (State.isArrayOf_alike hZ.alike Ar350.2.1) (g := (mkF m 34 #[.val (.ref a1), .val (.ref a2), .val (.ref a3), .val (.int p4), .val (.int ((((0 : Int32) + (1 : Int32)) + (1 : Int32)) + (1 : Int32)))] [(.ref b1), (.int ((((0 : Int32) + (1 : Int32)) + (1 : Int32)) + (1 : Int32)))])) rfl rfl (hb hby d8_34) _ ?_
      rw [ln350]
      show Steps p.tables e below (T348.setTop (mkF m 35 #[.val (.ref a1), .val (.ref a2), .val (.ref a3), .val (.int p4), .val (.int ((((0 : Int32) + (1 : Int32)) + (1 : Int32)) + (1 : Int32)))] [(.int (3 : Int32)), (.int ((((0 : Int32) + (1 : Int32)) + (1 : Int32)) + (1 : Int32)))])) _
      refine XS.icmpYes X348.here hx rfl (pc0 := 35) (pc' := 80) rfl (hb hby d8_35) rfl (flt (by decide : ¬ (((((0 : Int32) + (1 : Int32)) + (1 : Int32)) + (1 : Int32)) < (3 : Int32)))).2.1 (by decide) (by decide) ?_
      exact kt
    clear R349
    obtain ⟨fs, hr, hrun, hended, hW, hsame⟩ := X348.leave (v := none) (fun _ => rfl)
    refine ⟨_, _, pre0 _ (R351 _ ?_), hrun, hended, _, _, rfl, ?_, ⟨_, rfl⟩, hW, hsame.mono (by decide) (by decide)⟩
    · exact X348.returnOut hx Bd.returns (hb hby d8_80) hr
    · show Q_rm_encode Z a1 a2 a3 p4 b1 b2 b3 words lo wd sh val fk NN o nw wn h0 n0 _ T348.heap _
      rw [e348]
      exact ⟨rfl, N346, Kw346, VK_346⟩
theorem d9_0 : decode prog_37_method_4_code 0 = .ok (.iconst 0, 1) := by decide +kernel
theorem d9_1 : decode prog_37_method_4_code 1 = .ok (.istore 4, 2) := by decide +kernel
theorem d9_3 : decode prog_37_method_4_code 3 = .ok (.iload 4, 2) := by decide +kernel
theorem d9_5 : decode prog_37_method_4_code 5 = .ok (.aload_n 0, 1) := by decide +kernel
theorem d9_6 : decode prog_37_method_4_code 6 = .ok (.getfield 13, 3) := by decide +kernel
theorem d9_9 : decode prog_37_method_4_code 9 = .ok (.arraylength, 1) := by decide +kernel
theorem d9_10 : decode prog_37_method_4_code 10 = .ok (.if_icmp .ge 50, 3) := by decide +kernel
theorem d9_13 : decode prog_37_method_4_code 13 = .ok (.aload_n 3, 1) := by decide +kernel
theorem d9_14 : decode prog_37_method_4_code 14 = .ok (.iload 4, 2) := by decide +kernel
theorem d9_16 : decode prog_37_method_4_code 16 = .ok (.aload_n 1, 1) := by decide +kernel
theorem d9_17 : decode prog_37_method_4_code 17 = .ok (.iload_n 2, 1) := by decide +kernel
theorem d9_18 : decode prog_37_method_4_code 18 = .ok (.aload_n 0, 1) := by decide +kernel
theorem d9_19 : decode prog_37_method_4_code 19 = .ok (.getfield 18, 3) := by decide +kernel
theorem d9_22 : decode prog_37_method_4_code 22 = .ok (.iload 4, 2) := by decide +kernel
theorem d9_24 : decode prog_37_method_4_code 24 = .ok (.iaload, 1) := by decide +kernel
theorem d9_25 : decode prog_37_method_4_code 25 = .ok (.iadd, 1) := by decide +kernel
theorem d9_26 : decode prog_37_method_4_code 26 = .ok (.laload, 1) := by decide +kernel
theorem d9_27 : decode prog_37_method_4_code 27 = .ok (.aload_n 0, 1) := by decide +kernel
theorem d9_28 : decode prog_37_method_4_code 28 = .ok (.getfield 21, 3) := by decide +kernel
theorem d9_31 : decode prog_37_method_4_code 31 = .ok (.iload 4, 2) := by decide +kernel
theorem d9_33 : decode prog_37_method_4_code 33 = .ok (.iaload, 1) := by decide +kernel
theorem d9_34 : decode prog_37_method_4_code 34 = .ok (.lushr, 1) := by decide +kernel
theorem d9_35 : decode prog_37_method_4_code 35 = .ok (.aload_n 0, 1) := by decide +kernel
theorem d9_36 : decode prog_37_method_4_code 36 = .ok (.getfield 24, 3) := by decide +kernel
theorem d9_39 : decode prog_37_method_4_code 39 = .ok (.iload 4, 2) := by decide +kernel
theorem d9_41 : decode prog_37_method_4_code 41 = .ok (.laload, 1) := by decide +kernel
theorem d9_42 : decode prog_37_method_4_code 42 = .ok (.land, 1) := by decide +kernel
theorem d9_43 : decode prog_37_method_4_code 43 = .ok (.aload_n 0, 1) := by decide +kernel
theorem d9_44 : decode prog_37_method_4_code 44 = .ok (.getfield 13, 3) := by decide +kernel
theorem d9_47 : decode prog_37_method_4_code 47 = .ok (.iload 4, 2) := by decide +kernel
theorem d9_49 : decode prog_37_method_4_code 49 = .ok (.iaload, 1) := by decide +kernel
theorem d9_50 : decode prog_37_method_4_code 50 = .ok (.i2l, 1) := by decide +kernel
theorem d9_51 : decode prog_37_method_4_code 51 = .ok (.ladd, 1) := by decide +kernel
theorem d9_52 : decode prog_37_method_4_code 52 = .ok (.l2i, 1) := by decide +kernel
theorem d9_53 : decode prog_37_method_4_code 53 = .ok (.iastore, 1) := by decide +kernel
theorem d9_54 : decode prog_37_method_4_code 54 = .ok (.iinc 4 1, 3) := by decide +kernel
theorem d9_57 : decode prog_37_method_4_code 57 = .ok (.goto (-54), 3) := by decide +kernel
theorem d9_60 : decode prog_37_method_4_code 60 = .ok (.return_, 1) := by decide +kernel
theorem ef_rm_decode (m : MethodId) (a1 : Addr) (a2 : Addr) (p3 : Int32) (a4 : Addr) : entryFrame m #[(.ref a1), (.ref a2), (.int p3), (.ref a4)] 5 = mkF m 0 #[.val (.ref a1), .val (.ref a2), .val (.int p3), .val (.ref a4), .unset] [] := by first | (simp [entryFrame, mkF, argsToLocals, Value.category]; done) | rfl
def Q_rm_decode (Z : State) (a1 : Addr) (a2 : Addr) (p3 : Int32) (a4 : Addr) (b1 : Addr) (b2 : Addr) (b3 : Addr) (b4 : Addr) (lo : Nat → Int32) (wd : Nat → Int32) (sh : Nat → Int32) (mk : Nat → Int64) (fo : Nat → Int32) (fk : Nat → Int64) (NN : Nat) (o : Nat) (nw : Nat) (wn : Nat → Nat) (h0 : Heap) (n0 : Nat) (v : Option Value) (h : Heap) (L : List Loc) : Prop := v = none ∧ Fr n0 L ∧ Keep h0 h [a4] ∧ AV Z h a4 .int 3 (fun j => .int ((own_dec fk o wn lo sh mk) j))
set_option maxRecDepth 65536 in
set_option maxHeartbeats 40000000 in
theorem rm_decode (l : Launch) (Z : State) (a0 : Array Value) (hw : ∀ d ∈ tables_1, d.before a0 Z = true) (ws : List Jvm.Cond) (a1 : Addr) (a2 : Addr) (p3 : Int32) (a4 : Addr) (b1 : Addr) (b2 : Addr) (b3 : Addr) (b4 : Addr) (lo : Nat → Int32) (wd : Nat → Int32) (sh : Nat → Int32) (mk : Nat → Int64) (fo : Nat → Int32) (fk : Nat → Int64) (NN : Nat) (o : Nat) (nw : Nat) (wn : Nat → Nat) (h0 : Heap) (n0 : Nat) (Z0 : n0 ≤ h0.size) (Fl : Fld Z h0 a1 "com/example/inexact_odds/inexactodds/language/Encoding" "low" "[I" (.ref b1)) (Fw : Fld Z h0 a1 "com/example/inexact_odds/inexactodds/language/Encoding" "word" "[I" (.ref b2)) (Fs : Fld Z h0 a1 "com/example/inexact_odds/inexactodds/language/Encoding" "shift" "[I" (.ref b3)) (Fm : Fld Z h0 a1 "com/example/inexact_odds/inexactodds/language/Encoding" "mask" "[J" (.ref b4)) (VL : AV Z h0 b1 .int 3 (fun j => .int (lo j))) (VW : AV Z h0 b2 .int 3 (fun j => .int (wd j))) (VS : AV Z h0 b3 .int 3 (fun j => .int (sh j))) (VM : AV Z h0 b4 .long 3 (fun j => .long (mk j))) (VO : AV Z h0 a4 .int 3 (fun j => .int (fo j))) (VK : AV Z h0 a2 .long NN (fun j => .long (fk j))) (ga : n0 ≤ a4) (m1 : a1 ≠ a4) (m2 : a2 ≠ a4) (m3 : b1 ≠ a4) (m4 : b2 ≠ a4) (m5 : b3 ≠ a4) (m6 : b4 ≠ a4) (ho : p3.toInt = o) (hnn : o + nw ≤ NN) (h8 : NN ≤ 8) (hwn : ∀ j, j < 3 → (wd j).toInt = wn j ∧ wn j < nw) :
    MetFree l (⟨"com/example/inexact_odds/inexactodds/language/Encoding", "decode", "([JI[I)V"⟩ : MethodName) (head1 (Jvm.Cond.code (⟨"com/example/inexact_odds/inexactodds/language/Encoding", "decode", "([JI[I)V"⟩ : MethodName) prog_37_method_4_code 5 none :: ws) ({ frames := 0, cells := 0, slots := 0, locals := 0 } : Room)) (fun a U => a = #[(.ref a1), (.ref a2), (.int p3), (.ref a4)] ∧ Z.Warmed39 U.vm ∧ U.heap = h0) (fun _ _ _ _ _ => True) (fun _ U oC U' => ∃ v L, oC = .returned v ∧ Q_rm_decode Z a1 a2 p3 a4 b1 b2 b3 b4 lo wd sh mk fo fk NN o nw wn h0 n0 v U'.heap L ∧ FrameEnd U oC U' L ({ frames := 0, cells := 0, slots := 0, locals := 0 } : Room).cells ({ frames := 0, cells := 0, slots := 0, locals := 0 } : Room).slots) := by
  refine MetFree.of_bodySF (plainFor_of_name pn_2) hisR ?_
  intro p e s m args below meth c s₁ Bd hml0 hP hK
  obtain ⟨rfl, hZ, hh⟩ := hP
  have hx := Bd.exec
  have hby := Bd.bytes
  have hml : c.maxLocals = 5 := hml0
  have hown : s.vm.findClass "com/example/inexact_odds/inexactodds/language/Encoding" = some m.cls := findClass_of_methodNamed Bd.named
  have hnm := (name_of_methodNamed Bd.named Bd.method).1
  have X0 : Stand p l e ({ frames := 0, cells := 0, slots := 0, locals := 0 } : Room) s m #[(.ref a1), (.ref a2), (.int p3), (.ref a4)] below meth c s₁ [] 0 0 := Stand.of_body Bd
  have e0 : s₁.heap = h0 := by rw [← hh, Bd.state]; rfl
  have N0 := Fr.nil n0
  have pre0 : ∀ t, Steps p.tables e below (s₁.setTop (mkF m 0 #[.val (.ref a1), .val (.ref a2), .val (.int p3), .val (.ref a4), .unset] [])) t → Steps p.tables e below (s₁.setTop (entryFrame m #[(.ref a1), (.ref a2), (.int p3), (.ref a4)] 5)) t := fun t k => castTop (ef_rm_decode m a1 a2 p3 a4) k
  have pre00 : ∀ t, Steps p.tables e below (s₁.setTop (mkF m 0 #[.val (.ref a1), .val (.ref a2), .val (.int p3), .val (.ref a4), .unset] [])) t → Steps p.tables e below (s₁.setTop (mkF m 0 #[.val (.ref a1), .val (.ref a2), .val (.int p3), .val (.ref a4), .unset] [])) t := fun _ k => k
  obtain ⟨c0, d0⟩ := hwn 0 (by decide)
  obtain ⟨c1, d1⟩ := hwn 1 (by decide)
  obtain ⟨c2, d2⟩ := hwn 2 (by decide)
  have R352 : ∀ t, Steps p.tables e below (s₁.setTop (mkF m 6 #[.val (.ref a1), .val (.ref a2), .val (.int p3), .val (.ref a4), .val (.int (0 : Int32))] [(.ref a1), (.int (0 : Int32))])) t → Steps p.tables e below (s₁.setTop (mkF m 0 #[.val (.ref a1), .val (.ref a2), .val (.int p3), .val (.ref a4), .unset] [])) t := by
    intro t kt
    refine pre00 _ ?_
    show Steps p.tables e below (s₁.setTop (mkF m 0 #[.val (.ref a1), .val (.ref a2), .val (.int p3), .val (.ref a4), .unset] [])) _
    refine XS.iconst X0.here hx rfl (hb hby d9_0) ?_
    show Steps p.tables e below (s₁.setTop (mkF m 1 #[.val (.ref a1), .val (.ref a2), .val (.int p3), .val (.ref a4), .unset] [(.int (0 : Int32))])) _
    refine XS.istore X0.here hx rfl (hb hby d9_1) rfl (l' := #[.val (.ref a1), .val (.ref a2), .val (.int p3), .val (.ref a4), .val (.int (0 : Int32))]) rfl ?_
    show Steps p.tables e below (s₁.setTop (mkF m 3 #[.val (.ref a1), .val (.ref a2), .val (.int p3), .val (.ref a4), .val (.int (0 : Int32))] [])) _
    refine XS.iload X0.here hx rfl (hb hby d9_3) rfl ?_
    show Steps p.tables e below (s₁.setTop (mkF m 5 #[.val (.ref a1), .val (.ref a2), .val (.int p3), .val (.ref a4), .val (.int (0 : Int32))] [(.int (0 : Int32))])) _
    refine XS.aloadN X0.here hx rfl (hb hby d9_5) rfl rfl ?_
    exact kt
  obtain ⟨T353, X353, e353, st353⟩ := getF X0 hx hZ hown (host := "") (Or.inl (hw _ (List.mem_of_getElem? (i := 31) rfl))) Via.refl e0 Fl (g := (mkF m 6 #[.val (.ref a1), .val (.ref a2), .val (.int p3), .val (.ref a4), .val (.int (0 : Int32))] [(.ref a1), (.int (0 : Int32))])) rfl rfl (hb hby d9_6)
  have R354 : ∀ t, Steps p.tables e below (T353.setTop (mkF m 9 #[.val (.ref a1), .val (.ref a2), .val (.int p3), .val (.ref a4), .val (.int (0 : Int32))] [(.ref b1), (.int (0 : Int32))])) t → Steps p.tables e below (s₁.setTop (mkF m 0 #[.val (.ref a1), .val (.ref a2), .val (.int p3), .val (.ref a4), .unset] [])) t := by
    intro t kt
    refine R352 _ ?_
    refine st353 _ ?_
    exact kt
  clear R352 st353
  obtain ⟨cl355, Ar355, ln355⟩ := VL.len
  have R356 : ∀ t, Steps p.tables e below (T353.setTop (mkF m 19 #[.val (.ref a1), .val (.ref a2), .val (.int p3), .val (.ref a4), .val (.int (0 : Int32))] [(.ref a1), (.int p3), (.ref a2), (.int (0 : Int32)), (.ref a4)])) t → Steps p.tables e below (s₁.setTop (mkF m 0 #[.val (.ref a1), .val (.ref a2), .val (.int p3), .val (.ref a4), .unset] [])) t := by
    intro t kt
    refine R354 _ ?_
    show Steps p.tables e below (T353.setTop (mkF m 9 #[.val (.ref a1), .val (.ref a2), .val (.int p3), .val (.ref a4), .val (.int (0 : Int32))] [(.ref b1), (.int (0 : Int32))])) _
    refine X353.arraylength hx (by rw [e353]; exact Ar355.1) (State.isArrayOf_alike hZ.alike Ar355.2.1) (g := (mkF m 9 #[.val (.ref a1), .val (.ref a2), .val (.int p3), .val (.ref a4), .val (.int (0 : Int32))] [(.ref b1), (.int (0 : Int32))])) rfl rfl (hb hby d9_9) _ ?_
    rw [ln355]
    show Steps p.tables e below (T353.setTop (mkF m 10 #[.val (.ref a1), .val (.ref a2), .val (.int p3), .val (.ref a4), .val (.int (0 : Int32))] [(.int (3 : Int32)), (.int (0 : Int32))])) _
    refine XS.icmpNo X353.here hx rfl (hb hby d9_10) rfl (tlt (by decide : (0 : Int32) < (3 : Int32))).2.1 ?_
    show Steps p.tables e below (T353.setTop (mkF m 13 #[.val (.ref a1), .val (.ref a2), .val (.int p3), .val (.ref a4), .val (.int (0 : Int32))] [])) _
    refine XS.aloadN X353.here hx rfl (hb hby d9_13) rfl rfl ?_
    show Steps p.tables e below (T353.setTop (mkF m 14 #[.val (.ref a1), .val (.ref a2), .val (.int p3), .val (.ref a4), .val (.int (0 : Int32))] [(.ref a4)])) _
    refine XS.iload X353.here hx rfl (hb hby d9_14) rfl ?_
    show Steps p.tables e below (T353.setTop (mkF m 16 #[.val (.ref a1), .val (.ref a2), .val (.int p3), .val (.ref a4), .val (.int (0 : Int32))] [(.int (0 : Int32)), (.ref a4)])) _
    refine XS.aloadN X353.here hx rfl (hb hby d9_16) rfl rfl ?_
    show Steps p.tables e below (T353.setTop (mkF m 17 #[.val (.ref a1), .val (.ref a2), .val (.int p3), .val (.ref a4), .val (.int (0 : Int32))] [(.ref a2), (.int (0 : Int32)), (.ref a4)])) _
    refine XS.iloadN X353.here hx rfl (hb hby d9_17) rfl ?_
    show Steps p.tables e below (T353.setTop (mkF m 18 #[.val (.ref a1), .val (.ref a2), .val (.int p3), .val (.ref a4), .val (.int (0 : Int32))] [(.int p3), (.ref a2), (.int (0 : Int32)), (.ref a4)])) _
    refine XS.aloadN X353.here hx rfl (hb hby d9_18) rfl rfl ?_
    exact kt
  clear R354
  obtain ⟨T357, X357, e357, st357⟩ := getF X353 hx hZ hown (host := "") (Or.inl (hw _ (List.mem_of_getElem? (i := 33) rfl))) Via.refl e353 Fw (g := (mkF m 19 #[.val (.ref a1), .val (.ref a2), .val (.int p3), .val (.ref a4), .val (.int (0 : Int32))] [(.ref a1), (.int p3), (.ref a2), (.int (0 : Int32)), (.ref a4)])) rfl rfl (hb hby d9_19)
  have R358 : ∀ t, Steps p.tables e below (T357.setTop (mkF m 24 #[.val (.ref a1), .val (.ref a2), .val (.int p3), .val (.ref a4), .val (.int (0 : Int32))] [(.int (0 : Int32)), (.ref b2), (.int p3), (.ref a2), (.int (0 : Int32)), (.ref a4)])) t → Steps p.tables e below (s₁.setTop (mkF m 0 #[.val (.ref a1), .val (.ref a2), .val (.int p3), .val (.ref a4), .unset] [])) t := by
    intro t kt
    refine R356 _ ?_
    refine st357 _ ?_
    show Steps p.tables e below (T357.setTop (mkF m 22 #[.val (.ref a1), .val (.ref a2), .val (.int p3), .val (.ref a4), .val (.int (0 : Int32))] [(.ref b2), (.int p3), (.ref a2), (.int (0 : Int32)), (.ref a4)])) _
    refine XS.iload X357.here hx rfl (hb hby d9_22) rfl ?_
    exact kt
  clear R356 st357
  obtain ⟨cl359, Ar359, hin359, hat359⟩ := VW.at (j := (0 : Int32)) (k := 0) (by decide) rfl (by decide)
  have R360 : ∀ t, Steps p.tables e below (T357.setTop (mkF m 26 #[.val (.ref a1), .val (.ref a2), .val (.int p3), .val (.ref a4), .val (.int (0 : Int32))] [(.int (p3 + (wd 0))), (.ref a2), (.int (0 : Int32)), (.ref a4)])) t → Steps p.tables e below (s₁.setTop (mkF m 0 #[.val (.ref a1), .val (.ref a2), .val (.int p3), .val (.ref a4), .unset] [])) t := by
    intro t kt
    refine R358 _ ?_
    show Steps p.tables e below (T357.setTop (mkF m 24 #[.val (.ref a1), .val (.ref a2), .val (.int p3), .val (.ref a4), .val (.int (0 : Int32))] [(.int (0 : Int32)), (.ref b2), (.int p3), (.ref a2), (.int (0 : Int32)), (.ref a4)])) _
    refine X357.iaload hx (j := (0 : Int32)) (v := (.int (wd 0))) (by rw [e357]; exact Ar359.1) (State.isArrayOf_alike hZ.alike Ar359.2.1) Ar359.2.2 hin359 hat359 (g := (mkF m 24 #[.val (.ref a1), .val (.ref a2), .val (.int p3), .val (.ref a4), .val (.int (0 : Int32))] [(.int (0 : Int32)), (.ref b2), (.int p3), (.ref a2), (.int (0 : Int32)), (.ref a4)])) rfl rfl (hb hby d9_24) _ ?_
    show Steps p.tables e below (T357.setTop (mkF m 25 #[.val (.ref a1), .val (.ref a2), .val (.int p3), .val (.ref a4), .val (.int (0 : Int32))] [(.int (wd 0)), (.int p3), (.ref a2), (.int (0 : Int32)), (.ref a4)])) _
    refine XS.iadd X357.here hx rfl (hb hby d9_25) rfl ?_
    exact kt
  clear R358
  have r_0 := own_ix p3 (wd 0) o (wn 0) NN ho c0 (Nat.lt_of_lt_of_le (Nat.add_lt_add_left d0 o) hnn) h8
  obtain ⟨cl361, Ar361, hin361, hat361⟩ := VK.at (j := (p3 + (wd 0))) (k := (o + wn 0)) r_0.1 r_0.2 (Nat.lt_of_lt_of_le (Nat.add_lt_add_left d0 o) hnn)
  have R362 : ∀ t, Steps p.tables e below (T357.setTop (mkF m 28 #[.val (.ref a1), .val (.ref a2), .val (.int p3), .val (.ref a4), .val (.int (0 : Int32))] [(.ref a1), (.long (fk (o + wn 0))), (.int (0 : Int32)), (.ref a4)])) t → Steps p.tables e below (s₁.setTop (mkF m 0 #[.val (.ref a1), .val (.ref a2), .val (.int p3), .val (.ref a4), .unset] [])) t := by
    intro t kt
    refine R360 _ ?_
    show Steps p.tables e below (T357.setTop (mkF m 26 #[.val (.ref a1), .val (.ref a2), .val (.int p3), .val (.ref a4), .val (.int (0 : Int32))] [(.int (p3 + (wd 0))), (.ref a2), (.int (0 : Int32)), (.ref a4)])) _
    refine X357.laload hx (j := (p3 + (wd 0))) (v := (.long (fk (o + wn 0)))) (by rw [e357]; exact Ar361.1) (State.isArrayOf_alike hZ.alike Ar361.2.1) Ar361.2.2 hin361 hat361 (g := (mkF m 26 #[.val (.ref a1), .val (.ref a2), .val (.int p3), .val (.ref a4), .val (.int (0 : Int32))] [(.int (p3 + (wd 0))), (.ref a2), (.int (0 : Int32)), (.ref a4)])) rfl rfl (hb hby d9_26) _ ?_
    show Steps p.tables e below (T357.setTop (mkF m 27 #[.val (.ref a1), .val (.ref a2), .val (.int p3), .val (.ref a4), .val (.int (0 : Int32))] [(.long (fk (o + wn 0))), (.int (0 : Int32)), (.ref a4)])) _
    refine XS.aloadN X357.here hx rfl (hb hby d9_27) rfl rfl ?_
    exact kt
  clear R360
  obtain ⟨T363, X363, e363, st363⟩ := getF X357 hx hZ hown (host := "") (Or.inl (hw _ (List.mem_of_getElem? (i := 35) rfl))) Via.refl e357 Fs (g := (mkF m 28 #[.val (.ref a1), .val (.ref a2), .val (.int p3), .val (.ref a4), .val (.int (0 : Int32))] [(.ref a1), (.long (fk (o + wn 0))), (.int (0 : Int32)), (.ref a4)])) rfl rfl (hb hby d9_28)
  have R364 : ∀ t, Steps p.tables e below (T363.setTop (mkF m 33 #[.val (.ref a1), .val (.ref a2), .val (.int p3), .val (.ref a4), .val (.int (0 : Int32))] [(.int (0 : Int32)), (.ref b3), (.long (fk (o + wn 0))), (.int (0 : Int32)), (.ref a4)])) t → Steps p.tables e below (s₁.setTop (mkF m 0 #[.val (.ref a1), .val (.ref a2), .val (.int p3), .val (.ref a4), .unset] [])) t := by
    intro t kt
    refine R362 _ ?_
    refine st363 _ ?_
    show Steps p.tables e below (T363.setTop (mkF m 31 #[.val (.ref a1), .val (.ref a2), .val (.int p3), .val (.ref a4), .val (.int (0 : Int32))] [(.ref b3), (.long (fk (o + wn 0))), (.int (0 : Int32)), (.ref a4)])) _
    refine XS.iload X363.here hx rfl (hb hby d9_31) rfl ?_
    exact kt
  clear R362 st363
  obtain ⟨cl365, Ar365, hin365, hat365⟩ := VS.at (j := (0 : Int32)) (k := 0) (by decide) rfl (by decide)
  have R366 : ∀ t, Steps p.tables e below (T363.setTop (mkF m 36 #[.val (.ref a1), .val (.ref a2), .val (.int p3), .val (.ref a4), .val (.int (0 : Int32))] [(.ref a1), (.long (((fk (o + wn 0)).toUInt64 >>> ((sh 0) &&& 0x3f).toInt64.toUInt64).toInt64)), (.int (0 : Int32)), (.ref a4)])) t → Steps p.tables e below (s₁.setTop (mkF m 0 #[.val (.ref a1), .val (.ref a2), .val (.int p3), .val (.ref a4), .unset] [])) t := by
    intro t kt
    refine R364 _ ?_
    show Steps p.tables e below (T363.setTop (mkF m 33 #[.val (.ref a1), .val (.ref a2), .val (.int p3), .val (.ref a4), .val (.int (0 : Int32))] [(.int (0 : Int32)), (.ref b3), (.long (fk (o + wn 0))), (.int (0 : Int32)), (.ref a4)])) _
    refine X363.iaload hx (j := (0 : Int32)) (v := (.int (sh 0))) (by rw [e363]; exact Ar365.1) (State.isArrayOf_alike hZ.alike Ar365.2.1) Ar365.2.2 hin365 hat365 (g := (mkF m 33 #[.val (.ref a1), .val (.ref a2), .val (.int p3), .val (.ref a4), .val (.int (0 : Int32))] [(.int (0 : Int32)), (.ref b3), (.long (fk (o + wn 0))), (.int (0 : Int32)), (.ref a4)])) rfl rfl (hb hby d9_33) _ ?_
    show Steps p.tables e below (T363.setTop (mkF m 34 #[.val (.ref a1), .val (.ref a2), .val (.int p3), .val (.ref a4), .val (.int (0 : Int32))] [(.int (sh 0)), (.long (fk (o + wn 0))), (.int (0 : Int32)), (.ref a4)])) _
    refine XS.lushr X363.here hx rfl (hb hby d9_34) rfl ?_
    show Steps p.tables e below (T363.setTop (mkF m 35 #[.val (.ref a1), .val (.ref a2), .val (.int p3), .val (.ref a4), .val (.int (0 : Int32))] [(.long (((fk (o + wn 0)).toUInt64 >>> ((sh 0) &&& 0x3f).toInt64.toUInt64).toInt64)), (.int (0 : Int32)), (.ref a4)])) _
    refine XS.aloadN X363.here hx rfl (hb hby d9_35) rfl rfl ?_
    exact kt
  clear R364
  obtain ⟨T367, X367, e367, st367⟩ := getF X363 hx hZ hown (host := "") (Or.inl (hw _ (List.mem_of_getElem? (i := 38) rfl))) Via.refl e363 Fm (g := (mkF m 36 #[.val (.ref a1), .val (.ref a2), .val (.int p3), .val (.ref a4), .val (.int (0 : Int32))] [(.ref a1), (.long (((fk (o + wn 0)).toUInt64 >>> ((sh 0) &&& 0x3f).toInt64.toUInt64).toInt64)), (.int (0 : Int32)), (.ref a4)])) rfl rfl (hb hby d9_36)
  have R368 : ∀ t, Steps p.tables e below (T367.setTop (mkF m 41 #[.val (.ref a1), .val (.ref a2), .val (.int p3), .val (.ref a4), .val (.int (0 : Int32))] [(.int (0 : Int32)), (.ref b4), (.long (((fk (o + wn 0)).toUInt64 >>> ((sh 0) &&& 0x3f).toInt64.toUInt64).toInt64)), (.int (0 : Int32)), (.ref a4)])) t → Steps p.tables e below (s₁.setTop (mkF m 0 #[.val (.ref a1), .val (.ref a2), .val (.int p3), .val (.ref a4), .unset] [])) t := by
    intro t kt
    refine R366 _ ?_
    refine st367 _ ?_
    show Steps p.tables e below (T367.setTop (mkF m 39 #[.val (.ref a1), .val (.ref a2), .val (.int p3), .val (.ref a4), .val (.int (0 : Int32))] [(.ref b4), (.long (((fk (o + wn 0)).toUInt64 >>> ((sh 0) &&& 0x3f).toInt64.toUInt64).toInt64)), (.int (0 : Int32)), (.ref a4)])) _
    refine XS.iload X367.here hx rfl (hb hby d9_39) rfl ?_
    exact kt
  clear R366 st367
  obtain ⟨cl369, Ar369, hin369, hat369⟩ := VM.at (j := (0 : Int32)) (k := 0) (by decide) rfl (by decide)
  have R370 : ∀ t, Steps p.tables e below (T367.setTop (mkF m 44 #[.val (.ref a1), .val (.ref a2), .val (.int p3), .val (.ref a4), .val (.int (0 : Int32))] [(.ref a1), (.long ((((fk (o + wn 0)).toUInt64 >>> ((sh 0) &&& 0x3f).toInt64.toUInt64).toInt64) &&& (mk 0))), (.int (0 : Int32)), (.ref a4)])) t → Steps p.tables e below (s₁.setTop (mkF m 0 #[.val (.ref a1), .val (.ref a2), .val (.int p3), .val (.ref a4), .unset] [])) t := by
    intro t kt
    refine R368 _ ?_
    show Steps p.tables e below (T367.setTop (mkF m 41 #[.val (.ref a1), .val (.ref a2), .val (.int p3), .val (.ref a4), .val (.int (0 : Int32))] [(.int (0 : Int32)), (.ref b4), (.long (((fk (o + wn 0)).toUInt64 >>> ((sh 0) &&& 0x3f).toInt64.toUInt64).toInt64)), (.int (0 : Int32)), (.ref a4)])) _
    refine X367.laload hx (j := (0 : Int32)) (v := (.long (mk 0))) (by rw [e367]; exact Ar369.1) (State.isArrayOf_alike hZ.alike Ar369.2.1) Ar369.2.2 hin369 hat369 (g := (mkF m 41 #[.val (.ref a1), .val (.ref a2), .val (.int p3), .val (.ref a4), .val (.int (0 : Int32))] [(.int (0 : Int32)), (.ref b4), (.long (((fk (o + wn 0)).toUInt64 >>> ((sh 0) &&& 0x3f).toInt64.toUInt64).toInt64)), (.int (0 : Int32)), (.ref a4)])) rfl rfl (hb hby d9_41) _ ?_
    show Steps p.tables e below (T367.setTop (mkF m 42 #[.val (.ref a1), .val (.ref a2), .val (.int p3), .val (.ref a4), .val (.int (0 : Int32))] [(.long (mk 0)), (.long (((fk (o + wn 0)).toUInt64 >>> ((sh 0) &&& 0x3f).toInt64.toUInt64).toInt64)), (.int (0 : Int32)), (.ref a4)])) _
    refine XS.land X367.here hx rfl (hb hby d9_42) rfl ?_
    show Steps p.tables e below (T367.setTop (mkF m 43 #[.val (.ref a1), .val (.ref a2), .val (.int p3), .val (.ref a4), .val (.int (0 : Int32))] [(.long ((((fk (o + wn 0)).toUInt64 >>> ((sh 0) &&& 0x3f).toInt64.toUInt64).toInt64) &&& (mk 0))), (.int (0 : Int32)), (.ref a4)])) _
    refine XS.aloadN X367.here hx rfl (hb hby d9_43) rfl rfl ?_
    exact kt
  clear R368
  obtain ⟨T371, X371, e371, st371⟩ := getF X367 hx hZ hown (host := "") (Or.inl (hw _ (List.mem_of_getElem? (i := 31) rfl))) Via.refl e367 Fl (g := (mkF m 44 #[.val (.ref a1), .val (.ref a2), .val (.int p3), .val (.ref a4), .val (.int (0 : Int32))] [(.ref a1), (.long ((((fk (o + wn 0)).toUInt64 >>> ((sh 0) &&& 0x3f).toInt64.toUInt64).toInt64) &&& (mk 0))), (.int (0 : Int32)), (.ref a4)])) rfl rfl (hb hby d9_44)
  have R372 : ∀ t, Steps p.tables e below (T371.setTop (mkF m 49 #[.val (.ref a1), .val (.ref a2), .val (.int p3), .val (.ref a4), .val (.int (0 : Int32))] [(.int (0 : Int32)), (.ref b1), (.long ((((fk (o + wn 0)).toUInt64 >>> ((sh 0) &&& 0x3f).toInt64.toUInt64).toInt64) &&& (mk 0))), (.int (0 : Int32)), (.ref a4)])) t → Steps p.tables e below (s₁.setTop (mkF m 0 #[.val (.ref a1), .val (.ref a2), .val (.int p3), .val (.ref a4), .unset] [])) t := by
    intro t kt
    refine R370 _ ?_
    refine st371 _ ?_
    show Steps p.tables e below (T371.setTop (mkF m 47 #[.val (.ref a1), .val (.ref a2), .val (.int p3), .val (.ref a4), .val (.int (0 : Int32))] [(.ref b1), (.long ((((fk (o + wn 0)).toUInt64 >>> ((sh 0) &&& 0x3f).toInt64.toUInt64).toInt64) &&& (mk 0))), (.int (0 : Int32)), (.ref a4)])) _
    refine XS.iload X371.here hx rfl (hb hby d9_47) rfl ?_
    exact kt
  clear R370 st371
  obtain ⟨cl373, Ar373, hin373, hat373⟩ := VL.at (j := (0 : Int32)) (k := 0) (by decide) rfl (by decide)
  have R374 : ∀ t, Steps p.tables e below (T371.setTop (mkF m 53 #[.val (.ref a1), .val (.ref a2), .val (.int p3), .val (.ref a4), .val (.int (0 : Int32))] [(.int ((((((fk (o + wn 0)).toUInt64 >>> ((sh 0) &&& 0x3f).toInt64.toUInt64).toInt64) &&& (mk 0)) + ((lo 0).toInt64)).toInt32)), (.int (0 : Int32)), (.ref a4)])) t → Steps p.tables e below (s₁.setTop (mkF m 0 #[.val (.ref a1), .val (.ref a2), .val (.int p3), .val (.ref a4), .unset] [])) t := by
    intro t kt
    refine R372 _ ?_
    show Steps p.tables e below (T371.setTop (mkF m 49 #[.val (.ref a1), .val (.ref a2), .val (.int p3), .val (.ref a4), .val (.int (0 : Int32))] [(.int (0 : Int32)), (.ref b1), (.long ((((fk (o + wn 0)).toUInt64 >>> ((sh 0) &&& 0x3f).toInt64.toUInt64).toInt64) &&& (mk 0))), (.int (0 : Int32)), (.ref a4)])) _
    refine X371.iaload hx (j := (0 : Int32)) (v := (.int (lo 0))) (by rw [e371]; exact Ar373.1) (State.isArrayOf_alike hZ.alike Ar373.2.1) Ar373.2.2 hin373 hat373 (g := (mkF m 49 #[.val (.ref a1), .val (.ref a2), .val (.int p3), .val (.ref a4), .val (.int (0 : Int32))] [(.int (0 : Int32)), (.ref b1), (.long ((((fk (o + wn 0)).toUInt64 >>> ((sh 0) &&& 0x3f).toInt64.toUInt64).toInt64) &&& (mk 0))), (.int (0 : Int32)), (.ref a4)])) rfl rfl (hb hby d9_49) _ ?_
    show Steps p.tables e below (T371.setTop (mkF m 50 #[.val (.ref a1), .val (.ref a2), .val (.int p3), .val (.ref a4), .val (.int (0 : Int32))] [(.int (lo 0)), (.long ((((fk (o + wn 0)).toUInt64 >>> ((sh 0) &&& 0x3f).toInt64.toUInt64).toInt64) &&& (mk 0))), (.int (0 : Int32)), (.ref a4)])) _
    refine XS.i2l X371.here hx rfl (hb hby d9_50) rfl ?_
    show Steps p.tables e below (T371.setTop (mkF m 51 #[.val (.ref a1), .val (.ref a2), .val (.int p3), .val (.ref a4), .val (.int (0 : Int32))] [(.long ((lo 0).toInt64)), (.long ((((fk (o + wn 0)).toUInt64 >>> ((sh 0) &&& 0x3f).toInt64.toUInt64).toInt64) &&& (mk 0))), (.int (0 : Int32)), (.ref a4)])) _
    refine XS.ladd X371.here hx rfl (hb hby d9_51) rfl ?_
    show Steps p.tables e below (T371.setTop (mkF m 52 #[.val (.ref a1), .val (.ref a2), .val (.int p3), .val (.ref a4), .val (.int (0 : Int32))] [(.long (((((fk (o + wn 0)).toUInt64 >>> ((sh 0) &&& 0x3f).toInt64.toUInt64).toInt64) &&& (mk 0)) + ((lo 0).toInt64))), (.int (0 : Int32)), (.ref a4)])) _
    refine XS.l2i X371.here hx rfl (hb hby d9_52) rfl ?_
    exact kt
  clear R372
  obtain ⟨cl375, Ar375, hin375, -⟩ := VO.at (j := (0 : Int32)) (k := 0) (by decide) rfl (by decide)
  obtain ⟨T376, h376, X376, e376, W376, st376⟩ := stI X371 hx hZ e371 Ar375 (j := (0 : Int32)) hin375 (g := (mkF m 53 #[.val (.ref a1), .val (.ref a2), .val (.int p3), .val (.ref a4), .val (.int (0 : Int32))] [(.int ((((((fk (o + wn 0)).toUInt64 >>> ((sh 0) &&& 0x3f).toInt64.toUInt64).toInt64) &&& (mk 0)) + ((lo 0).toInt64)).toInt32)), (.int (0 : Int32)), (.ref a4)])) rfl rfl (hb hby d9_53)
  have N376 := Fr.snoc X376 N0 ga
  rw [show ((0 : Int32) : Int32).toNatClampNeg = 0 from rfl] at W376
  have VO_376 : AV Z h376 a4 .int 3 (fun j => .int ((own_set fo 0 (own_dec fk o wn lo sh mk 0)) j)) := VO.setI W376
  have Fl_376 := Fl.other W376 (Or.inl m1)
  have Fw_376 := Fw.other W376 (Or.inl m1)
  have Fs_376 := Fs.other W376 (Or.inl m1)
  have Fm_376 := Fm.other W376 (Or.inl m1)
  have VL_376 := VL.other W376 m3
  have VW_376 := VW.other W376 m4
  have VS_376 := VS.other W376 m5
  have VM_376 := VM.other W376 m6
  have VK_376 := VK.other W376 m2
  have Zs376 : n0 ≤ h376.size := Nat.le_trans Z0 (Keep.of_wr W376).1
  have Kw376 : Keep h0 h376 [a4] := Keep.wr (Keep.refl h0 [a4]) W376 (Or.inl (List.mem_of_getElem? (i := 0) rfl))
  have R377 : ∀ t, Steps p.tables e below (T376.setTop (mkF m 6 #[.val (.ref a1), .val (.ref a2), .val (.int p3), .val (.ref a4), .val (.int ((0 : Int32) + (1 : Int32)))] [(.ref a1), (.int ((0 : Int32) + (1 : Int32)))])) t → Steps p.tables e below (s₁.setTop (mkF m 0 #[.val (.ref a1), .val (.ref a2), .val (.int p3), .val (.ref a4), .unset] [])) t := by
    intro t kt
    refine R374 _ ?_
    refine st376 _ ?_
    show Steps p.tables e below (T376.setTop (mkF m 54 #[.val (.ref a1), .val (.ref a2), .val (.int p3), .val (.ref a4), .val (.int (0 : Int32))] [])) _
    refine XS.iinc X376.here hx rfl (hb hby d9_54) rfl (l' := #[.val (.ref a1), .val (.ref a2), .val (.int p3), .val (.ref a4), .val (.int ((0 : Int32) + (1 : Int32)))]) rfl ?_
    show Steps p.tables e below (T376.setTop (mkF m 57 #[.val (.ref a1), .val (.ref a2), .val (.int p3), .val (.ref a4), .val (.int ((0 : Int32) + (1 : Int32)))] [])) _
    refine XS.goto X376.here hx rfl (pc0 := 57) (pc' := 3) rfl (hb hby d9_57) (by decide) (by decide) ?_
    show Steps p.tables e below (T376.setTop (mkF m 3 #[.val (.ref a1), .val (.ref a2), .val (.int p3), .val (.ref a4), .val (.int ((0 : Int32) + (1 : Int32)))] [])) _
    refine XS.iload X376.here hx rfl (hb hby d9_3) rfl ?_
    show Steps p.tables e below (T376.setTop (mkF m 5 #[.val (.ref a1), .val (.ref a2), .val (.int p3), .val (.ref a4), .val (.int ((0 : Int32) + (1 : Int32)))] [(.int ((0 : Int32) + (1 : Int32)))])) _
    refine XS.aloadN X376.here hx rfl (hb hby d9_5) rfl rfl ?_
    exact kt
  clear R374 st376
  obtain ⟨T378, X378, e378, st378⟩ := getF X376 hx hZ hown (host := "") (Or.inl (hw _ (List.mem_of_getElem? (i := 31) rfl))) Via.refl e376 Fl_376 (g := (mkF m 6 #[.val (.ref a1), .val (.ref a2), .val (.int p3), .val (.ref a4), .val (.int ((0 : Int32) + (1 : Int32)))] [(.ref a1), (.int ((0 : Int32) + (1 : Int32)))])) rfl rfl (hb hby d9_6)
  have R379 : ∀ t, Steps p.tables e below (T378.setTop (mkF m 9 #[.val (.ref a1), .val (.ref a2), .val (.int p3), .val (.ref a4), .val (.int ((0 : Int32) + (1 : Int32)))] [(.ref b1), (.int ((0 : Int32) + (1 : Int32)))])) t → Steps p.tables e below (s₁.setTop (mkF m 0 #[.val (.ref a1), .val (.ref a2), .val (.int p3), .val (.ref a4), .unset] [])) t := by
    intro t kt
    refine R377 _ ?_
    refine st378 _ ?_
    exact kt
  clear R377 st378
  obtain ⟨cl380, Ar380, ln380⟩ := VL_376.len
  have R381 : ∀ t, Steps p.tables e below (T378.setTop (mkF m 19 #[.val (.ref a1), .val (.ref a2), .val (.int p3), .val (.ref a4), .val (.int ((0 : Int32) + (1 : Int32)))] [(.ref a1), (.int p3), (.ref a2), (.int ((0 : Int32) + (1 : Int32))), (.ref a4)])) t → Steps p.tables e below (s₁.setTop (mkF m 0 #[.val (.ref a1), .val (.ref a2), .val (.int p3), .val (.ref a4), .unset] [])) t := by
    intro t kt
    refine R379 _ ?_
    show Steps p.tables e below (T378.setTop (mkF m 9 #[.val (.ref a1), .val (.ref a2), .val (.int p3), .val (.ref a4), .val (.int ((0 : Int32) + (1 : Int32)))] [(.ref b1), (.int ((0 : Int32) + (1 : Int32)))])) _
    refine X378.arraylength hx (by rw [e378]; exact Ar380.1) (State.isArrayOf_alike hZ.alike Ar380.2.1) (g := (mkF m 9 #[.val (.ref a1), .val (.ref a2), .val (.int p3), .val (.ref a4), .val (.int ((0 : Int32) + (1 : Int32)))] [(.ref b1), (.int ((0 : Int32) + (1 : Int32)))])) rfl rfl (hb hby d9_9) _ ?_
    rw [ln380]
    show Steps p.tables e below (T378.setTop (mkF m 10 #[.val (.ref a1), .val (.ref a2), .val (.int p3), .val (.ref a4), .val (.int ((0 : Int32) + (1 : Int32)))] [(.int (3 : Int32)), (.int ((0 : Int32) + (1 : Int32)))])) _
    refine XS.icmpNo X378.here hx rfl (hb hby d9_10) rfl (tlt (by decide : ((0 : Int32) + (1 : Int32)) < (3 : Int32))).2.1 ?_
    show Steps p.tables e below (T378.setTop (mkF m 13 #[.val (.ref a1), .val (.ref a2), .val (.int p3), .val (.ref a4), .val (.int ((0 : Int32) + (1 : Int32)))] [])) _
    refine XS.aloadN X378.here hx rfl (hb hby d9_13) rfl rfl ?_
    show Steps p.tables e below (T378.setTop (mkF m 14 #[.val (.ref a1), .val (.ref a2), .val (.int p3), .val (.ref a4), .val (.int ((0 : Int32) + (1 : Int32)))] [(.ref a4)])) _
    refine XS.iload X378.here hx rfl (hb hby d9_14) rfl ?_
    show Steps p.tables e below (T378.setTop (mkF m 16 #[.val (.ref a1), .val (.ref a2), .val (.int p3), .val (.ref a4), .val (.int ((0 : Int32) + (1 : Int32)))] [(.int ((0 : Int32) + (1 : Int32))), (.ref a4)])) _
    refine XS.aloadN X378.here hx rfl (hb hby d9_16) rfl rfl ?_
    show Steps p.tables e below (T378.setTop (mkF m 17 #[.val (.ref a1), .val (.ref a2), .val (.int p3), .val (.ref a4), .val (.int ((0 : Int32) + (1 : Int32)))] [(.ref a2), (.int ((0 : Int32) + (1 : Int32))), (.ref a4)])) _
    refine XS.iloadN X378.here hx rfl (hb hby d9_17) rfl ?_
    show Steps p.tables e below (T378.setTop (mkF m 18 #[.val (.ref a1), .val (.ref a2), .val (.int p3), .val (.ref a4), .val (.int ((0 : Int32) + (1 : Int32)))] [(.int p3), (.ref a2), (.int ((0 : Int32) + (1 : Int32))), (.ref a4)])) _
    refine XS.aloadN X378.here hx rfl (hb hby d9_18) rfl rfl ?_
    exact kt
  clear R379
  obtain ⟨T382, X382, e382, st382⟩ := getF X378 hx hZ hown (host := "") (Or.inl (hw _ (List.mem_of_getElem? (i := 33) rfl))) Via.refl e378 Fw_376 (g := (mkF m 19 #[.val (.ref a1), .val (.ref a2), .val (.int p3), .val (.ref a4), .val (.int ((0 : Int32) + (1 : Int32)))] [(.ref a1), (.int p3), (.ref a2), (.int ((0 : Int32) + (1 : Int32))), (.ref a4)])) rfl rfl (hb hby d9_19)
  have R383 : ∀ t, Steps p.tables e below (T382.setTop (mkF m 24 #[.val (.ref a1), .val (.ref a2), .val (.int p3), .val (.ref a4), .val (.int ((0 : Int32) + (1 : Int32)))] [(.int ((0 : Int32) + (1 : Int32))), (.ref b2), (.int p3), (.ref a2), (.int ((0 : Int32) + (1 : Int32))), (.ref a4)])) t → Steps p.tables e below (s₁.setTop (mkF m 0 #[.val (.ref a1), .val (.ref a2), .val (.int p3), .val (.ref a4), .unset] [])) t := by
    intro t kt
    refine R381 _ ?_
    refine st382 _ ?_
    show Steps p.tables e below (T382.setTop (mkF m 22 #[.val (.ref a1), .val (.ref a2), .val (.int p3), .val (.ref a4), .val (.int ((0 : Int32) + (1 : Int32)))] [(.ref b2), (.int p3), (.ref a2), (.int ((0 : Int32) + (1 : Int32))), (.ref a4)])) _
    refine XS.iload X382.here hx rfl (hb hby d9_22) rfl ?_
    exact kt
  clear R381 st382
  obtain ⟨cl384, Ar384, hin384, hat384⟩ := VW_376.at (j := ((0 : Int32) + (1 : Int32))) (k := 1) (by decide) rfl (by decide)
  have R385 : ∀ t, Steps p.tables e below (T382.setTop (mkF m 26 #[.val (.ref a1), .val (.ref a2), .val (.int p3), .val (.ref a4), .val (.int ((0 : Int32) + (1 : Int32)))] [(.int (p3 + (wd 1))), (.ref a2), (.int ((0 : Int32) + (1 : Int32))), (.ref a4)])) t → Steps p.tables e below (s₁.setTop (mkF m 0 #[.val (.ref a1), .val (.ref a2), .val (.int p3), .val (.ref a4), .unset] [])) t := by
    intro t kt
    refine R383 _ ?_
    show Steps p.tables e below (T382.setTop (mkF m 24 #[.val (.ref a1), .val (.ref a2), .val (.int p3), .val (.ref a4), .val (.int ((0 : Int32) + (1 : Int32)))] [(.int ((0 : Int32) + (1 : Int32))), (.ref b2), (.int p3), (.ref a2), (.int ((0 : Int32) + (1 : Int32))), (.ref a4)])) _
    refine X382.iaload hx (j := ((0 : Int32) + (1 : Int32))) (v := (.int (wd 1))) (by rw [e382]; exact Ar384.1) (State.isArrayOf_alike hZ.alike Ar384.2.1) Ar384.2.2 hin384 hat384 (g := (mkF m 24 #[.val (.ref a1), .val (.ref a2), .val (.int p3), .val (.ref a4), .val (.int ((0 : Int32) + (1 : Int32)))] [(.int ((0 : Int32) + (1 : Int32))), (.ref b2), (.int p3), (.ref a2), (.int ((0 : Int32) + (1 : Int32))), (.ref a4)])) rfl rfl (hb hby d9_24) _ ?_
    show Steps p.tables e below (T382.setTop (mkF m 25 #[.val (.ref a1), .val (.ref a2), .val (.int p3), .val (.ref a4), .val (.int ((0 : Int32) + (1 : Int32)))] [(.int (wd 1)), (.int p3), (.ref a2), (.int ((0 : Int32) + (1 : Int32))), (.ref a4)])) _
    refine XS.iadd X382.here hx rfl (hb hby d9_25) rfl ?_
    exact kt
  clear R383
  have r_1 := own_ix p3 (wd 1) o (wn 1) NN ho c1 (Nat.lt_of_lt_of_le (Nat.add_lt_add_left d1 o) hnn) h8
  obtain ⟨cl386, Ar386, hin386, hat386⟩ := VK_376.at (j := (p3 + (wd 1))) (k := (o + wn 1)) r_1.1 r_1.2 (Nat.lt_of_lt_of_le (Nat.add_lt_add_left d1 o) hnn)
  have R387 : ∀ t, Steps p.tables e below (T382.setTop (mkF m 28 #[.val (.ref a1), .val (.ref a2), .val (.int p3), .val (.ref a4), .val (.int ((0 : Int32) + (1 : Int32)))] [(.ref a1), (.long (fk (o + wn 1))), (.int ((0 : Int32) + (1 : Int32))), (.ref a4)])) t → Steps p.tables e below (s₁.setTop (mkF m 0 #[.val (.ref a1), .val (.ref a2), .val (.int p3), .val (.ref a4), .unset] [])) t := by
    intro t kt
    refine R385 _ ?_
    show Steps p.tables e below (T382.setTop (mkF m 26 #[.val (.ref a1), .val (.ref a2), .val (.int p3), .val (.ref a4), .val (.int ((0 : Int32) + (1 : Int32)))] [(.int (p3 + (wd 1))), (.ref a2), (.int ((0 : Int32) + (1 : Int32))), (.ref a4)])) _
    refine X382.laload hx (j := (p3 + (wd 1))) (v := (.long (fk (o + wn 1)))) (by rw [e382]; exact Ar386.1) (State.isArrayOf_alike hZ.alike Ar386.2.1) Ar386.2.2 hin386 hat386 (g := (mkF m 26 #[.val (.ref a1), .val (.ref a2), .val (.int p3), .val (.ref a4), .val (.int ((0 : Int32) + (1 : Int32)))] [(.int (p3 + (wd 1))), (.ref a2), (.int ((0 : Int32) + (1 : Int32))), (.ref a4)])) rfl rfl (hb hby d9_26) _ ?_
    show Steps p.tables e below (T382.setTop (mkF m 27 #[.val (.ref a1), .val (.ref a2), .val (.int p3), .val (.ref a4), .val (.int ((0 : Int32) + (1 : Int32)))] [(.long (fk (o + wn 1))), (.int ((0 : Int32) + (1 : Int32))), (.ref a4)])) _
    refine XS.aloadN X382.here hx rfl (hb hby d9_27) rfl rfl ?_
    exact kt
  clear R385
  obtain ⟨T388, X388, e388, st388⟩ := getF X382 hx hZ hown (host := "") (Or.inl (hw _ (List.mem_of_getElem? (i := 35) rfl))) Via.refl e382 Fs_376 (g := (mkF m 28 #[.val (.ref a1), .val (.ref a2), .val (.int p3), .val (.ref a4), .val (.int ((0 : Int32) + (1 : Int32)))] [(.ref a1), (.long (fk (o + wn 1))), (.int ((0 : Int32) + (1 : Int32))), (.ref a4)])) rfl rfl (hb hby d9_28)
  have R389 : ∀ t, Steps p.tables e below (T388.setTop (mkF m 33 #[.val (.ref a1), .val (.ref a2), .val (.int p3), .val (.ref a4), .val (.int ((0 : Int32) + (1 : Int32)))] [(.int ((0 : Int32) + (1 : Int32))), (.ref b3), (.long (fk (o + wn 1))), (.int ((0 : Int32) + (1 : Int32))), (.ref a4)])) t → Steps p.tables e below (s₁.setTop (mkF m 0 #[.val (.ref a1), .val (.ref a2), .val (.int p3), .val (.ref a4), .unset] [])) t := by
    intro t kt
    refine R387 _ ?_
    refine st388 _ ?_
    show Steps p.tables e below (T388.setTop (mkF m 31 #[.val (.ref a1), .val (.ref a2), .val (.int p3), .val (.ref a4), .val (.int ((0 : Int32) + (1 : Int32)))] [(.ref b3), (.long (fk (o + wn 1))), (.int ((0 : Int32) + (1 : Int32))), (.ref a4)])) _
    refine XS.iload X388.here hx rfl (hb hby d9_31) rfl ?_
    exact kt
  clear R387 st388
  obtain ⟨cl390, Ar390, hin390, hat390⟩ := VS_376.at (j := ((0 : Int32) + (1 : Int32))) (k := 1) (by decide) rfl (by decide)
  have R391 : ∀ t, Steps p.tables e below (T388.setTop (mkF m 36 #[.val (.ref a1), .val (.ref a2), .val (.int p3), .val (.ref a4), .val (.int ((0 : Int32) + (1 : Int32)))] [(.ref a1), (.long (((fk (o + wn 1)).toUInt64 >>> ((sh 1) &&& 0x3f).toInt64.toUInt64).toInt64)), (.int ((0 : Int32) + (1 : Int32))), (.ref a4)])) t → Steps p.tables e below (s₁.setTop (mkF m 0 #[.val (.ref a1), .val (.ref a2), .val (.int p3), .val (.ref a4), .unset] [])) t := by
    intro t kt
    refine R389 _ ?_
    show Steps p.tables e below (T388.setTop (mkF m 33 #[.val (.ref a1), .val (.ref a2), .val (.int p3), .val (.ref a4), .val (.int ((0 : Int32) + (1 : Int32)))] [(.int ((0 : Int32) + (1 : Int32))), (.ref b3), (.long (fk (o + wn 1))), (.int ((0 : Int32) + (1 : Int32))), (.ref a4)])) _
    refine X388.iaload hx (j := ((0 : Int32) + (1 : Int32))) (v := (.int (sh 1))) (by rw [e388]; exact Ar390.1) (State.isArrayOf_alike hZ.alike Ar390.2.1) Ar390.2.2 hin390 hat390 (g := (mkF m 33 #[.val (.ref a1), .val (.ref a2), .val (.int p3), .val (.ref a4), .val (.int ((0 : Int32) + (1 : Int32)))] [(.int ((0 : Int32) + (1 : Int32))), (.ref b3), (.long (fk (o + wn 1))), (.int ((0 : Int32) + (1 : Int32))), (.ref a4)])) rfl rfl (hb hby d9_33) _ ?_
    show Steps p.tables e below (T388.setTop (mkF m 34 #[.val (.ref a1), .val (.ref a2), .val (.int p3), .val (.ref a4), .val (.int ((0 : Int32) + (1 : Int32)))] [(.int (sh 1)), (.long (fk (o + wn 1))), (.int ((0 : Int32) + (1 : Int32))), (.ref a4)])) _
    refine XS.lushr X388.here hx rfl (hb hby d9_34) rfl ?_
    show Steps p.tables e below (T388.setTop (mkF m 35 #[.val (.ref a1), .val (.ref a2), .val (.int p3), .val (.ref a4), .val (.int ((0 : Int32) + (1 : Int32)))] [(.long (((fk (o + wn 1)).toUInt64 >>> ((sh 1) &&& 0x3f).toInt64.toUInt64).toInt64)), (.int ((0 : Int32) + (1 : Int32))), (.ref a4)])) _
    refine XS.aloadN X388.here hx rfl (hb hby d9_35) rfl rfl ?_
    exact kt
  clear R389
  obtain ⟨T392, X392, e392, st392⟩ := getF X388 hx hZ hown (host := "") (Or.inl (hw _ (List.mem_of_getElem? (i := 38) rfl))) Via.refl e388 Fm_376 (g := (mkF m 36 #[.val (.ref a1), .val (.ref a2), .val (.int p3), .val (.ref a4), .val (.int ((0 : Int32) + (1 : Int32)))] [(.ref a1), (.long (((fk (o + wn 1)).toUInt64 >>> ((sh 1) &&& 0x3f).toInt64.toUInt64).toInt64)), (.int ((0 : Int32) + (1 : Int32))), (.ref a4)])) rfl rfl (hb hby d9_36)
  have R393 : ∀ t, Steps p.tables e below (T392.setTop (mkF m 41 #[.val (.ref a1), .val (.ref a2), .val (.int p3), .val (.ref a4), .val (.int ((0 : Int32) + (1 : Int32)))] [(.int ((0 : Int32) + (1 : Int32))), (.ref b4), (.long (((fk (o + wn 1)).toUInt64 >>> ((sh 1) &&& 0x3f).toInt64.toUInt64).toInt64)), (.int ((0 : Int32) + (1 : Int32))), (.ref a4)])) t → Steps p.tables e below (s₁.setTop (mkF m 0 #[.val (.ref a1), .val (.ref a2), .val (.int p3), .val (.ref a4), .unset] [])) t := by
    intro t kt
    refine R391 _ ?_
    refine st392 _ ?_
    show Steps p.tables e below (T392.setTop (mkF m 39 #[.val (.ref a1), .val (.ref a2), .val (.int p3), .val (.ref a4), .val (.int ((0 : Int32) + (1 : Int32)))] [(.ref b4), (.long (((fk (o + wn 1)).toUInt64 >>> ((sh 1) &&& 0x3f).toInt64.toUInt64).toInt64)), (.int ((0 : Int32) + (1 : Int32))), (.ref a4)])) _
    refine XS.iload X392.here hx rfl (hb hby d9_39) rfl ?_
    exact kt
  clear R391 st392
  obtain ⟨cl394, Ar394, hin394, hat394⟩ := VM_376.at (j := ((0 : Int32) + (1 : Int32))) (k := 1) (by decide) rfl (by decide)
  have R395 : ∀ t, Steps p.tables e below (T392.setTop (mkF m 44 #[.val (.ref a1), .val (.ref a2), .val (.int p3), .val (.ref a4), .val (.int ((0 : Int32) + (1 : Int32)))] [(.ref a1), (.long ((((fk (o + wn 1)).toUInt64 >>> ((sh 1) &&& 0x3f).toInt64.toUInt64).toInt64) &&& (mk 1))), (.int ((0 : Int32) + (1 : Int32))), (.ref a4)])) t → Steps p.tables e below (s₁.setTop (mkF m 0 #[.val (.ref a1), .val (.ref a2), .val (.int p3), .val (.ref a4), .unset] [])) t := by
    intro t kt
    refine R393 _ ?_
    show Steps p.tables e below (T392.setTop (mkF m 41 #[.val (.ref a1), .val (.ref a2), .val (.int p3), .val (.ref a4), .val (.int ((0 : Int32) + (1 : Int32)))] [(.int ((0 : Int32) + (1 : Int32))), (.ref b4), (.long (((fk (o + wn 1)).toUInt64 >>> ((sh 1) &&& 0x3f).toInt64.toUInt64).toInt64)), (.int ((0 : Int32) + (1 : Int32))), (.ref a4)])) _
    refine X392.laload hx (j := ((0 : Int32) + (1 : Int32))) (v := (.long (mk 1))) (by rw [e392]; exact Ar394.1) (State.isArrayOf_alike hZ.alike Ar394.2.1) Ar394.2.2 hin394 hat394 (g := (mkF m 41 #[.val (.ref a1), .val (.ref a2), .val (.int p3), .val (.ref a4), .val (.int ((0 : Int32) + (1 : Int32)))] [(.int ((0 : Int32) + (1 : Int32))), (.ref b4), (.long (((fk (o + wn 1)).toUInt64 >>> ((sh 1) &&& 0x3f).toInt64.toUInt64).toInt64)), (.int ((0 : Int32) + (1 : Int32))), (.ref a4)])) rfl rfl (hb hby d9_41) _ ?_
    show Steps p.tables e below (T392.setTop (mkF m 42 #[.val (.ref a1), .val (.ref a2), .val (.int p3), .val (.ref a4), .val (.int ((0 : Int32) + (1 : Int32)))] [(.long (mk 1)), (.long (((fk (o + wn 1)).toUInt64 >>> ((sh 1) &&& 0x3f).toInt64.toUInt64).toInt64)), (.int ((0 : Int32) + (1 : Int32))), (.ref a4)])) _
    refine XS.land X392.here hx rfl (hb hby d9_42) rfl ?_
    show Steps p.tables e below (T392.setTop (mkF m 43 #[.val (.ref a1), .val (.ref a2), .val (.int p3), .val (.ref a4), .val (.int ((0 : Int32) + (1 : Int32)))] [(.long ((((fk (o + wn 1)).toUInt64 >>> ((sh 1) &&& 0x3f).toInt64.toUInt64).toInt64) &&& (mk 1))), (.int ((0 : Int32) + (1 : Int32))), (.ref a4)])) _
    refine XS.aloadN X392.here hx rfl (hb hby d9_43) rfl rfl ?_
    exact kt
  clear R393
  obtain ⟨T396, X396, e396, st396⟩ := getF X392 hx hZ hown (host := "") (Or.inl (hw _ (List.mem_of_getElem? (i := 31) rfl))) Via.refl e392 Fl_376 (g := (mkF m 44 #[.val (.ref a1), .val (.ref a2), .val (.int p3), .val (.ref a4), .val (.int ((0 : Int32) + (1 : Int32)))] [(.ref a1), (.long ((((fk (o + wn 1)).toUInt64 >>> ((sh 1) &&& 0x3f).toInt64.toUInt64).toInt64) &&& (mk 1))), (.int ((0 : Int32) + (1 : Int32))), (.ref a4)])) rfl rfl (hb hby d9_44)
  have R397 : ∀ t, Steps p.tables e below (T396.setTop (mkF m 49 #[.val (.ref a1), .val (.ref a2), .val (.int p3), .val (.ref a4), .val (.int ((0 : Int32) + (1 : Int32)))] [(.int ((0 : Int32) + (1 : Int32))), (.ref b1), (.long ((((fk (o + wn 1)).toUInt64 >>> ((sh 1) &&& 0x3f).toInt64.toUInt64).toInt64) &&& (mk 1))), (.int ((0 : Int32) + (1 : Int32))), (.ref a4)])) t → Steps p.tables e below (s₁.setTop (mkF m 0 #[.val (.ref a1), .val (.ref a2), .val (.int p3), .val (.ref a4), .unset] [])) t := by
    intro t kt
    refine R395 _ ?_
    refine st396 _ ?_
    show Steps p.tables e below (T396.setTop (mkF m 47 #[.val (.ref a1), .val (.ref a2), .val (.int p3), .val (.ref a4), .val (.int ((0 : Int32) + (1 : Int32)))] [(.ref b1), (.long ((((fk (o + wn 1)).toUInt64 >>> ((sh 1) &&& 0x3f).toInt64.toUInt64).toInt64) &&& (mk 1))), (.int ((0 : Int32) + (1 : Int32))), (.ref a4)])) _
    refine XS.iload X396.here hx rfl (hb hby d9_47) rfl ?_
    exact kt
  clear R395 st396
  obtain ⟨cl398, Ar398, hin398, hat398⟩ := VL_376.at (j := ((0 : Int32) + (1 : Int32))) (k := 1) (by decide) rfl (by decide)
  have R399 : ∀ t, Steps p.tables e below (T396.setTop (mkF m 53 #[.val (.ref a1), .val (.ref a2), .val (.int p3), .val (.ref a4), .val (.int ((0 : Int32) + (1 : Int32)))] [(.int ((((((fk (o + wn 1)).toUInt64 >>> ((sh 1) &&& 0x3f).toInt64.toUInt64).toInt64) &&& (mk 1)) + ((lo 1).toInt64)).toInt32)), (.int ((0 : Int32) + (1 : Int32))), (.ref a4)])) t → Steps p.tables e below (s₁.setTop (mkF m 0 #[.val (.ref a1), .val (.ref a2), .val (.int p3), .val (.ref a4), .unset] [])) t := by
    intro t kt
    refine R397 _ ?_
    show Steps p.tables e below (T396.setTop (mkF m 49 #[.val (.ref a1), .val (.ref a2), .val (.int p3), .val (.ref a4), .val (.int ((0 : Int32) + (1 : Int32)))] [(.int ((0 : Int32) + (1 : Int32))), (.ref b1), (.long ((((fk (o + wn 1)).toUInt64 >>> ((sh 1) &&& 0x3f).toInt64.toUInt64).toInt64) &&& (mk 1))), (.int ((0 : Int32) + (1 : Int32))), (.ref a4)])) _
    refine X396.iaload hx (j := ((0 : Int32) + (1 : Int32))) (v := (.int (lo 1))) (by rw [e396]; exact Ar398.1) (State.isArrayOf_alike hZ.alike Ar398.2.1) Ar398.2.2 hin398 hat398 (g := (mkF m 49 #[.val (.ref a1), .val (.ref a2), .val (.int p3), .val (.ref a4), .val (.int ((0 : Int32) + (1 : Int32)))] [(.int ((0 : Int32) + (1 : Int32))), (.ref b1), (.long ((((fk (o + wn 1)).toUInt64 >>> ((sh 1) &&& 0x3f).toInt64.toUInt64).toInt64) &&& (mk 1))), (.int ((0 : Int32) + (1 : Int32))), (.ref a4)])) rfl rfl (hb hby d9_49) _ ?_
    show Steps p.tables e below (T396.setTop (mkF m 50 #[.val (.ref a1), .val (.ref a2), .val (.int p3), .val (.ref a4), .val (.int ((0 : Int32) + (1 : Int32)))] [(.int (lo 1)), (.long ((((fk (o + wn 1)).toUInt64 >>> ((sh 1) &&& 0x3f).toInt64.toUInt64).toInt64) &&& (mk 1))), (.int ((0 : Int32) + (1 : Int32))), (.ref a4)])) _
    refine XS.i2l X396.here hx rfl (hb hby d9_50) rfl ?_
    show Steps p.tables e below (T396.setTop (mkF m 51 #[.val (.ref a1), .val (.ref a2), .val (.int p3), .val (.ref a4), .val (.int ((0 : Int32) + (1 : Int32)))] [(.long ((lo 1).toInt64)), (.long ((((fk (o + wn 1)).toUInt64 >>> ((sh 1) &&& 0x3f).toInt64.toUInt64).toInt64) &&& (mk 1))), (.int ((0 : Int32) + (1 : Int32))), (.ref a4)])) _
    refine XS.ladd X396.here hx rfl (hb hby d9_51) rfl ?_
    show Steps p.tables e below (T396.setTop (mkF m 52 #[.val (.ref a1), .val (.ref a2), .val (.int p3), .val (.ref a4), .val (.int ((0 : Int32) + (1 : Int32)))] [(.long (((((fk (o + wn 1)).toUInt64 >>> ((sh 1) &&& 0x3f).toInt64.toUInt64).toInt64) &&& (mk 1)) + ((lo 1).toInt64))), (.int ((0 : Int32) + (1 : Int32))), (.ref a4)])) _
    refine XS.l2i X396.here hx rfl (hb hby d9_52) rfl ?_
    exact kt
  clear R397
  obtain ⟨cl400, Ar400, hin400, -⟩ := VO_376.at (j := ((0 : Int32) + (1 : Int32))) (k := 1) (by decide) rfl (by decide)
  obtain ⟨T401, h401, X401, e401, W401, st401⟩ := stI X396 hx hZ e396 Ar400 (j := ((0 : Int32) + (1 : Int32))) hin400 (g := (mkF m 53 #[.val (.ref a1), .val (.ref a2), .val (.int p3), .val (.ref a4), .val (.int ((0 : Int32) + (1 : Int32)))] [(.int ((((((fk (o + wn 1)).toUInt64 >>> ((sh 1) &&& 0x3f).toInt64.toUInt64).toInt64) &&& (mk 1)) + ((lo 1).toInt64)).toInt32)), (.int ((0 : Int32) + (1 : Int32))), (.ref a4)])) rfl rfl (hb hby d9_53)
  have N401 := Fr.snoc X401 N376 ga
  rw [show (((0 : Int32) + (1 : Int32)) : Int32).toNatClampNeg = 1 from rfl] at W401
  have VO_401 : AV Z h401 a4 .int 3 (fun j => .int ((own_set (own_set fo 0 (own_dec fk o wn lo sh mk 0)) 1 (own_dec fk o wn lo sh mk 1)) j)) := VO_376.setI W401
  have Fl_401 := Fl_376.other W401 (Or.inl m1)
  have Fw_401 := Fw_376.other W401 (Or.inl m1)
  have Fs_401 := Fs_376.other W401 (Or.inl m1)
  have Fm_401 := Fm_376.other W401 (Or.inl m1)
  have VL_401 := VL_376.other W401 m3
  have VW_401 := VW_376.other W401 m4
  have VS_401 := VS_376.other W401 m5
  have VM_401 := VM_376.other W401 m6
  have VK_401 := VK_376.other W401 m2
  clear Fl_376 Fw_376 Fs_376 Fm_376 VL_376 VW_376 VS_376 VM_376 VK_376
  have Zs401 : n0 ≤ h401.size := Nat.le_trans Zs376 (Keep.of_wr W401).1
  have Kw401 : Keep h0 h401 [a4] := Keep.wr Kw376 W401 (Or.inl (List.mem_of_getElem? (i := 0) rfl))
  have R402 : ∀ t, Steps p.tables e below (T401.setTop (mkF m 6 #[.val (.ref a1), .val (.ref a2), .val (.int p3), .val (.ref a4), .val (.int (((0 : Int32) + (1 : Int32)) + (1 : Int32)))] [(.ref a1), (.int (((0 : Int32) + (1 : Int32)) + (1 : Int32)))])) t → Steps p.tables e below (s₁.setTop (mkF m 0 #[.val (.ref a1), .val (.ref a2), .val (.int p3), .val (.ref a4), .unset] [])) t := by
    intro t kt
    refine R399 _ ?_
    refine st401 _ ?_
    show Steps p.tables e below (T401.setTop (mkF m 54 #[.val (.ref a1), .val (.ref a2), .val (.int p3), .val (.ref a4), .val (.int ((0 : Int32) + (1 : Int32)))] [])) _
    refine XS.iinc X401.here hx rfl (hb hby d9_54) rfl (l' := #[.val (.ref a1), .val (.ref a2), .val (.int p3), .val (.ref a4), .val (.int (((0 : Int32) + (1 : Int32)) + (1 : Int32)))]) rfl ?_
    show Steps p.tables e below (T401.setTop (mkF m 57 #[.val (.ref a1), .val (.ref a2), .val (.int p3), .val (.ref a4), .val (.int (((0 : Int32) + (1 : Int32)) + (1 : Int32)))] [])) _
    refine XS.goto X401.here hx rfl (pc0 := 57) (pc' := 3) rfl (hb hby d9_57) (by decide) (by decide) ?_
    show Steps p.tables e below (T401.setTop (mkF m 3 #[.val (.ref a1), .val (.ref a2), .val (.int p3), .val (.ref a4), .val (.int (((0 : Int32) + (1 : Int32)) + (1 : Int32)))] [])) _
    refine XS.iload X401.here hx rfl (hb hby d9_3) rfl ?_
    show Steps p.tables e below (T401.setTop (mkF m 5 #[.val (.ref a1), .val (.ref a2), .val (.int p3), .val (.ref a4), .val (.int (((0 : Int32) + (1 : Int32)) + (1 : Int32)))] [(.int (((0 : Int32) + (1 : Int32)) + (1 : Int32)))])) _
    refine XS.aloadN X401.here hx rfl (hb hby d9_5) rfl rfl ?_
    exact kt
  clear R399 st401
  obtain ⟨T403, X403, e403, st403⟩ := getF X401 hx hZ hown (host := "") (Or.inl (hw _ (List.mem_of_getElem? (i := 31) rfl))) Via.refl e401 Fl_401 (g := (mkF m 6 #[.val (.ref a1), .val (.ref a2), .val (.int p3), .val (.ref a4), .val (.int (((0 : Int32) + (1 : Int32)) + (1 : Int32)))] [(.ref a1), (.int (((0 : Int32) + (1 : Int32)) + (1 : Int32)))])) rfl rfl (hb hby d9_6)
  have R404 : ∀ t, Steps p.tables e below (T403.setTop (mkF m 9 #[.val (.ref a1), .val (.ref a2), .val (.int p3), .val (.ref a4), .val (.int (((0 : Int32) + (1 : Int32)) + (1 : Int32)))] [(.ref b1), (.int (((0 : Int32) + (1 : Int32)) + (1 : Int32)))])) t → Steps p.tables e below (s₁.setTop (mkF m 0 #[.val (.ref a1), .val (.ref a2), .val (.int p3), .val (.ref a4), .unset] [])) t := by
    intro t kt
    refine R402 _ ?_
    refine st403 _ ?_
    exact kt
  clear R402 st403
  obtain ⟨cl405, Ar405, ln405⟩ := VL_401.len
  have R406 : ∀ t, Steps p.tables e below (T403.setTop (mkF m 19 #[.val (.ref a1), .val (.ref a2), .val (.int p3), .val (.ref a4), .val (.int (((0 : Int32) + (1 : Int32)) + (1 : Int32)))] [(.ref a1), (.int p3), (.ref a2), (.int (((0 : Int32) + (1 : Int32)) + (1 : Int32))), (.ref a4)])) t → Steps p.tables e below (s₁.setTop (mkF m 0 #[.val (.ref a1), .val (.ref a2), .val (.int p3), .val (.ref a4), .unset] [])) t := by
    intro t kt
    refine R404 _ ?_
    show Steps p.tables e below (T403.setTop (mkF m 9 #[.val (.ref a1), .val (.ref a2), .val (.int p3), .val (.ref a4), .val (.int (((0 : Int32) + (1 : Int32)) + (1 : Int32)))] [(.ref b1), (.int (((0 : Int32) + (1 : Int32)) + (1 : Int32)))])) _
    refine X403.arraylength hx (by rw [e403]; exact Ar405.1) (State.isArrayOf_alike hZ.alike Ar405.2.1) (g := (mkF m 9 #[.val (.ref a1), .val (.ref a2), .val (.int p3), .val (.ref a4), .val (.int (((0 : Int32) + (1 : Int32)) + (1 : Int32)))] [(.ref b1), (.int (((0 : Int32) + (1 : Int32)) + (1 : Int32)))])) rfl rfl (hb hby d9_9) _ ?_
    rw [ln405]
    show Steps p.tables e below (T403.setTop (mkF m 10 #[.val (.ref a1), .val (.ref a2), .val (.int p3), .val (.ref a4), .val (.int (((0 : Int32) + (1 : Int32)) + (1 : Int32)))] [(.int (3 : Int32)), (.int (((0 : Int32) + (1 : Int32)) + (1 : Int32)))])) _
    refine XS.icmpNo X403.here hx rfl (hb hby d9_10) rfl (tlt (by decide : (((0 : Int32) + (1 : Int32)) + (1 : Int32)) < (3 : Int32))).2.1 ?_
    show Steps p.tables e below (T403.setTop (mkF m 13 #[.val (.ref a1), .val (.ref a2), .val (.int p3), .val (.ref a4), .val (.int (((0 : Int32) + (1 : Int32)) + (1 : Int32)))] [])) _
    refine XS.aloadN X403.here hx rfl (hb hby d9_13) rfl rfl ?_
    show Steps p.tables e below (T403.setTop (mkF m 14 #[.val (.ref a1), .val (.ref a2), .val (.int p3), .val (.ref a4), .val (.int (((0 : Int32) + (1 : Int32)) + (1 : Int32)))] [(.ref a4)])) _
    refine XS.iload X403.here hx rfl (hb hby d9_14) rfl ?_
    show Steps p.tables e below (T403.setTop (mkF m 16 #[.val (.ref a1), .val (.ref a2), .val (.int p3), .val (.ref a4), .val (.int (((0 : Int32) + (1 : Int32)) + (1 : Int32)))] [(.int (((0 : Int32) + (1 : Int32)) + (1 : Int32))), (.ref a4)])) _
    refine XS.aloadN X403.here hx rfl (hb hby d9_16) rfl rfl ?_
    show Steps p.tables e below (T403.setTop (mkF m 17 #[.val (.ref a1), .val (.ref a2), .val (.int p3), .val (.ref a4), .val (.int (((0 : Int32) + (1 : Int32)) + (1 : Int32)))] [(.ref a2), (.int (((0 : Int32) + (1 : Int32)) + (1 : Int32))), (.ref a4)])) _
    refine XS.iloadN X403.here hx rfl (hb hby d9_17) rfl ?_
    show Steps p.tables e below (T403.setTop (mkF m 18 #[.val (.ref a1), .val (.ref a2), .val (.int p3), .val (.ref a4), .val (.int (((0 : Int32) + (1 : Int32)) + (1 : Int32)))] [(.int p3), (.ref a2), (.int (((0 : Int32) + (1 : Int32)) + (1 : Int32))), (.ref a4)])) _
    refine XS.aloadN X403.here hx rfl (hb hby d9_18) rfl rfl ?_
    exact kt
  clear R404
  obtain ⟨T407, X407, e407, st407⟩ := getF X403 hx hZ hown (host := "") (Or.inl (hw _ (List.mem_of_getElem? (i := 33) rfl))) Via.refl e403 Fw_401 (g := (mkF m 19 #[.val (.ref a1), .val (.ref a2), .val (.int p3), .val (.ref a4), .val (.int (((0 : Int32) + (1 : Int32)) + (1 : Int32)))] [(.ref a1), (.int p3), (.ref a2), (.int (((0 : Int32) + (1 : Int32)) + (1 : Int32))), (.ref a4)])) rfl rfl (hb hby d9_19)
  have R408 : ∀ t, Steps p.tables e below (T407.setTop (mkF m 24 #[.val (.ref a1), .val (.ref a2), .val (.int p3), .val (.ref a4), .val (.int (((0 : Int32) + (1 : Int32)) + (1 : Int32)))] [(.int (((0 : Int32) + (1 : Int32)) + (1 : Int32))), (.ref b2), (.int p3), (.ref a2), (.int (((0 : Int32) + (1 : Int32)) + (1 : Int32))), (.ref a4)])) t → Steps p.tables e below (s₁.setTop (mkF m 0 #[.val (.ref a1), .val (.ref a2), .val (.int p3), .val (.ref a4), .unset] [])) t := by
    intro t kt
    refine R406 _ ?_
    refine st407 _ ?_
    show Steps p.tables e below (T407.setTop (mkF m 22 #[.val (.ref a1), .val (.ref a2), .val (.int p3), .val (.ref a4), .val (.int (((0 : Int32) + (1 : Int32)) + (1 : Int32)))] [(.ref b2), (.int p3), (.ref a2), (.int (((0 : Int32) + (1 : Int32)) + (1 : Int32))), (.ref a4)])) _
    refine XS.iload X407.here hx rfl (hb hby d9_22) rfl ?_
    exact kt
  clear R406 st407
  obtain ⟨cl409, Ar409, hin409, hat409⟩ := VW_401.at (j := (((0 : Int32) + (1 : Int32)) + (1 : Int32))) (k := 2) (by decide) rfl (by decide)
  have R410 : ∀ t, Steps p.tables e below (T407.setTop (mkF m 26 #[.val (.ref a1), .val (.ref a2), .val (.int p3), .val (.ref a4), .val (.int (((0 : Int32) + (1 : Int32)) + (1 : Int32)))] [(.int (p3 + (wd 2))), (.ref a2), (.int (((0 : Int32) + (1 : Int32)) + (1 : Int32))), (.ref a4)])) t → Steps p.tables e below (s₁.setTop (mkF m 0 #[.val (.ref a1), .val (.ref a2), .val (.int p3), .val (.ref a4), .unset] [])) t := by
    intro t kt
    refine R408 _ ?_
    show Steps p.tables e below (T407.setTop (mkF m 24 #[.val (.ref a1), .val (.ref a2), .val (.int p3), .val (.ref a4), .val (.int (((0 : Int32) + (1 : Int32)) + (1 : Int32)))] [(.int (((0 : Int32) + (1 : Int32)) + (1 : Int32))), (.ref b2), (.int p3), (.ref a2), (.int (((0 : Int32) + (1 : Int32)) + (1 : Int32))), (.ref a4)])) _
    refine X407.iaload hx (j := (((0 : Int32) + (1 : Int32)) + (1 : Int32))) (v := (.int (wd 2))) (by rw [e407]; exact Ar409.1) (State.isArrayOf_alike hZ.alike Ar409.2.1) Ar409.2.2 hin409 hat409 (g := (mkF m 24 #[.val (.ref a1), .val (.ref a2), .val (.int p3), .val (.ref a4), .val (.int (((0 : Int32) + (1 : Int32)) + (1 : Int32)))] [(.int (((0 : Int32) + (1 : Int32)) + (1 : Int32))), (.ref b2), (.int p3), (.ref a2), (.int (((0 : Int32) + (1 : Int32)) + (1 : Int32))), (.ref a4)])) rfl rfl (hb hby d9_24) _ ?_
    show Steps p.tables e below (T407.setTop (mkF m 25 #[.val (.ref a1), .val (.ref a2), .val (.int p3), .val (.ref a4), .val (.int (((0 : Int32) + (1 : Int32)) + (1 : Int32)))] [(.int (wd 2)), (.int p3), (.ref a2), (.int (((0 : Int32) + (1 : Int32)) + (1 : Int32))), (.ref a4)])) _
    refine XS.iadd X407.here hx rfl (hb hby d9_25) rfl ?_
    exact kt
  clear R408
  have r_2 := own_ix p3 (wd 2) o (wn 2) NN ho c2 (Nat.lt_of_lt_of_le (Nat.add_lt_add_left d2 o) hnn) h8
  obtain ⟨cl411, Ar411, hin411, hat411⟩ := VK_401.at (j := (p3 + (wd 2))) (k := (o + wn 2)) r_2.1 r_2.2 (Nat.lt_of_lt_of_le (Nat.add_lt_add_left d2 o) hnn)
  have R412 : ∀ t, Steps p.tables e below (T407.setTop (mkF m 28 #[.val (.ref a1), .val (.ref a2), .val (.int p3), .val (.ref a4), .val (.int (((0 : Int32) + (1 : Int32)) + (1 : Int32)))] [(.ref a1), (.long (fk (o + wn 2))), (.int (((0 : Int32) + (1 : Int32)) + (1 : Int32))), (.ref a4)])) t → Steps p.tables e below (s₁.setTop (mkF m 0 #[.val (.ref a1), .val (.ref a2), .val (.int p3), .val (.ref a4), .unset] [])) t := by
    intro t kt
    refine R410 _ ?_
    show Steps p.tables e below (T407.setTop (mkF m 26 #[.val (.ref a1), .val (.ref a2), .val (.int p3), .val (.ref a4), .val (.int (((0 : Int32) + (1 : Int32)) + (1 : Int32)))] [(.int (p3 + (wd 2))), (.ref a2), (.int (((0 : Int32) + (1 : Int32)) + (1 : Int32))), (.ref a4)])) _
    refine X407.laload hx (j := (p3 + (wd 2))) (v := (.long (fk (o + wn 2)))) (by rw [e407]; exact Ar411.1) (State.isArrayOf_alike hZ.alike Ar411.2.1) Ar411.2.2 hin411 hat411 (g := (mkF m 26 #[.val (.ref a1), .val (.ref a2), .val (.int p3), .val (.ref a4), .val (.int (((0 : Int32) + (1 : Int32)) + (1 : Int32)))] [(.int (p3 + (wd 2))), (.ref a2), (.int (((0 : Int32) + (1 : Int32)) + (1 : Int32))), (.ref a4)])) rfl rfl (hb hby d9_26) _ ?_
    show Steps p.tables e below (T407.setTop (mkF m 27 #[.val (.ref a1), .val (.ref a2), .val (.int p3), .val (.ref a4), .val (.int (((0 : Int32) + (1 : Int32)) + (1 : Int32)))] [(.long (fk (o + wn 2))), (.int (((0 : Int32) + (1 : Int32)) + (1 : Int32))), (.ref a4)])) _
    refine XS.aloadN X407.here hx rfl (hb hby d9_27) rfl rfl ?_
    exact kt
  clear R410
  obtain ⟨T413, X413, e413, st413⟩ := getF X407 hx hZ hown (host := "") (Or.inl (hw _ (List.mem_of_getElem? (i := 35) rfl))) Via.refl e407 Fs_401 (g := (mkF m 28 #[.val (.ref a1), .val (.ref a2), .val (.int p3), .val (.ref a4), .val (.int (((0 : Int32) + (1 : Int32)) + (1 : Int32)))] [(.ref a1), (.long (fk (o + wn 2))), (.int (((0 : Int32) + (1 : Int32)) + (1 : Int32))), (.ref a4)])) rfl rfl (hb hby d9_28)
  have R414 : ∀ t, Steps p.tables e below (T413.setTop (mkF m 33 #[.val (.ref a1), .val (.ref a2), .val (.int p3), .val (.ref a4), .val (.int (((0 : Int32) + (1 : Int32)) + (1 : Int32)))] [(.int (((0 : Int32) + (1 : Int32)) + (1 : Int32))), (.ref b3), (.long (fk (o + wn 2))), (.int (((0 : Int32) + (1 : Int32)) + (1 : Int32))), (.ref a4)])) t → Steps p.tables e below (s₁.setTop (mkF m 0 #[.val (.ref a1), .val (.ref a2), .val (.int p3), .val (.ref a4), .unset] [])) t := by
    intro t kt
    refine R412 _ ?_
    refine st413 _ ?_
    show Steps p.tables e below (T413.setTop (mkF m 31 #[.val (.ref a1), .val (.ref a2), .val (.int p3), .val (.ref a4), .val (.int (((0 : Int32) + (1 : Int32)) + (1 : Int32)))] [(.ref b3), (.long (fk (o + wn 2))), (.int (((0 : Int32) + (1 : Int32)) + (1 : Int32))), (.ref a4)])) _
    refine XS.iload X413.here hx rfl (hb hby d9_31) rfl ?_
    exact kt
  clear R412 st413
  obtain ⟨cl415, Ar415, hin415, hat415⟩ := VS_401.at (j := (((0 : Int32) + (1 : Int32)) + (1 : Int32))) (k := 2) (by decide) rfl (by decide)
  have R416 : ∀ t, Steps p.tables e below (T413.setTop (mkF m 36 #[.val (.ref a1), .val (.ref a2), .val (.int p3), .val (.ref a4), .val (.int (((0 : Int32) + (1 : Int32)) + (1 : Int32)))] [(.ref a1), (.long (((fk (o + wn 2)).toUInt64 >>> ((sh 2) &&& 0x3f).toInt64.toUInt64).toInt64)), (.int (((0 : Int32) + (1 : Int32)) + (1 : Int32))), (.ref a4)])) t → Steps p.tables e below (s₁.setTop (mkF m 0 #[.val (.ref a1), .val (.ref a2), .val (.int p3), .val (.ref a4), .unset] [])) t := by
    intro t kt
    refine R414 _ ?_
    show Steps p.tables e below (T413.setTop (mkF m 33 #[.val (.ref a1), .val (.ref a2), .val (.int p3), .val (.ref a4), .val (.int (((0 : Int32) + (1 : Int32)) + (1 : Int32)))] [(.int (((0 : Int32) + (1 : Int32)) + (1 : Int32))), (.ref b3), (.long (fk (o + wn 2))), (.int (((0 : Int32) + (1 : Int32)) + (1 : Int32))), (.ref a4)])) _
    refine X413.iaload hx (j := (((0 : Int32) + (1 : Int32)) + (1 : Int32))) (v := (.int (sh 2))) (by rw [e413]; exact Ar415.1) (State.isArrayOf_alike hZ.alike Ar415.2.1) Ar415.2.2 hin415 hat415 (g := (mkF m 33 #[.val (.ref a1), .val (.ref a2), .val (.int p3), .val (.ref a4), .val (.int (((0 : Int32) + (1 : Int32)) + (1 : Int32)))] [(.int (((0 : Int32) + (1 : Int32)) + (1 : Int32))), (.ref b3), (.long (fk (o + wn 2))), (.int (((0 : Int32) + (1 : Int32)) + (1 : Int32))), (.ref a4)])) rfl rfl (hb hby d9_33) _ ?_
    show Steps p.tables e below (T413.setTop (mkF m 34 #[.val (.ref a1), .val (.ref a2), .val (.int p3), .val (.ref a4), .val (.int (((0 : Int32) + (1 : Int32)) + (1 : Int32)))] [(.int (sh 2)), (.long (fk (o + wn 2))), (.int (((0 : Int32) + (1 : Int32)) + (1 : Int32))), (.ref a4)])) _
    refine XS.lushr X413.here hx rfl (hb hby d9_34) rfl ?_
    show Steps p.tables e below (T413.setTop (mkF m 35 #[.val (.ref a1), .val (.ref a2), .val (.int p3), .val (.ref a4), .val (.int (((0 : Int32) + (1 : Int32)) + (1 : Int32)))] [(.long (((fk (o + wn 2)).toUInt64 >>> ((sh 2) &&& 0x3f).toInt64.toUInt64).toInt64)), (.int (((0 : Int32) + (1 : Int32)) + (1 : Int32))), (.ref a4)])) _
    refine XS.aloadN X413.here hx rfl (hb hby d9_35) rfl rfl ?_
    exact kt
  clear R414
  obtain ⟨T417, X417, e417, st417⟩ := getF X413 hx hZ hown (host := "") (Or.inl (hw _ (List.mem_of_getElem? (i := 38) rfl))) Via.refl e413 Fm_401 (g := (mkF m 36 #[.val (.ref a1), .val (.ref a2), .val (.int p3), .val (.ref a4), .val (.int (((0 : Int32) + (1 : Int32)) + (1 : Int32)))] [(.ref a1), (.long (((fk (o + wn 2)).toUInt64 >>> ((sh 2) &&& 0x3f).toInt64.toUInt64).toInt64)), (.int (((0 : Int32) + (1 : Int32)) + (1 : Int32))), (.ref a4)])) rfl rfl (hb hby d9_36)
  have R418 : ∀ t, Steps p.tables e below (T417.setTop (mkF m 41 #[.val (.ref a1), .val (.ref a2), .val (.int p3), .val (.ref a4), .val (.int (((0 : Int32) + (1 : Int32)) + (1 : Int32)))] [(.int (((0 : Int32) + (1 : Int32)) + (1 : Int32))), (.ref b4), (.long (((fk (o + wn 2)).toUInt64 >>> ((sh 2) &&& 0x3f).toInt64.toUInt64).toInt64)), (.int (((0 : Int32) + (1 : Int32)) + (1 : Int32))), (.ref a4)])) t → Steps p.tables e below (s₁.setTop (mkF m 0 #[.val (.ref a1), .val (.ref a2), .val (.int p3), .val (.ref a4), .unset] [])) t := by
    intro t kt
    refine R416 _ ?_
    refine st417 _ ?_
    show Steps p.tables e below (T417.setTop (mkF m 39 #[.val (.ref a1), .val (.ref a2), .val (.int p3), .val (.ref a4), .val (.int (((0 : Int32) + (1 : Int32)) + (1 : Int32)))] [(.ref b4), (.long (((fk (o + wn 2)).toUInt64 >>> ((sh 2) &&& 0x3f).toInt64.toUInt64).toInt64)), (.int (((0 : Int32) + (1 : Int32)) + (1 : Int32))), (.ref a4)])) _
    refine XS.iload X417.here hx rfl (hb hby d9_39) rfl ?_
    exact kt
  clear R416 st417
  obtain ⟨cl419, Ar419, hin419, hat419⟩ := VM_401.at (j := (((0 : Int32) + (1 : Int32)) + (1 : Int32))) (k := 2) (by decide) rfl (by decide)
  have R420 : ∀ t, Steps p.tables e below (T417.setTop (mkF m 44 #[.val (.ref a1), .val (.ref a2), .val (.int p3), .val (.ref a4), .val (.int (((0 : Int32) + (1 : Int32)) + (1 : Int32)))] [(.ref a1), (.long ((((fk (o + wn 2)).toUInt64 >>> ((sh 2) &&& 0x3f).toInt64.toUInt64).toInt64) &&& (mk 2))), (.int (((0 : Int32) + (1 : Int32)) + (1 : Int32))), (.ref a4)])) t → Steps p.tables e below (s₁.setTop (mkF m 0 #[.val (.ref a1), .val (.ref a2), .val (.int p3), .val (.ref a4), .unset] [])) t := by
    intro t kt
    refine R418 _ ?_
    show Steps p.tables e below (T417.setTop (mkF m 41 #[.val (.ref a1), .val (.ref a2), .val (.int p3), .val (.ref a4), .val (.int (((0 : Int32) + (1 : Int32)) + (1 : Int32)))] [(.int (((0 : Int32) + (1 : Int32)) + (1 : Int32))), (.ref b4), (.long (((fk (o + wn 2)).toUInt64 >>> ((sh 2) &&& 0x3f).toInt64.toUInt64).toInt64)), (.int (((0 : Int32) + (1 : Int32)) + (1 : Int32))), (.ref a4)])) _
    refine X417.laload hx (j := (((0 : Int32) + (1 : Int32)) + (1 : Int32))) (v := (.long (mk 2))) (by rw [e417]; exact Ar419.1) (State.isArrayOf_alike hZ.alike Ar419.2.1) Ar419.2.2 hin419 hat419 (g := (mkF m 41 #[.val (.ref a1), .val (.ref a2), .val (.int p3), .val (.ref a4), .val (.int (((0 : Int32) + (1 : Int32)) + (1 : Int32)))] [(.int (((0 : Int32) + (1 : Int32)) + (1 : Int32))), (.ref b4), (.long (((fk (o + wn 2)).toUInt64 >>> ((sh 2) &&& 0x3f).toInt64.toUInt64).toInt64)), (.int (((0 : Int32) + (1 : Int32)) + (1 : Int32))), (.ref a4)])) rfl rfl (hb hby d9_41) _ ?_
    show Steps p.tables e below (T417.setTop (mkF m 42 #[.val (.ref a1), .val (.ref a2), .val (.int p3), .val (.ref a4), .val (.int (((0 : Int32) + (1 : Int32)) + (1 : Int32)))] [(.long (mk 2)), (.long (((fk (o + wn 2)).toUInt64 >>> ((sh 2) &&& 0x3f).toInt64.toUInt64).toInt64)), (.int (((0 : Int32) + (1 : Int32)) + (1 : Int32))), (.ref a4)])) _
    refine XS.land X417.here hx rfl (hb hby d9_42) rfl ?_
    show Steps p.tables e below (T417.setTop (mkF m 43 #[.val (.ref a1), .val (.ref a2), .val (.int p3), .val (.ref a4), .val (.int (((0 : Int32) + (1 : Int32)) + (1 : Int32)))] [(.long ((((fk (o + wn 2)).toUInt64 >>> ((sh 2) &&& 0x3f).toInt64.toUInt64).toInt64) &&& (mk 2))), (.int (((0 : Int32) + (1 : Int32)) + (1 : Int32))), (.ref a4)])) _
    refine XS.aloadN X417.here hx rfl (hb hby d9_43) rfl rfl ?_
    exact kt
  clear R418
  obtain ⟨T421, X421, e421, st421⟩ := getF X417 hx hZ hown (host := "") (Or.inl (hw _ (List.mem_of_getElem? (i := 31) rfl))) Via.refl e417 Fl_401 (g := (mkF m 44 #[.val (.ref a1), .val (.ref a2), .val (.int p3), .val (.ref a4), .val (.int (((0 : Int32) + (1 : Int32)) + (1 : Int32)))] [(.ref a1), (.long ((((fk (o + wn 2)).toUInt64 >>> ((sh 2) &&& 0x3f).toInt64.toUInt64).toInt64) &&& (mk 2))), (.int (((0 : Int32) + (1 : Int32)) + (1 : Int32))), (.ref a4)])) rfl rfl (hb hby d9_44)
  have R422 : ∀ t, Steps p.tables e below (T421.setTop (mkF m 49 #[.val (.ref a1), .val (.ref a2), .val (.int p3), .val (.ref a4), .val (.int (((0 : Int32) + (1 : Int32)) + (1 : Int32)))] [(.int (((0 : Int32) + (1 : Int32)) + (1 : Int32))), (.ref b1), (.long ((((fk (o + wn 2)).toUInt64 >>> ((sh 2) &&& 0x3f).toInt64.toUInt64).toInt64) &&& (mk 2))), (.int (((0 : Int32) + (1 : Int32)) + (1 : Int32))), (.ref a4)])) t → Steps p.tables e below (s₁.setTop (mkF m 0 #[.val (.ref a1), .val (.ref a2), .val (.int p3), .val (.ref a4), .unset] [])) t := by
    intro t kt
    refine R420 _ ?_
    refine st421 _ ?_
    show Steps p.tables e below (T421.setTop (mkF m 47 #[.val (.ref a1), .val (.ref a2), .val (.int p3), .val (.ref a4), .val (.int (((0 : Int32) + (1 : Int32)) + (1 : Int32)))] [(.ref b1), (.long ((((fk (o + wn 2)).toUInt64 >>> ((sh 2) &&& 0x3f).toInt64.toUInt64).toInt64) &&& (mk 2))), (.int (((0 : Int32) + (1 : Int32)) + (1 : Int32))), (.ref a4)])) _
    refine XS.iload X421.here hx rfl (hb hby d9_47) rfl ?_
    exact kt
  clear R420 st421
  obtain ⟨cl423, Ar423, hin423, hat423⟩ := VL_401.at (j := (((0 : Int32) + (1 : Int32)) + (1 : Int32))) (k := 2) (by decide) rfl (by decide)
  have R424 : ∀ t, Steps p.tables e below (T421.setTop (mkF m 53 #[.val (.ref a1), .val (.ref a2), .val (.int p3), .val (.ref a4), .val (.int (((0 : Int32) + (1 : Int32)) + (1 : Int32)))] [(.int ((((((fk (o + wn 2)).toUInt64 >>> ((sh 2) &&& 0x3f).toInt64.toUInt64).toInt64) &&& (mk 2)) + ((lo 2).toInt64)).toInt32)), (.int (((0 : Int32) + (1 : Int32)) + (1 : Int32))), (.ref a4)])) t → Steps p.tables e below (s₁.setTop (mkF m 0 #[.val (.ref a1), .val (.ref a2), .val (.int p3), .val (.ref a4), .unset] [])) t := by
    intro t kt
    refine R422 _ ?_
    show Steps p.tables e below (T421.setTop (mkF m 49 #[.val (.ref a1), .val (.ref a2), .val (.int p3), .val (.ref a4), .val (.int (((0 : Int32) + (1 : Int32)) + (1 : Int32)))] [(.int (((0 : Int32) + (1 : Int32)) + (1 : Int32))), (.ref b1), (.long ((((fk (o + wn 2)).toUInt64 >>> ((sh 2) &&& 0x3f).toInt64.toUInt64).toInt64) &&& (mk 2))), (.int (((0 : Int32) + (1 : Int32)) + (1 : Int32))), (.ref a4)])) _
    refine X421.iaload hx (j := (((0 : Int32) + (1 : Int32)) + (1 : Int32))) (v := (.int (lo 2))) (by rw [e421]; exact Ar423.1) (State.isArrayOf_alike hZ.alike Ar423.2.1) Ar423.2.2 hin423 hat423 (g := (mkF m 49 #[.val (.ref a1), .val (.ref a2), .val (.int p3), .val (.ref a4), .val (.int (((0 : Int32) + (1 : Int32)) + (1 : Int32)))] [(.int (((0 : Int32) + (1 : Int32)) + (1 : Int32))), (.ref b1), (.long ((((fk (o + wn 2)).toUInt64 >>> ((sh 2) &&& 0x3f).toInt64.toUInt64).toInt64) &&& (mk 2))), (.int (((0 : Int32) + (1 : Int32)) + (1 : Int32))), (.ref a4)])) rfl rfl (hb hby d9_49) _ ?_
    show Steps p.tables e below (T421.setTop (mkF m 50 #[.val (.ref a1), .val (.ref a2), .val (.int p3), .val (.ref a4), .val (.int (((0 : Int32) + (1 : Int32)) + (1 : Int32)))] [(.int (lo 2)), (.long ((((fk (o + wn 2)).toUInt64 >>> ((sh 2) &&& 0x3f).toInt64.toUInt64).toInt64) &&& (mk 2))), (.int (((0 : Int32) + (1 : Int32)) + (1 : Int32))), (.ref a4)])) _
    refine XS.i2l X421.here hx rfl (hb hby d9_50) rfl ?_
    show Steps p.tables e below (T421.setTop (mkF m 51 #[.val (.ref a1), .val (.ref a2), .val (.int p3), .val (.ref a4), .val (.int (((0 : Int32) + (1 : Int32)) + (1 : Int32)))] [(.long ((lo 2).toInt64)), (.long ((((fk (o + wn 2)).toUInt64 >>> ((sh 2) &&& 0x3f).toInt64.toUInt64).toInt64) &&& (mk 2))), (.int (((0 : Int32) + (1 : Int32)) + (1 : Int32))), (.ref a4)])) _
    refine XS.ladd X421.here hx rfl (hb hby d9_51) rfl ?_
    show Steps p.tables e below (T421.setTop (mkF m 52 #[.val (.ref a1), .val (.ref a2), .val (.int p3), .val (.ref a4), .val (.int (((0 : Int32) + (1 : Int32)) + (1 : Int32)))] [(.long (((((fk (o + wn 2)).toUInt64 >>> ((sh 2) &&& 0x3f).toInt64.toUInt64).toInt64) &&& (mk 2)) + ((lo 2).toInt64))), (.int (((0 : Int32) + (1 : Int32)) + (1 : Int32))), (.ref a4)])) _
    refine XS.l2i X421.here hx rfl (hb hby d9_52) rfl ?_
    exact kt
  clear R422
  obtain ⟨cl425, Ar425, hin425, -⟩ := VO_401.at (j := (((0 : Int32) + (1 : Int32)) + (1 : Int32))) (k := 2) (by decide) rfl (by decide)
  obtain ⟨T426, h426, X426, e426, W426, st426⟩ := stI X421 hx hZ e421 Ar425 (j := (((0 : Int32) + (1 : Int32)) + (1 : Int32))) hin425 (g := (mkF m 53 #[.val (.ref a1), .val (.ref a2), .val (.int p3), .val (.ref a4), .val (.int (((0 : Int32) + (1 : Int32)) + (1 : Int32)))] [(.int ((((((fk (o + wn 2)).toUInt64 >>> ((sh 2) &&& 0x3f).toInt64.toUInt64).toInt64) &&& (mk 2)) + ((lo 2).toInt64)).toInt32)), (.int (((0 : Int32) + (1 : Int32)) + (1 : Int32))), (.ref a4)])) rfl rfl (hb hby d9_53)
  have N426 := Fr.snoc X426 N401 ga
  rw [show ((((0 : Int32) + (1 : Int32)) + (1 : Int32)) : Int32).toNatClampNeg = 2 from rfl] at W426
  have VO_426 : AV Z h426 a4 .int 3 (fun j => .int ((own_set (own_set (own_set fo 0 (own_dec fk o wn lo sh mk 0)) 1 (own_dec fk o wn lo sh mk 1)) 2 (own_dec fk o wn lo sh mk 2)) j)) := VO_401.setI W426
  have Fl_426 := Fl_401.other W426 (Or.inl m1)
  have Fw_426 := Fw_401.other W426 (Or.inl m1)
  have Fs_426 := Fs_401.other W426 (Or.inl m1)
  have Fm_426 := Fm_401.other W426 (Or.inl m1)
  have VL_426 := VL_401.other W426 m3
  have VW_426 := VW_401.other W426 m4
  have VS_426 := VS_401.other W426 m5
  have VM_426 := VM_401.other W426 m6
  have VK_426 := VK_401.other W426 m2
  clear Fl_401 Fw_401 Fs_401 Fm_401 VL_401 VW_401 VS_401 VM_401 VK_401
  have Zs426 : n0 ≤ h426.size := Nat.le_trans Zs401 (Keep.of_wr W426).1
  have Kw426 : Keep h0 h426 [a4] := Keep.wr Kw401 W426 (Or.inl (List.mem_of_getElem? (i := 0) rfl))
  have R427 : ∀ t, Steps p.tables e below (T426.setTop (mkF m 6 #[.val (.ref a1), .val (.ref a2), .val (.int p3), .val (.ref a4), .val (.int ((((0 : Int32) + (1 : Int32)) + (1 : Int32)) + (1 : Int32)))] [(.ref a1), (.int ((((0 : Int32) + (1 : Int32)) + (1 : Int32)) + (1 : Int32)))])) t → Steps p.tables e below (s₁.setTop (mkF m 0 #[.val (.ref a1), .val (.ref a2), .val (.int p3), .val (.ref a4), .unset] [])) t := by
    intro t kt
    refine R424 _ ?_
    refine st426 _ ?_
    show Steps p.tables e below (T426.setTop (mkF m 54 #[.val (.ref a1), .val (.ref a2), .val (.int p3), .val (.ref a4), .val (.int (((0 : Int32) + (1 : Int32)) + (1 : Int32)))] [])) _
    refine XS.iinc X426.here hx rfl (hb hby d9_54) rfl (l' := #[.val (.ref a1), .val (.ref a2), .val (.int p3), .val (.ref a4), .val (.int ((((0 : Int32) + (1 : Int32)) + (1 : Int32)) + (1 : Int32)))]) rfl ?_
    show Steps p.tables e below (T426.setTop (mkF m 57 #[.val (.ref a1), .val (.ref a2), .val (.int p3), .val (.ref a4), .val (.int ((((0 : Int32) + (1 : Int32)) + (1 : Int32)) + (1 : Int32)))] [])) _
    refine XS.goto X426.here hx rfl (pc0 := 57) (pc' := 3) rfl (hb hby d9_57) (by decide) (by decide) ?_
    show Steps p.tables e below (T426.setTop (mkF m 3 #[.val (.ref a1), .val (.ref a2), .val (.int p3), .val (.ref a4), .val (.int ((((0 : Int32) + (1 : Int32)) + (1 : Int32)) + (1 : Int32)))] [])) _
    refine XS.iload X426.here hx rfl (hb hby d9_3) rfl ?_
    show Steps p.tables e below (T426.setTop (mkF m 5 #[.val (.ref a1), .val (.ref a2), .val (.int p3), .val (.ref a4), .val (.int ((((0 : Int32) + (1 : Int32)) + (1 : Int32)) + (1 : Int32)))] [(.int ((((0 : Int32) + (1 : Int32)) + (1 : Int32)) + (1 : Int32)))])) _
    refine XS.aloadN X426.here hx rfl (hb hby d9_5) rfl rfl ?_
    exact kt
  clear R424 st426
  obtain ⟨T428, X428, e428, st428⟩ := getF X426 hx hZ hown (host := "") (Or.inl (hw _ (List.mem_of_getElem? (i := 31) rfl))) Via.refl e426 Fl_426 (g := (mkF m 6 #[.val (.ref a1), .val (.ref a2), .val (.int p3), .val (.ref a4), .val (.int ((((0 : Int32) + (1 : Int32)) + (1 : Int32)) + (1 : Int32)))] [(.ref a1), (.int ((((0 : Int32) + (1 : Int32)) + (1 : Int32)) + (1 : Int32)))])) rfl rfl (hb hby d9_6)
  have R429 : ∀ t, Steps p.tables e below (T428.setTop (mkF m 9 #[.val (.ref a1), .val (.ref a2), .val (.int p3), .val (.ref a4), .val (.int ((((0 : Int32) + (1 : Int32)) + (1 : Int32)) + (1 : Int32)))] [(.ref b1), (.int ((((0 : Int32) + (1 : Int32)) + (1 : Int32)) + (1 : Int32)))])) t → Steps p.tables e below (s₁.setTop (mkF m 0 #[.val (.ref a1), .val (.ref a2), .val (.int p3), .val (.ref a4), .unset] [])) t := by
    intro t kt
    refine R427 _ ?_
    refine st428 _ ?_
    exact kt
  clear R427 st428
  obtain ⟨cl430, Ar430, ln430⟩ := VL_426.len
  have R431 : ∀ t, Steps p.tables e below (T428.setTop (mkF m 60 #[.val (.ref a1), .val (.ref a2), .val (.int p3), .val (.ref a4), .val (.int ((((0 : Int32) + (1 : Int32)) + (1 : Int32)) + (1 : Int32)))] [])) t → Steps p.tables e below (s₁.setTop (mkF m 0 #[.val (.ref a1), .val (.ref a2), .val (.int p3), .val (.ref a4), .unset] [])) t := by
    intro t kt
    refine R429 _ ?_
    show Steps p.tables e below (T428.setTop (mkF m 9 #[.val (.ref a1), .val (.ref a2), .val (.int p3), .val (.ref a4), .val (.int ((((0 : Int32) + (1 : Int32)) + (1 : Int32)) + (1 : Int32)))] [(.ref b1), (.int ((((0 : Int32) + (1 : Int32)) + (1 : Int32)) + (1 : Int32)))])) _
    refine X428.arraylength hx (by rw [e428]; exact Ar430.1) (State.isArrayOf_alike hZ.alike Ar430.2.1) (g := (mkF m 9 #[.val (.ref a1), .val (.ref a2), .val (.int p3), .val (.ref a4), .val (.int ((((0 : Int32) + (1 : Int32)) + (1 : Int32)) + (1 : Int32)))] [(.ref b1), (.int ((((0 : Int32) + (1 : Int32)) + (1 : Int32)) + (1 : Int32)))])) rfl rfl (hb hby d9_9) _ ?_
    rw [ln430]
    show Steps p.tables e below (T428.setTop (mkF m 10 #[.val (.ref a1), .val (.ref a2), .val (.int p3), .val (.ref a4), .val (.int ((((0 : Int32) + (1 : Int32)) + (1 : Int32)) + (1 : Int32)))] [(.int (3 : Int32)), (.int ((((0 : Int32) + (1 : Int32)) + (1 : Int32)) + (1 : Int32)))])) _
    refine XS.icmpYes X428.here hx rfl (pc0 := 10) (pc' := 60) rfl (hb hby d9_10) rfl (flt (by decide : ¬ (((((0 : Int32) + (1 : Int32)) + (1 : Int32)) + (1 : Int32)) < (3 : Int32)))).2.1 (by decide) (by decide) ?_
    exact kt
  clear R429
  have VOz : AV Z h426 a4 .int 3 (fun j => .int ((own_dec fk o wn lo sh mk) j)) := AV.congr VO_426 (fun j hj => congrArg _ (own_three (own_dec fk o wn lo sh mk) _ j hj))
  obtain ⟨fs, hr, hrun, hended, hW, hsame⟩ := X428.leave (v := none) (fun _ => rfl)
  refine ⟨_, _, pre0 _ (R431 _ ?_), hrun, hended, _, _, rfl, ?_, ⟨_, rfl⟩, hW, hsame.mono (by decide) (by decide)⟩
  · exact X428.returnOut hx Bd.returns (hb hby d9_60) hr
  · show Q_rm_decode Z a1 a2 p3 a4 b1 b2 b3 b4 lo wd sh mk fo fk NN o nw wn h0 n0 _ T428.heap _
    rw [e428]
    exact ⟨rfl, N426, Kw426, VOz⟩
theorem pn_3 : plainName "com/example/inexact_odds/inexactodds/language/EncodingDecodePinLaw" = true := by first | (simp [plainName, overriddenIn]; done) | decide +kernel
theorem d1_0 : decode method_3_code 0 = .ok (.lload 4, 2) := by decide +kernel
theorem d1_2 : decode method_3_code 2 = .ok (.l2i, 1) := by decide +kernel
theorem d1_3 : decode method_3_code 3 = .ok (.istore 7, 2) := by decide +kernel
theorem d1_5 : decode method_3_code 5 = .ok (.lload 4, 2) := by decide +kernel
theorem d1_7 : decode method_3_code 7 = .ok (.bipush 32, 2) := by decide +kernel
theorem d1_9 : decode method_3_code 9 = .ok (.lushr, 1) := by decide +kernel
theorem d1_10 : decode method_3_code 10 = .ok (.l2i, 1) := by decide +kernel
theorem d1_11 : decode method_3_code 11 = .ok (.istore 8, 2) := by decide +kernel
theorem d1_13 : decode method_3_code 13 = .ok (.iload 7, 2) := by decide +kernel
theorem d1_15 : decode method_3_code 15 = .ok (.iload 8, 2) := by decide +kernel
theorem pd_2 : parseMethodDescriptor "(II)I" = some ⟨[.int, .int], some .int⟩ := by decide +kernel
theorem d1_17 : decode method_3_code 17 = .ok (.invokestatic 40, 3) := by decide +kernel
theorem d1_20 : decode method_3_code 20 = .ok (.istore 9, 2) := by decide +kernel
theorem d1_22 : decode method_3_code 22 = .ok (.iload 7, 2) := by decide +kernel
theorem d1_24 : decode method_3_code 24 = .ok (.iload 8, 2) := by decide +kernel
theorem d1_26 : decode method_3_code 26 = .ok (.invokestatic 46, 3) := by decide +kernel
theorem d1_29 : decode method_3_code 29 = .ok (.istore 10, 2) := by decide +kernel
theorem d1_31 : decode method_3_code 31 = .ok (.iload 10, 2) := by decide +kernel
theorem d1_33 : decode method_3_code 33 = .ok (.i2l, 1) := by decide +kernel
theorem d1_34 : decode method_3_code 34 = .ok (.iload 9, 2) := by decide +kernel
theorem d1_36 : decode method_3_code 36 = .ok (.i2l, 1) := by decide +kernel
theorem d1_37 : decode method_3_code 37 = .ok (.lsub, 1) := by decide +kernel
theorem d1_38 : decode method_3_code 38 = .ok (.lconst 1, 1) := by decide +kernel
theorem d1_39 : decode method_3_code 39 = .ok (.ladd, 1) := by decide +kernel
theorem d1_40 : decode method_3_code 40 = .ok (.lstore 11, 2) := by decide +kernel
theorem d1_42 : decode method_3_code 42 = .ok (.iload 6, 2) := by decide +kernel
theorem d1_44 : decode method_3_code 44 = .ok (.i2l, 1) := by decide +kernel
theorem d1_45 : decode method_3_code 45 = .ok (.ldc2_w 49, 3) := by decide +kernel
theorem d1_48 : decode method_3_code 48 = .ok (.land, 1) := by decide +kernel
theorem d1_49 : decode method_3_code 49 = .ok (.lload 11, 2) := by decide +kernel
theorem d1_51 : decode method_3_code 51 = .ok (.lrem, 1) := by decide +kernel
theorem d1_52 : decode method_3_code 52 = .ok (.lstore 13, 2) := by decide +kernel
theorem d1_54 : decode method_3_code 54 = .ok (.aload_n 0, 1) := by decide +kernel
theorem d1_55 : decode method_3_code 55 = .ok (.iload_n 3, 1) := by decide +kernel
theorem d1_56 : decode method_3_code 56 = .ok (.iload 9, 2) := by decide +kernel
theorem d1_58 : decode method_3_code 58 = .ok (.iastore, 1) := by decide +kernel
theorem d1_59 : decode method_3_code 59 = .ok (.aload_n 1, 1) := by decide +kernel
theorem d1_60 : decode method_3_code 60 = .ok (.iload_n 3, 1) := by decide +kernel
theorem d1_61 : decode method_3_code 61 = .ok (.iload 10, 2) := by decide +kernel
theorem d1_63 : decode method_3_code 63 = .ok (.iastore, 1) := by decide +kernel
theorem d1_64 : decode method_3_code 64 = .ok (.aload_n 2, 1) := by decide +kernel
theorem d1_65 : decode method_3_code 65 = .ok (.iload_n 3, 1) := by decide +kernel
theorem d1_66 : decode method_3_code 66 = .ok (.iload 9, 2) := by decide +kernel
theorem d1_68 : decode method_3_code 68 = .ok (.i2l, 1) := by decide +kernel
theorem d1_69 : decode method_3_code 69 = .ok (.lload 13, 2) := by decide +kernel
theorem d1_71 : decode method_3_code 71 = .ok (.ladd, 1) := by decide +kernel
theorem d1_72 : decode method_3_code 72 = .ok (.l2i, 1) := by decide +kernel
theorem d1_73 : decode method_3_code 73 = .ok (.iastore, 1) := by decide +kernel
theorem d1_74 : decode method_3_code 74 = .ok (.return_, 1) := by decide +kernel
theorem ef_rm_fill (m : MethodId) (a1 : Addr) (a2 : Addr) (a3 : Addr) (p4 : Int32) (q5 : Int64) (p6 : Int32) : entryFrame m #[(.ref a1), (.ref a2), (.ref a3), (.int p4), (.long q5), (.int p6)] 15 = mkF m 0 #[.val (.ref a1), .val (.ref a2), .val (.ref a3), .val (.int p4), .val (.long q5), .second, .val (.int p6), .unset, .unset, .unset, .unset, .unset, .unset, .unset, .unset] [] := by first | (simp [entryFrame, mkF, argsToLocals, Value.category]; done) | rfl
def Q_rm_fill (Z : State) (a1 : Addr) (a2 : Addr) (a3 : Addr) (p4 : Int32) (q5 : Int64) (p6 : Int32) (i : Nat) (f1 : Nat → Int32) (f2 : Nat → Int32) (f3 : Nat → Int32) (h0 : Heap) (n0 : Nat) (v : Option Value) (h : Heap) (L : List Loc) : Prop := v = none ∧ Fr n0 L ∧ Keep h0 h [a1, a2, a3] ∧ AV Z h a1 .int 3 (fun j => .int ((own_set f1 i (own_lw q5)) j)) ∧ AV Z h a2 .int 3 (fun j => .int ((own_set f2 i (own_hg q5)) j)) ∧ AV Z h a3 .int 3 (fun j => .int ((own_set f3 i (own_vl (own_lw q5) (own_hg q5) p6)) j))
set_option maxRecDepth 65536 in
set_option maxHeartbeats 40000000 in
theorem rm_fill (l : Launch) (Z : State) (a0 : Array Value) (hw : ∀ d ∈ tables_1, d.before a0 Z = true) (ws : List Jvm.Cond) (a1 : Addr) (a2 : Addr) (a3 : Addr) (p4 : Int32) (q5 : Int64) (p6 : Int32) (i : Nat) (f1 : Nat → Int32) (f2 : Nat → Int32) (f3 : Nat → Int32) (h0 : Heap) (n0 : Nat) (Z0 : n0 ≤ h0.size) (V1 : AV Z h0 a1 .int 3 (fun j => .int (f1 j))) (V2 : AV Z h0 a2 .int 3 (fun j => .int (f2 j))) (V3 : AV Z h0 a3 .int 3 (fun j => .int (f3 j))) (g1 : n0 ≤ a1) (g2 : n0 ≤ a2) (g3 : n0 ≤ a3) (n12 : a1 ≠ a2) (n13 : a1 ≠ a3) (n23 : a2 ≠ a3) (hi0 : ¬ p4 < 0) (hin : p4.toNatClampNeg = i) (hi3 : i < 3) :
    MetFree l (⟨"com/example/inexact_odds/inexactodds/language/EncodingDecodePinLaw", "fill", "([I[I[IIJI)V"⟩ : MethodName) (head1 (Jvm.Cond.code (⟨"com/example/inexact_odds/inexactodds/language/EncodingDecodePinLaw", "fill", "([I[I[IIJI)V"⟩ : MethodName) method_3_code 15 none :: ws) ({ frames := 1, cells := 0, slots := 0, locals := 13 } : Room)) (fun a U => a = #[(.ref a1), (.ref a2), (.ref a3), (.int p4), (.long q5), (.int p6)] ∧ Z.Warmed39 U.vm ∧ U.heap = h0) (fun _ _ _ _ _ => True) (fun _ U oC U' => ∃ v L, oC = .returned v ∧ Q_rm_fill Z a1 a2 a3 p4 q5 p6 i f1 f2 f3 h0 n0 v U'.heap L ∧ FrameEnd U oC U' L ({ frames := 1, cells := 0, slots := 0, locals := 13 } : Room).cells ({ frames := 1, cells := 0, slots := 0, locals := 13 } : Room).slots) := by
  refine MetFree.of_bodySF (plainFor_of_name pn_3) hisR ?_
  intro p e s m args below meth c s₁ Bd hml0 hP hK
  obtain ⟨rfl, hZ, hh⟩ := hP
  have hx := Bd.exec
  have hby := Bd.bytes
  have hml : c.maxLocals = 15 := hml0
  have hown : s.vm.findClass "com/example/inexact_odds/inexactodds/language/EncodingDecodePinLaw" = some m.cls := findClass_of_methodNamed Bd.named
  have hnm := (name_of_methodNamed Bd.named Bd.method).1
  have X0 : Stand p l e ({ frames := 1, cells := 0, slots := 0, locals := 13 } : Room) s m #[(.ref a1), (.ref a2), (.ref a3), (.int p4), (.long q5), (.int p6)] below meth c s₁ [] 0 0 := Stand.of_body Bd
  have e0 : s₁.heap = h0 := by rw [← hh, Bd.state]; rfl
  have N0 := Fr.nil n0
  have pre0 : ∀ t, Steps p.tables e below (s₁.setTop (mkF m 0 #[.val (.ref a1), .val (.ref a2), .val (.ref a3), .val (.int p4), .val (.long q5), .second, .val (.int p6), .unset, .unset, .unset, .unset, .unset, .unset, .unset, .unset] [])) t → Steps p.tables e below (s₁.setTop (entryFrame m #[(.ref a1), (.ref a2), (.ref a3), (.int p4), (.long q5), (.int p6)] 15)) t := fun t k => castTop (ef_rm_fill m a1 a2 a3 p4 q5 p6) k
  have pre00 : ∀ t, Steps p.tables e below (s₁.setTop (mkF m 0 #[.val (.ref a1), .val (.ref a2), .val (.ref a3), .val (.int p4), .val (.long q5), .second, .val (.int p6), .unset, .unset, .unset, .unset, .unset, .unset, .unset, .unset] [])) t → Steps p.tables e below (s₁.setTop (mkF m 0 #[.val (.ref a1), .val (.ref a2), .val (.ref a3), .val (.int p4), .val (.long q5), .second, .val (.int p6), .unset, .unset, .unset, .unset, .unset, .unset, .unset, .unset] [])) t := fun _ k => k
  have R432 : ∀ t, Steps p.tables e below (s₁.setTop (mkF m 11 #[.val (.ref a1), .val (.ref a2), .val (.ref a3), .val (.int p4), .val (.long q5), .second, .val (.int p6), .val (.int (q5.toInt32)), .unset, .unset, .unset, .unset, .unset, .unset, .unset] [(.int (((q5.toUInt64 >>> ((32 : Int32) &&& 0x3f).toInt64.toUInt64).toInt64).toInt32))])) t → Steps p.tables e below (s₁.setTop (mkF m 0 #[.val (.ref a1), .val (.ref a2), .val (.ref a3), .val (.int p4), .val (.long q5), .second, .val (.int p6), .unset, .unset, .unset, .unset, .unset, .unset, .unset, .unset] [])) t := by
    intro t kt
    refine pre00 _ ?_
    show Steps p.tables e below (s₁.setTop (mkF m 0 #[.val (.ref a1), .val (.ref a2), .val (.ref a3), .val (.int p4), .val (.long q5), .second, .val (.int p6), .unset, .unset, .unset, .unset, .unset, .unset, .unset, .unset] [])) _
    refine XS.lload X0.here hx rfl (hb hby d1_0) rfl ?_
    show Steps p.tables e below (s₁.setTop (mkF m 2 #[.val (.ref a1), .val (.ref a2), .val (.ref a3), .val (.int p4), .val (.long q5), .second, .val (.int p6), .unset, .unset, .unset, .unset, .unset, .unset, .unset, .unset] [(.long q5)])) _
    refine XS.l2i X0.here hx rfl (hb hby d1_2) rfl ?_
    show Steps p.tables e below (s₁.setTop (mkF m 3 #[.val (.ref a1), .val (.ref a2), .val (.ref a3), .val (.int p4), .val (.long q5), .second, .val (.int p6), .unset, .unset, .unset, .unset, .unset, .unset, .unset, .unset] [(.int (q5.toInt32))])) _
    refine XS.istore X0.here hx rfl (hb hby d1_3) rfl (l' := #[.val (.ref a1), .val (.ref a2), .val (.ref a3), .val (.int p4), .val (.long q5), .second, .val (.int p6), .val (.int (q5.toInt32)), .unset, .unset, .unset, .unset, .unset, .unset, .unset]) rfl ?_
    show Steps p.tables e below (s₁.setTop (mkF m 5 #[.val (.ref a1), .val (.ref a2), .val (.ref a3), .val (.int p4), .val (.long q5), .second, .val (.int p6), .val (.int (q5.toInt32)), .unset, .unset, .unset, .unset, .unset, .unset, .unset] [])) _
    refine XS.lload X0.here hx rfl (hb hby d1_5) rfl ?_
    show Steps p.tables e below (s₁.setTop (mkF m 7 #[.val (.ref a1), .val (.ref a2), .val (.ref a3), .val (.int p4), .val (.long q5), .second, .val (.int p6), .val (.int (q5.toInt32)), .unset, .unset, .unset, .unset, .unset, .unset, .unset] [(.long q5)])) _
    refine XS.bipush X0.here hx rfl (hb hby d1_7) ?_
    show Steps p.tables e below (s₁.setTop (mkF m 9 #[.val (.ref a1), .val (.ref a2), .val (.ref a3), .val (.int p4), .val (.long q5), .second, .val (.int p6), .val (.int (q5.toInt32)), .unset, .unset, .unset, .unset, .unset, .unset, .unset] [(.int (32 : Int32)), (.long q5)])) _
    refine XS.lushr X0.here hx rfl (hb hby d1_9) rfl ?_
    show Steps p.tables e below (s₁.setTop (mkF m 10 #[.val (.ref a1), .val (.ref a2), .val (.ref a3), .val (.int p4), .val (.long q5), .second, .val (.int p6), .val (.int (q5.toInt32)), .unset, .unset, .unset, .unset, .unset, .unset, .unset] [(.long ((q5.toUInt64 >>> ((32 : Int32) &&& 0x3f).toInt64.toUInt64).toInt64))])) _
    refine XS.l2i X0.here hx rfl (hb hby d1_10) rfl ?_
    exact kt
  have R433 : ∀ t, Steps p.tables e below (s₁.setTop (mkF m 11 #[.val (.ref a1), .val (.ref a2), .val (.ref a3), .val (.int p4), .val (.long q5), .second, .val (.int p6), .val (.int (q5.toInt32)), .unset, .unset, .unset, .unset, .unset, .unset, .unset] [(.int ((own_ush q5 (32 : Int32)).toInt32))])) t → Steps p.tables e below (s₁.setTop (mkF m 0 #[.val (.ref a1), .val (.ref a2), .val (.ref a3), .val (.int p4), .val (.long q5), .second, .val (.int p6), .unset, .unset, .unset, .unset, .unset, .unset, .unset, .unset] [])) t := R432
  have R434 : ∀ t, Steps p.tables e below (s₁.setTop (mkF m 17 #[.val (.ref a1), .val (.ref a2), .val (.ref a3), .val (.int p4), .val (.long q5), .second, .val (.int p6), .val (.int (q5.toInt32)), .val (.int ((own_ush q5 (32 : Int32)).toInt32)), .unset, .unset, .unset, .unset, .unset, .unset] [(.int ((own_ush q5 (32 : Int32)).toInt32)), (.int (q5.toInt32))])) t → Steps p.tables e below (s₁.setTop (mkF m 0 #[.val (.ref a1), .val (.ref a2), .val (.ref a3), .val (.int p4), .val (.long q5), .second, .val (.int p6), .unset, .unset, .unset, .unset, .unset, .unset, .unset, .unset] [])) t := by
    intro t kt
    refine R433 _ ?_
    show Steps p.tables e below (s₁.setTop (mkF m 11 #[.val (.ref a1), .val (.ref a2), .val (.ref a3), .val (.int p4), .val (.long q5), .second, .val (.int p6), .val (.int (q5.toInt32)), .unset, .unset, .unset, .unset, .unset, .unset, .unset] [(.int ((own_ush q5 (32 : Int32)).toInt32))])) _
    refine XS.istore X0.here hx rfl (hb hby d1_11) rfl (l' := #[.val (.ref a1), .val (.ref a2), .val (.ref a3), .val (.int p4), .val (.long q5), .second, .val (.int p6), .val (.int (q5.toInt32)), .val (.int ((own_ush q5 (32 : Int32)).toInt32)), .unset, .unset, .unset, .unset, .unset, .unset]) rfl ?_
    show Steps p.tables e below (s₁.setTop (mkF m 13 #[.val (.ref a1), .val (.ref a2), .val (.ref a3), .val (.int p4), .val (.long q5), .second, .val (.int p6), .val (.int (q5.toInt32)), .val (.int ((own_ush q5 (32 : Int32)).toInt32)), .unset, .unset, .unset, .unset, .unset, .unset] [])) _
    refine XS.iload X0.here hx rfl (hb hby d1_13) rfl ?_
    show Steps p.tables e below (s₁.setTop (mkF m 15 #[.val (.ref a1), .val (.ref a2), .val (.ref a3), .val (.int p4), .val (.long q5), .second, .val (.int p6), .val (.int (q5.toInt32)), .val (.int ((own_ush q5 (32 : Int32)).toInt32)), .unset, .unset, .unset, .unset, .unset, .unset] [(.int (q5.toInt32))])) _
    refine XS.iload X0.here hx rfl (hb hby d1_15) rfl ?_
    exact kt
  clear R433
  obtain ⟨_, _, ⟨T435, L435, k435, n435⟩, -, X435, ⟨Lc435, hQ435, l435, y435, z435⟩, st435⟩ := Jvm.LawKit.callS X0 hx (y := (⟨"java/lang/Math", "min", "(II)I"⟩ : MethodName)) hown (mvT hZ (hw _ (List.mem_of_getElem? (i := 5) rfl))) (mvT hZ (hw _ (List.mem_of_getElem? (i := 6) rfl))) (mvT hZ (hw _ (List.mem_of_getElem? (i := 7) rfl))) (mvT hZ (hw _ (List.mem_of_getElem? (i := 8) rfl))) (by decide) (backOf (W := 0) (rm_min l Z a0 hw [] (q5.toInt32) ((own_ush q5 (32 : Int32)).toInt32) h0 n0 Z0) hZ (hw _ (List.mem_of_getElem? (i := 8) rfl)) (hw _ (List.mem_of_getElem? (i := 7) rfl)) (by decide) (by decide)) (g := (mkF m 17 #[.val (.ref a1), .val (.ref a2), .val (.ref a3), .val (.int p4), .val (.long q5), .second, .val (.int p6), .val (.int (q5.toInt32)), .val (.int ((own_ush q5 (32 : Int32)).toInt32)), .unset, .unset, .unset, .unset, .unset, .unset] [(.int ((own_ush q5 (32 : Int32)).toInt32)), (.int (q5.toInt32))])) rfl (by rw [hml]; rfl) (argsL := [(.int (q5.toInt32)), (.int ((own_ush q5 (32 : Int32)).toInt32))]) (rest := []) (lenOf pd_2 rfl) rfl (by show 2 * 0 + _ ≤ _; exact Nat.le_of_eq rfl) (hb hby d1_17) (fun _ _ => ⟨rfl, e0, (by decide : 0 + 0 ≤ _), (by decide : 0 + 0 ≤ _)⟩)
  dsimp only [Pt.U, Pt.locs, Pt.cells, Pt.slots] at X435 l435 y435 z435 st435 hQ435
  rw [l435, y435, z435] at X435
  obtain ⟨rfl, N435q, hh435⟩ := hQ435
  have N435 := Fr.app N0 N435q
  have R436 : ∀ t, Steps p.tables e below (T435.setTop (mkF m 26 #[.val (.ref a1), .val (.ref a2), .val (.ref a3), .val (.int p4), .val (.long q5), .second, .val (.int p6), .val (.int (q5.toInt32)), .val (.int ((own_ush q5 (32 : Int32)).toInt32)), .val (.int (own_lw q5)), .unset, .unset, .unset, .unset, .unset] [(.int ((own_ush q5 (32 : Int32)).toInt32)), (.int (q5.toInt32))])) t → Steps p.tables e below (s₁.setTop (mkF m 0 #[.val (.ref a1), .val (.ref a2), .val (.ref a3), .val (.int p4), .val (.long q5), .second, .val (.int p6), .unset, .unset, .unset, .unset, .unset, .unset, .unset, .unset] [])) t := by
    intro t kt
    refine R434 _ ?_
    refine st435 _ ?_
    show Steps p.tables e below (T435.setTop (mkF m 20 #[.val (.ref a1), .val (.ref a2), .val (.ref a3), .val (.int p4), .val (.long q5), .second, .val (.int p6), .val (.int (q5.toInt32)), .val (.int ((own_ush q5 (32 : Int32)).toInt32)), .unset, .unset, .unset, .unset, .unset, .unset] [(.int (own_lw q5))])) _
    refine XS.istore X435.here hx rfl (hb hby d1_20) rfl (l' := #[.val (.ref a1), .val (.ref a2), .val (.ref a3), .val (.int p4), .val (.long q5), .second, .val (.int p6), .val (.int (q5.toInt32)), .val (.int ((own_ush q5 (32 : Int32)).toInt32)), .val (.int (own_lw q5)), .unset, .unset, .unset, .unset, .unset]) rfl ?_
    show Steps p.tables e below (T435.setTop (mkF m 22 #[.val (.ref a1), .val (.ref a2), .val (.ref a3), .val (.int p4), .val (.long q5), .second, .val (.int p6), .val (.int (q5.toInt32)), .val (.int ((own_ush q5 (32 : Int32)).toInt32)), .val (.int (own_lw q5)), .unset, .unset, .unset, .unset, .unset] [])) _
    refine XS.iload X435.here hx rfl (hb hby d1_22) rfl ?_
    show Steps p.tables e below (T435.setTop (mkF m 24 #[.val (.ref a1), .val (.ref a2), .val (.ref a3), .val (.int p4), .val (.long q5), .second, .val (.int p6), .val (.int (q5.toInt32)), .val (.int ((own_ush q5 (32 : Int32)).toInt32)), .val (.int (own_lw q5)), .unset, .unset, .unset, .unset, .unset] [(.int (q5.toInt32))])) _
    refine XS.iload X435.here hx rfl (hb hby d1_24) rfl ?_
    exact kt
  clear R434 st435
  obtain ⟨_, _, ⟨T437, L437, k437, n437⟩, -, X437, ⟨Lc437, hQ437, l437, y437, z437⟩, st437⟩ := Jvm.LawKit.callS X435 hx (y := (⟨"java/lang/Math", "max", "(II)I"⟩ : MethodName)) hown (mvT hZ (hw _ (List.mem_of_getElem? (i := 9) rfl))) (mvT hZ (hw _ (List.mem_of_getElem? (i := 10) rfl))) (mvT hZ (hw _ (List.mem_of_getElem? (i := 7) rfl))) (mvT hZ (hw _ (List.mem_of_getElem? (i := 11) rfl))) (by decide) (backOf (W := 0) (rm_max l Z a0 hw [] (q5.toInt32) ((own_ush q5 (32 : Int32)).toInt32) h0 n0 Z0) hZ (hw _ (List.mem_of_getElem? (i := 11) rfl)) (hw _ (List.mem_of_getElem? (i := 7) rfl)) (by decide) (by decide)) (g := (mkF m 26 #[.val (.ref a1), .val (.ref a2), .val (.ref a3), .val (.int p4), .val (.long q5), .second, .val (.int p6), .val (.int (q5.toInt32)), .val (.int ((own_ush q5 (32 : Int32)).toInt32)), .val (.int (own_lw q5)), .unset, .unset, .unset, .unset, .unset] [(.int ((own_ush q5 (32 : Int32)).toInt32)), (.int (q5.toInt32))])) rfl (by rw [hml]; rfl) (argsL := [(.int (q5.toInt32)), (.int ((own_ush q5 (32 : Int32)).toInt32))]) (rest := []) (lenOf pd_2 rfl) rfl (by show 2 * 0 + _ ≤ _; exact Nat.le_of_eq rfl) (hb hby d1_26) (fun _ _ => ⟨rfl, hh435, (by decide : 0 + 0 ≤ _), (by decide : 0 + 0 ≤ _)⟩)
  dsimp only [Pt.U, Pt.locs, Pt.cells, Pt.slots] at X437 l437 y437 z437 st437 hQ437
  rw [l437, y437, z437] at X437
  obtain ⟨rfl, N437q, hh437⟩ := hQ437
  have N437 := Fr.app N435 N437q
  have R438 : ∀ t, Steps p.tables e below (T437.setTop (mkF m 40 #[.val (.ref a1), .val (.ref a2), .val (.ref a3), .val (.int p4), .val (.long q5), .second, .val (.int p6), .val (.int (q5.toInt32)), .val (.int ((own_ush q5 (32 : Int32)).toInt32)), .val (.int (own_lw q5)), .val (.int (own_hg q5)), .unset, .unset, .unset, .unset] [(.long ((((own_hg q5).toInt64) - ((own_lw q5).toInt64)) + (1 : Int64)))])) t → Steps p.tables e below (s₁.setTop (mkF m 0 #[.val (.ref a1), .val (.ref a2), .val (.ref a3), .val (.int p4), .val (.long q5), .second, .val (.int p6), .unset, .unset, .unset, .unset, .unset, .unset, .unset, .unset] [])) t := by
    intro t kt
    refine R436 _ ?_
    refine st437 _ ?_
    show Steps p.tables e below (T437.setTop (mkF m 29 #[.val (.ref a1), .val (.ref a2), .val (.ref a3), .val (.int p4), .val (.long q5), .second, .val (.int p6), .val (.int (q5.toInt32)), .val (.int ((own_ush q5 (32 : Int32)).toInt32)), .val (.int (own_lw q5)), .unset, .unset, .unset, .unset, .unset] [(.int (own_hg q5))])) _
    refine XS.istore X437.here hx rfl (hb hby d1_29) rfl (l' := #[.val (.ref a1), .val (.ref a2), .val (.ref a3), .val (.int p4), .val (.long q5), .second, .val (.int p6), .val (.int (q5.toInt32)), .val (.int ((own_ush q5 (32 : Int32)).toInt32)), .val (.int (own_lw q5)), .val (.int (own_hg q5)), .unset, .unset, .unset, .unset]) rfl ?_
    show Steps p.tables e below (T437.setTop (mkF m 31 #[.val (.ref a1), .val (.ref a2), .val (.ref a3), .val (.int p4), .val (.long q5), .second, .val (.int p6), .val (.int (q5.toInt32)), .val (.int ((own_ush q5 (32 : Int32)).toInt32)), .val (.int (own_lw q5)), .val (.int (own_hg q5)), .unset, .unset, .unset, .unset] [])) _
    refine XS.iload X437.here hx rfl (hb hby d1_31) rfl ?_
    show Steps p.tables e below (T437.setTop (mkF m 33 #[.val (.ref a1), .val (.ref a2), .val (.ref a3), .val (.int p4), .val (.long q5), .second, .val (.int p6), .val (.int (q5.toInt32)), .val (.int ((own_ush q5 (32 : Int32)).toInt32)), .val (.int (own_lw q5)), .val (.int (own_hg q5)), .unset, .unset, .unset, .unset] [(.int (own_hg q5))])) _
    refine XS.i2l X437.here hx rfl (hb hby d1_33) rfl ?_
    show Steps p.tables e below (T437.setTop (mkF m 34 #[.val (.ref a1), .val (.ref a2), .val (.ref a3), .val (.int p4), .val (.long q5), .second, .val (.int p6), .val (.int (q5.toInt32)), .val (.int ((own_ush q5 (32 : Int32)).toInt32)), .val (.int (own_lw q5)), .val (.int (own_hg q5)), .unset, .unset, .unset, .unset] [(.long ((own_hg q5).toInt64))])) _
    refine XS.iload X437.here hx rfl (hb hby d1_34) rfl ?_
    show Steps p.tables e below (T437.setTop (mkF m 36 #[.val (.ref a1), .val (.ref a2), .val (.ref a3), .val (.int p4), .val (.long q5), .second, .val (.int p6), .val (.int (q5.toInt32)), .val (.int ((own_ush q5 (32 : Int32)).toInt32)), .val (.int (own_lw q5)), .val (.int (own_hg q5)), .unset, .unset, .unset, .unset] [(.int (own_lw q5)), (.long ((own_hg q5).toInt64))])) _
    refine XS.i2l X437.here hx rfl (hb hby d1_36) rfl ?_
    show Steps p.tables e below (T437.setTop (mkF m 37 #[.val (.ref a1), .val (.ref a2), .val (.ref a3), .val (.int p4), .val (.long q5), .second, .val (.int p6), .val (.int (q5.toInt32)), .val (.int ((own_ush q5 (32 : Int32)).toInt32)), .val (.int (own_lw q5)), .val (.int (own_hg q5)), .unset, .unset, .unset, .unset] [(.long ((own_lw q5).toInt64)), (.long ((own_hg q5).toInt64))])) _
    refine XS.lsub X437.here hx rfl (hb hby d1_37) rfl ?_
    show Steps p.tables e below (T437.setTop (mkF m 38 #[.val (.ref a1), .val (.ref a2), .val (.ref a3), .val (.int p4), .val (.long q5), .second, .val (.int p6), .val (.int (q5.toInt32)), .val (.int ((own_ush q5 (32 : Int32)).toInt32)), .val (.int (own_lw q5)), .val (.int (own_hg q5)), .unset, .unset, .unset, .unset] [(.long (((own_hg q5).toInt64) - ((own_lw q5).toInt64)))])) _
    refine XS.lconst X437.here hx rfl (hb hby d1_38) ?_
    show Steps p.tables e below (T437.setTop (mkF m 39 #[.val (.ref a1), .val (.ref a2), .val (.ref a3), .val (.int p4), .val (.long q5), .second, .val (.int p6), .val (.int (q5.toInt32)), .val (.int ((own_ush q5 (32 : Int32)).toInt32)), .val (.int (own_lw q5)), .val (.int (own_hg q5)), .unset, .unset, .unset, .unset] [(.long (1 : Int64)), (.long (((own_hg q5).toInt64) - ((own_lw q5).toInt64)))])) _
    refine XS.ladd X437.here hx rfl (hb hby d1_39) rfl ?_
    exact kt
  clear R436 st437
  have R439 : ∀ t, Steps p.tables e below (T437.setTop (mkF m 40 #[.val (.ref a1), .val (.ref a2), .val (.ref a3), .val (.int p4), .val (.long q5), .second, .val (.int p6), .val (.int (q5.toInt32)), .val (.int ((own_ush q5 (32 : Int32)).toInt32)), .val (.int (own_lw q5)), .val (.int (own_hg q5)), .unset, .unset, .unset, .unset] [(.long (own_sp (own_lw q5) (own_hg q5)))])) t → Steps p.tables e below (s₁.setTop (mkF m 0 #[.val (.ref a1), .val (.ref a2), .val (.ref a3), .val (.int p4), .val (.long q5), .second, .val (.int p6), .unset, .unset, .unset, .unset, .unset, .unset, .unset, .unset] [])) t := R438
  have R440 : ∀ t, Steps p.tables e below (T437.setTop (mkF m 52 #[.val (.ref a1), .val (.ref a2), .val (.ref a3), .val (.int p4), .val (.long q5), .second, .val (.int p6), .val (.int (q5.toInt32)), .val (.int ((own_ush q5 (32 : Int32)).toInt32)), .val (.int (own_lw q5)), .val (.int (own_hg q5)), .val (.long (own_sp (own_lw q5) (own_hg q5))), .second, .unset, .unset] [(.long (((p6.toInt64) &&& (4294967295 : Int64)) - (((p6.toInt64) &&& (4294967295 : Int64)) / (own_sp (own_lw q5) (own_hg q5))) * (own_sp (own_lw q5) (own_hg q5))))])) t → Steps p.tables e below (s₁.setTop (mkF m 0 #[.val (.ref a1), .val (.ref a2), .val (.ref a3), .val (.int p4), .val (.long q5), .second, .val (.int p6), .unset, .unset, .unset, .unset, .unset, .unset, .unset, .unset] [])) t := by
    intro t kt
    refine R439 _ ?_
    show Steps p.tables e below (T437.setTop (mkF m 40 #[.val (.ref a1), .val (.ref a2), .val (.ref a3), .val (.int p4), .val (.long q5), .second, .val (.int p6), .val (.int (q5.toInt32)), .val (.int ((own_ush q5 (32 : Int32)).toInt32)), .val (.int (own_lw q5)), .val (.int (own_hg q5)), .unset, .unset, .unset, .unset] [(.long (own_sp (own_lw q5) (own_hg q5)))])) _
    refine XS.lstore X437.here hx rfl (hb hby d1_40) rfl (l' := #[.val (.ref a1), .val (.ref a2), .val (.ref a3), .val (.int p4), .val (.long q5), .second, .val (.int p6), .val (.int (q5.toInt32)), .val (.int ((own_ush q5 (32 : Int32)).toInt32)), .val (.int (own_lw q5)), .val (.int (own_hg q5)), .val (.long (own_sp (own_lw q5) (own_hg q5))), .second, .unset, .unset]) rfl ?_
    show Steps p.tables e below (T437.setTop (mkF m 42 #[.val (.ref a1), .val (.ref a2), .val (.ref a3), .val (.int p4), .val (.long q5), .second, .val (.int p6), .val (.int (q5.toInt32)), .val (.int ((own_ush q5 (32 : Int32)).toInt32)), .val (.int (own_lw q5)), .val (.int (own_hg q5)), .val (.long (own_sp (own_lw q5) (own_hg q5))), .second, .unset, .unset] [])) _
    refine XS.iload X437.here hx rfl (hb hby d1_42) rfl ?_
    show Steps p.tables e below (T437.setTop (mkF m 44 #[.val (.ref a1), .val (.ref a2), .val (.ref a3), .val (.int p4), .val (.long q5), .second, .val (.int p6), .val (.int (q5.toInt32)), .val (.int ((own_ush q5 (32 : Int32)).toInt32)), .val (.int (own_lw q5)), .val (.int (own_hg q5)), .val (.long (own_sp (own_lw q5) (own_hg q5))), .second, .unset, .unset] [(.int p6)])) _
    refine XS.i2l X437.here hx rfl (hb hby d1_44) rfl ?_
    show Steps p.tables e below (T437.setTop (mkF m 45 #[.val (.ref a1), .val (.ref a2), .val (.ref a3), .val (.int p4), .val (.long q5), .second, .val (.int p6), .val (.int (q5.toInt32)), .val (.int ((own_ush q5 (32 : Int32)).toInt32)), .val (.int (own_lw q5)), .val (.int (own_hg q5)), .val (.long (own_sp (own_lw q5) (own_hg q5))), .second, .unset, .unset] [(.long (p6.toInt64))])) _
    refine X437.ldc2Long hx hown (mvT hZ (hw _ (List.mem_of_getElem? (i := 12) rfl))) (g := (mkF m 45 #[.val (.ref a1), .val (.ref a2), .val (.ref a3), .val (.int p4), .val (.long q5), .second, .val (.int p6), .val (.int (q5.toInt32)), .val (.int ((own_ush q5 (32 : Int32)).toInt32)), .val (.int (own_lw q5)), .val (.int (own_hg q5)), .val (.long (own_sp (own_lw q5) (own_hg q5))), .second, .unset, .unset] [(.long (p6.toInt64))])) rfl (hb hby d1_45) _ ?_
    show Steps p.tables e below (T437.setTop (mkF m 48 #[.val (.ref a1), .val (.ref a2), .val (.ref a3), .val (.int p4), .val (.long q5), .second, .val (.int p6), .val (.int (q5.toInt32)), .val (.int ((own_ush q5 (32 : Int32)).toInt32)), .val (.int (own_lw q5)), .val (.int (own_hg q5)), .val (.long (own_sp (own_lw q5) (own_hg q5))), .second, .unset, .unset] [(.long (4294967295 : Int64)), (.long (p6.toInt64))])) _
    refine XS.land X437.here hx rfl (hb hby d1_48) rfl ?_
    show Steps p.tables e below (T437.setTop (mkF m 49 #[.val (.ref a1), .val (.ref a2), .val (.ref a3), .val (.int p4), .val (.long q5), .second, .val (.int p6), .val (.int (q5.toInt32)), .val (.int ((own_ush q5 (32 : Int32)).toInt32)), .val (.int (own_lw q5)), .val (.int (own_hg q5)), .val (.long (own_sp (own_lw q5) (own_hg q5))), .second, .unset, .unset] [(.long ((p6.toInt64) &&& (4294967295 : Int64)))])) _
    refine XS.lload X437.here hx rfl (hb hby d1_49) rfl ?_
    show Steps p.tables e below (T437.setTop (mkF m 51 #[.val (.ref a1), .val (.ref a2), .val (.ref a3), .val (.int p4), .val (.long q5), .second, .val (.int p6), .val (.int (q5.toInt32)), .val (.int ((own_ush q5 (32 : Int32)).toInt32)), .val (.int (own_lw q5)), .val (.int (own_hg q5)), .val (.long (own_sp (own_lw q5) (own_hg q5))), .second, .unset, .unset] [(.long (own_sp (own_lw q5) (own_hg q5))), (.long ((p6.toInt64) &&& (4294967295 : Int64)))])) _
    refine XS.lrem X437.here hx rfl (hb hby d1_51) rfl (own_sp_ne _ _ (own_lw_hg q5)) ?_
    exact kt
  clear R439
  have R441 : ∀ t, Steps p.tables e below (T437.setTop (mkF m 52 #[.val (.ref a1), .val (.ref a2), .val (.ref a3), .val (.int p4), .val (.long q5), .second, .val (.int p6), .val (.int (q5.toInt32)), .val (.int ((own_ush q5 (32 : Int32)).toInt32)), .val (.int (own_lw q5)), .val (.int (own_hg q5)), .val (.long (own_sp (own_lw q5) (own_hg q5))), .second, .unset, .unset] [(.long (own_pk (own_lw q5) (own_hg q5) p6))])) t → Steps p.tables e below (s₁.setTop (mkF m 0 #[.val (.ref a1), .val (.ref a2), .val (.ref a3), .val (.int p4), .val (.long q5), .second, .val (.int p6), .unset, .unset, .unset, .unset, .unset, .unset, .unset, .unset] [])) t := R440
  have R442 : ∀ t, Steps p.tables e below (T437.setTop (mkF m 58 #[.val (.ref a1), .val (.ref a2), .val (.ref a3), .val (.int p4), .val (.long q5), .second, .val (.int p6), .val (.int (q5.toInt32)), .val (.int ((own_ush q5 (32 : Int32)).toInt32)), .val (.int (own_lw q5)), .val (.int (own_hg q5)), .val (.long (own_sp (own_lw q5) (own_hg q5))), .second, .val (.long (own_pk (own_lw q5) (own_hg q5) p6)), .second] [(.int (own_lw q5)), (.int p4), (.ref a1)])) t → Steps p.tables e below (s₁.setTop (mkF m 0 #[.val (.ref a1), .val (.ref a2), .val (.ref a3), .val (.int p4), .val (.long q5), .second, .val (.int p6), .unset, .unset, .unset, .unset, .unset, .unset, .unset, .unset] [])) t := by
    intro t kt
    refine R441 _ ?_
    show Steps p.tables e below (T437.setTop (mkF m 52 #[.val (.ref a1), .val (.ref a2), .val (.ref a3), .val (.int p4), .val (.long q5), .second, .val (.int p6), .val (.int (q5.toInt32)), .val (.int ((own_ush q5 (32 : Int32)).toInt32)), .val (.int (own_lw q5)), .val (.int (own_hg q5)), .val (.long (own_sp (own_lw q5) (own_hg q5))), .second, .unset, .unset] [(.long (own_pk (own_lw q5) (own_hg q5) p6))])) _
    refine XS.lstore X437.here hx rfl (hb hby d1_52) rfl (l' := #[.val (.ref a1), .val (.ref a2), .val (.ref a3), .val (.int p4), .val (.long q5), .second, .val (.int p6), .val (.int (q5.toInt32)), .val (.int ((own_ush q5 (32 : Int32)).toInt32)), .val (.int (own_lw q5)), .val (.int (own_hg q5)), .val (.long (own_sp (own_lw q5) (own_hg q5))), .second, .val (.long (own_pk (own_lw q5) (own_hg q5) p6)), .second]) rfl ?_
    show Steps p.tables e below (T437.setTop (mkF m 54 #[.val (.ref a1), .val (.ref a2), .val (.ref a3), .val (.int p4), .val (.long q5), .second, .val (.int p6), .val (.int (q5.toInt32)), .val (.int ((own_ush q5 (32 : Int32)).toInt32)), .val (.int (own_lw q5)), .val (.int (own_hg q5)), .val (.long (own_sp (own_lw q5) (own_hg q5))), .second, .val (.long (own_pk (own_lw q5) (own_hg q5) p6)), .second] [])) _
    refine XS.aloadN X437.here hx rfl (hb hby d1_54) rfl rfl ?_
    show Steps p.tables e below (T437.setTop (mkF m 55 #[.val (.ref a1), .val (.ref a2), .val (.ref a3), .val (.int p4), .val (.long q5), .second, .val (.int p6), .val (.int (q5.toInt32)), .val (.int ((own_ush q5 (32 : Int32)).toInt32)), .val (.int (own_lw q5)), .val (.int (own_hg q5)), .val (.long (own_sp (own_lw q5) (own_hg q5))), .second, .val (.long (own_pk (own_lw q5) (own_hg q5) p6)), .second] [(.ref a1)])) _
    refine XS.iloadN X437.here hx rfl (hb hby d1_55) rfl ?_
    show Steps p.tables e below (T437.setTop (mkF m 56 #[.val (.ref a1), .val (.ref a2), .val (.ref a3), .val (.int p4), .val (.long q5), .second, .val (.int p6), .val (.int (q5.toInt32)), .val (.int ((own_ush q5 (32 : Int32)).toInt32)), .val (.int (own_lw q5)), .val (.int (own_hg q5)), .val (.long (own_sp (own_lw q5) (own_hg q5))), .second, .val (.long (own_pk (own_lw q5) (own_hg q5) p6)), .second] [(.int p4), (.ref a1)])) _
    refine XS.iload X437.here hx rfl (hb hby d1_56) rfl ?_
    exact kt
  clear R441
  obtain ⟨cl443, Ar443, hin443, -⟩ := V1.at (j := p4) (k := i) hi0 hin hi3
  obtain ⟨T444, h444, X444, e444, W444, st444⟩ := stI X437 hx hZ hh437 Ar443 (j := p4) hin443 (g := (mkF m 58 #[.val (.ref a1), .val (.ref a2), .val (.ref a3), .val (.int p4), .val (.long q5), .second, .val (.int p6), .val (.int (q5.toInt32)), .val (.int ((own_ush q5 (32 : Int32)).toInt32)), .val (.int (own_lw q5)), .val (.int (own_hg q5)), .val (.long (own_sp (own_lw q5) (own_hg q5))), .second, .val (.long (own_pk (own_lw q5) (own_hg q5) p6)), .second] [(.int (own_lw q5)), (.int p4), (.ref a1)])) rfl rfl (hb hby d1_58)
  have N444 := Fr.snoc X444 N437 g1
  rw [show (p4 : Int32).toNatClampNeg = i from hin] at W444
  have V1_444 : AV Z h444 a1 .int 3 (fun j => .int ((own_set f1 i (own_lw q5)) j)) := V1.setI W444
  have V2_444 := V2.other W444 (Ne.symm n12)
  have V3_444 := V3.other W444 (Ne.symm n13)
  have Zs444 : n0 ≤ h444.size := Nat.le_trans Z0 (Keep.of_wr W444).1
  have Kw444 : Keep h0 h444 [a1, a2, a3] := Keep.wr (Keep.refl h0 [a1, a2, a3]) W444 (Or.inl (List.mem_of_getElem? (i := 0) rfl))
  have R445 : ∀ t, Steps p.tables e below (T444.setTop (mkF m 63 #[.val (.ref a1), .val (.ref a2), .val (.ref a3), .val (.int p4), .val (.long q5), .second, .val (.int p6), .val (.int (q5.toInt32)), .val (.int ((own_ush q5 (32 : Int32)).toInt32)), .val (.int (own_lw q5)), .val (.int (own_hg q5)), .val (.long (own_sp (own_lw q5) (own_hg q5))), .second, .val (.long (own_pk (own_lw q5) (own_hg q5) p6)), .second] [(.int (own_hg q5)), (.int p4), (.ref a2)])) t → Steps p.tables e below (s₁.setTop (mkF m 0 #[.val (.ref a1), .val (.ref a2), .val (.ref a3), .val (.int p4), .val (.long q5), .second, .val (.int p6), .unset, .unset, .unset, .unset, .unset, .unset, .unset, .unset] [])) t := by
    intro t kt
    refine R442 _ ?_
    refine st444 _ ?_
    show Steps p.tables e below (T444.setTop (mkF m 59 #[.val (.ref a1), .val (.ref a2), .val (.ref a3), .val (.int p4), .val (.long q5), .second, .val (.int p6), .val (.int (q5.toInt32)), .val (.int ((own_ush q5 (32 : Int32)).toInt32)), .val (.int (own_lw q5)), .val (.int (own_hg q5)), .val (.long (own_sp (own_lw q5) (own_hg q5))), .second, .val (.long (own_pk (own_lw q5) (own_hg q5) p6)), .second] [])) _
    refine XS.aloadN X444.here hx rfl (hb hby d1_59) rfl rfl ?_
    show Steps p.tables e below (T444.setTop (mkF m 60 #[.val (.ref a1), .val (.ref a2), .val (.ref a3), .val (.int p4), .val (.long q5), .second, .val (.int p6), .val (.int (q5.toInt32)), .val (.int ((own_ush q5 (32 : Int32)).toInt32)), .val (.int (own_lw q5)), .val (.int (own_hg q5)), .val (.long (own_sp (own_lw q5) (own_hg q5))), .second, .val (.long (own_pk (own_lw q5) (own_hg q5) p6)), .second] [(.ref a2)])) _
    refine XS.iloadN X444.here hx rfl (hb hby d1_60) rfl ?_
    show Steps p.tables e below (T444.setTop (mkF m 61 #[.val (.ref a1), .val (.ref a2), .val (.ref a3), .val (.int p4), .val (.long q5), .second, .val (.int p6), .val (.int (q5.toInt32)), .val (.int ((own_ush q5 (32 : Int32)).toInt32)), .val (.int (own_lw q5)), .val (.int (own_hg q5)), .val (.long (own_sp (own_lw q5) (own_hg q5))), .second, .val (.long (own_pk (own_lw q5) (own_hg q5) p6)), .second] [(.int p4), (.ref a2)])) _
    refine XS.iload X444.here hx rfl (hb hby d1_61) rfl ?_
    exact kt
  clear R442 st444
  obtain ⟨cl446, Ar446, hin446, -⟩ := V2_444.at (j := p4) (k := i) hi0 hin hi3
  obtain ⟨T447, h447, X447, e447, W447, st447⟩ := stI X444 hx hZ e444 Ar446 (j := p4) hin446 (g := (mkF m 63 #[.val (.ref a1), .val (.ref a2), .val (.ref a3), .val (.int p4), .val (.long q5), .second, .val (.int p6), .val (.int (q5.toInt32)), .val (.int ((own_ush q5 (32 : Int32)).toInt32)), .val (.int (own_lw q5)), .val (.int (own_hg q5)), .val (.long (own_sp (own_lw q5) (own_hg q5))), .second, .val (.long (own_pk (own_lw q5) (own_hg q5) p6)), .second] [(.int (own_hg q5)), (.int p4), (.ref a2)])) rfl rfl (hb hby d1_63)
  have N447 := Fr.snoc X447 N444 g2
  rw [show (p4 : Int32).toNatClampNeg = i from hin] at W447
  have V2_447 : AV Z h447 a2 .int 3 (fun j => .int ((own_set f2 i (own_hg q5)) j)) := V2_444.setI W447
  have V1_447 := V1_444.other W447 n12
  have V3_447 := V3_444.other W447 (Ne.symm n23)
  clear V1_444 V3_444
  have Zs447 : n0 ≤ h447.size := Nat.le_trans Zs444 (Keep.of_wr W447).1
  have Kw447 : Keep h0 h447 [a1, a2, a3] := Keep.wr Kw444 W447 (Or.inl (List.mem_of_getElem? (i := 1) rfl))
  have R448 : ∀ t, Steps p.tables e below (T447.setTop (mkF m 73 #[.val (.ref a1), .val (.ref a2), .val (.ref a3), .val (.int p4), .val (.long q5), .second, .val (.int p6), .val (.int (q5.toInt32)), .val (.int ((own_ush q5 (32 : Int32)).toInt32)), .val (.int (own_lw q5)), .val (.int (own_hg q5)), .val (.long (own_sp (own_lw q5) (own_hg q5))), .second, .val (.long (own_pk (own_lw q5) (own_hg q5) p6)), .second] [(.int ((((own_lw q5).toInt64) + (own_pk (own_lw q5) (own_hg q5) p6)).toInt32)), (.int p4), (.ref a3)])) t → Steps p.tables e below (s₁.setTop (mkF m 0 #[.val (.ref a1), .val (.ref a2), .val (.ref a3), .val (.int p4), .val (.long q5), .second, .val (.int p6), .unset, .unset, .unset, .unset, .unset, .unset, .unset, .unset] [])) t := by
    intro t kt
    refine R445 _ ?_
    refine st447 _ ?_
    show Steps p.tables e below (T447.setTop (mkF m 64 #[.val (.ref a1), .val (.ref a2), .val (.ref a3), .val (.int p4), .val (.long q5), .second, .val (.int p6), .val (.int (q5.toInt32)), .val (.int ((own_ush q5 (32 : Int32)).toInt32)), .val (.int (own_lw q5)), .val (.int (own_hg q5)), .val (.long (own_sp (own_lw q5) (own_hg q5))), .second, .val (.long (own_pk (own_lw q5) (own_hg q5) p6)), .second] [])) _
    refine XS.aloadN X447.here hx rfl (hb hby d1_64) rfl rfl ?_
    show Steps p.tables e below (T447.setTop (mkF m 65 #[.val (.ref a1), .val (.ref a2), .val (.ref a3), .val (.int p4), .val (.long q5), .second, .val (.int p6), .val (.int (q5.toInt32)), .val (.int ((own_ush q5 (32 : Int32)).toInt32)), .val (.int (own_lw q5)), .val (.int (own_hg q5)), .val (.long (own_sp (own_lw q5) (own_hg q5))), .second, .val (.long (own_pk (own_lw q5) (own_hg q5) p6)), .second] [(.ref a3)])) _
    refine XS.iloadN X447.here hx rfl (hb hby d1_65) rfl ?_
    show Steps p.tables e below (T447.setTop (mkF m 66 #[.val (.ref a1), .val (.ref a2), .val (.ref a3), .val (.int p4), .val (.long q5), .second, .val (.int p6), .val (.int (q5.toInt32)), .val (.int ((own_ush q5 (32 : Int32)).toInt32)), .val (.int (own_lw q5)), .val (.int (own_hg q5)), .val (.long (own_sp (own_lw q5) (own_hg q5))), .second, .val (.long (own_pk (own_lw q5) (own_hg q5) p6)), .second] [(.int p4), (.ref a3)])) _
    refine XS.iload X447.here hx rfl (hb hby d1_66) rfl ?_
    show Steps p.tables e below (T447.setTop (mkF m 68 #[.val (.ref a1), .val (.ref a2), .val (.ref a3), .val (.int p4), .val (.long q5), .second, .val (.int p6), .val (.int (q5.toInt32)), .val (.int ((own_ush q5 (32 : Int32)).toInt32)), .val (.int (own_lw q5)), .val (.int (own_hg q5)), .val (.long (own_sp (own_lw q5) (own_hg q5))), .second, .val (.long (own_pk (own_lw q5) (own_hg q5) p6)), .second] [(.int (own_lw q5)), (.int p4), (.ref a3)])) _
    refine XS.i2l X447.here hx rfl (hb hby d1_68) rfl ?_
    show Steps p.tables e below (T447.setTop (mkF m 69 #[.val (.ref a1), .val (.ref a2), .val (.ref a3), .val (.int p4), .val (.long q5), .second, .val (.int p6), .val (.int (q5.toInt32)), .val (.int ((own_ush q5 (32 : Int32)).toInt32)), .val (.int (own_lw q5)), .val (.int (own_hg q5)), .val (.long (own_sp (own_lw q5) (own_hg q5))), .second, .val (.long (own_pk (own_lw q5) (own_hg q5) p6)), .second] [(.long ((own_lw q5).toInt64)), (.int p4), (.ref a3)])) _
    refine XS.lload X447.here hx rfl (hb hby d1_69) rfl ?_
    show Steps p.tables e below (T447.setTop (mkF m 71 #[.val (.ref a1), .val (.ref a2), .val (.ref a3), .val (.int p4), .val (.long q5), .second, .val (.int p6), .val (.int (q5.toInt32)), .val (.int ((own_ush q5 (32 : Int32)).toInt32)), .val (.int (own_lw q5)), .val (.int (own_hg q5)), .val (.long (own_sp (own_lw q5) (own_hg q5))), .second, .val (.long (own_pk (own_lw q5) (own_hg q5) p6)), .second] [(.long (own_pk (own_lw q5) (own_hg q5) p6)), (.long ((own_lw q5).toInt64)), (.int p4), (.ref a3)])) _
    refine XS.ladd X447.here hx rfl (hb hby d1_71) rfl ?_
    show Steps p.tables e below (T447.setTop (mkF m 72 #[.val (.ref a1), .val (.ref a2), .val (.ref a3), .val (.int p4), .val (.long q5), .second, .val (.int p6), .val (.int (q5.toInt32)), .val (.int ((own_ush q5 (32 : Int32)).toInt32)), .val (.int (own_lw q5)), .val (.int (own_hg q5)), .val (.long (own_sp (own_lw q5) (own_hg q5))), .second, .val (.long (own_pk (own_lw q5) (own_hg q5) p6)), .second] [(.long (((own_lw q5).toInt64) + (own_pk (own_lw q5) (own_hg q5) p6))), (.int p4), (.ref a3)])) _
    refine XS.l2i X447.here hx rfl (hb hby d1_72) rfl ?_
    exact kt
  clear R445 st447
  obtain ⟨cl449, Ar449, hin449, -⟩ := V3_447.at (j := p4) (k := i) hi0 hin hi3
  obtain ⟨T450, h450, X450, e450, W450, st450⟩ := stI X447 hx hZ e447 Ar449 (j := p4) hin449 (g := (mkF m 73 #[.val (.ref a1), .val (.ref a2), .val (.ref a3), .val (.int p4), .val (.long q5), .second, .val (.int p6), .val (.int (q5.toInt32)), .val (.int ((own_ush q5 (32 : Int32)).toInt32)), .val (.int (own_lw q5)), .val (.int (own_hg q5)), .val (.long (own_sp (own_lw q5) (own_hg q5))), .second, .val (.long (own_pk (own_lw q5) (own_hg q5) p6)), .second] [(.int ((((own_lw q5).toInt64) + (own_pk (own_lw q5) (own_hg q5) p6)).toInt32)), (.int p4), (.ref a3)])) rfl rfl (hb hby d1_73)
  have N450 := Fr.snoc X450 N447 g3
  rw [show (p4 : Int32).toNatClampNeg = i from hin] at W450
  have V3_450 : AV Z h450 a3 .int 3 (fun j => .int ((own_set f3 i (own_vl (own_lw q5) (own_hg q5) p6)) j)) := V3_447.setI W450
  have V1_450 := V1_447.other W450 n13
  have V2_450 := V2_447.other W450 n23
  clear V1_447 V2_447
  have Zs450 : n0 ≤ h450.size := Nat.le_trans Zs447 (Keep.of_wr W450).1
  have Kw450 : Keep h0 h450 [a1, a2, a3] := Keep.wr Kw447 W450 (Or.inl (List.mem_of_getElem? (i := 2) rfl))
  have R451 : ∀ t, Steps p.tables e below (T450.setTop (mkF m 74 #[.val (.ref a1), .val (.ref a2), .val (.ref a3), .val (.int p4), .val (.long q5), .second, .val (.int p6), .val (.int (q5.toInt32)), .val (.int ((own_ush q5 (32 : Int32)).toInt32)), .val (.int (own_lw q5)), .val (.int (own_hg q5)), .val (.long (own_sp (own_lw q5) (own_hg q5))), .second, .val (.long (own_pk (own_lw q5) (own_hg q5) p6)), .second] [])) t → Steps p.tables e below (s₁.setTop (mkF m 0 #[.val (.ref a1), .val (.ref a2), .val (.ref a3), .val (.int p4), .val (.long q5), .second, .val (.int p6), .unset, .unset, .unset, .unset, .unset, .unset, .unset, .unset] [])) t := by
    intro t kt
    refine R448 _ ?_
    refine st450 _ ?_
    exact kt
  clear R448 st450
  obtain ⟨fs, hr, hrun, hended, hW, hsame⟩ := X450.leave (v := none) (fun _ => rfl)
  refine ⟨_, _, pre0 _ (R451 _ ?_), hrun, hended, _, _, rfl, ?_, ⟨_, rfl⟩, hW, hsame.mono (by decide) (by decide)⟩
  · exact X450.returnOut hx Bd.returns (hb hby d1_74) hr
  · show Q_rm_fill Z a1 a2 a3 p4 q5 p6 i f1 f2 f3 h0 n0 _ T450.heap _
    rw [e450]
    exact ⟨rfl, N450, Kw450, V1_450, V2_450, V3_450⟩
theorem pd_3 : parseMethodDescriptor "([I[I[IIJI)V" = some ⟨[(.array .int), (.array .int), (.array .int), .int, .long, .int], none⟩ := by decide +kernel
theorem pd_4 : parseMethodDescriptor "([I[I)V" = some ⟨[(.array .int), (.array .int)], none⟩ := by decide +kernel
theorem pd_5 : parseMethodDescriptor "([I[JI)V" = some ⟨[(.array .int), (.array .long), .int], none⟩ := by decide +kernel
theorem pd_6 : parseMethodDescriptor "([JI[I)V" = some ⟨[(.array .long), .int, (.array .int)], none⟩ := by decide +kernel
theorem ef_rm_law (m : MethodId) (q1 : Int64) (q2 : Int64) (q3 : Int64) (p4 : Int32) (p5 : Int32) (p6 : Int32) : entryFrame m #[(.long q1), (.long q2), (.long q3), (.int p4), (.int p5), (.int p6)] maxLocals = mkF m 0 #[.val (.long q1), .second, .val (.long q2), .second, .val (.long q3), .second, .val (.int p4), .val (.int p5), .val (.int p6), .unset, .unset, .unset, .unset, .unset, .unset, .unset, .unset, .unset] [] := by first | (simp [entryFrame, mkF, argsToLocals, Value.category, maxLocals]; done) | rfl
def Q_rm_law (Z : State) (q1 : Int64) (q2 : Int64) (q3 : Int64) (p4 : Int32) (p5 : Int32) (p6 : Int32) (h0 : Heap) (n0 : Nat) (v : Option Value) (h : Heap) (L : List Loc) : Prop := v = some (.int (1 : Int32)) ∧ Fr n0 L
set_option maxRecDepth 65536 in
set_option maxHeartbeats 40000000 in
theorem rm_law (l : Launch) (Z : State) (a0 : Array Value) (hw : ∀ d ∈ tables_1, d.before a0 Z = true) (ws : List Jvm.Cond) (q1 : Int64) (q2 : Int64) (q3 : Int64) (p4 : Int32) (p5 : Int32) (p6 : Int32) (h0 : Heap) (n0 : Nat) (Z0 : n0 ≤ h0.size) :
    MetFree l x (head1 (Jvm.Cond.code x code maxLocals ret :: ws) room_1) (fun a U => a = #[(.long q1), (.long q2), (.long q3), (.int p4), (.int p5), (.int p6)] ∧ Z.Warmed39 U.vm ∧ U.heap = h0) (fun _ _ _ _ _ => True) (fun _ U oC U' => ∃ v L, oC = .returned v ∧ Q_rm_law Z q1 q2 q3 p4 p5 p6 h0 n0 v U'.heap L ∧ FrameEnd U oC U' L room_1.cells room_1.slots) := by
  refine MetFree.of_bodySF (plainFor_of_name pn_3) hisR ?_
  intro p e s m args below meth c s₁ Bd hml0 hP hK
  obtain ⟨rfl, hZ, hh⟩ := hP
  have hx := Bd.exec
  have hby := Bd.bytes
  have hml : c.maxLocals = 18 := hml0
  have hown : s.vm.findClass "com/example/inexact_odds/inexactodds/language/EncodingDecodePinLaw" = some m.cls := findClass_of_methodNamed Bd.named
  have hnm := (name_of_methodNamed Bd.named Bd.method).1
  have X0 : Stand p l e room_1 s m #[(.long q1), (.long q2), (.long q3), (.int p4), (.int p5), (.int p6)] below meth c s₁ [] 0 0 := Stand.of_body Bd
  have e0 : s₁.heap = h0 := by rw [← hh, Bd.state]; rfl
  have N0 := Fr.nil n0
  have pre0 : ∀ t, Steps p.tables e below (s₁.setTop (mkF m 0 #[.val (.long q1), .second, .val (.long q2), .second, .val (.long q3), .second, .val (.int p4), .val (.int p5), .val (.int p6), .unset, .unset, .unset, .unset, .unset, .unset, .unset, .unset, .unset] [])) t → Steps p.tables e below (s₁.setTop (entryFrame m #[(.long q1), (.long q2), (.long q3), (.int p4), (.int p5), (.int p6)] maxLocals)) t := fun t k => castTop (ef_rm_law m q1 q2 q3 p4 p5 p6) k
  have pre00 : ∀ t, Steps p.tables e below (s₁.setTop (mkF m 0 #[.val (.long q1), .second, .val (.long q2), .second, .val (.long q3), .second, .val (.int p4), .val (.int p5), .val (.int p6), .unset, .unset, .unset, .unset, .unset, .unset, .unset, .unset, .unset] [])) t → Steps p.tables e below (s₁.setTop (mkF m 0 #[.val (.long q1), .second, .val (.long q2), .second, .val (.long q3), .second, .val (.int p4), .val (.int p5), .val (.int p6), .unset, .unset, .unset, .unset, .unset, .unset, .unset, .unset, .unset] [])) t := fun _ k => k
  have R452 : ∀ t, Steps p.tables e below (s₁.setTop (mkF m 1 #[.val (.long q1), .second, .val (.long q2), .second, .val (.long q3), .second, .val (.int p4), .val (.int p5), .val (.int p6), .unset, .unset, .unset, .unset, .unset, .unset, .unset, .unset, .unset] [(.int (3 : Int32))])) t → Steps p.tables e below (s₁.setTop (mkF m 0 #[.val (.long q1), .second, .val (.long q2), .second, .val (.long q3), .second, .val (.int p4), .val (.int p5), .val (.int p6), .unset, .unset, .unset, .unset, .unset, .unset, .unset, .unset, .unset] [])) t := by
    intro t kt
    refine pre00 _ ?_
    show Steps p.tables e below (s₁.setTop (mkF m 0 #[.val (.long q1), .second, .val (.long q2), .second, .val (.long q3), .second, .val (.int p4), .val (.int p5), .val (.int p6), .unset, .unset, .unset, .unset, .unset, .unset, .unset, .unset, .unset] [])) _
    refine XS.iconst X0.here hx rfl (hb hby at_0) ?_
    exact kt
  obtain ⟨T453, h453, k453, X453, e453, E453, A453, Q453, st453⟩ := newPE X0 hx hZ (hw _ (List.mem_of_getElem? (i := 0) rfl)) e0 (g := (mkF m 1 #[.val (.long q1), .second, .val (.long q2), .second, .val (.long q3), .second, .val (.int p4), .val (.int p5), .val (.int p6), .unset, .unset, .unset, .unset, .unset, .unset, .unset, .unset, .unset] [(.int (3 : Int32))])) rfl (hb hby at_1) rfl (by decide) (cap := 3) (by decide) (by decide) (by decide) (by decide) (ad := "[I") (by decide)
  obtain ⟨x1, g453⟩ : ∃ z, z = h0.size := ⟨_, rfl⟩
  rw [← g453] at A453 Q453 st453
  have g_x1 : n0 ≤ x1 := Nat.le_trans Z0 (Nat.le_of_eq g453.symm)
  have Zs453 : n0 ≤ h453.size := Nat.le_trans Z0 E453.1
  have V1r : AV Z h453 x1 .int 3 (fun _ => defaultValue .int) := AV.new A453 rfl rfl
  have E_x1 := Q453
  have V1 : AV Z h453 x1 .int 3 (fun j => .int ((fun _ => (0 : Int32)) j)) := V1r
  have R454 : ∀ t, Steps p.tables e below (T453.setTop (mkF m 6 #[.val (.long q1), .second, .val (.long q2), .second, .val (.long q3), .second, .val (.int p4), .val (.int p5), .val (.int p6), .val (.ref x1), .unset, .unset, .unset, .unset, .unset, .unset, .unset, .unset] [(.int (3 : Int32))])) t → Steps p.tables e below (s₁.setTop (mkF m 0 #[.val (.long q1), .second, .val (.long q2), .second, .val (.long q3), .second, .val (.int p4), .val (.int p5), .val (.int p6), .unset, .unset, .unset, .unset, .unset, .unset, .unset, .unset, .unset] [])) t := by
    intro t kt
    refine R452 _ ?_
    refine st453 _ ?_
    show Steps p.tables e below (T453.setTop (mkF m 3 #[.val (.long q1), .second, .val (.long q2), .second, .val (.long q3), .second, .val (.int p4), .val (.int p5), .val (.int p6), .unset, .unset, .unset, .unset, .unset, .unset, .unset, .unset, .unset] [(.ref x1)])) _
    refine XS.astore X453.here hx rfl (hb hby at_3) rfl rfl (l' := #[.val (.long q1), .second, .val (.long q2), .second, .val (.long q3), .second, .val (.int p4), .val (.int p5), .val (.int p6), .val (.ref x1), .unset, .unset, .unset, .unset, .unset, .unset, .unset, .unset]) rfl ?_
    show Steps p.tables e below (T453.setTop (mkF m 5 #[.val (.long q1), .second, .val (.long q2), .second, .val (.long q3), .second, .val (.int p4), .val (.int p5), .val (.int p6), .val (.ref x1), .unset, .unset, .unset, .unset, .unset, .unset, .unset, .unset] [])) _
    refine XS.iconst X453.here hx rfl (hb hby at_5) ?_
    exact kt
  clear R452 st453
  obtain ⟨T455, h455, k455, X455, e455, E455, A455, st455⟩ := newP X453 hx hZ (hw _ (List.mem_of_getElem? (i := 0) rfl)) e453 (g := (mkF m 6 #[.val (.long q1), .second, .val (.long q2), .second, .val (.long q3), .second, .val (.int p4), .val (.int p5), .val (.int p6), .val (.ref x1), .unset, .unset, .unset, .unset, .unset, .unset, .unset, .unset] [(.int (3 : Int32))])) rfl (hb hby at_6) rfl (by decide) (cap := 3) (by decide) (by decide) (by decide) (by decide)
  obtain ⟨x2, g455⟩ : ∃ z, z = h453.size := ⟨_, rfl⟩
  rw [← g455] at A455 st455
  have g_x2 : n0 ≤ x2 := Nat.le_trans Zs453 (Nat.le_of_eq g455.symm)
  have ne_x1_x2 : x1 ≠ x2 := Nat.ne_of_lt (Nat.lt_of_lt_of_le E_x1.lt (Nat.le_of_eq g455.symm))
  have E_x1_455 := E_x1.ext E455
  have V1_455 := V1.ext E455
  have Zs455 : n0 ≤ h455.size := Nat.le_trans Zs453 E455.1
  have V2r : AV Z h455 x2 .int 3 (fun _ => defaultValue .int) := AV.new A455 rfl rfl
  have V2 : AV Z h455 x2 .int 3 (fun j => .int ((fun _ => (0 : Int32)) j)) := V2r
  have R456 : ∀ t, Steps p.tables e below (T455.setTop (mkF m 11 #[.val (.long q1), .second, .val (.long q2), .second, .val (.long q3), .second, .val (.int p4), .val (.int p5), .val (.int p6), .val (.ref x1), .val (.ref x2), .unset, .unset, .unset, .unset, .unset, .unset, .unset] [(.int (3 : Int32))])) t → Steps p.tables e below (s₁.setTop (mkF m 0 #[.val (.long q1), .second, .val (.long q2), .second, .val (.long q3), .second, .val (.int p4), .val (.int p5), .val (.int p6), .unset, .unset, .unset, .unset, .unset, .unset, .unset, .unset, .unset] [])) t := by
    intro t kt
    refine R454 _ ?_
    refine st455 _ ?_
    show Steps p.tables e below (T455.setTop (mkF m 8 #[.val (.long q1), .second, .val (.long q2), .second, .val (.long q3), .second, .val (.int p4), .val (.int p5), .val (.int p6), .val (.ref x1), .unset, .unset, .unset, .unset, .unset, .unset, .unset, .unset] [(.ref x2)])) _
    refine XS.astore X455.here hx rfl (hb hby at_8) rfl rfl (l' := #[.val (.long q1), .second, .val (.long q2), .second, .val (.long q3), .second, .val (.int p4), .val (.int p5), .val (.int p6), .val (.ref x1), .val (.ref x2), .unset, .unset, .unset, .unset, .unset, .unset, .unset]) rfl ?_
    show Steps p.tables e below (T455.setTop (mkF m 10 #[.val (.long q1), .second, .val (.long q2), .second, .val (.long q3), .second, .val (.int p4), .val (.int p5), .val (.int p6), .val (.ref x1), .val (.ref x2), .unset, .unset, .unset, .unset, .unset, .unset, .unset] [])) _
    refine XS.iconst X455.here hx rfl (hb hby at_10) ?_
    exact kt
  clear R454 st455
  obtain ⟨T457, h457, k457, X457, e457, E457, A457, st457⟩ := newP X455 hx hZ (hw _ (List.mem_of_getElem? (i := 0) rfl)) e455 (g := (mkF m 11 #[.val (.long q1), .second, .val (.long q2), .second, .val (.long q3), .second, .val (.int p4), .val (.int p5), .val (.int p6), .val (.ref x1), .val (.ref x2), .unset, .unset, .unset, .unset, .unset, .unset, .unset] [(.int (3 : Int32))])) rfl (hb hby at_11) rfl (by decide) (cap := 3) (by decide) (by decide) (by decide) (by decide)
  obtain ⟨x3, g457⟩ : ∃ z, z = h455.size := ⟨_, rfl⟩
  rw [← g457] at A457 st457
  have g_x3 : n0 ≤ x3 := Nat.le_trans Zs455 (Nat.le_of_eq g457.symm)
  have ne_x1_x3 : x1 ≠ x3 := Nat.ne_of_lt (Nat.lt_of_lt_of_le E_x1_455.lt (Nat.le_of_eq g457.symm))
  have ne_x2_x3 : x2 ≠ x3 := Nat.ne_of_lt (Nat.lt_of_lt_of_le V2.lt (Nat.le_of_eq g457.symm))
  have E_x1_457 := E_x1_455.ext E457
  have V1_457 := V1_455.ext E457
  have V2_457 := V2.ext E457
  clear E_x1_455 V1_455
  have Zs457 : n0 ≤ h457.size := Nat.le_trans Zs455 E457.1
  have V3r : AV Z h457 x3 .int 3 (fun _ => defaultValue .int) := AV.new A457 rfl rfl
  have V3 : AV Z h457 x3 .int 3 (fun j => .int ((fun _ => (0 : Int32)) j)) := V3r
  have R458 : ∀ t, Steps p.tables e below (T457.setTop (mkF m 25 #[.val (.long q1), .second, .val (.long q2), .second, .val (.long q3), .second, .val (.int p4), .val (.int p5), .val (.int p6), .val (.ref x1), .val (.ref x2), .val (.ref x3), .unset, .unset, .unset, .unset, .unset, .unset] [(.int p4), (.long q1), (.int (0 : Int32)), (.ref x3), (.ref x2), (.ref x1)])) t → Steps p.tables e below (s₁.setTop (mkF m 0 #[.val (.long q1), .second, .val (.long q2), .second, .val (.long q3), .second, .val (.int p4), .val (.int p5), .val (.int p6), .unset, .unset, .unset, .unset, .unset, .unset, .unset, .unset, .unset] [])) t := by
    intro t kt
    refine R456 _ ?_
    refine st457 _ ?_
    show Steps p.tables e below (T457.setTop (mkF m 13 #[.val (.long q1), .second, .val (.long q2), .second, .val (.long q3), .second, .val (.int p4), .val (.int p5), .val (.int p6), .val (.ref x1), .val (.ref x2), .unset, .unset, .unset, .unset, .unset, .unset, .unset] [(.ref x3)])) _
    refine XS.astore X457.here hx rfl (hb hby at_13) rfl rfl (l' := #[.val (.long q1), .second, .val (.long q2), .second, .val (.long q3), .second, .val (.int p4), .val (.int p5), .val (.int p6), .val (.ref x1), .val (.ref x2), .val (.ref x3), .unset, .unset, .unset, .unset, .unset, .unset]) rfl ?_
    show Steps p.tables e below (T457.setTop (mkF m 15 #[.val (.long q1), .second, .val (.long q2), .second, .val (.long q3), .second, .val (.int p4), .val (.int p5), .val (.int p6), .val (.ref x1), .val (.ref x2), .val (.ref x3), .unset, .unset, .unset, .unset, .unset, .unset] [])) _
    refine XS.aload X457.here hx rfl (hb hby at_15) rfl rfl ?_
    show Steps p.tables e below (T457.setTop (mkF m 17 #[.val (.long q1), .second, .val (.long q2), .second, .val (.long q3), .second, .val (.int p4), .val (.int p5), .val (.int p6), .val (.ref x1), .val (.ref x2), .val (.ref x3), .unset, .unset, .unset, .unset, .unset, .unset] [(.ref x1)])) _
    refine XS.aload X457.here hx rfl (hb hby at_17) rfl rfl ?_
    show Steps p.tables e below (T457.setTop (mkF m 19 #[.val (.long q1), .second, .val (.long q2), .second, .val (.long q3), .second, .val (.int p4), .val (.int p5), .val (.int p6), .val (.ref x1), .val (.ref x2), .val (.ref x3), .unset, .unset, .unset, .unset, .unset, .unset] [(.ref x2), (.ref x1)])) _
    refine XS.aload X457.here hx rfl (hb hby at_19) rfl rfl ?_
    show Steps p.tables e below (T457.setTop (mkF m 21 #[.val (.long q1), .second, .val (.long q2), .second, .val (.long q3), .second, .val (.int p4), .val (.int p5), .val (.int p6), .val (.ref x1), .val (.ref x2), .val (.ref x3), .unset, .unset, .unset, .unset, .unset, .unset] [(.ref x3), (.ref x2), (.ref x1)])) _
    refine XS.iconst X457.here hx rfl (hb hby at_21) ?_
    show Steps p.tables e below (T457.setTop (mkF m 22 #[.val (.long q1), .second, .val (.long q2), .second, .val (.long q3), .second, .val (.int p4), .val (.int p5), .val (.int p6), .val (.ref x1), .val (.ref x2), .val (.ref x3), .unset, .unset, .unset, .unset, .unset, .unset] [(.int (0 : Int32)), (.ref x3), (.ref x2), (.ref x1)])) _
    refine XS.lloadN X457.here hx rfl (hb hby at_22) rfl ?_
    show Steps p.tables e below (T457.setTop (mkF m 23 #[.val (.long q1), .second, .val (.long q2), .second, .val (.long q3), .second, .val (.int p4), .val (.int p5), .val (.int p6), .val (.ref x1), .val (.ref x2), .val (.ref x3), .unset, .unset, .unset, .unset, .unset, .unset] [(.long q1), (.int (0 : Int32)), (.ref x3), (.ref x2), (.ref x1)])) _
    refine XS.iload X457.here hx rfl (hb hby at_23) rfl ?_
    exact kt
  clear R456 st457
  obtain ⟨_, _, ⟨T459, L459, k459, n459⟩, -, X459, ⟨Lc459, hQ459, l459, y459, z459⟩, st459⟩ := Jvm.LawKit.callS X457 hx (y := (⟨"com/example/inexact_odds/inexactodds/language/EncodingDecodePinLaw", "fill", "([I[I[IIJI)V"⟩ : MethodName)) hown (mvT hZ (hw _ (List.mem_of_getElem? (i := 1) rfl))) (mvT hZ (hw _ (List.mem_of_getElem? (i := 2) rfl))) (mvT hZ (hw _ (List.mem_of_getElem? (i := 3) rfl))) (mvT hZ (hw _ (List.mem_of_getElem? (i := 4) rfl))) (by decide) (backOf (W := 0) (rm_fill l Z a0 hw [] x1 x2 x3 (0 : Int32) q1 p4 0 (fun _ => (0 : Int32)) (fun _ => (0 : Int32)) (fun _ => (0 : Int32)) h457 n0 Zs457 V1_457 V2_457 V3 g_x1 g_x2 g_x3 ne_x1_x2 ne_x1_x3 ne_x2_x3 (by decide) (by decide) (by decide)) hZ (hw _ (List.mem_of_getElem? (i := 4) rfl)) (hw _ (List.mem_of_getElem? (i := 3) rfl)) (by decide) (by decide)) (g := (mkF m 25 #[.val (.long q1), .second, .val (.long q2), .second, .val (.long q3), .second, .val (.int p4), .val (.int p5), .val (.int p6), .val (.ref x1), .val (.ref x2), .val (.ref x3), .unset, .unset, .unset, .unset, .unset, .unset] [(.int p4), (.long q1), (.int (0 : Int32)), (.ref x3), (.ref x2), (.ref x1)])) rfl (by rw [hml]; rfl) (argsL := [(.ref x1), (.ref x2), (.ref x3), (.int (0 : Int32)), (.long q1), (.int p4)]) (rest := []) (lenOf pd_3 rfl) rfl (by show 2 * 0 + _ ≤ _; exact Nat.le_of_eq rfl) (hb hby at_25) (fun _ _ => ⟨rfl, e457, (by decide : 3 + 0 ≤ _), (by decide : 9 + 0 ≤ _)⟩)
  dsimp only [Pt.U, Pt.locs, Pt.cells, Pt.slots] at X459 l459 y459 z459 st459 hQ459
  rw [l459, y459, z459] at X459
  obtain ⟨rfl, N459q, K459, Va459, Vb459, Vc459⟩ := hQ459
  have N459 := Fr.app N0 N459q
  have E_x1_460 := E_x1_457.keep K459
  clear E_x1_457
  have Zs460 : n0 ≤ T459.heap.size := Nat.le_trans Zs457 K459.1
  have R461 : ∀ t, Steps p.tables e below (T459.setTop (mkF m 38 #[.val (.long q1), .second, .val (.long q2), .second, .val (.long q3), .second, .val (.int p4), .val (.int p5), .val (.int p6), .val (.ref x1), .val (.ref x2), .val (.ref x3), .unset, .unset, .unset, .unset, .unset, .unset] [(.int p5), (.long q2), (.int (1 : Int32)), (.ref x3), (.ref x2), (.ref x1)])) t → Steps p.tables e below (s₁.setTop (mkF m 0 #[.val (.long q1), .second, .val (.long q2), .second, .val (.long q3), .second, .val (.int p4), .val (.int p5), .val (.int p6), .unset, .unset, .unset, .unset, .unset, .unset, .unset, .unset, .unset] [])) t := by
    intro t kt
    refine R458 _ ?_
    refine st459 _ ?_
    show Steps p.tables e below (T459.setTop (mkF m 28 #[.val (.long q1), .second, .val (.long q2), .second, .val (.long q3), .second, .val (.int p4), .val (.int p5), .val (.int p6), .val (.ref x1), .val (.ref x2), .val (.ref x3), .unset, .unset, .unset, .unset, .unset, .unset] [])) _
    refine XS.aload X459.here hx rfl (hb hby at_28) rfl rfl ?_
    show Steps p.tables e below (T459.setTop (mkF m 30 #[.val (.long q1), .second, .val (.long q2), .second, .val (.long q3), .second, .val (.int p4), .val (.int p5), .val (.int p6), .val (.ref x1), .val (.ref x2), .val (.ref x3), .unset, .unset, .unset, .unset, .unset, .unset] [(.ref x1)])) _
    refine XS.aload X459.here hx rfl (hb hby at_30) rfl rfl ?_
    show Steps p.tables e below (T459.setTop (mkF m 32 #[.val (.long q1), .second, .val (.long q2), .second, .val (.long q3), .second, .val (.int p4), .val (.int p5), .val (.int p6), .val (.ref x1), .val (.ref x2), .val (.ref x3), .unset, .unset, .unset, .unset, .unset, .unset] [(.ref x2), (.ref x1)])) _
    refine XS.aload X459.here hx rfl (hb hby at_32) rfl rfl ?_
    show Steps p.tables e below (T459.setTop (mkF m 34 #[.val (.long q1), .second, .val (.long q2), .second, .val (.long q3), .second, .val (.int p4), .val (.int p5), .val (.int p6), .val (.ref x1), .val (.ref x2), .val (.ref x3), .unset, .unset, .unset, .unset, .unset, .unset] [(.ref x3), (.ref x2), (.ref x1)])) _
    refine XS.iconst X459.here hx rfl (hb hby at_34) ?_
    show Steps p.tables e below (T459.setTop (mkF m 35 #[.val (.long q1), .second, .val (.long q2), .second, .val (.long q3), .second, .val (.int p4), .val (.int p5), .val (.int p6), .val (.ref x1), .val (.ref x2), .val (.ref x3), .unset, .unset, .unset, .unset, .unset, .unset] [(.int (1 : Int32)), (.ref x3), (.ref x2), (.ref x1)])) _
    refine XS.lloadN X459.here hx rfl (hb hby at_35) rfl ?_
    show Steps p.tables e below (T459.setTop (mkF m 36 #[.val (.long q1), .second, .val (.long q2), .second, .val (.long q3), .second, .val (.int p4), .val (.int p5), .val (.int p6), .val (.ref x1), .val (.ref x2), .val (.ref x3), .unset, .unset, .unset, .unset, .unset, .unset] [(.long q2), (.int (1 : Int32)), (.ref x3), (.ref x2), (.ref x1)])) _
    refine XS.iload X459.here hx rfl (hb hby at_36) rfl ?_
    exact kt
  clear R458 st459
  obtain ⟨_, _, ⟨T462, L462, k462, n462⟩, -, X462, ⟨Lc462, hQ462, l462, y462, z462⟩, st462⟩ := Jvm.LawKit.callS X459 hx (y := (⟨"com/example/inexact_odds/inexactodds/language/EncodingDecodePinLaw", "fill", "([I[I[IIJI)V"⟩ : MethodName)) hown (mvT hZ (hw _ (List.mem_of_getElem? (i := 1) rfl))) (mvT hZ (hw _ (List.mem_of_getElem? (i := 2) rfl))) (mvT hZ (hw _ (List.mem_of_getElem? (i := 3) rfl))) (mvT hZ (hw _ (List.mem_of_getElem? (i := 4) rfl))) (by decide) (backOf (W := 0) (rm_fill l Z a0 hw [] x1 x2 x3 (1 : Int32) q2 p5 1 (own_set (fun _ => (0 : Int32)) 0 (own_lw q1)) (own_set (fun _ => (0 : Int32)) 0 (own_hg q1)) (own_set (fun _ => (0 : Int32)) 0 (own_vl (own_lw q1) (own_hg q1) p4)) T459.heap n0 Zs460 Va459 Vb459 Vc459 g_x1 g_x2 g_x3 ne_x1_x2 ne_x1_x3 ne_x2_x3 (by decide) (by decide) (by decide)) hZ (hw _ (List.mem_of_getElem? (i := 4) rfl)) (hw _ (List.mem_of_getElem? (i := 3) rfl)) (by decide) (by decide)) (g := (mkF m 38 #[.val (.long q1), .second, .val (.long q2), .second, .val (.long q3), .second, .val (.int p4), .val (.int p5), .val (.int p6), .val (.ref x1), .val (.ref x2), .val (.ref x3), .unset, .unset, .unset, .unset, .unset, .unset] [(.int p5), (.long q2), (.int (1 : Int32)), (.ref x3), (.ref x2), (.ref x1)])) rfl (by rw [hml]; rfl) (argsL := [(.ref x1), (.ref x2), (.ref x3), (.int (1 : Int32)), (.long q2), (.int p5)]) (rest := []) (lenOf pd_3 rfl) rfl (by show 2 * 0 + _ ≤ _; exact Nat.le_of_eq rfl) (hb hby at_38) (fun _ _ => ⟨rfl, rfl, (by decide : 3 + 0 ≤ _), (by decide : 9 + 0 ≤ _)⟩)
  dsimp only [Pt.U, Pt.locs, Pt.cells, Pt.slots] at X462 l462 y462 z462 st462 hQ462
  rw [l462, y462, z462] at X462
  obtain ⟨rfl, N462q, K462, Va462, Vb462, Vc462⟩ := hQ462
  have N462 := Fr.app N459 N462q
  have E_x1_463 := E_x1_460.keep K462
  clear E_x1_460
  have Zs463 : n0 ≤ T462.heap.size := Nat.le_trans Zs460 K462.1
  have R464 : ∀ t, Steps p.tables e below (T462.setTop (mkF m 52 #[.val (.long q1), .second, .val (.long q2), .second, .val (.long q3), .second, .val (.int p4), .val (.int p5), .val (.int p6), .val (.ref x1), .val (.ref x2), .val (.ref x3), .unset, .unset, .unset, .unset, .unset, .unset] [(.int p6), (.long q3), (.int (2 : Int32)), (.ref x3), (.ref x2), (.ref x1)])) t → Steps p.tables e below (s₁.setTop (mkF m 0 #[.val (.long q1), .second, .val (.long q2), .second, .val (.long q3), .second, .val (.int p4), .val (.int p5), .val (.int p6), .unset, .unset, .unset, .unset, .unset, .unset, .unset, .unset, .unset] [])) t := by
    intro t kt
    refine R461 _ ?_
    refine st462 _ ?_
    show Steps p.tables e below (T462.setTop (mkF m 41 #[.val (.long q1), .second, .val (.long q2), .second, .val (.long q3), .second, .val (.int p4), .val (.int p5), .val (.int p6), .val (.ref x1), .val (.ref x2), .val (.ref x3), .unset, .unset, .unset, .unset, .unset, .unset] [])) _
    refine XS.aload X462.here hx rfl (hb hby at_41) rfl rfl ?_
    show Steps p.tables e below (T462.setTop (mkF m 43 #[.val (.long q1), .second, .val (.long q2), .second, .val (.long q3), .second, .val (.int p4), .val (.int p5), .val (.int p6), .val (.ref x1), .val (.ref x2), .val (.ref x3), .unset, .unset, .unset, .unset, .unset, .unset] [(.ref x1)])) _
    refine XS.aload X462.here hx rfl (hb hby at_43) rfl rfl ?_
    show Steps p.tables e below (T462.setTop (mkF m 45 #[.val (.long q1), .second, .val (.long q2), .second, .val (.long q3), .second, .val (.int p4), .val (.int p5), .val (.int p6), .val (.ref x1), .val (.ref x2), .val (.ref x3), .unset, .unset, .unset, .unset, .unset, .unset] [(.ref x2), (.ref x1)])) _
    refine XS.aload X462.here hx rfl (hb hby at_45) rfl rfl ?_
    show Steps p.tables e below (T462.setTop (mkF m 47 #[.val (.long q1), .second, .val (.long q2), .second, .val (.long q3), .second, .val (.int p4), .val (.int p5), .val (.int p6), .val (.ref x1), .val (.ref x2), .val (.ref x3), .unset, .unset, .unset, .unset, .unset, .unset] [(.ref x3), (.ref x2), (.ref x1)])) _
    refine XS.iconst X462.here hx rfl (hb hby at_47) ?_
    show Steps p.tables e below (T462.setTop (mkF m 48 #[.val (.long q1), .second, .val (.long q2), .second, .val (.long q3), .second, .val (.int p4), .val (.int p5), .val (.int p6), .val (.ref x1), .val (.ref x2), .val (.ref x3), .unset, .unset, .unset, .unset, .unset, .unset] [(.int (2 : Int32)), (.ref x3), (.ref x2), (.ref x1)])) _
    refine XS.lload X462.here hx rfl (hb hby at_48) rfl ?_
    show Steps p.tables e below (T462.setTop (mkF m 50 #[.val (.long q1), .second, .val (.long q2), .second, .val (.long q3), .second, .val (.int p4), .val (.int p5), .val (.int p6), .val (.ref x1), .val (.ref x2), .val (.ref x3), .unset, .unset, .unset, .unset, .unset, .unset] [(.long q3), (.int (2 : Int32)), (.ref x3), (.ref x2), (.ref x1)])) _
    refine XS.iload X462.here hx rfl (hb hby at_50) rfl ?_
    exact kt
  clear R461 st462
  obtain ⟨_, _, ⟨T465, L465, k465, n465⟩, -, X465, ⟨Lc465, hQ465, l465, y465, z465⟩, st465⟩ := Jvm.LawKit.callS X462 hx (y := (⟨"com/example/inexact_odds/inexactodds/language/EncodingDecodePinLaw", "fill", "([I[I[IIJI)V"⟩ : MethodName)) hown (mvT hZ (hw _ (List.mem_of_getElem? (i := 1) rfl))) (mvT hZ (hw _ (List.mem_of_getElem? (i := 2) rfl))) (mvT hZ (hw _ (List.mem_of_getElem? (i := 3) rfl))) (mvT hZ (hw _ (List.mem_of_getElem? (i := 4) rfl))) (by decide) (backOf (W := 0) (rm_fill l Z a0 hw [] x1 x2 x3 (2 : Int32) q3 p6 2 (own_set (own_set (fun _ => (0 : Int32)) 0 (own_lw q1)) 1 (own_lw q2)) (own_set (own_set (fun _ => (0 : Int32)) 0 (own_hg q1)) 1 (own_hg q2)) (own_set (own_set (fun _ => (0 : Int32)) 0 (own_vl (own_lw q1) (own_hg q1) p4)) 1 (own_vl (own_lw q2) (own_hg q2) p5)) T462.heap n0 Zs463 Va462 Vb462 Vc462 g_x1 g_x2 g_x3 ne_x1_x2 ne_x1_x3 ne_x2_x3 (by decide) (by decide) (by decide)) hZ (hw _ (List.mem_of_getElem? (i := 4) rfl)) (hw _ (List.mem_of_getElem? (i := 3) rfl)) (by decide) (by decide)) (g := (mkF m 52 #[.val (.long q1), .second, .val (.long q2), .second, .val (.long q3), .second, .val (.int p4), .val (.int p5), .val (.int p6), .val (.ref x1), .val (.ref x2), .val (.ref x3), .unset, .unset, .unset, .unset, .unset, .unset] [(.int p6), (.long q3), (.int (2 : Int32)), (.ref x3), (.ref x2), (.ref x1)])) rfl (by rw [hml]; rfl) (argsL := [(.ref x1), (.ref x2), (.ref x3), (.int (2 : Int32)), (.long q3), (.int p6)]) (rest := []) (lenOf pd_3 rfl) rfl (by show 2 * 0 + _ ≤ _; exact Nat.le_of_eq rfl) (hb hby at_52) (fun _ _ => ⟨rfl, rfl, (by decide : 3 + 0 ≤ _), (by decide : 9 + 0 ≤ _)⟩)
  dsimp only [Pt.U, Pt.locs, Pt.cells, Pt.slots] at X465 l465 y465 z465 st465 hQ465
  rw [l465, y465, z465] at X465
  obtain ⟨rfl, N465q, K465, Va465, Vb465, Vc465⟩ := hQ465
  have N465 := Fr.app N462 N465q
  have E_x1_466 := E_x1_463.keep K465
  clear E_x1_463
  have Zs466 : n0 ≤ T465.heap.size := Nat.le_trans Zs463 K465.1
  have R467 : ∀ t, Steps p.tables e below (T465.setTop (mkF m 55 #[.val (.long q1), .second, .val (.long q2), .second, .val (.long q3), .second, .val (.int p4), .val (.int p5), .val (.int p6), .val (.ref x1), .val (.ref x2), .val (.ref x3), .unset, .unset, .unset, .unset, .unset, .unset] [])) t → Steps p.tables e below (s₁.setTop (mkF m 0 #[.val (.long q1), .second, .val (.long q2), .second, .val (.long q3), .second, .val (.int p4), .val (.int p5), .val (.int p6), .unset, .unset, .unset, .unset, .unset, .unset, .unset, .unset, .unset] [])) t := by
    intro t kt
    refine R464 _ ?_
    refine st465 _ ?_
    exact kt
  clear R464 st465
  have V1z : AV Z T465.heap x1 .int 3 (fun j => .int ((own_v3 (own_lw q1) (own_lw q2) (own_lw q3)) j)) := AV.congr Va465 (fun j hj => congrArg _ (own_three (own_v3 (own_lw q1) (own_lw q2) (own_lw q3)) _ j hj))
  have V2z : AV Z T465.heap x2 .int 3 (fun j => .int ((own_v3 (own_hg q1) (own_hg q2) (own_hg q3)) j)) := AV.congr Vb465 (fun j hj => congrArg _ (own_three (own_v3 (own_hg q1) (own_hg q2) (own_hg q3)) _ j hj))
  have V3z : AV Z T465.heap x3 .int 3 (fun j => .int ((own_v3 (own_vl (own_lw q1) (own_hg q1) p4) (own_vl (own_lw q2) (own_hg q2) p5) (own_vl (own_lw q3) (own_hg q3) p6)) j)) := AV.congr Vc465 (fun j hj => congrArg _ (own_three (own_v3 (own_vl (own_lw q1) (own_hg q1) p4) (own_vl (own_lw q2) (own_hg q2) p5) (own_vl (own_lw q3) (own_hg q3) p6)) _ j hj))
  obtain ⟨hlh, hdd⟩ := own_m3 q1 q2 q3 p4 p5 p6
  obtain ⟨lo, hlo⟩ : ∃ f : Nat → Int32, f = (own_v3 (own_lw q1) (own_lw q2) (own_lw q3)) := ⟨_, rfl⟩
  obtain ⟨hi, hhi⟩ : ∃ f : Nat → Int32, f = (own_v3 (own_hg q1) (own_hg q2) (own_hg q3)) := ⟨_, rfl⟩
  obtain ⟨va, hva⟩ : ∃ f : Nat → Int32, f = (own_v3 (own_vl (own_lw q1) (own_hg q1) p4) (own_vl (own_lw q2) (own_hg q2) p5) (own_vl (own_lw q3) (own_hg q3) p6)) := ⟨_, rfl⟩
  rw [← hlo] at V1z hlh hdd
  rw [← hhi] at V2z hlh hdd
  rw [← hva] at V3z hdd
  obtain ⟨w2, hnw, hwds, hwn, hfin⟩ := own_fin3 lo hi va hlh hdd
  obtain ⟨T468, h468, X468, e468, E468, A468, D468, -, st468⟩ := newO X465 hx hZ hown (hw _ (List.mem_of_getElem? (i := 13) rfl)) (hw _ (List.mem_of_getElem? (i := 14) rfl)) (hw _ (List.mem_of_getElem? (i := 15) rfl)) rfl (g := (mkF m 55 #[.val (.long q1), .second, .val (.long q2), .second, .val (.long q3), .second, .val (.int p4), .val (.int p5), .val (.int p6), .val (.ref x1), .val (.ref x2), .val (.ref x3), .unset, .unset, .unset, .unset, .unset, .unset] [])) rfl (hb hby at_55) (by decide) (by decide)
  obtain ⟨ob, g468⟩ : ∃ z, z = T465.heap.size := ⟨_, rfl⟩
  rw [← g468] at A468 D468 st468
  have E_ob := A468
  have g_ob : n0 ≤ ob := Nat.le_trans Zs466 (Nat.le_of_eq g468.symm)
  have ne_x1_ob : x1 ≠ ob := Nat.ne_of_lt (Nat.lt_of_lt_of_le E_x1_466.lt (Nat.le_of_eq g468.symm))
  have ne_x2_ob : x2 ≠ ob := Nat.ne_of_lt (Nat.lt_of_lt_of_le V2z.lt (Nat.le_of_eq g468.symm))
  have ne_x3_ob : x3 ≠ ob := Nat.ne_of_lt (Nat.lt_of_lt_of_le V3z.lt (Nat.le_of_eq g468.symm))
  have E_x1_468 := E_x1_466.ext E468
  have V1_468 := V1z.ext E468
  have V2_468 := V2z.ext E468
  have V3_468 := V3z.ext E468
  clear E_x1_466
  have Zs468 : n0 ≤ h468.size := Nat.le_trans Zs466 E468.1
  have Fl : Fld Z h468 ob "com/example/inexact_odds/inexactodds/language/Encoding" "low" "[I" .null := D468 (Or.inr (hw _ (List.mem_of_getElem? (i := 32) rfl))) (ty := (.array .int)) (by decide)
  have Fw : Fld Z h468 ob "com/example/inexact_odds/inexactodds/language/Encoding" "word" "[I" .null := D468 (Or.inr (hw _ (List.mem_of_getElem? (i := 34) rfl))) (ty := (.array .int)) (by decide)
  have Fs : Fld Z h468 ob "com/example/inexact_odds/inexactodds/language/Encoding" "shift" "[I" .null := D468 (Or.inr (hw _ (List.mem_of_getElem? (i := 36) rfl))) (ty := (.array .int)) (by decide)
  have Fm : Fld Z h468 ob "com/example/inexact_odds/inexactodds/language/Encoding" "mask" "[J" .null := D468 (Or.inr (hw _ (List.mem_of_getElem? (i := 39) rfl))) (ty := (.array .long)) (by decide)
  have Fc : Fld Z h468 ob "com/example/inexact_odds/inexactodds/language/Encoding" "words" "I" (.int (0 : Int32)) := D468 (Or.inr (hw _ (List.mem_of_getElem? (i := 51) rfl))) (ty := .int) (by decide)
  have R469 : ∀ t, Steps p.tables e below (T468.setTop (mkF m 63 #[.val (.long q1), .second, .val (.long q2), .second, .val (.long q3), .second, .val (.int p4), .val (.int p5), .val (.int p6), .val (.ref x1), .val (.ref x2), .val (.ref x3), .unset, .unset, .unset, .unset, .unset, .unset] [(.ref x2), (.ref x1), (.ref ob), (.ref ob)])) t → Steps p.tables e below (s₁.setTop (mkF m 0 #[.val (.long q1), .second, .val (.long q2), .second, .val (.long q3), .second, .val (.int p4), .val (.int p5), .val (.int p6), .unset, .unset, .unset, .unset, .unset, .unset, .unset, .unset, .unset] [])) t := by
    intro t kt
    refine R467 _ ?_
    refine st468 _ ?_
    show Steps p.tables e below (T468.setTop (mkF m 58 #[.val (.long q1), .second, .val (.long q2), .second, .val (.long q3), .second, .val (.int p4), .val (.int p5), .val (.int p6), .val (.ref x1), .val (.ref x2), .val (.ref x3), .unset, .unset, .unset, .unset, .unset, .unset] [(.ref ob)])) _
    refine XS.dup X468.here hx rfl (hb hby at_58) rfl rfl ?_
    show Steps p.tables e below (T468.setTop (mkF m 59 #[.val (.long q1), .second, .val (.long q2), .second, .val (.long q3), .second, .val (.int p4), .val (.int p5), .val (.int p6), .val (.ref x1), .val (.ref x2), .val (.ref x3), .unset, .unset, .unset, .unset, .unset, .unset] [(.ref ob), (.ref ob)])) _
    refine XS.aload X468.here hx rfl (hb hby at_59) rfl rfl ?_
    show Steps p.tables e below (T468.setTop (mkF m 61 #[.val (.long q1), .second, .val (.long q2), .second, .val (.long q3), .second, .val (.int p4), .val (.int p5), .val (.int p6), .val (.ref x1), .val (.ref x2), .val (.ref x3), .unset, .unset, .unset, .unset, .unset, .unset] [(.ref x1), (.ref ob), (.ref ob)])) _
    refine XS.aload X468.here hx rfl (hb hby at_61) rfl rfl ?_
    exact kt
  clear R467 st468
  obtain ⟨_, _, ⟨T470, L470, k470, n470⟩, -, X470, ⟨Lc470, hQ470, l470, y470, z470⟩, st470⟩ := X468.specialBack hx (y := (⟨"com/example/inexact_odds/inexactodds/language/Encoding", "<init>", "([I[I)V"⟩ : MethodName)) rfl hown (mvT hZ (hw _ (List.mem_of_getElem? (i := 16) rfl))) (mvT hZ (hw _ (List.mem_of_getElem? (i := 17) rfl))) (mvT hZ (hw _ (List.mem_of_getElem? (i := 18) rfl))) (by decide) (backOf (W := 1) (rm_enc l Z a0 hw [] ob x1 x2 lo hi h468 n0 Zs468 E_ob Fl Fw Fs Fm Fc V1_468 V2_468 E_x1_468 g_ob (Ne.symm ne_x1_ob) (Ne.symm ne_x2_ob)) hZ (hw _ (List.mem_of_getElem? (i := 18) rfl)) (hw _ (List.mem_of_getElem? (i := 15) rfl)) (by decide) (by decide)) (g := (mkF m 63 #[.val (.long q1), .second, .val (.long q2), .second, .val (.long q3), .second, .val (.int p4), .val (.int p5), .val (.int p6), .val (.ref x1), .val (.ref x2), .val (.ref x3), .unset, .unset, .unset, .unset, .unset, .unset] [(.ref x2), (.ref x1), (.ref ob), (.ref ob)])) rfl (by rw [hml]; rfl) (Steps.refl _) (a := ob) (argsL := [(.ref x1), (.ref x2)]) (rest := [(.ref ob)]) (lenOf pd_4 rfl) rfl (by show 2 * 0 + _ ≤ _; exact Nat.le_of_eq rfl) (hb hby at_63) (fun _ _ => ⟨rfl, e468, (by decide : 4 + 4 ≤ _), (by decide : 14 + 12 ≤ _)⟩)
  dsimp only [Pt.U, Pt.locs, Pt.cells, Pt.slots] at X470 l470 y470 z470 st470 hQ470
  rw [l470, y470, z470] at X470
  obtain ⟨rfl, N470q, K470, Ex470, c1, c2, c3, c4, Gl, Gw, Gs, Gm, Gc, U1, U2, U3, U4⟩ := hQ470
  have N470 := Fr.app N465 N470q
  have E_x1_471 := E_x1_468.keep K470
  have V1_471 := V1_468.keep K470 (own_notin1 ne_x1_ob)
  have V2_471 := V2_468.keep K470 (own_notin1 ne_x2_ob)
  have V3_471 := V3_468.keep K470 (own_notin1 ne_x3_ob)
  clear E_x1_468 V1_468 V2_468 V3_468
  have Zs471 : n0 ≤ T470.heap.size := Nat.le_trans Zs468 K470.1
  have R472 : ∀ t, Steps p.tables e below (T470.setTop (mkF m 83 #[.val (.long q1), .second, .val (.long q2), .second, .val (.long q3), .second, .val (.int p4), .val (.int p5), .val (.int p6), .val (.ref x1), .val (.ref x2), .val (.ref x3), .val (.ref ob), .unset, .unset, .unset, .unset, .unset] [(.long (((q1 ^^^ q3) ^^^ (-1 : Int64)) ^^^ ((p5.toInt64) <<< ((17 : Int32) &&& 0x3f).toInt64)))])) t → Steps p.tables e below (s₁.setTop (mkF m 0 #[.val (.long q1), .second, .val (.long q2), .second, .val (.long q3), .second, .val (.int p4), .val (.int p5), .val (.int p6), .unset, .unset, .unset, .unset, .unset, .unset, .unset, .unset, .unset] [])) t := by
    intro t kt
    refine R469 _ ?_
    refine st470.trans ?_
    show Steps p.tables e below (T470.setTop (mkF m 66 #[.val (.long q1), .second, .val (.long q2), .second, .val (.long q3), .second, .val (.int p4), .val (.int p5), .val (.int p6), .val (.ref x1), .val (.ref x2), .val (.ref x3), .unset, .unset, .unset, .unset, .unset, .unset] [(.ref ob)])) _
    refine XS.astore X470.here hx rfl (hb hby at_66) rfl rfl (l' := #[.val (.long q1), .second, .val (.long q2), .second, .val (.long q3), .second, .val (.int p4), .val (.int p5), .val (.int p6), .val (.ref x1), .val (.ref x2), .val (.ref x3), .val (.ref ob), .unset, .unset, .unset, .unset, .unset]) rfl ?_
    show Steps p.tables e below (T470.setTop (mkF m 68 #[.val (.long q1), .second, .val (.long q2), .second, .val (.long q3), .second, .val (.int p4), .val (.int p5), .val (.int p6), .val (.ref x1), .val (.ref x2), .val (.ref x3), .val (.ref ob), .unset, .unset, .unset, .unset, .unset] [])) _
    refine XS.lloadN X470.here hx rfl (hb hby at_68) rfl ?_
    show Steps p.tables e below (T470.setTop (mkF m 69 #[.val (.long q1), .second, .val (.long q2), .second, .val (.long q3), .second, .val (.int p4), .val (.int p5), .val (.int p6), .val (.ref x1), .val (.ref x2), .val (.ref x3), .val (.ref ob), .unset, .unset, .unset, .unset, .unset] [(.long q1)])) _
    refine XS.lload X470.here hx rfl (hb hby at_69) rfl ?_
    show Steps p.tables e below (T470.setTop (mkF m 71 #[.val (.long q1), .second, .val (.long q2), .second, .val (.long q3), .second, .val (.int p4), .val (.int p5), .val (.int p6), .val (.ref x1), .val (.ref x2), .val (.ref x3), .val (.ref ob), .unset, .unset, .unset, .unset, .unset] [(.long q3), (.long q1)])) _
    refine XS.lxor X470.here hx rfl (hb hby at_71) rfl ?_
    show Steps p.tables e below (T470.setTop (mkF m 72 #[.val (.long q1), .second, .val (.long q2), .second, .val (.long q3), .second, .val (.int p4), .val (.int p5), .val (.int p6), .val (.ref x1), .val (.ref x2), .val (.ref x3), .val (.ref ob), .unset, .unset, .unset, .unset, .unset] [(.long (q1 ^^^ q3))])) _
    refine X470.ldc2Long hx hown (mvT hZ (hw _ (List.mem_of_getElem? (i := 52) rfl))) (g := (mkF m 72 #[.val (.long q1), .second, .val (.long q2), .second, .val (.long q3), .second, .val (.int p4), .val (.int p5), .val (.int p6), .val (.ref x1), .val (.ref x2), .val (.ref x3), .val (.ref ob), .unset, .unset, .unset, .unset, .unset] [(.long (q1 ^^^ q3))])) rfl (hb hby at_72) _ ?_
    show Steps p.tables e below (T470.setTop (mkF m 75 #[.val (.long q1), .second, .val (.long q2), .second, .val (.long q3), .second, .val (.int p4), .val (.int p5), .val (.int p6), .val (.ref x1), .val (.ref x2), .val (.ref x3), .val (.ref ob), .unset, .unset, .unset, .unset, .unset] [(.long (-1 : Int64)), (.long (q1 ^^^ q3))])) _
    refine XS.lxor X470.here hx rfl (hb hby at_75) rfl ?_
    show Steps p.tables e below (T470.setTop (mkF m 76 #[.val (.long q1), .second, .val (.long q2), .second, .val (.long q3), .second, .val (.int p4), .val (.int p5), .val (.int p6), .val (.ref x1), .val (.ref x2), .val (.ref x3), .val (.ref ob), .unset, .unset, .unset, .unset, .unset] [(.long ((q1 ^^^ q3) ^^^ (-1 : Int64)))])) _
    refine XS.iload X470.here hx rfl (hb hby at_76) rfl ?_
    show Steps p.tables e below (T470.setTop (mkF m 78 #[.val (.long q1), .second, .val (.long q2), .second, .val (.long q3), .second, .val (.int p4), .val (.int p5), .val (.int p6), .val (.ref x1), .val (.ref x2), .val (.ref x3), .val (.ref ob), .unset, .unset, .unset, .unset, .unset] [(.int p5), (.long ((q1 ^^^ q3) ^^^ (-1 : Int64)))])) _
    refine XS.i2l X470.here hx rfl (hb hby at_78) rfl ?_
    show Steps p.tables e below (T470.setTop (mkF m 79 #[.val (.long q1), .second, .val (.long q2), .second, .val (.long q3), .second, .val (.int p4), .val (.int p5), .val (.int p6), .val (.ref x1), .val (.ref x2), .val (.ref x3), .val (.ref ob), .unset, .unset, .unset, .unset, .unset] [(.long (p5.toInt64)), (.long ((q1 ^^^ q3) ^^^ (-1 : Int64)))])) _
    refine XS.bipush X470.here hx rfl (hb hby at_79) ?_
    show Steps p.tables e below (T470.setTop (mkF m 81 #[.val (.long q1), .second, .val (.long q2), .second, .val (.long q3), .second, .val (.int p4), .val (.int p5), .val (.int p6), .val (.ref x1), .val (.ref x2), .val (.ref x3), .val (.ref ob), .unset, .unset, .unset, .unset, .unset] [(.int (17 : Int32)), (.long (p5.toInt64)), (.long ((q1 ^^^ q3) ^^^ (-1 : Int64)))])) _
    refine XS.lshl X470.here hx rfl (hb hby at_81) rfl ?_
    show Steps p.tables e below (T470.setTop (mkF m 82 #[.val (.long q1), .second, .val (.long q2), .second, .val (.long q3), .second, .val (.int p4), .val (.int p5), .val (.int p6), .val (.ref x1), .val (.ref x2), .val (.ref x3), .val (.ref ob), .unset, .unset, .unset, .unset, .unset] [(.long ((p5.toInt64) <<< ((17 : Int32) &&& 0x3f).toInt64)), (.long ((q1 ^^^ q3) ^^^ (-1 : Int64)))])) _
    refine XS.lxor X470.here hx rfl (hb hby at_82) rfl ?_
    exact kt
  clear R469 st470
  obtain ⟨gg, hgg⟩ : ∃ z : Int64, z = (((q1 ^^^ q3) ^^^ (-1 : Int64)) ^^^ ((p5.toInt64) <<< ((17 : Int32) &&& 0x3f).toInt64)) := ⟨_, rfl⟩
  have R473 : ∀ t, Steps p.tables e below (T470.setTop (mkF m 83 #[.val (.long q1), .second, .val (.long q2), .second, .val (.long q3), .second, .val (.int p4), .val (.int p5), .val (.int p6), .val (.ref x1), .val (.ref x2), .val (.ref x3), .val (.ref ob), .unset, .unset, .unset, .unset, .unset] [(.long gg)])) t → Steps p.tables e below (s₁.setTop (mkF m 0 #[.val (.long q1), .second, .val (.long q2), .second, .val (.long q3), .second, .val (.int p4), .val (.int p5), .val (.int p6), .unset, .unset, .unset, .unset, .unset, .unset, .unset, .unset, .unset] [])) t := by rw [hgg]; exact R472
  have R474 : ∀ t, Steps p.tables e below (T470.setTop (mkF m 87 #[.val (.long q1), .second, .val (.long q2), .second, .val (.long q3), .second, .val (.int p4), .val (.int p5), .val (.int p6), .val (.ref x1), .val (.ref x2), .val (.ref x3), .val (.ref ob), .val (.long gg), .second, .unset, .unset, .unset] [(.int (8 : Int32))])) t → Steps p.tables e below (s₁.setTop (mkF m 0 #[.val (.long q1), .second, .val (.long q2), .second, .val (.long q3), .second, .val (.int p4), .val (.int p5), .val (.int p6), .unset, .unset, .unset, .unset, .unset, .unset, .unset, .unset, .unset] [])) t := by
    intro t kt
    refine R473 _ ?_
    show Steps p.tables e below (T470.setTop (mkF m 83 #[.val (.long q1), .second, .val (.long q2), .second, .val (.long q3), .second, .val (.int p4), .val (.int p5), .val (.int p6), .val (.ref x1), .val (.ref x2), .val (.ref x3), .val (.ref ob), .unset, .unset, .unset, .unset, .unset] [(.long gg)])) _
    refine XS.lstore X470.here hx rfl (hb hby at_83) rfl (l' := #[.val (.long q1), .second, .val (.long q2), .second, .val (.long q3), .second, .val (.int p4), .val (.int p5), .val (.int p6), .val (.ref x1), .val (.ref x2), .val (.ref x3), .val (.ref ob), .val (.long gg), .second, .unset, .unset, .unset]) rfl ?_
    show Steps p.tables e below (T470.setTop (mkF m 85 #[.val (.long q1), .second, .val (.long q2), .second, .val (.long q3), .second, .val (.int p4), .val (.int p5), .val (.int p6), .val (.ref x1), .val (.ref x2), .val (.ref x3), .val (.ref ob), .val (.long gg), .second, .unset, .unset, .unset] [])) _
    refine XS.bipush X470.here hx rfl (hb hby at_85) ?_
    exact kt
  clear R473
  obtain ⟨T475, h475, k475, X475, e475, E475, A475, st475⟩ := newP X470 hx hZ (hw _ (List.mem_of_getElem? (i := 37) rfl)) rfl (g := (mkF m 87 #[.val (.long q1), .second, .val (.long q2), .second, .val (.long q3), .second, .val (.int p4), .val (.int p5), .val (.int p6), .val (.ref x1), .val (.ref x2), .val (.ref x3), .val (.ref ob), .val (.long gg), .second, .unset, .unset, .unset] [(.int (8 : Int32))])) rfl (hb hby at_87) rfl (by decide) (cap := 8) (by decide) (by decide) (by decide) (by decide)
  obtain ⟨ke, g475⟩ : ∃ z, z = T470.heap.size := ⟨_, rfl⟩
  rw [← g475] at A475 st475
  have g_ke : n0 ≤ ke := Nat.le_trans Zs471 (Nat.le_of_eq g475.symm)
  have ne_x3_ke : x3 ≠ ke := Nat.ne_of_lt (Nat.lt_of_lt_of_le V3_471.lt (Nat.le_of_eq g475.symm))
  have ne_ob_ke : ob ≠ ke := Nat.ne_of_lt (Nat.lt_of_lt_of_le Gl.lt (Nat.le_of_eq g475.symm))
  have ne_c1_ke : c1 ≠ ke := Nat.ne_of_lt (Nat.lt_of_lt_of_le U1.lt (Nat.le_of_eq g475.symm))
  have ne_c2_ke : c2 ≠ ke := Nat.ne_of_lt (Nat.lt_of_lt_of_le U2.lt (Nat.le_of_eq g475.symm))
  have ne_c3_ke : c3 ≠ ke := Nat.ne_of_lt (Nat.lt_of_lt_of_le U3.lt (Nat.le_of_eq g475.symm))
  have ne_c4_ke : c4 ≠ ke := Nat.ne_of_lt (Nat.lt_of_lt_of_le U4.lt (Nat.le_of_eq g475.symm))
  have V3_475 := V3_471.ext E475
  have Fl_475 := Gl.ext E475
  have Fw_475 := Gw.ext E475
  have Fs_475 := Gs.ext E475
  have Fm_475 := Gm.ext E475
  have Fc_475 := Gc.ext E475
  have E_ob_475 := Ex470.ext E475
  have U1_475 := U1.ext E475
  have U2_475 := U2.ext E475
  have U3_475 := U3.ext E475
  have U4_475 := U4.ext E475
  clear V3_471
  have Zs475 : n0 ≤ h475.size := Nat.le_trans Zs471 E475.1
  have VKr : AV Z h475 ke .long 8 (fun _ => defaultValue .long) := AV.new A475 rfl rfl
  have VK : AV Z h475 ke .long 8 (fun j => .long ((fun _ => (0 : Int64)) j)) := VKr
  have R476 : ∀ t, Steps p.tables e below (T475.setTop (mkF m 96 #[.val (.long q1), .second, .val (.long q2), .second, .val (.long q3), .second, .val (.int p4), .val (.int p5), .val (.int p6), .val (.ref x1), .val (.ref x2), .val (.ref x3), .val (.ref ob), .val (.long gg), .second, .val (.ref ke), .unset, .unset] [(.long gg), (.int (0 : Int32)), (.ref ke)])) t → Steps p.tables e below (s₁.setTop (mkF m 0 #[.val (.long q1), .second, .val (.long q2), .second, .val (.long q3), .second, .val (.int p4), .val (.int p5), .val (.int p6), .unset, .unset, .unset, .unset, .unset, .unset, .unset, .unset, .unset] [])) t := by
    intro t kt
    refine R474 _ ?_
    refine st475 _ ?_
    show Steps p.tables e below (T475.setTop (mkF m 89 #[.val (.long q1), .second, .val (.long q2), .second, .val (.long q3), .second, .val (.int p4), .val (.int p5), .val (.int p6), .val (.ref x1), .val (.ref x2), .val (.ref x3), .val (.ref ob), .val (.long gg), .second, .unset, .unset, .unset] [(.ref ke)])) _
    refine XS.astore X475.here hx rfl (hb hby at_89) rfl rfl (l' := #[.val (.long q1), .second, .val (.long q2), .second, .val (.long q3), .second, .val (.int p4), .val (.int p5), .val (.int p6), .val (.ref x1), .val (.ref x2), .val (.ref x3), .val (.ref ob), .val (.long gg), .second, .val (.ref ke), .unset, .unset]) rfl ?_
    show Steps p.tables e below (T475.setTop (mkF m 91 #[.val (.long q1), .second, .val (.long q2), .second, .val (.long q3), .second, .val (.int p4), .val (.int p5), .val (.int p6), .val (.ref x1), .val (.ref x2), .val (.ref x3), .val (.ref ob), .val (.long gg), .second, .val (.ref ke), .unset, .unset] [])) _
    refine XS.aload X475.here hx rfl (hb hby at_91) rfl rfl ?_
    show Steps p.tables e below (T475.setTop (mkF m 93 #[.val (.long q1), .second, .val (.long q2), .second, .val (.long q3), .second, .val (.int p4), .val (.int p5), .val (.int p6), .val (.ref x1), .val (.ref x2), .val (.ref x3), .val (.ref ob), .val (.long gg), .second, .val (.ref ke), .unset, .unset] [(.ref ke)])) _
    refine XS.iconst X475.here hx rfl (hb hby at_93) ?_
    show Steps p.tables e below (T475.setTop (mkF m 94 #[.val (.long q1), .second, .val (.long q2), .second, .val (.long q3), .second, .val (.int p4), .val (.int p5), .val (.int p6), .val (.ref x1), .val (.ref x2), .val (.ref x3), .val (.ref ob), .val (.long gg), .second, .val (.ref ke), .unset, .unset] [(.int (0 : Int32)), (.ref ke)])) _
    refine XS.lload X475.here hx rfl (hb hby at_94) rfl ?_
    exact kt
  clear R474 st475
  obtain ⟨cl477, Ar477, hin477, -⟩ := VK.at (j := (0 : Int32)) (k := 0) (by decide) rfl (by decide)
  obtain ⟨T478, h478, X478, e478, W478, st478⟩ := stJ X475 hx hZ e475 Ar477 (j := (0 : Int32)) hin477 (g := (mkF m 96 #[.val (.long q1), .second, .val (.long q2), .second, .val (.long q3), .second, .val (.int p4), .val (.int p5), .val (.int p6), .val (.ref x1), .val (.ref x2), .val (.ref x3), .val (.ref ob), .val (.long gg), .second, .val (.ref ke), .unset, .unset] [(.long gg), (.int (0 : Int32)), (.ref ke)])) rfl rfl (hb hby at_96)
  have N478 := Fr.snoc X478 N470 g_ke
  rw [show ((0 : Int32) : Int32).toNatClampNeg = 0 from rfl] at W478
  have VK_478 : AV Z h478 ke .long 8 (fun j => .long ((own_set (fun _ => (0 : Int64)) 0 gg) j)) := VK.setJ W478
  have V3_478 := V3_475.other W478 ne_x3_ke
  have Fl_478 := Fl_475.other W478 (Or.inl ne_ob_ke)
  have Fw_478 := Fw_475.other W478 (Or.inl ne_ob_ke)
  have Fs_478 := Fs_475.other W478 (Or.inl ne_ob_ke)
  have Fm_478 := Fm_475.other W478 (Or.inl ne_ob_ke)
  have Fc_478 := Fc_475.other W478 (Or.inl ne_ob_ke)
  have E_ob_478 := E_ob_475.wr W478
  have U1_478 := U1_475.other W478 ne_c1_ke
  have U2_478 := U2_475.other W478 ne_c2_ke
  have U3_478 := U3_475.other W478 ne_c3_ke
  have U4_478 := U4_475.other W478 ne_c4_ke
  clear V3_475 Fl_475 Fw_475 Fs_475 Fm_475 Fc_475 E_ob_475 U1_475 U2_475 U3_475 U4_475
  have Zs478 : n0 ≤ h478.size := Nat.le_trans Zs475 (Keep.of_wr W478).1
  have R479 : ∀ t, Steps p.tables e below (T478.setTop (mkF m 104 #[.val (.long q1), .second, .val (.long q2), .second, .val (.long q3), .second, .val (.int p4), .val (.int p5), .val (.int p6), .val (.ref x1), .val (.ref x2), .val (.ref x3), .val (.ref ob), .val (.long gg), .second, .val (.ref ke), .unset, .unset] [(.long (gg + (1 : Int64))), (.int (1 : Int32)), (.ref ke)])) t → Steps p.tables e below (s₁.setTop (mkF m 0 #[.val (.long q1), .second, .val (.long q2), .second, .val (.long q3), .second, .val (.int p4), .val (.int p5), .val (.int p6), .unset, .unset, .unset, .unset, .unset, .unset, .unset, .unset, .unset] [])) t := by
    intro t kt
    refine R476 _ ?_
    refine st478 _ ?_
    show Steps p.tables e below (T478.setTop (mkF m 97 #[.val (.long q1), .second, .val (.long q2), .second, .val (.long q3), .second, .val (.int p4), .val (.int p5), .val (.int p6), .val (.ref x1), .val (.ref x2), .val (.ref x3), .val (.ref ob), .val (.long gg), .second, .val (.ref ke), .unset, .unset] [])) _
    refine XS.aload X478.here hx rfl (hb hby at_97) rfl rfl ?_
    show Steps p.tables e below (T478.setTop (mkF m 99 #[.val (.long q1), .second, .val (.long q2), .second, .val (.long q3), .second, .val (.int p4), .val (.int p5), .val (.int p6), .val (.ref x1), .val (.ref x2), .val (.ref x3), .val (.ref ob), .val (.long gg), .second, .val (.ref ke), .unset, .unset] [(.ref ke)])) _
    refine XS.iconst X478.here hx rfl (hb hby at_99) ?_
    show Steps p.tables e below (T478.setTop (mkF m 100 #[.val (.long q1), .second, .val (.long q2), .second, .val (.long q3), .second, .val (.int p4), .val (.int p5), .val (.int p6), .val (.ref x1), .val (.ref x2), .val (.ref x3), .val (.ref ob), .val (.long gg), .second, .val (.ref ke), .unset, .unset] [(.int (1 : Int32)), (.ref ke)])) _
    refine XS.lload X478.here hx rfl (hb hby at_100) rfl ?_
    show Steps p.tables e below (T478.setTop (mkF m 102 #[.val (.long q1), .second, .val (.long q2), .second, .val (.long q3), .second, .val (.int p4), .val (.int p5), .val (.int p6), .val (.ref x1), .val (.ref x2), .val (.ref x3), .val (.ref ob), .val (.long gg), .second, .val (.ref ke), .unset, .unset] [(.long gg), (.int (1 : Int32)), (.ref ke)])) _
    refine XS.lconst X478.here hx rfl (hb hby at_102) ?_
    show Steps p.tables e below (T478.setTop (mkF m 103 #[.val (.long q1), .second, .val (.long q2), .second, .val (.long q3), .second, .val (.int p4), .val (.int p5), .val (.int p6), .val (.ref x1), .val (.ref x2), .val (.ref x3), .val (.ref ob), .val (.long gg), .second, .val (.ref ke), .unset, .unset] [(.long (1 : Int64)), (.long gg), (.int (1 : Int32)), (.ref ke)])) _
    refine XS.ladd X478.here hx rfl (hb hby at_103) rfl ?_
    exact kt
  clear R476 st478
  obtain ⟨cl480, Ar480, hin480, -⟩ := VK_478.at (j := (1 : Int32)) (k := 1) (by decide) rfl (by decide)
  obtain ⟨T481, h481, X481, e481, W481, st481⟩ := stJ X478 hx hZ e478 Ar480 (j := (1 : Int32)) hin480 (g := (mkF m 104 #[.val (.long q1), .second, .val (.long q2), .second, .val (.long q3), .second, .val (.int p4), .val (.int p5), .val (.int p6), .val (.ref x1), .val (.ref x2), .val (.ref x3), .val (.ref ob), .val (.long gg), .second, .val (.ref ke), .unset, .unset] [(.long (gg + (1 : Int64))), (.int (1 : Int32)), (.ref ke)])) rfl rfl (hb hby at_104)
  have N481 := Fr.snoc X481 N478 g_ke
  rw [show ((1 : Int32) : Int32).toNatClampNeg = 1 from rfl] at W481
  have VK_481 : AV Z h481 ke .long 8 (fun j => .long ((own_set (own_set (fun _ => (0 : Int64)) 0 gg) 1 (gg + (1 : Int64))) j)) := VK_478.setJ W481
  have V3_481 := V3_478.other W481 ne_x3_ke
  have Fl_481 := Fl_478.other W481 (Or.inl ne_ob_ke)
  have Fw_481 := Fw_478.other W481 (Or.inl ne_ob_ke)
  have Fs_481 := Fs_478.other W481 (Or.inl ne_ob_ke)
  have Fm_481 := Fm_478.other W481 (Or.inl ne_ob_ke)
  have Fc_481 := Fc_478.other W481 (Or.inl ne_ob_ke)
  have E_ob_481 := E_ob_478.wr W481
  have U1_481 := U1_478.other W481 ne_c1_ke
  have U2_481 := U2_478.other W481 ne_c2_ke
  have U3_481 := U3_478.other W481 ne_c3_ke
  have U4_481 := U4_478.other W481 ne_c4_ke
  clear V3_478 Fl_478 Fw_478 Fs_478 Fm_478 Fc_478 E_ob_478 U1_478 U2_478 U3_478 U4_478
  have Zs481 : n0 ≤ h481.size := Nat.le_trans Zs478 (Keep.of_wr W481).1
  have R482 : ∀ t, Steps p.tables e below (T481.setTop (mkF m 114 #[.val (.long q1), .second, .val (.long q2), .second, .val (.long q3), .second, .val (.int p4), .val (.int p5), .val (.int p6), .val (.ref x1), .val (.ref x2), .val (.ref x3), .val (.ref ob), .val (.long gg), .second, .val (.ref ke), .unset, .unset] [(.long (gg + (2 : Int64))), (.int (2 : Int32)), (.ref ke)])) t → Steps p.tables e below (s₁.setTop (mkF m 0 #[.val (.long q1), .second, .val (.long q2), .second, .val (.long q3), .second, .val (.int p4), .val (.int p5), .val (.int p6), .unset, .unset, .unset, .unset, .unset, .unset, .unset, .unset, .unset] [])) t := by
    intro t kt
    refine R479 _ ?_
    refine st481 _ ?_
    show Steps p.tables e below (T481.setTop (mkF m 105 #[.val (.long q1), .second, .val (.long q2), .second, .val (.long q3), .second, .val (.int p4), .val (.int p5), .val (.int p6), .val (.ref x1), .val (.ref x2), .val (.ref x3), .val (.ref ob), .val (.long gg), .second, .val (.ref ke), .unset, .unset] [])) _
    refine XS.aload X481.here hx rfl (hb hby at_105) rfl rfl ?_
    show Steps p.tables e below (T481.setTop (mkF m 107 #[.val (.long q1), .second, .val (.long q2), .second, .val (.long q3), .second, .val (.int p4), .val (.int p5), .val (.int p6), .val (.ref x1), .val (.ref x2), .val (.ref x3), .val (.ref ob), .val (.long gg), .second, .val (.ref ke), .unset, .unset] [(.ref ke)])) _
    refine XS.iconst X481.here hx rfl (hb hby at_107) ?_
    show Steps p.tables e below (T481.setTop (mkF m 108 #[.val (.long q1), .second, .val (.long q2), .second, .val (.long q3), .second, .val (.int p4), .val (.int p5), .val (.int p6), .val (.ref x1), .val (.ref x2), .val (.ref x3), .val (.ref ob), .val (.long gg), .second, .val (.ref ke), .unset, .unset] [(.int (2 : Int32)), (.ref ke)])) _
    refine XS.lload X481.here hx rfl (hb hby at_108) rfl ?_
    show Steps p.tables e below (T481.setTop (mkF m 110 #[.val (.long q1), .second, .val (.long q2), .second, .val (.long q3), .second, .val (.int p4), .val (.int p5), .val (.int p6), .val (.ref x1), .val (.ref x2), .val (.ref x3), .val (.ref ob), .val (.long gg), .second, .val (.ref ke), .unset, .unset] [(.long gg), (.int (2 : Int32)), (.ref ke)])) _
    refine X481.ldc2Long hx hown (mvT hZ (hw _ (List.mem_of_getElem? (i := 53) rfl))) (g := (mkF m 110 #[.val (.long q1), .second, .val (.long q2), .second, .val (.long q3), .second, .val (.int p4), .val (.int p5), .val (.int p6), .val (.ref x1), .val (.ref x2), .val (.ref x3), .val (.ref ob), .val (.long gg), .second, .val (.ref ke), .unset, .unset] [(.long gg), (.int (2 : Int32)), (.ref ke)])) rfl (hb hby at_110) _ ?_
    show Steps p.tables e below (T481.setTop (mkF m 113 #[.val (.long q1), .second, .val (.long q2), .second, .val (.long q3), .second, .val (.int p4), .val (.int p5), .val (.int p6), .val (.ref x1), .val (.ref x2), .val (.ref x3), .val (.ref ob), .val (.long gg), .second, .val (.ref ke), .unset, .unset] [(.long (2 : Int64)), (.long gg), (.int (2 : Int32)), (.ref ke)])) _
    refine XS.ladd X481.here hx rfl (hb hby at_113) rfl ?_
    exact kt
  clear R479 st481
  obtain ⟨cl483, Ar483, hin483, -⟩ := VK_481.at (j := (2 : Int32)) (k := 2) (by decide) rfl (by decide)
  obtain ⟨T484, h484, X484, e484, W484, st484⟩ := stJ X481 hx hZ e481 Ar483 (j := (2 : Int32)) hin483 (g := (mkF m 114 #[.val (.long q1), .second, .val (.long q2), .second, .val (.long q3), .second, .val (.int p4), .val (.int p5), .val (.int p6), .val (.ref x1), .val (.ref x2), .val (.ref x3), .val (.ref ob), .val (.long gg), .second, .val (.ref ke), .unset, .unset] [(.long (gg + (2 : Int64))), (.int (2 : Int32)), (.ref ke)])) rfl rfl (hb hby at_114)
  have N484 := Fr.snoc X484 N481 g_ke
  rw [show ((2 : Int32) : Int32).toNatClampNeg = 2 from rfl] at W484
  have VK_484 : AV Z h484 ke .long 8 (fun j => .long ((own_set (own_set (own_set (fun _ => (0 : Int64)) 0 gg) 1 (gg + (1 : Int64))) 2 (gg + (2 : Int64))) j)) := VK_481.setJ W484
  have V3_484 := V3_481.other W484 ne_x3_ke
  have Fl_484 := Fl_481.other W484 (Or.inl ne_ob_ke)
  have Fw_484 := Fw_481.other W484 (Or.inl ne_ob_ke)
  have Fs_484 := Fs_481.other W484 (Or.inl ne_ob_ke)
  have Fm_484 := Fm_481.other W484 (Or.inl ne_ob_ke)
  have Fc_484 := Fc_481.other W484 (Or.inl ne_ob_ke)
  have E_ob_484 := E_ob_481.wr W484
  have U1_484 := U1_481.other W484 ne_c1_ke
  have U2_484 := U2_481.other W484 ne_c2_ke
  have U3_484 := U3_481.other W484 ne_c3_ke
  have U4_484 := U4_481.other W484 ne_c4_ke
  clear V3_481 Fl_481 Fw_481 Fs_481 Fm_481 Fc_481 E_ob_481 U1_481 U2_481 U3_481 U4_481
  have Zs484 : n0 ≤ h484.size := Nat.le_trans Zs481 (Keep.of_wr W484).1
  have R485 : ∀ t, Steps p.tables e below (T484.setTop (mkF m 124 #[.val (.long q1), .second, .val (.long q2), .second, .val (.long q3), .second, .val (.int p4), .val (.int p5), .val (.int p6), .val (.ref x1), .val (.ref x2), .val (.ref x3), .val (.ref ob), .val (.long gg), .second, .val (.ref ke), .unset, .unset] [(.long (gg + (3 : Int64))), (.int (3 : Int32)), (.ref ke)])) t → Steps p.tables e below (s₁.setTop (mkF m 0 #[.val (.long q1), .second, .val (.long q2), .second, .val (.long q3), .second, .val (.int p4), .val (.int p5), .val (.int p6), .unset, .unset, .unset, .unset, .unset, .unset, .unset, .unset, .unset] [])) t := by
    intro t kt
    refine R482 _ ?_
    refine st484 _ ?_
    show Steps p.tables e below (T484.setTop (mkF m 115 #[.val (.long q1), .second, .val (.long q2), .second, .val (.long q3), .second, .val (.int p4), .val (.int p5), .val (.int p6), .val (.ref x1), .val (.ref x2), .val (.ref x3), .val (.ref ob), .val (.long gg), .second, .val (.ref ke), .unset, .unset] [])) _
    refine XS.aload X484.here hx rfl (hb hby at_115) rfl rfl ?_
    show Steps p.tables e below (T484.setTop (mkF m 117 #[.val (.long q1), .second, .val (.long q2), .second, .val (.long q3), .second, .val (.int p4), .val (.int p5), .val (.int p6), .val (.ref x1), .val (.ref x2), .val (.ref x3), .val (.ref ob), .val (.long gg), .second, .val (.ref ke), .unset, .unset] [(.ref ke)])) _
    refine XS.iconst X484.here hx rfl (hb hby at_117) ?_
    show Steps p.tables e below (T484.setTop (mkF m 118 #[.val (.long q1), .second, .val (.long q2), .second, .val (.long q3), .second, .val (.int p4), .val (.int p5), .val (.int p6), .val (.ref x1), .val (.ref x2), .val (.ref x3), .val (.ref ob), .val (.long gg), .second, .val (.ref ke), .unset, .unset] [(.int (3 : Int32)), (.ref ke)])) _
    refine XS.lload X484.here hx rfl (hb hby at_118) rfl ?_
    show Steps p.tables e below (T484.setTop (mkF m 120 #[.val (.long q1), .second, .val (.long q2), .second, .val (.long q3), .second, .val (.int p4), .val (.int p5), .val (.int p6), .val (.ref x1), .val (.ref x2), .val (.ref x3), .val (.ref ob), .val (.long gg), .second, .val (.ref ke), .unset, .unset] [(.long gg), (.int (3 : Int32)), (.ref ke)])) _
    refine X484.ldc2Long hx hown (mvT hZ (hw _ (List.mem_of_getElem? (i := 54) rfl))) (g := (mkF m 120 #[.val (.long q1), .second, .val (.long q2), .second, .val (.long q3), .second, .val (.int p4), .val (.int p5), .val (.int p6), .val (.ref x1), .val (.ref x2), .val (.ref x3), .val (.ref ob), .val (.long gg), .second, .val (.ref ke), .unset, .unset] [(.long gg), (.int (3 : Int32)), (.ref ke)])) rfl (hb hby at_120) _ ?_
    show Steps p.tables e below (T484.setTop (mkF m 123 #[.val (.long q1), .second, .val (.long q2), .second, .val (.long q3), .second, .val (.int p4), .val (.int p5), .val (.int p6), .val (.ref x1), .val (.ref x2), .val (.ref x3), .val (.ref ob), .val (.long gg), .second, .val (.ref ke), .unset, .unset] [(.long (3 : Int64)), (.long gg), (.int (3 : Int32)), (.ref ke)])) _
    refine XS.ladd X484.here hx rfl (hb hby at_123) rfl ?_
    exact kt
  clear R482 st484
  obtain ⟨cl486, Ar486, hin486, -⟩ := VK_484.at (j := (3 : Int32)) (k := 3) (by decide) rfl (by decide)
  obtain ⟨T487, h487, X487, e487, W487, st487⟩ := stJ X484 hx hZ e484 Ar486 (j := (3 : Int32)) hin486 (g := (mkF m 124 #[.val (.long q1), .second, .val (.long q2), .second, .val (.long q3), .second, .val (.int p4), .val (.int p5), .val (.int p6), .val (.ref x1), .val (.ref x2), .val (.ref x3), .val (.ref ob), .val (.long gg), .second, .val (.ref ke), .unset, .unset] [(.long (gg + (3 : Int64))), (.int (3 : Int32)), (.ref ke)])) rfl rfl (hb hby at_124)
  have N487 := Fr.snoc X487 N484 g_ke
  rw [show ((3 : Int32) : Int32).toNatClampNeg = 3 from rfl] at W487
  have VK_487 : AV Z h487 ke .long 8 (fun j => .long ((own_set (own_set (own_set (own_set (fun _ => (0 : Int64)) 0 gg) 1 (gg + (1 : Int64))) 2 (gg + (2 : Int64))) 3 (gg + (3 : Int64))) j)) := VK_484.setJ W487
  have V3_487 := V3_484.other W487 ne_x3_ke
  have Fl_487 := Fl_484.other W487 (Or.inl ne_ob_ke)
  have Fw_487 := Fw_484.other W487 (Or.inl ne_ob_ke)
  have Fs_487 := Fs_484.other W487 (Or.inl ne_ob_ke)
  have Fm_487 := Fm_484.other W487 (Or.inl ne_ob_ke)
  have Fc_487 := Fc_484.other W487 (Or.inl ne_ob_ke)
  have E_ob_487 := E_ob_484.wr W487
  have U1_487 := U1_484.other W487 ne_c1_ke
  have U2_487 := U2_484.other W487 ne_c2_ke
  have U3_487 := U3_484.other W487 ne_c3_ke
  have U4_487 := U4_484.other W487 ne_c4_ke
  clear V3_484 Fl_484 Fw_484 Fs_484 Fm_484 Fc_484 E_ob_484 U1_484 U2_484 U3_484 U4_484
  have Zs487 : n0 ≤ h487.size := Nat.le_trans Zs484 (Keep.of_wr W487).1
  have R488 : ∀ t, Steps p.tables e below (T487.setTop (mkF m 134 #[.val (.long q1), .second, .val (.long q2), .second, .val (.long q3), .second, .val (.int p4), .val (.int p5), .val (.int p6), .val (.ref x1), .val (.ref x2), .val (.ref x3), .val (.ref ob), .val (.long gg), .second, .val (.ref ke), .unset, .unset] [(.long (gg + (4 : Int64))), (.int (4 : Int32)), (.ref ke)])) t → Steps p.tables e below (s₁.setTop (mkF m 0 #[.val (.long q1), .second, .val (.long q2), .second, .val (.long q3), .second, .val (.int p4), .val (.int p5), .val (.int p6), .unset, .unset, .unset, .unset, .unset, .unset, .unset, .unset, .unset] [])) t := by
    intro t kt
    refine R485 _ ?_
    refine st487 _ ?_
    show Steps p.tables e below (T487.setTop (mkF m 125 #[.val (.long q1), .second, .val (.long q2), .second, .val (.long q3), .second, .val (.int p4), .val (.int p5), .val (.int p6), .val (.ref x1), .val (.ref x2), .val (.ref x3), .val (.ref ob), .val (.long gg), .second, .val (.ref ke), .unset, .unset] [])) _
    refine XS.aload X487.here hx rfl (hb hby at_125) rfl rfl ?_
    show Steps p.tables e below (T487.setTop (mkF m 127 #[.val (.long q1), .second, .val (.long q2), .second, .val (.long q3), .second, .val (.int p4), .val (.int p5), .val (.int p6), .val (.ref x1), .val (.ref x2), .val (.ref x3), .val (.ref ob), .val (.long gg), .second, .val (.ref ke), .unset, .unset] [(.ref ke)])) _
    refine XS.iconst X487.here hx rfl (hb hby at_127) ?_
    show Steps p.tables e below (T487.setTop (mkF m 128 #[.val (.long q1), .second, .val (.long q2), .second, .val (.long q3), .second, .val (.int p4), .val (.int p5), .val (.int p6), .val (.ref x1), .val (.ref x2), .val (.ref x3), .val (.ref ob), .val (.long gg), .second, .val (.ref ke), .unset, .unset] [(.int (4 : Int32)), (.ref ke)])) _
    refine XS.lload X487.here hx rfl (hb hby at_128) rfl ?_
    show Steps p.tables e below (T487.setTop (mkF m 130 #[.val (.long q1), .second, .val (.long q2), .second, .val (.long q3), .second, .val (.int p4), .val (.int p5), .val (.int p6), .val (.ref x1), .val (.ref x2), .val (.ref x3), .val (.ref ob), .val (.long gg), .second, .val (.ref ke), .unset, .unset] [(.long gg), (.int (4 : Int32)), (.ref ke)])) _
    refine X487.ldc2Long hx hown (mvT hZ (hw _ (List.mem_of_getElem? (i := 55) rfl))) (g := (mkF m 130 #[.val (.long q1), .second, .val (.long q2), .second, .val (.long q3), .second, .val (.int p4), .val (.int p5), .val (.int p6), .val (.ref x1), .val (.ref x2), .val (.ref x3), .val (.ref ob), .val (.long gg), .second, .val (.ref ke), .unset, .unset] [(.long gg), (.int (4 : Int32)), (.ref ke)])) rfl (hb hby at_130) _ ?_
    show Steps p.tables e below (T487.setTop (mkF m 133 #[.val (.long q1), .second, .val (.long q2), .second, .val (.long q3), .second, .val (.int p4), .val (.int p5), .val (.int p6), .val (.ref x1), .val (.ref x2), .val (.ref x3), .val (.ref ob), .val (.long gg), .second, .val (.ref ke), .unset, .unset] [(.long (4 : Int64)), (.long gg), (.int (4 : Int32)), (.ref ke)])) _
    refine XS.ladd X487.here hx rfl (hb hby at_133) rfl ?_
    exact kt
  clear R485 st487
  obtain ⟨cl489, Ar489, hin489, -⟩ := VK_487.at (j := (4 : Int32)) (k := 4) (by decide) rfl (by decide)
  obtain ⟨T490, h490, X490, e490, W490, st490⟩ := stJ X487 hx hZ e487 Ar489 (j := (4 : Int32)) hin489 (g := (mkF m 134 #[.val (.long q1), .second, .val (.long q2), .second, .val (.long q3), .second, .val (.int p4), .val (.int p5), .val (.int p6), .val (.ref x1), .val (.ref x2), .val (.ref x3), .val (.ref ob), .val (.long gg), .second, .val (.ref ke), .unset, .unset] [(.long (gg + (4 : Int64))), (.int (4 : Int32)), (.ref ke)])) rfl rfl (hb hby at_134)
  have N490 := Fr.snoc X490 N487 g_ke
  rw [show ((4 : Int32) : Int32).toNatClampNeg = 4 from rfl] at W490
  have VK_490 : AV Z h490 ke .long 8 (fun j => .long ((own_set (own_set (own_set (own_set (own_set (fun _ => (0 : Int64)) 0 gg) 1 (gg + (1 : Int64))) 2 (gg + (2 : Int64))) 3 (gg + (3 : Int64))) 4 (gg + (4 : Int64))) j)) := VK_487.setJ W490
  have V3_490 := V3_487.other W490 ne_x3_ke
  have Fl_490 := Fl_487.other W490 (Or.inl ne_ob_ke)
  have Fw_490 := Fw_487.other W490 (Or.inl ne_ob_ke)
  have Fs_490 := Fs_487.other W490 (Or.inl ne_ob_ke)
  have Fm_490 := Fm_487.other W490 (Or.inl ne_ob_ke)
  have Fc_490 := Fc_487.other W490 (Or.inl ne_ob_ke)
  have E_ob_490 := E_ob_487.wr W490
  have U1_490 := U1_487.other W490 ne_c1_ke
  have U2_490 := U2_487.other W490 ne_c2_ke
  have U3_490 := U3_487.other W490 ne_c3_ke
  have U4_490 := U4_487.other W490 ne_c4_ke
  clear V3_487 Fl_487 Fw_487 Fs_487 Fm_487 Fc_487 E_ob_487 U1_487 U2_487 U3_487 U4_487
  have Zs490 : n0 ≤ h490.size := Nat.le_trans Zs487 (Keep.of_wr W490).1
  have R491 : ∀ t, Steps p.tables e below (T490.setTop (mkF m 144 #[.val (.long q1), .second, .val (.long q2), .second, .val (.long q3), .second, .val (.int p4), .val (.int p5), .val (.int p6), .val (.ref x1), .val (.ref x2), .val (.ref x3), .val (.ref ob), .val (.long gg), .second, .val (.ref ke), .unset, .unset] [(.long (gg + (5 : Int64))), (.int (5 : Int32)), (.ref ke)])) t → Steps p.tables e below (s₁.setTop (mkF m 0 #[.val (.long q1), .second, .val (.long q2), .second, .val (.long q3), .second, .val (.int p4), .val (.int p5), .val (.int p6), .unset, .unset, .unset, .unset, .unset, .unset, .unset, .unset, .unset] [])) t := by
    intro t kt
    refine R488 _ ?_
    refine st490 _ ?_
    show Steps p.tables e below (T490.setTop (mkF m 135 #[.val (.long q1), .second, .val (.long q2), .second, .val (.long q3), .second, .val (.int p4), .val (.int p5), .val (.int p6), .val (.ref x1), .val (.ref x2), .val (.ref x3), .val (.ref ob), .val (.long gg), .second, .val (.ref ke), .unset, .unset] [])) _
    refine XS.aload X490.here hx rfl (hb hby at_135) rfl rfl ?_
    show Steps p.tables e below (T490.setTop (mkF m 137 #[.val (.long q1), .second, .val (.long q2), .second, .val (.long q3), .second, .val (.int p4), .val (.int p5), .val (.int p6), .val (.ref x1), .val (.ref x2), .val (.ref x3), .val (.ref ob), .val (.long gg), .second, .val (.ref ke), .unset, .unset] [(.ref ke)])) _
    refine XS.iconst X490.here hx rfl (hb hby at_137) ?_
    show Steps p.tables e below (T490.setTop (mkF m 138 #[.val (.long q1), .second, .val (.long q2), .second, .val (.long q3), .second, .val (.int p4), .val (.int p5), .val (.int p6), .val (.ref x1), .val (.ref x2), .val (.ref x3), .val (.ref ob), .val (.long gg), .second, .val (.ref ke), .unset, .unset] [(.int (5 : Int32)), (.ref ke)])) _
    refine XS.lload X490.here hx rfl (hb hby at_138) rfl ?_
    show Steps p.tables e below (T490.setTop (mkF m 140 #[.val (.long q1), .second, .val (.long q2), .second, .val (.long q3), .second, .val (.int p4), .val (.int p5), .val (.int p6), .val (.ref x1), .val (.ref x2), .val (.ref x3), .val (.ref ob), .val (.long gg), .second, .val (.ref ke), .unset, .unset] [(.long gg), (.int (5 : Int32)), (.ref ke)])) _
    refine X490.ldc2Long hx hown (mvT hZ (hw _ (List.mem_of_getElem? (i := 56) rfl))) (g := (mkF m 140 #[.val (.long q1), .second, .val (.long q2), .second, .val (.long q3), .second, .val (.int p4), .val (.int p5), .val (.int p6), .val (.ref x1), .val (.ref x2), .val (.ref x3), .val (.ref ob), .val (.long gg), .second, .val (.ref ke), .unset, .unset] [(.long gg), (.int (5 : Int32)), (.ref ke)])) rfl (hb hby at_140) _ ?_
    show Steps p.tables e below (T490.setTop (mkF m 143 #[.val (.long q1), .second, .val (.long q2), .second, .val (.long q3), .second, .val (.int p4), .val (.int p5), .val (.int p6), .val (.ref x1), .val (.ref x2), .val (.ref x3), .val (.ref ob), .val (.long gg), .second, .val (.ref ke), .unset, .unset] [(.long (5 : Int64)), (.long gg), (.int (5 : Int32)), (.ref ke)])) _
    refine XS.ladd X490.here hx rfl (hb hby at_143) rfl ?_
    exact kt
  clear R488 st490
  obtain ⟨cl492, Ar492, hin492, -⟩ := VK_490.at (j := (5 : Int32)) (k := 5) (by decide) rfl (by decide)
  obtain ⟨T493, h493, X493, e493, W493, st493⟩ := stJ X490 hx hZ e490 Ar492 (j := (5 : Int32)) hin492 (g := (mkF m 144 #[.val (.long q1), .second, .val (.long q2), .second, .val (.long q3), .second, .val (.int p4), .val (.int p5), .val (.int p6), .val (.ref x1), .val (.ref x2), .val (.ref x3), .val (.ref ob), .val (.long gg), .second, .val (.ref ke), .unset, .unset] [(.long (gg + (5 : Int64))), (.int (5 : Int32)), (.ref ke)])) rfl rfl (hb hby at_144)
  have N493 := Fr.snoc X493 N490 g_ke
  rw [show ((5 : Int32) : Int32).toNatClampNeg = 5 from rfl] at W493
  have VK_493 : AV Z h493 ke .long 8 (fun j => .long ((own_set (own_set (own_set (own_set (own_set (own_set (fun _ => (0 : Int64)) 0 gg) 1 (gg + (1 : Int64))) 2 (gg + (2 : Int64))) 3 (gg + (3 : Int64))) 4 (gg + (4 : Int64))) 5 (gg + (5 : Int64))) j)) := VK_490.setJ W493
  have V3_493 := V3_490.other W493 ne_x3_ke
  have Fl_493 := Fl_490.other W493 (Or.inl ne_ob_ke)
  have Fw_493 := Fw_490.other W493 (Or.inl ne_ob_ke)
  have Fs_493 := Fs_490.other W493 (Or.inl ne_ob_ke)
  have Fm_493 := Fm_490.other W493 (Or.inl ne_ob_ke)
  have Fc_493 := Fc_490.other W493 (Or.inl ne_ob_ke)
  have E_ob_493 := E_ob_490.wr W493
  have U1_493 := U1_490.other W493 ne_c1_ke
  have U2_493 := U2_490.other W493 ne_c2_ke
  have U3_493 := U3_490.other W493 ne_c3_ke
  have U4_493 := U4_490.other W493 ne_c4_ke
  clear V3_490 Fl_490 Fw_490 Fs_490 Fm_490 Fc_490 E_ob_490 U1_490 U2_490 U3_490 U4_490
  have Zs493 : n0 ≤ h493.size := Nat.le_trans Zs490 (Keep.of_wr W493).1
  have R494 : ∀ t, Steps p.tables e below (T493.setTop (mkF m 155 #[.val (.long q1), .second, .val (.long q2), .second, .val (.long q3), .second, .val (.int p4), .val (.int p5), .val (.int p6), .val (.ref x1), .val (.ref x2), .val (.ref x3), .val (.ref ob), .val (.long gg), .second, .val (.ref ke), .unset, .unset] [(.long (gg + (6 : Int64))), (.int (6 : Int32)), (.ref ke)])) t → Steps p.tables e below (s₁.setTop (mkF m 0 #[.val (.long q1), .second, .val (.long q2), .second, .val (.long q3), .second, .val (.int p4), .val (.int p5), .val (.int p6), .unset, .unset, .unset, .unset, .unset, .unset, .unset, .unset, .unset] [])) t := by
    intro t kt
    refine R491 _ ?_
    refine st493 _ ?_
    show Steps p.tables e below (T493.setTop (mkF m 145 #[.val (.long q1), .second, .val (.long q2), .second, .val (.long q3), .second, .val (.int p4), .val (.int p5), .val (.int p6), .val (.ref x1), .val (.ref x2), .val (.ref x3), .val (.ref ob), .val (.long gg), .second, .val (.ref ke), .unset, .unset] [])) _
    refine XS.aload X493.here hx rfl (hb hby at_145) rfl rfl ?_
    show Steps p.tables e below (T493.setTop (mkF m 147 #[.val (.long q1), .second, .val (.long q2), .second, .val (.long q3), .second, .val (.int p4), .val (.int p5), .val (.int p6), .val (.ref x1), .val (.ref x2), .val (.ref x3), .val (.ref ob), .val (.long gg), .second, .val (.ref ke), .unset, .unset] [(.ref ke)])) _
    refine XS.bipush X493.here hx rfl (hb hby at_147) ?_
    show Steps p.tables e below (T493.setTop (mkF m 149 #[.val (.long q1), .second, .val (.long q2), .second, .val (.long q3), .second, .val (.int p4), .val (.int p5), .val (.int p6), .val (.ref x1), .val (.ref x2), .val (.ref x3), .val (.ref ob), .val (.long gg), .second, .val (.ref ke), .unset, .unset] [(.int (6 : Int32)), (.ref ke)])) _
    refine XS.lload X493.here hx rfl (hb hby at_149) rfl ?_
    show Steps p.tables e below (T493.setTop (mkF m 151 #[.val (.long q1), .second, .val (.long q2), .second, .val (.long q3), .second, .val (.int p4), .val (.int p5), .val (.int p6), .val (.ref x1), .val (.ref x2), .val (.ref x3), .val (.ref ob), .val (.long gg), .second, .val (.ref ke), .unset, .unset] [(.long gg), (.int (6 : Int32)), (.ref ke)])) _
    refine X493.ldc2Long hx hown (mvT hZ (hw _ (List.mem_of_getElem? (i := 57) rfl))) (g := (mkF m 151 #[.val (.long q1), .second, .val (.long q2), .second, .val (.long q3), .second, .val (.int p4), .val (.int p5), .val (.int p6), .val (.ref x1), .val (.ref x2), .val (.ref x3), .val (.ref ob), .val (.long gg), .second, .val (.ref ke), .unset, .unset] [(.long gg), (.int (6 : Int32)), (.ref ke)])) rfl (hb hby at_151) _ ?_
    show Steps p.tables e below (T493.setTop (mkF m 154 #[.val (.long q1), .second, .val (.long q2), .second, .val (.long q3), .second, .val (.int p4), .val (.int p5), .val (.int p6), .val (.ref x1), .val (.ref x2), .val (.ref x3), .val (.ref ob), .val (.long gg), .second, .val (.ref ke), .unset, .unset] [(.long (6 : Int64)), (.long gg), (.int (6 : Int32)), (.ref ke)])) _
    refine XS.ladd X493.here hx rfl (hb hby at_154) rfl ?_
    exact kt
  clear R491 st493
  obtain ⟨cl495, Ar495, hin495, -⟩ := VK_493.at (j := (6 : Int32)) (k := 6) (by decide) rfl (by decide)
  obtain ⟨T496, h496, X496, e496, W496, st496⟩ := stJ X493 hx hZ e493 Ar495 (j := (6 : Int32)) hin495 (g := (mkF m 155 #[.val (.long q1), .second, .val (.long q2), .second, .val (.long q3), .second, .val (.int p4), .val (.int p5), .val (.int p6), .val (.ref x1), .val (.ref x2), .val (.ref x3), .val (.ref ob), .val (.long gg), .second, .val (.ref ke), .unset, .unset] [(.long (gg + (6 : Int64))), (.int (6 : Int32)), (.ref ke)])) rfl rfl (hb hby at_155)
  have N496 := Fr.snoc X496 N493 g_ke
  rw [show ((6 : Int32) : Int32).toNatClampNeg = 6 from rfl] at W496
  have VK_496 : AV Z h496 ke .long 8 (fun j => .long ((own_set (own_set (own_set (own_set (own_set (own_set (own_set (fun _ => (0 : Int64)) 0 gg) 1 (gg + (1 : Int64))) 2 (gg + (2 : Int64))) 3 (gg + (3 : Int64))) 4 (gg + (4 : Int64))) 5 (gg + (5 : Int64))) 6 (gg + (6 : Int64))) j)) := VK_493.setJ W496
  have V3_496 := V3_493.other W496 ne_x3_ke
  have Fl_496 := Fl_493.other W496 (Or.inl ne_ob_ke)
  have Fw_496 := Fw_493.other W496 (Or.inl ne_ob_ke)
  have Fs_496 := Fs_493.other W496 (Or.inl ne_ob_ke)
  have Fm_496 := Fm_493.other W496 (Or.inl ne_ob_ke)
  have Fc_496 := Fc_493.other W496 (Or.inl ne_ob_ke)
  have E_ob_496 := E_ob_493.wr W496
  have U1_496 := U1_493.other W496 ne_c1_ke
  have U2_496 := U2_493.other W496 ne_c2_ke
  have U3_496 := U3_493.other W496 ne_c3_ke
  have U4_496 := U4_493.other W496 ne_c4_ke
  clear V3_493 Fl_493 Fw_493 Fs_493 Fm_493 Fc_493 E_ob_493 U1_493 U2_493 U3_493 U4_493
  have Zs496 : n0 ≤ h496.size := Nat.le_trans Zs493 (Keep.of_wr W496).1
  have R497 : ∀ t, Steps p.tables e below (T496.setTop (mkF m 166 #[.val (.long q1), .second, .val (.long q2), .second, .val (.long q3), .second, .val (.int p4), .val (.int p5), .val (.int p6), .val (.ref x1), .val (.ref x2), .val (.ref x3), .val (.ref ob), .val (.long gg), .second, .val (.ref ke), .unset, .unset] [(.long (gg + (7 : Int64))), (.int (7 : Int32)), (.ref ke)])) t → Steps p.tables e below (s₁.setTop (mkF m 0 #[.val (.long q1), .second, .val (.long q2), .second, .val (.long q3), .second, .val (.int p4), .val (.int p5), .val (.int p6), .unset, .unset, .unset, .unset, .unset, .unset, .unset, .unset, .unset] [])) t := by
    intro t kt
    refine R494 _ ?_
    refine st496 _ ?_
    show Steps p.tables e below (T496.setTop (mkF m 156 #[.val (.long q1), .second, .val (.long q2), .second, .val (.long q3), .second, .val (.int p4), .val (.int p5), .val (.int p6), .val (.ref x1), .val (.ref x2), .val (.ref x3), .val (.ref ob), .val (.long gg), .second, .val (.ref ke), .unset, .unset] [])) _
    refine XS.aload X496.here hx rfl (hb hby at_156) rfl rfl ?_
    show Steps p.tables e below (T496.setTop (mkF m 158 #[.val (.long q1), .second, .val (.long q2), .second, .val (.long q3), .second, .val (.int p4), .val (.int p5), .val (.int p6), .val (.ref x1), .val (.ref x2), .val (.ref x3), .val (.ref ob), .val (.long gg), .second, .val (.ref ke), .unset, .unset] [(.ref ke)])) _
    refine XS.bipush X496.here hx rfl (hb hby at_158) ?_
    show Steps p.tables e below (T496.setTop (mkF m 160 #[.val (.long q1), .second, .val (.long q2), .second, .val (.long q3), .second, .val (.int p4), .val (.int p5), .val (.int p6), .val (.ref x1), .val (.ref x2), .val (.ref x3), .val (.ref ob), .val (.long gg), .second, .val (.ref ke), .unset, .unset] [(.int (7 : Int32)), (.ref ke)])) _
    refine XS.lload X496.here hx rfl (hb hby at_160) rfl ?_
    show Steps p.tables e below (T496.setTop (mkF m 162 #[.val (.long q1), .second, .val (.long q2), .second, .val (.long q3), .second, .val (.int p4), .val (.int p5), .val (.int p6), .val (.ref x1), .val (.ref x2), .val (.ref x3), .val (.ref ob), .val (.long gg), .second, .val (.ref ke), .unset, .unset] [(.long gg), (.int (7 : Int32)), (.ref ke)])) _
    refine X496.ldc2Long hx hown (mvT hZ (hw _ (List.mem_of_getElem? (i := 58) rfl))) (g := (mkF m 162 #[.val (.long q1), .second, .val (.long q2), .second, .val (.long q3), .second, .val (.int p4), .val (.int p5), .val (.int p6), .val (.ref x1), .val (.ref x2), .val (.ref x3), .val (.ref ob), .val (.long gg), .second, .val (.ref ke), .unset, .unset] [(.long gg), (.int (7 : Int32)), (.ref ke)])) rfl (hb hby at_162) _ ?_
    show Steps p.tables e below (T496.setTop (mkF m 165 #[.val (.long q1), .second, .val (.long q2), .second, .val (.long q3), .second, .val (.int p4), .val (.int p5), .val (.int p6), .val (.ref x1), .val (.ref x2), .val (.ref x3), .val (.ref ob), .val (.long gg), .second, .val (.ref ke), .unset, .unset] [(.long (7 : Int64)), (.long gg), (.int (7 : Int32)), (.ref ke)])) _
    refine XS.ladd X496.here hx rfl (hb hby at_165) rfl ?_
    exact kt
  clear R494 st496
  obtain ⟨cl498, Ar498, hin498, -⟩ := VK_496.at (j := (7 : Int32)) (k := 7) (by decide) rfl (by decide)
  obtain ⟨T499, h499, X499, e499, W499, st499⟩ := stJ X496 hx hZ e496 Ar498 (j := (7 : Int32)) hin498 (g := (mkF m 166 #[.val (.long q1), .second, .val (.long q2), .second, .val (.long q3), .second, .val (.int p4), .val (.int p5), .val (.int p6), .val (.ref x1), .val (.ref x2), .val (.ref x3), .val (.ref ob), .val (.long gg), .second, .val (.ref ke), .unset, .unset] [(.long (gg + (7 : Int64))), (.int (7 : Int32)), (.ref ke)])) rfl rfl (hb hby at_166)
  have N499 := Fr.snoc X499 N496 g_ke
  rw [show ((7 : Int32) : Int32).toNatClampNeg = 7 from rfl] at W499
  have VK_499 : AV Z h499 ke .long 8 (fun j => .long ((own_set (own_set (own_set (own_set (own_set (own_set (own_set (own_set (fun _ => (0 : Int64)) 0 gg) 1 (gg + (1 : Int64))) 2 (gg + (2 : Int64))) 3 (gg + (3 : Int64))) 4 (gg + (4 : Int64))) 5 (gg + (5 : Int64))) 6 (gg + (6 : Int64))) 7 (gg + (7 : Int64))) j)) := VK_496.setJ W499
  have V3_499 := V3_496.other W499 ne_x3_ke
  have Fl_499 := Fl_496.other W499 (Or.inl ne_ob_ke)
  have Fw_499 := Fw_496.other W499 (Or.inl ne_ob_ke)
  have Fs_499 := Fs_496.other W499 (Or.inl ne_ob_ke)
  have Fm_499 := Fm_496.other W499 (Or.inl ne_ob_ke)
  have Fc_499 := Fc_496.other W499 (Or.inl ne_ob_ke)
  have E_ob_499 := E_ob_496.wr W499
  have U1_499 := U1_496.other W499 ne_c1_ke
  have U2_499 := U2_496.other W499 ne_c2_ke
  have U3_499 := U3_496.other W499 ne_c3_ke
  have U4_499 := U4_496.other W499 ne_c4_ke
  clear V3_496 Fl_496 Fw_496 Fs_496 Fm_496 Fc_496 E_ob_496 U1_496 U2_496 U3_496 U4_496
  have Zs499 : n0 ≤ h499.size := Nat.le_trans Zs496 (Keep.of_wr W499).1
  have R500 : ∀ t, Steps p.tables e below (T499.setTop (mkF m 167 #[.val (.long q1), .second, .val (.long q2), .second, .val (.long q3), .second, .val (.int p4), .val (.int p5), .val (.int p6), .val (.ref x1), .val (.ref x2), .val (.ref x3), .val (.ref ob), .val (.long gg), .second, .val (.ref ke), .unset, .unset] [])) t → Steps p.tables e below (s₁.setTop (mkF m 0 #[.val (.long q1), .second, .val (.long q2), .second, .val (.long q3), .second, .val (.int p4), .val (.int p5), .val (.int p6), .unset, .unset, .unset, .unset, .unset, .unset, .unset, .unset, .unset] [])) t := by
    intro t kt
    refine R497 _ ?_
    refine st499 _ ?_
    exact kt
  clear R497 st499
  obtain ⟨fk, hfk⟩ : ∃ f : Nat → Int64, f = (own_set (own_set (own_set (own_set (own_set (own_set (own_set (own_set (fun _ => (0 : Int64)) 0 gg) 1 (gg + (1 : Int64))) 2 (gg + (2 : Int64))) 3 (gg + (3 : Int64))) 4 (gg + (4 : Int64))) 5 (gg + (5 : Int64))) 6 (gg + (6 : Int64))) 7 (gg + (7 : Int64))) := ⟨_, rfl⟩
  have VKz : AV Z h499 ke .long 8 (fun j => .long (fk j)) := by rw [hfk]; exact VK_499
  have R501 : ∀ t, Steps p.tables e below (T499.setTop (mkF m 177 #[.val (.long q1), .second, .val (.long q2), .second, .val (.long q3), .second, .val (.int p4), .val (.int p5), .val (.int p6), .val (.ref x1), .val (.ref x2), .val (.ref x3), .val (.ref ob), .val (.long gg), .second, .val (.ref ke), .unset, .unset] [(.int (((q2 ^^^ (p6.toInt64)) &&& (3 : Int64)).toInt32))])) t → Steps p.tables e below (s₁.setTop (mkF m 0 #[.val (.long q1), .second, .val (.long q2), .second, .val (.long q3), .second, .val (.int p4), .val (.int p5), .val (.int p6), .unset, .unset, .unset, .unset, .unset, .unset, .unset, .unset, .unset] [])) t := by
    intro t kt
    refine R500 _ ?_
    show Steps p.tables e below (T499.setTop (mkF m 167 #[.val (.long q1), .second, .val (.long q2), .second, .val (.long q3), .second, .val (.int p4), .val (.int p5), .val (.int p6), .val (.ref x1), .val (.ref x2), .val (.ref x3), .val (.ref ob), .val (.long gg), .second, .val (.ref ke), .unset, .unset] [])) _
    refine XS.lloadN X499.here hx rfl (hb hby at_167) rfl ?_
    show Steps p.tables e below (T499.setTop (mkF m 168 #[.val (.long q1), .second, .val (.long q2), .second, .val (.long q3), .second, .val (.int p4), .val (.int p5), .val (.int p6), .val (.ref x1), .val (.ref x2), .val (.ref x3), .val (.ref ob), .val (.long gg), .second, .val (.ref ke), .unset, .unset] [(.long q2)])) _
    refine XS.iload X499.here hx rfl (hb hby at_168) rfl ?_
    show Steps p.tables e below (T499.setTop (mkF m 170 #[.val (.long q1), .second, .val (.long q2), .second, .val (.long q3), .second, .val (.int p4), .val (.int p5), .val (.int p6), .val (.ref x1), .val (.ref x2), .val (.ref x3), .val (.ref ob), .val (.long gg), .second, .val (.ref ke), .unset, .unset] [(.int p6), (.long q2)])) _
    refine XS.i2l X499.here hx rfl (hb hby at_170) rfl ?_
    show Steps p.tables e below (T499.setTop (mkF m 171 #[.val (.long q1), .second, .val (.long q2), .second, .val (.long q3), .second, .val (.int p4), .val (.int p5), .val (.int p6), .val (.ref x1), .val (.ref x2), .val (.ref x3), .val (.ref ob), .val (.long gg), .second, .val (.ref ke), .unset, .unset] [(.long (p6.toInt64)), (.long q2)])) _
    refine XS.lxor X499.here hx rfl (hb hby at_171) rfl ?_
    show Steps p.tables e below (T499.setTop (mkF m 172 #[.val (.long q1), .second, .val (.long q2), .second, .val (.long q3), .second, .val (.int p4), .val (.int p5), .val (.int p6), .val (.ref x1), .val (.ref x2), .val (.ref x3), .val (.ref ob), .val (.long gg), .second, .val (.ref ke), .unset, .unset] [(.long (q2 ^^^ (p6.toInt64)))])) _
    refine X499.ldc2Long hx hown (mvT hZ (hw _ (List.mem_of_getElem? (i := 54) rfl))) (g := (mkF m 172 #[.val (.long q1), .second, .val (.long q2), .second, .val (.long q3), .second, .val (.int p4), .val (.int p5), .val (.int p6), .val (.ref x1), .val (.ref x2), .val (.ref x3), .val (.ref ob), .val (.long gg), .second, .val (.ref ke), .unset, .unset] [(.long (q2 ^^^ (p6.toInt64)))])) rfl (hb hby at_172) _ ?_
    show Steps p.tables e below (T499.setTop (mkF m 175 #[.val (.long q1), .second, .val (.long q2), .second, .val (.long q3), .second, .val (.int p4), .val (.int p5), .val (.int p6), .val (.ref x1), .val (.ref x2), .val (.ref x3), .val (.ref ob), .val (.long gg), .second, .val (.ref ke), .unset, .unset] [(.long (3 : Int64)), (.long (q2 ^^^ (p6.toInt64)))])) _
    refine XS.land X499.here hx rfl (hb hby at_175) rfl ?_
    show Steps p.tables e below (T499.setTop (mkF m 176 #[.val (.long q1), .second, .val (.long q2), .second, .val (.long q3), .second, .val (.int p4), .val (.int p5), .val (.int p6), .val (.ref x1), .val (.ref x2), .val (.ref x3), .val (.ref ob), .val (.long gg), .second, .val (.ref ke), .unset, .unset] [(.long ((q2 ^^^ (p6.toInt64)) &&& (3 : Int64)))])) _
    refine XS.l2i X499.here hx rfl (hb hby at_176) rfl ?_
    exact kt
  clear R500
  obtain ⟨o, ho, ho3⟩ := own_off (q2 ^^^ (p6.toInt64))
  obtain ⟨off, hoff⟩ : ∃ z : Int32, z = (((q2 ^^^ (p6.toInt64)) &&& (3 : Int64)).toInt32) := ⟨_, rfl⟩
  have R502 : ∀ t, Steps p.tables e below (T499.setTop (mkF m 177 #[.val (.long q1), .second, .val (.long q2), .second, .val (.long q3), .second, .val (.int p4), .val (.int p5), .val (.int p6), .val (.ref x1), .val (.ref x2), .val (.ref x3), .val (.ref ob), .val (.long gg), .second, .val (.ref ke), .unset, .unset] [(.int off)])) t → Steps p.tables e below (s₁.setTop (mkF m 0 #[.val (.long q1), .second, .val (.long q2), .second, .val (.long q3), .second, .val (.int p4), .val (.int p5), .val (.int p6), .unset, .unset, .unset, .unset, .unset, .unset, .unset, .unset, .unset] [])) t := by rw [hoff]; exact R501
  rw [show ((q2 ^^^ (p6.toInt64)) &&& (3 : Int64)).toInt32 = off from hoff.symm] at ho
  have hnn : o + (w2 + 1) ≤ 8 := own_o8 ho3 hnw
  have R503 : ∀ t, Steps p.tables e below (T499.setTop (mkF m 187 #[.val (.long q1), .second, .val (.long q2), .second, .val (.long q3), .second, .val (.int p4), .val (.int p5), .val (.int p6), .val (.ref x1), .val (.ref x2), .val (.ref x3), .val (.ref ob), .val (.long gg), .second, .val (.ref ke), .val (.int off), .unset] [(.int off), (.ref ke), (.ref x3), (.ref ob)])) t → Steps p.tables e below (s₁.setTop (mkF m 0 #[.val (.long q1), .second, .val (.long q2), .second, .val (.long q3), .second, .val (.int p4), .val (.int p5), .val (.int p6), .unset, .unset, .unset, .unset, .unset, .unset, .unset, .unset, .unset] [])) t := by
    intro t kt
    refine R502 _ ?_
    show Steps p.tables e below (T499.setTop (mkF m 177 #[.val (.long q1), .second, .val (.long q2), .second, .val (.long q3), .second, .val (.int p4), .val (.int p5), .val (.int p6), .val (.ref x1), .val (.ref x2), .val (.ref x3), .val (.ref ob), .val (.long gg), .second, .val (.ref ke), .unset, .unset] [(.int off)])) _
    refine XS.istore X499.here hx rfl (hb hby at_177) rfl (l' := #[.val (.long q1), .second, .val (.long q2), .second, .val (.long q3), .second, .val (.int p4), .val (.int p5), .val (.int p6), .val (.ref x1), .val (.ref x2), .val (.ref x3), .val (.ref ob), .val (.long gg), .second, .val (.ref ke), .val (.int off), .unset]) rfl ?_
    show Steps p.tables e below (T499.setTop (mkF m 179 #[.val (.long q1), .second, .val (.long q2), .second, .val (.long q3), .second, .val (.int p4), .val (.int p5), .val (.int p6), .val (.ref x1), .val (.ref x2), .val (.ref x3), .val (.ref ob), .val (.long gg), .second, .val (.ref ke), .val (.int off), .unset] [])) _
    refine XS.aload X499.here hx rfl (hb hby at_179) rfl rfl ?_
    show Steps p.tables e below (T499.setTop (mkF m 181 #[.val (.long q1), .second, .val (.long q2), .second, .val (.long q3), .second, .val (.int p4), .val (.int p5), .val (.int p6), .val (.ref x1), .val (.ref x2), .val (.ref x3), .val (.ref ob), .val (.long gg), .second, .val (.ref ke), .val (.int off), .unset] [(.ref ob)])) _
    refine XS.aload X499.here hx rfl (hb hby at_181) rfl rfl ?_
    show Steps p.tables e below (T499.setTop (mkF m 183 #[.val (.long q1), .second, .val (.long q2), .second, .val (.long q3), .second, .val (.int p4), .val (.int p5), .val (.int p6), .val (.ref x1), .val (.ref x2), .val (.ref x3), .val (.ref ob), .val (.long gg), .second, .val (.ref ke), .val (.int off), .unset] [(.ref x3), (.ref ob)])) _
    refine XS.aload X499.here hx rfl (hb hby at_183) rfl rfl ?_
    show Steps p.tables e below (T499.setTop (mkF m 185 #[.val (.long q1), .second, .val (.long q2), .second, .val (.long q3), .second, .val (.int p4), .val (.int p5), .val (.int p6), .val (.ref x1), .val (.ref x2), .val (.ref x3), .val (.ref ob), .val (.long gg), .second, .val (.ref ke), .val (.int off), .unset] [(.ref ke), (.ref x3), (.ref ob)])) _
    refine XS.iload X499.here hx rfl (hb hby at_185) rfl ?_
    exact kt
  clear R502
  obtain ⟨cq504, kq504, q504a, q504b, q504c⟩ := isOf hZ e499 E_ob_499
  obtain ⟨_, _, ⟨T504, L504, k504, n504⟩, -, X504, ⟨Lc504, hQ504, l504, y504, z504⟩, st504⟩ := X499.virtualBack hx (y := (⟨"com/example/inexact_odds/inexactodds/language/Encoding", "encode", "([I[JI)V"⟩ : MethodName)) (z := (⟨"com/example/inexact_odds/inexactodds/language/Encoding", "encode", "([I[JI)V"⟩ : MethodName)) hown (mvT hZ (hw _ (List.mem_of_getElem? (i := 59) rfl))) (mvT hZ (hw _ (List.mem_of_getElem? (i := 60) rfl))) (notFace_of_selects (args := #[]) (mvT hZ (hw _ (List.mem_of_getElem? (i := 62) rfl)))) (mvT hZ (hw _ (List.mem_of_getElem? (i := 62) rfl))) (mvT hZ (hw _ (List.mem_of_getElem? (i := 61) rfl))) (by decide) (backOf (W := 0) (rm_encode l Z a0 hw [] ob x3 ke off c1 c2 c3 ((own_F lo hi 3).1 + (1 : Int32)) lo (own_wd lo hi) (own_sf lo hi) va fk 8 o (w2 + 1) (own_wn w2) h499 n0 Zs499 Fl_499 Fw_499 Fs_499 Fc_499 U1_499 U2_499 U3_499 V3_499 VKz g_ke ne_ob_ke ne_x3_ke ne_c1_ke ne_c2_ke ne_c3_ke ho hnn (by decide) hwds hnw hwn) hZ (hw _ (List.mem_of_getElem? (i := 63) rfl)) (hw _ (List.mem_of_getElem? (i := 15) rfl)) (by decide) (by decide)) q504a q504c (g := (mkF m 187 #[.val (.long q1), .second, .val (.long q2), .second, .val (.long q3), .second, .val (.int p4), .val (.int p5), .val (.int p6), .val (.ref x1), .val (.ref x2), .val (.ref x3), .val (.ref ob), .val (.long gg), .second, .val (.ref ke), .val (.int off), .unset] [(.int off), (.ref ke), (.ref x3), (.ref ob)])) rfl (by rw [hml]; rfl) (Steps.refl _) (argsL := [(.ref x3), (.ref ke), (.int off)]) (rest := []) (lenOf pd_5 rfl) rfl (by show 2 * 0 + _ ≤ _; exact Nat.le_of_eq rfl) (hb hby at_187) (fun _ _ => ⟨rfl, e499, (by decide : 9 + 0 ≤ _), (by decide : 34 + 0 ≤ _)⟩)
  dsimp only [Pt.U, Pt.locs, Pt.cells, Pt.slots] at X504 l504 y504 z504 st504 hQ504
  rw [l504, y504, z504] at X504
  obtain ⟨rfl, N504q, K504, V504⟩ := hQ504
  have N504 := Fr.app N499 N504q
  have V3_505 := V3_499.keep K504 (own_notin1 ne_x3_ke)
  have Fl_505 := Fl_499.keep K504 (own_notin1 ne_ob_ke)
  have Fw_505 := Fw_499.keep K504 (own_notin1 ne_ob_ke)
  have Fs_505 := Fs_499.keep K504 (own_notin1 ne_ob_ke)
  have Fm_505 := Fm_499.keep K504 (own_notin1 ne_ob_ke)
  have Fc_505 := Fc_499.keep K504 (own_notin1 ne_ob_ke)
  have E_ob_505 := E_ob_499.keep K504
  have U1_505 := U1_499.keep K504 (own_notin1 ne_c1_ke)
  have U2_505 := U2_499.keep K504 (own_notin1 ne_c2_ke)
  have U3_505 := U3_499.keep K504 (own_notin1 ne_c3_ke)
  have U4_505 := U4_499.keep K504 (own_notin1 ne_c4_ke)
  clear V3_499 Fl_499 Fw_499 Fs_499 Fm_499 Fc_499 E_ob_499 U1_499 U2_499 U3_499 U4_499
  have Zs505 : n0 ≤ T504.heap.size := Nat.le_trans Zs499 K504.1
  have R506 : ∀ t, Steps p.tables e below (T504.setTop (mkF m 191 #[.val (.long q1), .second, .val (.long q2), .second, .val (.long q3), .second, .val (.int p4), .val (.int p5), .val (.int p6), .val (.ref x1), .val (.ref x2), .val (.ref x3), .val (.ref ob), .val (.long gg), .second, .val (.ref ke), .val (.int off), .unset] [(.int (3 : Int32))])) t → Steps p.tables e below (s₁.setTop (mkF m 0 #[.val (.long q1), .second, .val (.long q2), .second, .val (.long q3), .second, .val (.int p4), .val (.int p5), .val (.int p6), .unset, .unset, .unset, .unset, .unset, .unset, .unset, .unset, .unset] [])) t := by
    intro t kt
    refine R503 _ ?_
    refine st504.trans ?_
    show Steps p.tables e below (T504.setTop (mkF m 190 #[.val (.long q1), .second, .val (.long q2), .second, .val (.long q3), .second, .val (.int p4), .val (.int p5), .val (.int p6), .val (.ref x1), .val (.ref x2), .val (.ref x3), .val (.ref ob), .val (.long gg), .second, .val (.ref ke), .val (.int off), .unset] [])) _
    refine XS.iconst X504.here hx rfl (hb hby at_190) ?_
    exact kt
  clear R503 st504
  obtain ⟨T507, h507, k507, X507, e507, E507, A507, st507⟩ := newP X504 hx hZ (hw _ (List.mem_of_getElem? (i := 0) rfl)) rfl (g := (mkF m 191 #[.val (.long q1), .second, .val (.long q2), .second, .val (.long q3), .second, .val (.int p4), .val (.int p5), .val (.int p6), .val (.ref x1), .val (.ref x2), .val (.ref x3), .val (.ref ob), .val (.long gg), .second, .val (.ref ke), .val (.int off), .unset] [(.int (3 : Int32))])) rfl (hb hby at_191) rfl (by decide) (cap := 3) (by decide) (by decide) (by decide) (by decide)
  obtain ⟨ou, g507⟩ : ∃ z, z = T504.heap.size := ⟨_, rfl⟩
  rw [← g507] at A507 st507
  have g_ou : n0 ≤ ou := Nat.le_trans Zs505 (Nat.le_of_eq g507.symm)
  have ne_x3_ou : x3 ≠ ou := Nat.ne_of_lt (Nat.lt_of_lt_of_le V3_505.lt (Nat.le_of_eq g507.symm))
  have ne_ob_ou : ob ≠ ou := Nat.ne_of_lt (Nat.lt_of_lt_of_le Fl_505.lt (Nat.le_of_eq g507.symm))
  have ne_c1_ou : c1 ≠ ou := Nat.ne_of_lt (Nat.lt_of_lt_of_le U1_505.lt (Nat.le_of_eq g507.symm))
  have ne_c2_ou : c2 ≠ ou := Nat.ne_of_lt (Nat.lt_of_lt_of_le U2_505.lt (Nat.le_of_eq g507.symm))
  have ne_c3_ou : c3 ≠ ou := Nat.ne_of_lt (Nat.lt_of_lt_of_le U3_505.lt (Nat.le_of_eq g507.symm))
  have ne_c4_ou : c4 ≠ ou := Nat.ne_of_lt (Nat.lt_of_lt_of_le U4_505.lt (Nat.le_of_eq g507.symm))
  have ne_ke_ou : ke ≠ ou := Nat.ne_of_lt (Nat.lt_of_lt_of_le V504.lt (Nat.le_of_eq g507.symm))
  have V3_507 := V3_505.ext E507
  have Fl_507 := Fl_505.ext E507
  have Fw_507 := Fw_505.ext E507
  have Fs_507 := Fs_505.ext E507
  have Fm_507 := Fm_505.ext E507
  have Fc_507 := Fc_505.ext E507
  have E_ob_507 := E_ob_505.ext E507
  have U1_507 := U1_505.ext E507
  have U2_507 := U2_505.ext E507
  have U3_507 := U3_505.ext E507
  have U4_507 := U4_505.ext E507
  have VK_507 := V504.ext E507
  clear V3_505 Fl_505 Fw_505 Fs_505 Fm_505 Fc_505 E_ob_505 U1_505 U2_505 U3_505 U4_505
  have Zs507 : n0 ≤ h507.size := Nat.le_trans Zs505 E507.1
  have VOr : AV Z h507 ou .int 3 (fun _ => defaultValue .int) := AV.new A507 rfl rfl
  have VO : AV Z h507 ou .int 3 (fun j => .int ((fun _ => (0 : Int32)) j)) := VOr
  have R508 : ∀ t, Steps p.tables e below (T507.setTop (mkF m 201 #[.val (.long q1), .second, .val (.long q2), .second, .val (.long q3), .second, .val (.int p4), .val (.int p5), .val (.int p6), .val (.ref x1), .val (.ref x2), .val (.ref x3), .val (.ref ob), .val (.long gg), .second, .val (.ref ke), .val (.int off), .val (.ref ou)] [(.int (0 : Int32)), (.ref x3), (.int (0 : Int32)), (.ref ou)])) t → Steps p.tables e below (s₁.setTop (mkF m 0 #[.val (.long q1), .second, .val (.long q2), .second, .val (.long q3), .second, .val (.int p4), .val (.int p5), .val (.int p6), .unset, .unset, .unset, .unset, .unset, .unset, .unset, .unset, .unset] [])) t := by
    intro t kt
    refine R506 _ ?_
    refine st507 _ ?_
    show Steps p.tables e below (T507.setTop (mkF m 193 #[.val (.long q1), .second, .val (.long q2), .second, .val (.long q3), .second, .val (.int p4), .val (.int p5), .val (.int p6), .val (.ref x1), .val (.ref x2), .val (.ref x3), .val (.ref ob), .val (.long gg), .second, .val (.ref ke), .val (.int off), .unset] [(.ref ou)])) _
    refine XS.astore X507.here hx rfl (hb hby at_193) rfl rfl (l' := #[.val (.long q1), .second, .val (.long q2), .second, .val (.long q3), .second, .val (.int p4), .val (.int p5), .val (.int p6), .val (.ref x1), .val (.ref x2), .val (.ref x3), .val (.ref ob), .val (.long gg), .second, .val (.ref ke), .val (.int off), .val (.ref ou)]) rfl ?_
    show Steps p.tables e below (T507.setTop (mkF m 195 #[.val (.long q1), .second, .val (.long q2), .second, .val (.long q3), .second, .val (.int p4), .val (.int p5), .val (.int p6), .val (.ref x1), .val (.ref x2), .val (.ref x3), .val (.ref ob), .val (.long gg), .second, .val (.ref ke), .val (.int off), .val (.ref ou)] [])) _
    refine XS.aload X507.here hx rfl (hb hby at_195) rfl rfl ?_
    show Steps p.tables e below (T507.setTop (mkF m 197 #[.val (.long q1), .second, .val (.long q2), .second, .val (.long q3), .second, .val (.int p4), .val (.int p5), .val (.int p6), .val (.ref x1), .val (.ref x2), .val (.ref x3), .val (.ref ob), .val (.long gg), .second, .val (.ref ke), .val (.int off), .val (.ref ou)] [(.ref ou)])) _
    refine XS.iconst X507.here hx rfl (hb hby at_197) ?_
    show Steps p.tables e below (T507.setTop (mkF m 198 #[.val (.long q1), .second, .val (.long q2), .second, .val (.long q3), .second, .val (.int p4), .val (.int p5), .val (.int p6), .val (.ref x1), .val (.ref x2), .val (.ref x3), .val (.ref ob), .val (.long gg), .second, .val (.ref ke), .val (.int off), .val (.ref ou)] [(.int (0 : Int32)), (.ref ou)])) _
    refine XS.aload X507.here hx rfl (hb hby at_198) rfl rfl ?_
    show Steps p.tables e below (T507.setTop (mkF m 200 #[.val (.long q1), .second, .val (.long q2), .second, .val (.long q3), .second, .val (.int p4), .val (.int p5), .val (.int p6), .val (.ref x1), .val (.ref x2), .val (.ref x3), .val (.ref ob), .val (.long gg), .second, .val (.ref ke), .val (.int off), .val (.ref ou)] [(.ref x3), (.int (0 : Int32)), (.ref ou)])) _
    refine XS.iconst X507.here hx rfl (hb hby at_200) ?_
    exact kt
  clear R506 st507
  obtain ⟨cl509, Ar509, hin509, hat509⟩ := V3_507.at (j := (0 : Int32)) (k := 0) (by decide) rfl (by decide)
  have R510 : ∀ t, Steps p.tables e below (T507.setTop (mkF m 204 #[.val (.long q1), .second, .val (.long q2), .second, .val (.long q3), .second, .val (.int p4), .val (.int p5), .val (.int p6), .val (.ref x1), .val (.ref x2), .val (.ref x3), .val (.ref ob), .val (.long gg), .second, .val (.ref ke), .val (.int off), .val (.ref ou)] [(.int ((va 0) ^^^ (-1 : Int32))), (.int (0 : Int32)), (.ref ou)])) t → Steps p.tables e below (s₁.setTop (mkF m 0 #[.val (.long q1), .second, .val (.long q2), .second, .val (.long q3), .second, .val (.int p4), .val (.int p5), .val (.int p6), .unset, .unset, .unset, .unset, .unset, .unset, .unset, .unset, .unset] [])) t := by
    intro t kt
    refine R508 _ ?_
    show Steps p.tables e below (T507.setTop (mkF m 201 #[.val (.long q1), .second, .val (.long q2), .second, .val (.long q3), .second, .val (.int p4), .val (.int p5), .val (.int p6), .val (.ref x1), .val (.ref x2), .val (.ref x3), .val (.ref ob), .val (.long gg), .second, .val (.ref ke), .val (.int off), .val (.ref ou)] [(.int (0 : Int32)), (.ref x3), (.int (0 : Int32)), (.ref ou)])) _
    refine X507.iaload hx (j := (0 : Int32)) (v := (.int (va 0))) (by rw [e507]; exact Ar509.1) (State.isArrayOf_alike hZ.alike Ar509.2.1) Ar509.2.2 hin509 hat509 (g := (mkF m 201 #[.val (.long q1), .second, .val (.long q2), .second, .val (.long q3), .second, .val (.int p4), .val (.int p5), .val (.int p6), .val (.ref x1), .val (.ref x2), .val (.ref x3), .val (.ref ob), .val (.long gg), .second, .val (.ref ke), .val (.int off), .val (.ref ou)] [(.int (0 : Int32)), (.ref x3), (.int (0 : Int32)), (.ref ou)])) rfl rfl (hb hby at_201) _ ?_
    show Steps p.tables e below (T507.setTop (mkF m 202 #[.val (.long q1), .second, .val (.long q2), .second, .val (.long q3), .second, .val (.int p4), .val (.int p5), .val (.int p6), .val (.ref x1), .val (.ref x2), .val (.ref x3), .val (.ref ob), .val (.long gg), .second, .val (.ref ke), .val (.int off), .val (.ref ou)] [(.int (va 0)), (.int (0 : Int32)), (.ref ou)])) _
    refine XS.iconst X507.here hx rfl (hb hby at_202) ?_
    show Steps p.tables e below (T507.setTop (mkF m 203 #[.val (.long q1), .second, .val (.long q2), .second, .val (.long q3), .second, .val (.int p4), .val (.int p5), .val (.int p6), .val (.ref x1), .val (.ref x2), .val (.ref x3), .val (.ref ob), .val (.long gg), .second, .val (.ref ke), .val (.int off), .val (.ref ou)] [(.int (-1 : Int32)), (.int (va 0)), (.int (0 : Int32)), (.ref ou)])) _
    refine XS.ixor X507.here hx rfl (hb hby at_203) rfl ?_
    exact kt
  clear R508
  obtain ⟨cl511, Ar511, hin511, -⟩ := VO.at (j := (0 : Int32)) (k := 0) (by decide) rfl (by decide)
  obtain ⟨T512, h512, X512, e512, W512, st512⟩ := stI X507 hx hZ e507 Ar511 (j := (0 : Int32)) hin511 (g := (mkF m 204 #[.val (.long q1), .second, .val (.long q2), .second, .val (.long q3), .second, .val (.int p4), .val (.int p5), .val (.int p6), .val (.ref x1), .val (.ref x2), .val (.ref x3), .val (.ref ob), .val (.long gg), .second, .val (.ref ke), .val (.int off), .val (.ref ou)] [(.int ((va 0) ^^^ (-1 : Int32))), (.int (0 : Int32)), (.ref ou)])) rfl rfl (hb hby at_204)
  have N512 := Fr.snoc X512 N504 g_ou
  rw [show ((0 : Int32) : Int32).toNatClampNeg = 0 from rfl] at W512
  have VO_512 : AV Z h512 ou .int 3 (fun j => .int ((own_set (fun _ => (0 : Int32)) 0 ((va 0) ^^^ (-1 : Int32))) j)) := VO.setI W512
  have V3_512 := V3_507.other W512 ne_x3_ou
  have Fl_512 := Fl_507.other W512 (Or.inl ne_ob_ou)
  have Fw_512 := Fw_507.other W512 (Or.inl ne_ob_ou)
  have Fs_512 := Fs_507.other W512 (Or.inl ne_ob_ou)
  have Fm_512 := Fm_507.other W512 (Or.inl ne_ob_ou)
  have Fc_512 := Fc_507.other W512 (Or.inl ne_ob_ou)
  have E_ob_512 := E_ob_507.wr W512
  have U1_512 := U1_507.other W512 ne_c1_ou
  have U2_512 := U2_507.other W512 ne_c2_ou
  have U3_512 := U3_507.other W512 ne_c3_ou
  have U4_512 := U4_507.other W512 ne_c4_ou
  have VK_512 := VK_507.other W512 ne_ke_ou
  clear V3_507 Fl_507 Fw_507 Fs_507 Fm_507 Fc_507 E_ob_507 U1_507 U2_507 U3_507 U4_507 VK_507
  have Zs512 : n0 ≤ h512.size := Nat.le_trans Zs507 (Keep.of_wr W512).1
  have R513 : ∀ t, Steps p.tables e below (T512.setTop (mkF m 211 #[.val (.long q1), .second, .val (.long q2), .second, .val (.long q3), .second, .val (.int p4), .val (.int p5), .val (.int p6), .val (.ref x1), .val (.ref x2), .val (.ref x3), .val (.ref ob), .val (.long gg), .second, .val (.ref ke), .val (.int off), .val (.ref ou)] [(.int (1 : Int32)), (.ref x3), (.int (1 : Int32)), (.ref ou)])) t → Steps p.tables e below (s₁.setTop (mkF m 0 #[.val (.long q1), .second, .val (.long q2), .second, .val (.long q3), .second, .val (.int p4), .val (.int p5), .val (.int p6), .unset, .unset, .unset, .unset, .unset, .unset, .unset, .unset, .unset] [])) t := by
    intro t kt
    refine R510 _ ?_
    refine st512 _ ?_
    show Steps p.tables e below (T512.setTop (mkF m 205 #[.val (.long q1), .second, .val (.long q2), .second, .val (.long q3), .second, .val (.int p4), .val (.int p5), .val (.int p6), .val (.ref x1), .val (.ref x2), .val (.ref x3), .val (.ref ob), .val (.long gg), .second, .val (.ref ke), .val (.int off), .val (.ref ou)] [])) _
    refine XS.aload X512.here hx rfl (hb hby at_205) rfl rfl ?_
    show Steps p.tables e below (T512.setTop (mkF m 207 #[.val (.long q1), .second, .val (.long q2), .second, .val (.long q3), .second, .val (.int p4), .val (.int p5), .val (.int p6), .val (.ref x1), .val (.ref x2), .val (.ref x3), .val (.ref ob), .val (.long gg), .second, .val (.ref ke), .val (.int off), .val (.ref ou)] [(.ref ou)])) _
    refine XS.iconst X512.here hx rfl (hb hby at_207) ?_
    show Steps p.tables e below (T512.setTop (mkF m 208 #[.val (.long q1), .second, .val (.long q2), .second, .val (.long q3), .second, .val (.int p4), .val (.int p5), .val (.int p6), .val (.ref x1), .val (.ref x2), .val (.ref x3), .val (.ref ob), .val (.long gg), .second, .val (.ref ke), .val (.int off), .val (.ref ou)] [(.int (1 : Int32)), (.ref ou)])) _
    refine XS.aload X512.here hx rfl (hb hby at_208) rfl rfl ?_
    show Steps p.tables e below (T512.setTop (mkF m 210 #[.val (.long q1), .second, .val (.long q2), .second, .val (.long q3), .second, .val (.int p4), .val (.int p5), .val (.int p6), .val (.ref x1), .val (.ref x2), .val (.ref x3), .val (.ref ob), .val (.long gg), .second, .val (.ref ke), .val (.int off), .val (.ref ou)] [(.ref x3), (.int (1 : Int32)), (.ref ou)])) _
    refine XS.iconst X512.here hx rfl (hb hby at_210) ?_
    exact kt
  clear R510 st512
  obtain ⟨cl514, Ar514, hin514, hat514⟩ := V3_512.at (j := (1 : Int32)) (k := 1) (by decide) rfl (by decide)
  have R515 : ∀ t, Steps p.tables e below (T512.setTop (mkF m 214 #[.val (.long q1), .second, .val (.long q2), .second, .val (.long q3), .second, .val (.int p4), .val (.int p5), .val (.int p6), .val (.ref x1), .val (.ref x2), .val (.ref x3), .val (.ref ob), .val (.long gg), .second, .val (.ref ke), .val (.int off), .val (.ref ou)] [(.int ((va 1) ^^^ (-1 : Int32))), (.int (1 : Int32)), (.ref ou)])) t → Steps p.tables e below (s₁.setTop (mkF m 0 #[.val (.long q1), .second, .val (.long q2), .second, .val (.long q3), .second, .val (.int p4), .val (.int p5), .val (.int p6), .unset, .unset, .unset, .unset, .unset, .unset, .unset, .unset, .unset] [])) t := by
    intro t kt
    refine R513 _ ?_
    show Steps p.tables e below (T512.setTop (mkF m 211 #[.val (.long q1), .second, .val (.long q2), .second, .val (.long q3), .second, .val (.int p4), .val (.int p5), .val (.int p6), .val (.ref x1), .val (.ref x2), .val (.ref x3), .val (.ref ob), .val (.long gg), .second, .val (.ref ke), .val (.int off), .val (.ref ou)] [(.int (1 : Int32)), (.ref x3), (.int (1 : Int32)), (.ref ou)])) _
    refine X512.iaload hx (j := (1 : Int32)) (v := (.int (va 1))) (by rw [e512]; exact Ar514.1) (State.isArrayOf_alike hZ.alike Ar514.2.1) Ar514.2.2 hin514 hat514 (g := (mkF m 211 #[.val (.long q1), .second, .val (.long q2), .second, .val (.long q3), .second, .val (.int p4), .val (.int p5), .val (.int p6), .val (.ref x1), .val (.ref x2), .val (.ref x3), .val (.ref ob), .val (.long gg), .second, .val (.ref ke), .val (.int off), .val (.ref ou)] [(.int (1 : Int32)), (.ref x3), (.int (1 : Int32)), (.ref ou)])) rfl rfl (hb hby at_211) _ ?_
    show Steps p.tables e below (T512.setTop (mkF m 212 #[.val (.long q1), .second, .val (.long q2), .second, .val (.long q3), .second, .val (.int p4), .val (.int p5), .val (.int p6), .val (.ref x1), .val (.ref x2), .val (.ref x3), .val (.ref ob), .val (.long gg), .second, .val (.ref ke), .val (.int off), .val (.ref ou)] [(.int (va 1)), (.int (1 : Int32)), (.ref ou)])) _
    refine XS.iconst X512.here hx rfl (hb hby at_212) ?_
    show Steps p.tables e below (T512.setTop (mkF m 213 #[.val (.long q1), .second, .val (.long q2), .second, .val (.long q3), .second, .val (.int p4), .val (.int p5), .val (.int p6), .val (.ref x1), .val (.ref x2), .val (.ref x3), .val (.ref ob), .val (.long gg), .second, .val (.ref ke), .val (.int off), .val (.ref ou)] [(.int (-1 : Int32)), (.int (va 1)), (.int (1 : Int32)), (.ref ou)])) _
    refine XS.ixor X512.here hx rfl (hb hby at_213) rfl ?_
    exact kt
  clear R513
  obtain ⟨cl516, Ar516, hin516, -⟩ := VO_512.at (j := (1 : Int32)) (k := 1) (by decide) rfl (by decide)
  obtain ⟨T517, h517, X517, e517, W517, st517⟩ := stI X512 hx hZ e512 Ar516 (j := (1 : Int32)) hin516 (g := (mkF m 214 #[.val (.long q1), .second, .val (.long q2), .second, .val (.long q3), .second, .val (.int p4), .val (.int p5), .val (.int p6), .val (.ref x1), .val (.ref x2), .val (.ref x3), .val (.ref ob), .val (.long gg), .second, .val (.ref ke), .val (.int off), .val (.ref ou)] [(.int ((va 1) ^^^ (-1 : Int32))), (.int (1 : Int32)), (.ref ou)])) rfl rfl (hb hby at_214)
  have N517 := Fr.snoc X517 N512 g_ou
  rw [show ((1 : Int32) : Int32).toNatClampNeg = 1 from rfl] at W517
  have VO_517 : AV Z h517 ou .int 3 (fun j => .int ((own_set (own_set (fun _ => (0 : Int32)) 0 ((va 0) ^^^ (-1 : Int32))) 1 ((va 1) ^^^ (-1 : Int32))) j)) := VO_512.setI W517
  have V3_517 := V3_512.other W517 ne_x3_ou
  have Fl_517 := Fl_512.other W517 (Or.inl ne_ob_ou)
  have Fw_517 := Fw_512.other W517 (Or.inl ne_ob_ou)
  have Fs_517 := Fs_512.other W517 (Or.inl ne_ob_ou)
  have Fm_517 := Fm_512.other W517 (Or.inl ne_ob_ou)
  have Fc_517 := Fc_512.other W517 (Or.inl ne_ob_ou)
  have E_ob_517 := E_ob_512.wr W517
  have U1_517 := U1_512.other W517 ne_c1_ou
  have U2_517 := U2_512.other W517 ne_c2_ou
  have U3_517 := U3_512.other W517 ne_c3_ou
  have U4_517 := U4_512.other W517 ne_c4_ou
  have VK_517 := VK_512.other W517 ne_ke_ou
  clear V3_512 Fl_512 Fw_512 Fs_512 Fm_512 Fc_512 E_ob_512 U1_512 U2_512 U3_512 U4_512 VK_512
  have Zs517 : n0 ≤ h517.size := Nat.le_trans Zs512 (Keep.of_wr W517).1
  have R518 : ∀ t, Steps p.tables e below (T517.setTop (mkF m 221 #[.val (.long q1), .second, .val (.long q2), .second, .val (.long q3), .second, .val (.int p4), .val (.int p5), .val (.int p6), .val (.ref x1), .val (.ref x2), .val (.ref x3), .val (.ref ob), .val (.long gg), .second, .val (.ref ke), .val (.int off), .val (.ref ou)] [(.int (2 : Int32)), (.ref x3), (.int (2 : Int32)), (.ref ou)])) t → Steps p.tables e below (s₁.setTop (mkF m 0 #[.val (.long q1), .second, .val (.long q2), .second, .val (.long q3), .second, .val (.int p4), .val (.int p5), .val (.int p6), .unset, .unset, .unset, .unset, .unset, .unset, .unset, .unset, .unset] [])) t := by
    intro t kt
    refine R515 _ ?_
    refine st517 _ ?_
    show Steps p.tables e below (T517.setTop (mkF m 215 #[.val (.long q1), .second, .val (.long q2), .second, .val (.long q3), .second, .val (.int p4), .val (.int p5), .val (.int p6), .val (.ref x1), .val (.ref x2), .val (.ref x3), .val (.ref ob), .val (.long gg), .second, .val (.ref ke), .val (.int off), .val (.ref ou)] [])) _
    refine XS.aload X517.here hx rfl (hb hby at_215) rfl rfl ?_
    show Steps p.tables e below (T517.setTop (mkF m 217 #[.val (.long q1), .second, .val (.long q2), .second, .val (.long q3), .second, .val (.int p4), .val (.int p5), .val (.int p6), .val (.ref x1), .val (.ref x2), .val (.ref x3), .val (.ref ob), .val (.long gg), .second, .val (.ref ke), .val (.int off), .val (.ref ou)] [(.ref ou)])) _
    refine XS.iconst X517.here hx rfl (hb hby at_217) ?_
    show Steps p.tables e below (T517.setTop (mkF m 218 #[.val (.long q1), .second, .val (.long q2), .second, .val (.long q3), .second, .val (.int p4), .val (.int p5), .val (.int p6), .val (.ref x1), .val (.ref x2), .val (.ref x3), .val (.ref ob), .val (.long gg), .second, .val (.ref ke), .val (.int off), .val (.ref ou)] [(.int (2 : Int32)), (.ref ou)])) _
    refine XS.aload X517.here hx rfl (hb hby at_218) rfl rfl ?_
    show Steps p.tables e below (T517.setTop (mkF m 220 #[.val (.long q1), .second, .val (.long q2), .second, .val (.long q3), .second, .val (.int p4), .val (.int p5), .val (.int p6), .val (.ref x1), .val (.ref x2), .val (.ref x3), .val (.ref ob), .val (.long gg), .second, .val (.ref ke), .val (.int off), .val (.ref ou)] [(.ref x3), (.int (2 : Int32)), (.ref ou)])) _
    refine XS.iconst X517.here hx rfl (hb hby at_220) ?_
    exact kt
  clear R515 st517
  obtain ⟨cl519, Ar519, hin519, hat519⟩ := V3_517.at (j := (2 : Int32)) (k := 2) (by decide) rfl (by decide)
  have R520 : ∀ t, Steps p.tables e below (T517.setTop (mkF m 224 #[.val (.long q1), .second, .val (.long q2), .second, .val (.long q3), .second, .val (.int p4), .val (.int p5), .val (.int p6), .val (.ref x1), .val (.ref x2), .val (.ref x3), .val (.ref ob), .val (.long gg), .second, .val (.ref ke), .val (.int off), .val (.ref ou)] [(.int ((va 2) ^^^ (-1 : Int32))), (.int (2 : Int32)), (.ref ou)])) t → Steps p.tables e below (s₁.setTop (mkF m 0 #[.val (.long q1), .second, .val (.long q2), .second, .val (.long q3), .second, .val (.int p4), .val (.int p5), .val (.int p6), .unset, .unset, .unset, .unset, .unset, .unset, .unset, .unset, .unset] [])) t := by
    intro t kt
    refine R518 _ ?_
    show Steps p.tables e below (T517.setTop (mkF m 221 #[.val (.long q1), .second, .val (.long q2), .second, .val (.long q3), .second, .val (.int p4), .val (.int p5), .val (.int p6), .val (.ref x1), .val (.ref x2), .val (.ref x3), .val (.ref ob), .val (.long gg), .second, .val (.ref ke), .val (.int off), .val (.ref ou)] [(.int (2 : Int32)), (.ref x3), (.int (2 : Int32)), (.ref ou)])) _
    refine X517.iaload hx (j := (2 : Int32)) (v := (.int (va 2))) (by rw [e517]; exact Ar519.1) (State.isArrayOf_alike hZ.alike Ar519.2.1) Ar519.2.2 hin519 hat519 (g := (mkF m 221 #[.val (.long q1), .second, .val (.long q2), .second, .val (.long q3), .second, .val (.int p4), .val (.int p5), .val (.int p6), .val (.ref x1), .val (.ref x2), .val (.ref x3), .val (.ref ob), .val (.long gg), .second, .val (.ref ke), .val (.int off), .val (.ref ou)] [(.int (2 : Int32)), (.ref x3), (.int (2 : Int32)), (.ref ou)])) rfl rfl (hb hby at_221) _ ?_
    show Steps p.tables e below (T517.setTop (mkF m 222 #[.val (.long q1), .second, .val (.long q2), .second, .val (.long q3), .second, .val (.int p4), .val (.int p5), .val (.int p6), .val (.ref x1), .val (.ref x2), .val (.ref x3), .val (.ref ob), .val (.long gg), .second, .val (.ref ke), .val (.int off), .val (.ref ou)] [(.int (va 2)), (.int (2 : Int32)), (.ref ou)])) _
    refine XS.iconst X517.here hx rfl (hb hby at_222) ?_
    show Steps p.tables e below (T517.setTop (mkF m 223 #[.val (.long q1), .second, .val (.long q2), .second, .val (.long q3), .second, .val (.int p4), .val (.int p5), .val (.int p6), .val (.ref x1), .val (.ref x2), .val (.ref x3), .val (.ref ob), .val (.long gg), .second, .val (.ref ke), .val (.int off), .val (.ref ou)] [(.int (-1 : Int32)), (.int (va 2)), (.int (2 : Int32)), (.ref ou)])) _
    refine XS.ixor X517.here hx rfl (hb hby at_223) rfl ?_
    exact kt
  clear R518
  obtain ⟨cl521, Ar521, hin521, -⟩ := VO_517.at (j := (2 : Int32)) (k := 2) (by decide) rfl (by decide)
  obtain ⟨T522, h522, X522, e522, W522, st522⟩ := stI X517 hx hZ e517 Ar521 (j := (2 : Int32)) hin521 (g := (mkF m 224 #[.val (.long q1), .second, .val (.long q2), .second, .val (.long q3), .second, .val (.int p4), .val (.int p5), .val (.int p6), .val (.ref x1), .val (.ref x2), .val (.ref x3), .val (.ref ob), .val (.long gg), .second, .val (.ref ke), .val (.int off), .val (.ref ou)] [(.int ((va 2) ^^^ (-1 : Int32))), (.int (2 : Int32)), (.ref ou)])) rfl rfl (hb hby at_224)
  have N522 := Fr.snoc X522 N517 g_ou
  rw [show ((2 : Int32) : Int32).toNatClampNeg = 2 from rfl] at W522
  have VO_522 : AV Z h522 ou .int 3 (fun j => .int ((own_set (own_set (own_set (fun _ => (0 : Int32)) 0 ((va 0) ^^^ (-1 : Int32))) 1 ((va 1) ^^^ (-1 : Int32))) 2 ((va 2) ^^^ (-1 : Int32))) j)) := VO_517.setI W522
  have V3_522 := V3_517.other W522 ne_x3_ou
  have Fl_522 := Fl_517.other W522 (Or.inl ne_ob_ou)
  have Fw_522 := Fw_517.other W522 (Or.inl ne_ob_ou)
  have Fs_522 := Fs_517.other W522 (Or.inl ne_ob_ou)
  have Fm_522 := Fm_517.other W522 (Or.inl ne_ob_ou)
  have Fc_522 := Fc_517.other W522 (Or.inl ne_ob_ou)
  have E_ob_522 := E_ob_517.wr W522
  have U1_522 := U1_517.other W522 ne_c1_ou
  have U2_522 := U2_517.other W522 ne_c2_ou
  have U3_522 := U3_517.other W522 ne_c3_ou
  have U4_522 := U4_517.other W522 ne_c4_ou
  have VK_522 := VK_517.other W522 ne_ke_ou
  clear V3_517 Fl_517 Fw_517 Fs_517 Fm_517 Fc_517 E_ob_517 U1_517 U2_517 U3_517 U4_517 VK_517
  have Zs522 : n0 ≤ h522.size := Nat.le_trans Zs517 (Keep.of_wr W522).1
  have R523 : ∀ t, Steps p.tables e below (T522.setTop (mkF m 233 #[.val (.long q1), .second, .val (.long q2), .second, .val (.long q3), .second, .val (.int p4), .val (.int p5), .val (.int p6), .val (.ref x1), .val (.ref x2), .val (.ref x3), .val (.ref ob), .val (.long gg), .second, .val (.ref ke), .val (.int off), .val (.ref ou)] [(.ref ou), (.int off), (.ref ke), (.ref ob)])) t → Steps p.tables e below (s₁.setTop (mkF m 0 #[.val (.long q1), .second, .val (.long q2), .second, .val (.long q3), .second, .val (.int p4), .val (.int p5), .val (.int p6), .unset, .unset, .unset, .unset, .unset, .unset, .unset, .unset, .unset] [])) t := by
    intro t kt
    refine R520 _ ?_
    refine st522 _ ?_
    show Steps p.tables e below (T522.setTop (mkF m 225 #[.val (.long q1), .second, .val (.long q2), .second, .val (.long q3), .second, .val (.int p4), .val (.int p5), .val (.int p6), .val (.ref x1), .val (.ref x2), .val (.ref x3), .val (.ref ob), .val (.long gg), .second, .val (.ref ke), .val (.int off), .val (.ref ou)] [])) _
    refine XS.aload X522.here hx rfl (hb hby at_225) rfl rfl ?_
    show Steps p.tables e below (T522.setTop (mkF m 227 #[.val (.long q1), .second, .val (.long q2), .second, .val (.long q3), .second, .val (.int p4), .val (.int p5), .val (.int p6), .val (.ref x1), .val (.ref x2), .val (.ref x3), .val (.ref ob), .val (.long gg), .second, .val (.ref ke), .val (.int off), .val (.ref ou)] [(.ref ob)])) _
    refine XS.aload X522.here hx rfl (hb hby at_227) rfl rfl ?_
    show Steps p.tables e below (T522.setTop (mkF m 229 #[.val (.long q1), .second, .val (.long q2), .second, .val (.long q3), .second, .val (.int p4), .val (.int p5), .val (.int p6), .val (.ref x1), .val (.ref x2), .val (.ref x3), .val (.ref ob), .val (.long gg), .second, .val (.ref ke), .val (.int off), .val (.ref ou)] [(.ref ke), (.ref ob)])) _
    refine XS.iload X522.here hx rfl (hb hby at_229) rfl ?_
    show Steps p.tables e below (T522.setTop (mkF m 231 #[.val (.long q1), .second, .val (.long q2), .second, .val (.long q3), .second, .val (.int p4), .val (.int p5), .val (.int p6), .val (.ref x1), .val (.ref x2), .val (.ref x3), .val (.ref ob), .val (.long gg), .second, .val (.ref ke), .val (.int off), .val (.ref ou)] [(.int off), (.ref ke), (.ref ob)])) _
    refine XS.aload X522.here hx rfl (hb hby at_231) rfl rfl ?_
    exact kt
  clear R520 st522
  obtain ⟨cq524, kq524, q524a, q524b, q524c⟩ := isOf hZ e522 E_ob_522
  obtain ⟨_, _, ⟨T524, L524, k524, n524⟩, -, X524, ⟨Lc524, hQ524, l524, y524, z524⟩, st524⟩ := X522.virtualBack hx (y := (⟨"com/example/inexact_odds/inexactodds/language/Encoding", "decode", "([JI[I)V"⟩ : MethodName)) (z := (⟨"com/example/inexact_odds/inexactodds/language/Encoding", "decode", "([JI[I)V"⟩ : MethodName)) hown (mvT hZ (hw _ (List.mem_of_getElem? (i := 64) rfl))) (mvT hZ (hw _ (List.mem_of_getElem? (i := 65) rfl))) (notFace_of_selects (args := #[]) (mvT hZ (hw _ (List.mem_of_getElem? (i := 67) rfl)))) (mvT hZ (hw _ (List.mem_of_getElem? (i := 67) rfl))) (mvT hZ (hw _ (List.mem_of_getElem? (i := 66) rfl))) (by decide) (backOf (W := 0) (rm_decode l Z a0 hw [] ob ke off ou c1 c2 c3 c4 lo (own_wd lo hi) (own_sf lo hi) (own_mk lo hi) (own_set (own_set (own_set (fun _ => (0 : Int32)) 0 ((va 0) ^^^ (-1 : Int32))) 1 ((va 1) ^^^ (-1 : Int32))) 2 ((va 2) ^^^ (-1 : Int32))) (own_enc fk o (w2 + 1) (own_wn w2) lo va (own_sf lo hi)) 8 o (w2 + 1) (own_wn w2) h522 n0 Zs522 Fl_522 Fw_522 Fs_522 Fm_522 U1_522 U2_522 U3_522 U4_522 VO_522 VK_522 g_ou ne_ob_ou ne_ke_ou ne_c1_ou ne_c2_ou ne_c3_ou ne_c4_ou ho hnn (by decide) hwn) hZ (hw _ (List.mem_of_getElem? (i := 68) rfl)) (hw _ (List.mem_of_getElem? (i := 15) rfl)) (by decide) (by decide)) q524a q524c (g := (mkF m 233 #[.val (.long q1), .second, .val (.long q2), .second, .val (.long q3), .second, .val (.int p4), .val (.int p5), .val (.int p6), .val (.ref x1), .val (.ref x2), .val (.ref x3), .val (.ref ob), .val (.long gg), .second, .val (.ref ke), .val (.int off), .val (.ref ou)] [(.ref ou), (.int off), (.ref ke), (.ref ob)])) rfl (by rw [hml]; rfl) (Steps.refl _) (argsL := [(.ref ke), (.int off), (.ref ou)]) (rest := []) (lenOf pd_6 rfl) rfl (by show 2 * 0 + _ ≤ _; exact Nat.le_of_eq rfl) (hb hby at_233) (fun _ _ => ⟨rfl, e522, (by decide : 10 + 0 ≤ _), (by decide : 37 + 0 ≤ _)⟩)
  dsimp only [Pt.U, Pt.locs, Pt.cells, Pt.slots] at X524 l524 y524 z524 st524 hQ524
  rw [l524, y524, z524] at X524
  obtain ⟨rfl, N524q, K524, V524⟩ := hQ524
  have N524 := Fr.app N522 N524q
  have V3_525 := V3_522.keep K524 (own_notin1 ne_x3_ou)
  have Fl_525 := Fl_522.keep K524 (own_notin1 ne_ob_ou)
  have Fw_525 := Fw_522.keep K524 (own_notin1 ne_ob_ou)
  have Fs_525 := Fs_522.keep K524 (own_notin1 ne_ob_ou)
  have Fm_525 := Fm_522.keep K524 (own_notin1 ne_ob_ou)
  have Fc_525 := Fc_522.keep K524 (own_notin1 ne_ob_ou)
  have E_ob_525 := E_ob_522.keep K524
  have U1_525 := U1_522.keep K524 (own_notin1 ne_c1_ou)
  have U2_525 := U2_522.keep K524 (own_notin1 ne_c2_ou)
  have U3_525 := U3_522.keep K524 (own_notin1 ne_c3_ou)
  have U4_525 := U4_522.keep K524 (own_notin1 ne_c4_ou)
  have VK_525 := VK_522.keep K524 (own_notin1 ne_ke_ou)
  clear V3_522 Fl_522 Fw_522 Fs_522 Fm_522 Fc_522 E_ob_522 U1_522 U2_522 U3_522 U4_522 VK_522
  have Zs525 : n0 ≤ T524.heap.size := Nat.le_trans Zs522 K524.1
  have R526 : ∀ t, Steps p.tables e below (T524.setTop (mkF m 239 #[.val (.long q1), .second, .val (.long q2), .second, .val (.long q3), .second, .val (.int p4), .val (.int p5), .val (.int p6), .val (.ref x1), .val (.ref x2), .val (.ref x3), .val (.ref ob), .val (.long gg), .second, .val (.ref ke), .val (.int off), .val (.ref ou)] [(.int (0 : Int32)), (.ref ou)])) t → Steps p.tables e below (s₁.setTop (mkF m 0 #[.val (.long q1), .second, .val (.long q2), .second, .val (.long q3), .second, .val (.int p4), .val (.int p5), .val (.int p6), .unset, .unset, .unset, .unset, .unset, .unset, .unset, .unset, .unset] [])) t := by
    intro t kt
    refine R523 _ ?_
    refine st524.trans ?_
    show Steps p.tables e below (T524.setTop (mkF m 236 #[.val (.long q1), .second, .val (.long q2), .second, .val (.long q3), .second, .val (.int p4), .val (.int p5), .val (.int p6), .val (.ref x1), .val (.ref x2), .val (.ref x3), .val (.ref ob), .val (.long gg), .second, .val (.ref ke), .val (.int off), .val (.ref ou)] [])) _
    refine XS.aload X524.here hx rfl (hb hby at_236) rfl rfl ?_
    show Steps p.tables e below (T524.setTop (mkF m 238 #[.val (.long q1), .second, .val (.long q2), .second, .val (.long q3), .second, .val (.int p4), .val (.int p5), .val (.int p6), .val (.ref x1), .val (.ref x2), .val (.ref x3), .val (.ref ob), .val (.long gg), .second, .val (.ref ke), .val (.int off), .val (.ref ou)] [(.ref ou)])) _
    refine XS.iconst X524.here hx rfl (hb hby at_238) ?_
    exact kt
  clear R523 st524
  obtain ⟨cl527, Ar527, hin527, hat527⟩ := V524.at (j := (0 : Int32)) (k := 0) (by decide) rfl (by decide)
  have R528 : ∀ t, Steps p.tables e below (T524.setTop (mkF m 243 #[.val (.long q1), .second, .val (.long q2), .second, .val (.long q3), .second, .val (.int p4), .val (.int p5), .val (.int p6), .val (.ref x1), .val (.ref x2), .val (.ref x3), .val (.ref ob), .val (.long gg), .second, .val (.ref ke), .val (.int off), .val (.ref ou)] [(.int (0 : Int32)), (.ref x3), (.int ((own_dec (own_enc fk o (w2 + 1) (own_wn w2) lo va (own_sf lo hi)) o (own_wn w2) lo (own_sf lo hi) (own_mk lo hi)) 0))])) t → Steps p.tables e below (s₁.setTop (mkF m 0 #[.val (.long q1), .second, .val (.long q2), .second, .val (.long q3), .second, .val (.int p4), .val (.int p5), .val (.int p6), .unset, .unset, .unset, .unset, .unset, .unset, .unset, .unset, .unset] [])) t := by
    intro t kt
    refine R526 _ ?_
    show Steps p.tables e below (T524.setTop (mkF m 239 #[.val (.long q1), .second, .val (.long q2), .second, .val (.long q3), .second, .val (.int p4), .val (.int p5), .val (.int p6), .val (.ref x1), .val (.ref x2), .val (.ref x3), .val (.ref ob), .val (.long gg), .second, .val (.ref ke), .val (.int off), .val (.ref ou)] [(.int (0 : Int32)), (.ref ou)])) _
    refine X524.iaload hx (j := (0 : Int32)) (v := (.int ((own_dec (own_enc fk o (w2 + 1) (own_wn w2) lo va (own_sf lo hi)) o (own_wn w2) lo (own_sf lo hi) (own_mk lo hi)) 0))) Ar527.1 (State.isArrayOf_alike hZ.alike Ar527.2.1) Ar527.2.2 hin527 hat527 (g := (mkF m 239 #[.val (.long q1), .second, .val (.long q2), .second, .val (.long q3), .second, .val (.int p4), .val (.int p5), .val (.int p6), .val (.ref x1), .val (.ref x2), .val (.ref x3), .val (.ref ob), .val (.long gg), .second, .val (.ref ke), .val (.int off), .val (.ref ou)] [(.int (0 : Int32)), (.ref ou)])) rfl rfl (hb hby at_239) _ ?_
    show Steps p.tables e below (T524.setTop (mkF m 240 #[.val (.long q1), .second, .val (.long q2), .second, .val (.long q3), .second, .val (.int p4), .val (.int p5), .val (.int p6), .val (.ref x1), .val (.ref x2), .val (.ref x3), .val (.ref ob), .val (.long gg), .second, .val (.ref ke), .val (.int off), .val (.ref ou)] [(.int ((own_dec (own_enc fk o (w2 + 1) (own_wn w2) lo va (own_sf lo hi)) o (own_wn w2) lo (own_sf lo hi) (own_mk lo hi)) 0))])) _
    refine XS.aload X524.here hx rfl (hb hby at_240) rfl rfl ?_
    show Steps p.tables e below (T524.setTop (mkF m 242 #[.val (.long q1), .second, .val (.long q2), .second, .val (.long q3), .second, .val (.int p4), .val (.int p5), .val (.int p6), .val (.ref x1), .val (.ref x2), .val (.ref x3), .val (.ref ob), .val (.long gg), .second, .val (.ref ke), .val (.int off), .val (.ref ou)] [(.ref x3), (.int ((own_dec (own_enc fk o (w2 + 1) (own_wn w2) lo va (own_sf lo hi)) o (own_wn w2) lo (own_sf lo hi) (own_mk lo hi)) 0))])) _
    refine XS.iconst X524.here hx rfl (hb hby at_242) ?_
    exact kt
  clear R526
  obtain ⟨cl529, Ar529, hin529, hat529⟩ := V3_525.at (j := (0 : Int32)) (k := 0) (by decide) rfl (by decide)
  have R530 : ∀ t, Steps p.tables e below (T524.setTop (mkF m 250 #[.val (.long q1), .second, .val (.long q2), .second, .val (.long q3), .second, .val (.int p4), .val (.int p5), .val (.int p6), .val (.ref x1), .val (.ref x2), .val (.ref x3), .val (.ref ob), .val (.long gg), .second, .val (.ref ke), .val (.int off), .val (.ref ou)] [(.int (1 : Int32)), (.ref ou)])) t → Steps p.tables e below (s₁.setTop (mkF m 0 #[.val (.long q1), .second, .val (.long q2), .second, .val (.long q3), .second, .val (.int p4), .val (.int p5), .val (.int p6), .unset, .unset, .unset, .unset, .unset, .unset, .unset, .unset, .unset] [])) t := by
    intro t kt
    refine R528 _ ?_
    show Steps p.tables e below (T524.setTop (mkF m 243 #[.val (.long q1), .second, .val (.long q2), .second, .val (.long q3), .second, .val (.int p4), .val (.int p5), .val (.int p6), .val (.ref x1), .val (.ref x2), .val (.ref x3), .val (.ref ob), .val (.long gg), .second, .val (.ref ke), .val (.int off), .val (.ref ou)] [(.int (0 : Int32)), (.ref x3), (.int ((own_dec (own_enc fk o (w2 + 1) (own_wn w2) lo va (own_sf lo hi)) o (own_wn w2) lo (own_sf lo hi) (own_mk lo hi)) 0))])) _
    refine X524.iaload hx (j := (0 : Int32)) (v := (.int (va 0))) Ar529.1 (State.isArrayOf_alike hZ.alike Ar529.2.1) Ar529.2.2 hin529 hat529 (g := (mkF m 243 #[.val (.long q1), .second, .val (.long q2), .second, .val (.long q3), .second, .val (.int p4), .val (.int p5), .val (.int p6), .val (.ref x1), .val (.ref x2), .val (.ref x3), .val (.ref ob), .val (.long gg), .second, .val (.ref ke), .val (.int off), .val (.ref ou)] [(.int (0 : Int32)), (.ref x3), (.int ((own_dec (own_enc fk o (w2 + 1) (own_wn w2) lo va (own_sf lo hi)) o (own_wn w2) lo (own_sf lo hi) (own_mk lo hi)) 0))])) rfl rfl (hb hby at_243) _ ?_
    show Steps p.tables e below (T524.setTop (mkF m 244 #[.val (.long q1), .second, .val (.long q2), .second, .val (.long q3), .second, .val (.int p4), .val (.int p5), .val (.int p6), .val (.ref x1), .val (.ref x2), .val (.ref x3), .val (.ref ob), .val (.long gg), .second, .val (.ref ke), .val (.int off), .val (.ref ou)] [(.int (va 0)), (.int ((own_dec (own_enc fk o (w2 + 1) (own_wn w2) lo va (own_sf lo hi)) o (own_wn w2) lo (own_sf lo hi) (own_mk lo hi)) 0))])) _
    refine XS.icmpNo X524.here hx rfl (hb hby at_244) rfl (teq (hfin fk o 0 (by decide) : ((own_dec (own_enc fk o (w2 + 1) (own_wn w2) lo va (own_sf lo hi)) o (own_wn w2) lo (own_sf lo hi) (own_mk lo hi)) 0) = (va 0))).2 ?_
    show Steps p.tables e below (T524.setTop (mkF m 247 #[.val (.long q1), .second, .val (.long q2), .second, .val (.long q3), .second, .val (.int p4), .val (.int p5), .val (.int p6), .val (.ref x1), .val (.ref x2), .val (.ref x3), .val (.ref ob), .val (.long gg), .second, .val (.ref ke), .val (.int off), .val (.ref ou)] [])) _
    refine XS.aload X524.here hx rfl (hb hby at_247) rfl rfl ?_
    show Steps p.tables e below (T524.setTop (mkF m 249 #[.val (.long q1), .second, .val (.long q2), .second, .val (.long q3), .second, .val (.int p4), .val (.int p5), .val (.int p6), .val (.ref x1), .val (.ref x2), .val (.ref x3), .val (.ref ob), .val (.long gg), .second, .val (.ref ke), .val (.int off), .val (.ref ou)] [(.ref ou)])) _
    refine XS.iconst X524.here hx rfl (hb hby at_249) ?_
    exact kt
  clear R528
  obtain ⟨cl531, Ar531, hin531, hat531⟩ := V524.at (j := (1 : Int32)) (k := 1) (by decide) rfl (by decide)
  have R532 : ∀ t, Steps p.tables e below (T524.setTop (mkF m 254 #[.val (.long q1), .second, .val (.long q2), .second, .val (.long q3), .second, .val (.int p4), .val (.int p5), .val (.int p6), .val (.ref x1), .val (.ref x2), .val (.ref x3), .val (.ref ob), .val (.long gg), .second, .val (.ref ke), .val (.int off), .val (.ref ou)] [(.int (1 : Int32)), (.ref x3), (.int ((own_dec (own_enc fk o (w2 + 1) (own_wn w2) lo va (own_sf lo hi)) o (own_wn w2) lo (own_sf lo hi) (own_mk lo hi)) 1))])) t → Steps p.tables e below (s₁.setTop (mkF m 0 #[.val (.long q1), .second, .val (.long q2), .second, .val (.long q3), .second, .val (.int p4), .val (.int p5), .val (.int p6), .unset, .unset, .unset, .unset, .unset, .unset, .unset, .unset, .unset] [])) t := by
    intro t kt
    refine R530 _ ?_
    show Steps p.tables e below (T524.setTop (mkF m 250 #[.val (.long q1), .second, .val (.long q2), .second, .val (.long q3), .second, .val (.int p4), .val (.int p5), .val (.int p6), .val (.ref x1), .val (.ref x2), .val (.ref x3), .val (.ref ob), .val (.long gg), .second, .val (.ref ke), .val (.int off), .val (.ref ou)] [(.int (1 : Int32)), (.ref ou)])) _
    refine X524.iaload hx (j := (1 : Int32)) (v := (.int ((own_dec (own_enc fk o (w2 + 1) (own_wn w2) lo va (own_sf lo hi)) o (own_wn w2) lo (own_sf lo hi) (own_mk lo hi)) 1))) Ar531.1 (State.isArrayOf_alike hZ.alike Ar531.2.1) Ar531.2.2 hin531 hat531 (g := (mkF m 250 #[.val (.long q1), .second, .val (.long q2), .second, .val (.long q3), .second, .val (.int p4), .val (.int p5), .val (.int p6), .val (.ref x1), .val (.ref x2), .val (.ref x3), .val (.ref ob), .val (.long gg), .second, .val (.ref ke), .val (.int off), .val (.ref ou)] [(.int (1 : Int32)), (.ref ou)])) rfl rfl (hb hby at_250) _ ?_
    show Steps p.tables e below (T524.setTop (mkF m 251 #[.val (.long q1), .second, .val (.long q2), .second, .val (.long q3), .second, .val (.int p4), .val (.int p5), .val (.int p6), .val (.ref x1), .val (.ref x2), .val (.ref x3), .val (.ref ob), .val (.long gg), .second, .val (.ref ke), .val (.int off), .val (.ref ou)] [(.int ((own_dec (own_enc fk o (w2 + 1) (own_wn w2) lo va (own_sf lo hi)) o (own_wn w2) lo (own_sf lo hi) (own_mk lo hi)) 1))])) _
    refine XS.aload X524.here hx rfl (hb hby at_251) rfl rfl ?_
    show Steps p.tables e below (T524.setTop (mkF m 253 #[.val (.long q1), .second, .val (.long q2), .second, .val (.long q3), .second, .val (.int p4), .val (.int p5), .val (.int p6), .val (.ref x1), .val (.ref x2), .val (.ref x3), .val (.ref ob), .val (.long gg), .second, .val (.ref ke), .val (.int off), .val (.ref ou)] [(.ref x3), (.int ((own_dec (own_enc fk o (w2 + 1) (own_wn w2) lo va (own_sf lo hi)) o (own_wn w2) lo (own_sf lo hi) (own_mk lo hi)) 1))])) _
    refine XS.iconst X524.here hx rfl (hb hby at_253) ?_
    exact kt
  clear R530
  obtain ⟨cl533, Ar533, hin533, hat533⟩ := V3_525.at (j := (1 : Int32)) (k := 1) (by decide) rfl (by decide)
  have R534 : ∀ t, Steps p.tables e below (T524.setTop (mkF m 261 #[.val (.long q1), .second, .val (.long q2), .second, .val (.long q3), .second, .val (.int p4), .val (.int p5), .val (.int p6), .val (.ref x1), .val (.ref x2), .val (.ref x3), .val (.ref ob), .val (.long gg), .second, .val (.ref ke), .val (.int off), .val (.ref ou)] [(.int (2 : Int32)), (.ref ou)])) t → Steps p.tables e below (s₁.setTop (mkF m 0 #[.val (.long q1), .second, .val (.long q2), .second, .val (.long q3), .second, .val (.int p4), .val (.int p5), .val (.int p6), .unset, .unset, .unset, .unset, .unset, .unset, .unset, .unset, .unset] [])) t := by
    intro t kt
    refine R532 _ ?_
    show Steps p.tables e below (T524.setTop (mkF m 254 #[.val (.long q1), .second, .val (.long q2), .second, .val (.long q3), .second, .val (.int p4), .val (.int p5), .val (.int p6), .val (.ref x1), .val (.ref x2), .val (.ref x3), .val (.ref ob), .val (.long gg), .second, .val (.ref ke), .val (.int off), .val (.ref ou)] [(.int (1 : Int32)), (.ref x3), (.int ((own_dec (own_enc fk o (w2 + 1) (own_wn w2) lo va (own_sf lo hi)) o (own_wn w2) lo (own_sf lo hi) (own_mk lo hi)) 1))])) _
    refine X524.iaload hx (j := (1 : Int32)) (v := (.int (va 1))) Ar533.1 (State.isArrayOf_alike hZ.alike Ar533.2.1) Ar533.2.2 hin533 hat533 (g := (mkF m 254 #[.val (.long q1), .second, .val (.long q2), .second, .val (.long q3), .second, .val (.int p4), .val (.int p5), .val (.int p6), .val (.ref x1), .val (.ref x2), .val (.ref x3), .val (.ref ob), .val (.long gg), .second, .val (.ref ke), .val (.int off), .val (.ref ou)] [(.int (1 : Int32)), (.ref x3), (.int ((own_dec (own_enc fk o (w2 + 1) (own_wn w2) lo va (own_sf lo hi)) o (own_wn w2) lo (own_sf lo hi) (own_mk lo hi)) 1))])) rfl rfl (hb hby at_254) _ ?_
    show Steps p.tables e below (T524.setTop (mkF m 255 #[.val (.long q1), .second, .val (.long q2), .second, .val (.long q3), .second, .val (.int p4), .val (.int p5), .val (.int p6), .val (.ref x1), .val (.ref x2), .val (.ref x3), .val (.ref ob), .val (.long gg), .second, .val (.ref ke), .val (.int off), .val (.ref ou)] [(.int (va 1)), (.int ((own_dec (own_enc fk o (w2 + 1) (own_wn w2) lo va (own_sf lo hi)) o (own_wn w2) lo (own_sf lo hi) (own_mk lo hi)) 1))])) _
    refine XS.icmpNo X524.here hx rfl (hb hby at_255) rfl (teq (hfin fk o 1 (by decide) : ((own_dec (own_enc fk o (w2 + 1) (own_wn w2) lo va (own_sf lo hi)) o (own_wn w2) lo (own_sf lo hi) (own_mk lo hi)) 1) = (va 1))).2 ?_
    show Steps p.tables e below (T524.setTop (mkF m 258 #[.val (.long q1), .second, .val (.long q2), .second, .val (.long q3), .second, .val (.int p4), .val (.int p5), .val (.int p6), .val (.ref x1), .val (.ref x2), .val (.ref x3), .val (.ref ob), .val (.long gg), .second, .val (.ref ke), .val (.int off), .val (.ref ou)] [])) _
    refine XS.aload X524.here hx rfl (hb hby at_258) rfl rfl ?_
    show Steps p.tables e below (T524.setTop (mkF m 260 #[.val (.long q1), .second, .val (.long q2), .second, .val (.long q3), .second, .val (.int p4), .val (.int p5), .val (.int p6), .val (.ref x1), .val (.ref x2), .val (.ref x3), .val (.ref ob), .val (.long gg), .second, .val (.ref ke), .val (.int off), .val (.ref ou)] [(.ref ou)])) _
    refine XS.iconst X524.here hx rfl (hb hby at_260) ?_
    exact kt
  clear R532
  obtain ⟨cl535, Ar535, hin535, hat535⟩ := V524.at (j := (2 : Int32)) (k := 2) (by decide) rfl (by decide)
  have R536 : ∀ t, Steps p.tables e below (T524.setTop (mkF m 265 #[.val (.long q1), .second, .val (.long q2), .second, .val (.long q3), .second, .val (.int p4), .val (.int p5), .val (.int p6), .val (.ref x1), .val (.ref x2), .val (.ref x3), .val (.ref ob), .val (.long gg), .second, .val (.ref ke), .val (.int off), .val (.ref ou)] [(.int (2 : Int32)), (.ref x3), (.int ((own_dec (own_enc fk o (w2 + 1) (own_wn w2) lo va (own_sf lo hi)) o (own_wn w2) lo (own_sf lo hi) (own_mk lo hi)) 2))])) t → Steps p.tables e below (s₁.setTop (mkF m 0 #[.val (.long q1), .second, .val (.long q2), .second, .val (.long q3), .second, .val (.int p4), .val (.int p5), .val (.int p6), .unset, .unset, .unset, .unset, .unset, .unset, .unset, .unset, .unset] [])) t := by
    intro t kt
    refine R534 _ ?_
    show Steps p.tables e below (T524.setTop (mkF m 261 #[.val (.long q1), .second, .val (.long q2), .second, .val (.long q3), .second, .val (.int p4), .val (.int p5), .val (.int p6), .val (.ref x1), .val (.ref x2), .val (.ref x3), .val (.ref ob), .val (.long gg), .second, .val (.ref ke), .val (.int off), .val (.ref ou)] [(.int (2 : Int32)), (.ref ou)])) _
    refine X524.iaload hx (j := (2 : Int32)) (v := (.int ((own_dec (own_enc fk o (w2 + 1) (own_wn w2) lo va (own_sf lo hi)) o (own_wn w2) lo (own_sf lo hi) (own_mk lo hi)) 2))) Ar535.1 (State.isArrayOf_alike hZ.alike Ar535.2.1) Ar535.2.2 hin535 hat535 (g := (mkF m 261 #[.val (.long q1), .second, .val (.long q2), .second, .val (.long q3), .second, .val (.int p4), .val (.int p5), .val (.int p6), .val (.ref x1), .val (.ref x2), .val (.ref x3), .val (.ref ob), .val (.long gg), .second, .val (.ref ke), .val (.int off), .val (.ref ou)] [(.int (2 : Int32)), (.ref ou)])) rfl rfl (hb hby at_261) _ ?_
    show Steps p.tables e below (T524.setTop (mkF m 262 #[.val (.long q1), .second, .val (.long q2), .second, .val (.long q3), .second, .val (.int p4), .val (.int p5), .val (.int p6), .val (.ref x1), .val (.ref x2), .val (.ref x3), .val (.ref ob), .val (.long gg), .second, .val (.ref ke), .val (.int off), .val (.ref ou)] [(.int ((own_dec (own_enc fk o (w2 + 1) (own_wn w2) lo va (own_sf lo hi)) o (own_wn w2) lo (own_sf lo hi) (own_mk lo hi)) 2))])) _
    refine XS.aload X524.here hx rfl (hb hby at_262) rfl rfl ?_
    show Steps p.tables e below (T524.setTop (mkF m 264 #[.val (.long q1), .second, .val (.long q2), .second, .val (.long q3), .second, .val (.int p4), .val (.int p5), .val (.int p6), .val (.ref x1), .val (.ref x2), .val (.ref x3), .val (.ref ob), .val (.long gg), .second, .val (.ref ke), .val (.int off), .val (.ref ou)] [(.ref x3), (.int ((own_dec (own_enc fk o (w2 + 1) (own_wn w2) lo va (own_sf lo hi)) o (own_wn w2) lo (own_sf lo hi) (own_mk lo hi)) 2))])) _
    refine XS.iconst X524.here hx rfl (hb hby at_264) ?_
    exact kt
  clear R534
  obtain ⟨cl537, Ar537, hin537, hat537⟩ := V3_525.at (j := (2 : Int32)) (k := 2) (by decide) rfl (by decide)
  have R538 : ∀ t, Steps p.tables e below (T524.setTop (mkF m 274 #[.val (.long q1), .second, .val (.long q2), .second, .val (.long q3), .second, .val (.int p4), .val (.int p5), .val (.int p6), .val (.ref x1), .val (.ref x2), .val (.ref x3), .val (.ref ob), .val (.long gg), .second, .val (.ref ke), .val (.int off), .val (.ref ou)] [(.int (1 : Int32))])) t → Steps p.tables e below (s₁.setTop (mkF m 0 #[.val (.long q1), .second, .val (.long q2), .second, .val (.long q3), .second, .val (.int p4), .val (.int p5), .val (.int p6), .unset, .unset, .unset, .unset, .unset, .unset, .unset, .unset, .unset] [])) t := by
    intro t kt
    refine R536 _ ?_
    show Steps p.tables e below (T524.setTop (mkF m 265 #[.val (.long q1), .second, .val (.long q2), .second, .val (.long q3), .second, .val (.int p4), .val (.int p5), .val (.int p6), .val (.ref x1), .val (.ref x2), .val (.ref x3), .val (.ref ob), .val (.long gg), .second, .val (.ref ke), .val (.int off), .val (.ref ou)] [(.int (2 : Int32)), (.ref x3), (.int ((own_dec (own_enc fk o (w2 + 1) (own_wn w2) lo va (own_sf lo hi)) o (own_wn w2) lo (own_sf lo hi) (own_mk lo hi)) 2))])) _
    refine X524.iaload hx (j := (2 : Int32)) (v := (.int (va 2))) Ar537.1 (State.isArrayOf_alike hZ.alike Ar537.2.1) Ar537.2.2 hin537 hat537 (g := (mkF m 265 #[.val (.long q1), .second, .val (.long q2), .second, .val (.long q3), .second, .val (.int p4), .val (.int p5), .val (.int p6), .val (.ref x1), .val (.ref x2), .val (.ref x3), .val (.ref ob), .val (.long gg), .second, .val (.ref ke), .val (.int off), .val (.ref ou)] [(.int (2 : Int32)), (.ref x3), (.int ((own_dec (own_enc fk o (w2 + 1) (own_wn w2) lo va (own_sf lo hi)) o (own_wn w2) lo (own_sf lo hi) (own_mk lo hi)) 2))])) rfl rfl (hb hby at_265) _ ?_
    show Steps p.tables e below (T524.setTop (mkF m 266 #[.val (.long q1), .second, .val (.long q2), .second, .val (.long q3), .second, .val (.int p4), .val (.int p5), .val (.int p6), .val (.ref x1), .val (.ref x2), .val (.ref x3), .val (.ref ob), .val (.long gg), .second, .val (.ref ke), .val (.int off), .val (.ref ou)] [(.int (va 2)), (.int ((own_dec (own_enc fk o (w2 + 1) (own_wn w2) lo va (own_sf lo hi)) o (own_wn w2) lo (own_sf lo hi) (own_mk lo hi)) 2))])) _
    refine XS.icmpNo X524.here hx rfl (hb hby at_266) rfl (teq (hfin fk o 2 (by decide) : ((own_dec (own_enc fk o (w2 + 1) (own_wn w2) lo va (own_sf lo hi)) o (own_wn w2) lo (own_sf lo hi) (own_mk lo hi)) 2) = (va 2))).2 ?_
    show Steps p.tables e below (T524.setTop (mkF m 269 #[.val (.long q1), .second, .val (.long q2), .second, .val (.long q3), .second, .val (.int p4), .val (.int p5), .val (.int p6), .val (.ref x1), .val (.ref x2), .val (.ref x3), .val (.ref ob), .val (.long gg), .second, .val (.ref ke), .val (.int off), .val (.ref ou)] [])) _
    refine XS.iconst X524.here hx rfl (hb hby at_269) ?_
    show Steps p.tables e below (T524.setTop (mkF m 270 #[.val (.long q1), .second, .val (.long q2), .second, .val (.long q3), .second, .val (.int p4), .val (.int p5), .val (.int p6), .val (.ref x1), .val (.ref x2), .val (.ref x3), .val (.ref ob), .val (.long gg), .second, .val (.ref ke), .val (.int off), .val (.ref ou)] [(.int (1 : Int32))])) _
    refine XS.goto X524.here hx rfl (pc0 := 270) (pc' := 274) rfl (hb hby at_270) (by decide) (by decide) ?_
    exact kt
  clear R536
  obtain ⟨fs, hr, hrun, hended, hW, hsame⟩ := X524.leave (v := some (.int (1 : Int32))) (fun h => by rw [Bd.returns] at h; cases h)
  refine ⟨_, _, pre0 _ (R538 _ ?_), hrun, hended, _, _, rfl, ?_, ⟨_, rfl⟩, hW, hsame.mono (by decide) (by decide)⟩
  · exact retN X524 hx (t := .boolean) Bd.returns (by simp) (hb hby at_274) hr
  · show Q_rm_law Z q1 q2 q3 p4 p5 p6 h0 n0 _ T524.heap _
    exact ⟨rfl, N524⟩
set_option maxRecDepth 65536 in
set_option maxHeartbeats 40000000 in
theorem comes_1 {Post : Tables → Env → Array Value → State → Outcome → State → Prop} (hpost : ∀ tb e args s v u, (limb_1_1.after args s (.returned v) u = true ∧ limb_1_2.after args s (.returned v) u = true ∧ True) → FrameEnd s (.returned v) u (Jvm.fieldLocs frame_1_writes args s ++ Jvm.arrayLocs frame_1_arrays args s ++ Jvm.staticLocs frame_1_statics s) 32 192 → Post tb e args s (.returned v) u) :
    ArmFor flags0 classFile x code maxLocals ret World_1 tables_1 room_1 Calls_1 rest_1 Pre_1 Post := by
  intro l hfl _ _ p e ha hc hk s m args below hf hA hF happ hP
  obtain ⟨hcalls, hrest, hpre⟩ := hP
  obtain ⟨-, -, -, hnamed, -, -, -, hat⟩ := (Spec.applies_iff hf).mp happ
  obtain ⟨hg, hn⟩ := and_e (Cond.before_iff.mp (show (Jvm.Cond.and given_1 narrow_1).before args s = true from hpre))
  obtain ⟨gc, gr0⟩ := and_e hg
  obtain ⟨ga0, gr1⟩ := and_e gr0
  obtain ⟨ga1, gr2⟩ := and_e gr1
  obtain ⟨ga2, gr3⟩ := and_e gr2
  obtain ⟨ga3, gr4⟩ := and_e gr3
  obtain ⟨ga4, gr5⟩ := and_e gr4
  obtain ⟨w0, w1, w2, w3, w4, w5, rfl⟩ : ∃ w0 w1 w2 w3 w4 w5 : Value, args = #[w0, w1, w2, w3, w4, w5] := by
    have hs : args.size = 6 := by simpa [Cond.value, given_1] using gc
    obtain ⟨L⟩ := args
    match L, hs with
    | [w0, w1, w2, w3, w4, w5], _ => exact ⟨w0, w1, w2, w3, w4, w5, rfl⟩
  have hw := fun d (hd : d ∈ tables_1) => atoms_spec (ws := Jvm.Cond.code x code maxLocals ret :: tables_1) hat d (List.mem_cons_of_mem _ hd)
  have hfit : Fit s := fun {y c} hc i hi => by
    obtain ⟨ha, rfl⟩ := Array.getElem?_eq_some_iff.mp hc
    have q := List.all_eq_true.mp ((Array.all_eq_true_iff_forall_mem.mp hF) _ (Array.getElem_mem ha)) i (List.mem_range.mpr hi)
    simpa [Array.getElem?_eq_getElem hi] using q
  obtain ⟨i0, ei0⟩ := isL_v ga0
  obtain rfl : w0 = (.long i0) := Option.some.inj ei0
  obtain ⟨i1, ei1⟩ := isL_v ga1
  obtain rfl : w1 = (.long i1) := Option.some.inj ei1
  obtain ⟨i2, ei2⟩ := isL_v ga2
  obtain rfl : w2 = (.long i2) := Option.some.inj ei2
  obtain ⟨i3, ei3⟩ := is_v ga3
  obtain rfl : w3 = (.int i3) := Option.some.inj ei3
  obtain ⟨i4, ei4⟩ := is_v ga4
  obtain rfl : w4 = (.int i4) := Option.some.inj ei4
  obtain ⟨i5, ei5⟩ := is_v gr5
  obtain rfl : w5 = (.int i5) := Option.some.inj ei5
  obtain ⟨n, o, h1, h2, h3, _, L, rfl, ⟨rfl, N⟩, hq⟩ := rm_law l s _ hw tables_1 i0 i1 i2 i3 i4 i5 s.heap s.heap.size (Nat.le_refl _)  p e ha hc hk s m _ below hf ((Spec.applies_iff_loose hf).mp happ).1 ⟨rfl, State.Warmed39.refl s, rfl⟩ trivial
  refine ⟨n, _, h1, h2, h3, hpost _ _ _ _ _ _ ⟨Cond.after_iff.mpr rfl, Cond.after_iff.mpr (eq_i res_at (Term.int_eval (1)) rfl), trivial⟩ ⟨hq.1, hq.2.1, (hq.2.2.sift fun y hy => Or.inr (N y hy)).mono (by decide) (by decide)⟩⟩
theorem main_1_1 : Claimed_1_1 := comes_1 fun _ _ _ _ _ _ h hF => ⟨h.1, hF⟩
theorem main_1_2 : Claimed_1_2 := comes_1 fun _ _ _ _ _ _ h hF => ⟨h.2.1, hF⟩
end Jvm.Pilot.@@N@@
namespace Jvm.Pilot.@@N@@
open Jvm Jvm.ClassFile Sem Op Lib Jvm.Free Jvm.Stand Jvm.Pilot.@@N@@.Jvm.D
/-! MADE BY PROGRAM (witnessworld.py) out of the Statement's table words and the real class files: 18 classes; the members and pool entries that the words name. The judged class is class 1, her method 1. -/
namespace start1
open Jvm.ClassFile
def u (s : String) : CpInfo := .utf8 (stringToUtf16 s)
/-- a pool by its gaps: so many unusable entries, then the entry; so many at the end -/
def gap : Nat → List CpInfo → List CpInfo
  | 0, r => r
  | n + 1, r => .unusable :: gap n r
def poolList (es : List (Nat × CpInfo)) (last : Nat) : List CpInfo := es.foldr (fun e r => gap e.1 (e.2 :: r)) (gap last [])
def pool (es : List (Nat × CpInfo)) (last : Nat) : Array CpInfo := ⟨poolList es last⟩
def fileOf (pool : Array CpInfo) (this : Nat) (attrs : Array Attribute := #[]) (ms : Array MethodInfo := #[]) (fl : Nat := 33) (sup : Nat := 0) (ifs : Array Nat := #[]) (fds : Array FieldInfo := #[]) : ClassFile where
  minorVersion := 0
  majorVersion := 65
  constantPool := pool
  accessFlags := fl
  thisClass := this
  superClass := sup
  interfaces := ifs
  fields := fds
  methods := ms
  attributes := attrs
def plain (name : String) (sup : Option ClassId) : Class where
  name := name
  kind := .ordinary
  loader := none
  accessFlags := 33
  super := sup
  interfaces := #[]
  cf := none
  fields := #[]
  methods := #[]
  instanceTypes := #[]
  staticTypes := #[]
  resolved := #[]
  callSites := []
  init := .initialized
  statics := none
  mirror := none

def pool0 : Array CpInfo := pool [(5, u "<init>"), (0, u "()V"), (1, .class_ 10), (1, u "java/lang/Object"), (85, u "clone"), (0, u "()Ljava/lang/Object;")] 26

def k0c0 : Code := { maxStack := 0, maxLocals := 1, code := object_method_1_code, exceptionTable := #[], attributes := #[] }
def k0m0 : Method := { name := "<init>", desc := "()V", sig := { parameters := [], returnType := none }, accessFlags := 1, code := some k0c0 }
def k0m1 : Method := { name := "clone", desc := "()Ljava/lang/Object;", sig := { parameters := [], returnType := some (.object "java/lang/Object") }, accessFlags := 260, code := none }
/-- java/lang/Object -/
def k0 : Class := { plain "java/lang/Object" none with
  accessFlags := 33
  interfaces := #[]
  cf := some (fileOf pool0 8 #[] #[{ accessFlags := 1, nameIndex := 5, descriptorIndex := 6, attributes := #[] }, { accessFlags := 260, nameIndex := 96, descriptorIndex := 97, attributes := #[] }] 33 0 #[] #[])
  fields := #[]
  methods := #[k0m0, k0m1]
  instanceTypes := #[]
  staticTypes := #[]
  resolved := Array.replicate 124 none
  statics := none }

def pool1 : Array CpInfo := pool [(2, .class_ 4), (1, u "java/lang/Object"), (0, u "<init>"), (0, u "()V"), (0, .methodref 8 9), (0, .class_ 10), (0, .nameAndType 11 12), (0, u "com/example/inexact_odds/inexactodds/language/EncodingDecodePinLaw"), (0, u "fill"), (0, u "([I[I[IIJI)V"), (0, .class_ 14), (0, u "com/example/inexact_odds/inexactodds/language/Encoding"), (0, .methodref 13 16), (0, .nameAndType 5 17), (0, u "([I[I)V"), (0, .long 18446744073709551615), (1, .long 2), (1, .long 3), (1, .long 4), (1, .long 5), (1, .long 6), (1, .long 7), (1, .methodref 13 33), (0, .nameAndType 34 35), (0, u "encode"), (0, u "([I[JI)V"), (0, .methodref 13 37), (0, .nameAndType 38 39), (0, u "decode"), (0, u "([JI[I)V"), (0, .methodref 41 42), (0, .class_ 43), (0, .nameAndType 44 45), (0, u "java/lang/Math"), (0, u "min"), (0, u "(II)I"), (0, .methodref 41 47), (0, .nameAndType 48 45), (0, u "max"), (0, .long 4294967295), (3, u "law"), (0, u "(JJJIII)Z")] 7

def k1m0 : Method := { name := "<init>", desc := "()V", sig := { parameters := [], returnType := none }, accessFlags := 1, code := none }
def k1c1 : Code := { maxStack := 7, maxLocals := 18, code := code, exceptionTable := #[], attributes := #[] }
def k1m1 : Method := { name := "law", desc := "(JJJIII)Z", sig := { parameters := [.long, .long, .long, .int, .int, .int], returnType := some .boolean }, accessFlags := 9, code := some k1c1 }
def k1c2 : Code := { maxStack := 6, maxLocals := 15, code := method_3_code, exceptionTable := #[], attributes := #[] }
def k1m2 : Method := { name := "fill", desc := "([I[I[IIJI)V", sig := { parameters := [(.array .int), (.array .int), (.array .int), .int, .long, .int], returnType := none }, accessFlags := 10, code := some k1c2 }
/-- com/example/inexact_odds/inexactodds/language/EncodingDecodePinLaw -/
def k1 : Class := { plain "com/example/inexact_odds/inexactodds/language/EncodingDecodePinLaw" (some 0) with
  accessFlags := 49
  interfaces := #[]
  cf := some (fileOf pool1 8 #[] #[{ accessFlags := 1, nameIndex := 5, descriptorIndex := 6, attributes := #[] }, { accessFlags := 9, nameIndex := 53, descriptorIndex := 54, attributes := #[] }, { accessFlags := 10, nameIndex := 11, descriptorIndex := 12, attributes := #[] }] 49 2 #[] #[])
  fields := #[]
  methods := #[k1m0, k1m1, k1m2]
  instanceTypes := #[]
  staticTypes := #[]
  resolved := Array.replicate 62 none
  statics := none }

def pool2 : Array CpInfo := pool [(1, .class_ 2), (0, u "java/lang/Math"), (1, .class_ 6), (1, u "java/lang/Object"), (0, u "<init>"), (0, u "()V"), (89, .class_ 100), (1, u "java/lang/Math$RandomNumberGeneratorHolder"), (71, u "negativeZeroFloatBits"), (0, u "J"), (2, u "negativeZeroDoubleBits"), (21, u "max"), (2, u "min"), (43, u "$assertionsDisabled"), (0, u "Z"), (88, u "(II)I"), (2, u "twoToTheDoubleScaleDown"), (0, u "D"), (4, u "twoToTheDoubleScaleUp"), (9, u "E"), (3, u "PI"), (2, u "TAU"), (2, u "DEGREES_TO_RADIANS"), (0, u "RADIANS_TO_DEGREES")] 94

def k2m0 : Method := { name := "<init>", desc := "()V", sig := { parameters := [], returnType := none }, accessFlags := 2, code := none }
def k2c1 : Code := { maxStack := 2, maxLocals := 2, code := jdk_29_method_65_code, exceptionTable := #[], attributes := #[] }
def k2m1 : Method := { name := "max", desc := "(II)I", sig := { parameters := [.int, .int], returnType := some .int }, accessFlags := 9, code := some k2c1 }
def k2c2 : Code := { maxStack := 2, maxLocals := 2, code := jdk_29_method_69_code, exceptionTable := #[], attributes := #[] }
def k2m2 : Method := { name := "min", desc := "(II)I", sig := { parameters := [.int, .int], returnType := some .int }, accessFlags := 9, code := some k2c2 }
/-- java/lang/Math -/
def k2 : Class := { plain "java/lang/Math" (some 0) with
  accessFlags := 49
  interfaces := #[]
  cf := some (fileOf pool2 1 #[.nestMembers #[98]] #[{ accessFlags := 2, nameIndex := 7, descriptorIndex := 8, attributes := #[] }, { accessFlags := 9, nameIndex := 198, descriptorIndex := 335, attributes := #[] }, { accessFlags := 9, nameIndex := 201, descriptorIndex := 335, attributes := #[] }] 49 4 #[] #[{ accessFlags := 25, nameIndex := 354, descriptorIndex := 339, attributes := #[] }, { accessFlags := 25, nameIndex := 358, descriptorIndex := 339, attributes := #[] }, { accessFlags := 25, nameIndex := 361, descriptorIndex := 339, attributes := #[] }, { accessFlags := 26, nameIndex := 364, descriptorIndex := 339, attributes := #[] }, { accessFlags := 26, nameIndex := 365, descriptorIndex := 339, attributes := #[] }, { accessFlags := 26, nameIndex := 172, descriptorIndex := 173, attributes := #[] }, { accessFlags := 26, nameIndex := 176, descriptorIndex := 173, attributes := #[] }, { accessFlags := 8, nameIndex := 344, descriptorIndex := 339, attributes := #[] }, { accessFlags := 8, nameIndex := 338, descriptorIndex := 339, attributes := #[] }, { accessFlags := 4120, nameIndex := 245, descriptorIndex := 246, attributes := #[] }])
  fields := #[{ name := "E", type := .double, accessFlags := 25, slot := 0, constantValue := 0 }, { name := "PI", type := .double, accessFlags := 25, slot := 1, constantValue := 0 }, { name := "TAU", type := .double, accessFlags := 25, slot := 2, constantValue := 0 }, { name := "DEGREES_TO_RADIANS", type := .double, accessFlags := 26, slot := 3, constantValue := 0 }, { name := "RADIANS_TO_DEGREES", type := .double, accessFlags := 26, slot := 4, constantValue := 0 }, { name := "negativeZeroFloatBits", type := .long, accessFlags := 26, slot := 5, constantValue := 0 }, { name := "negativeZeroDoubleBits", type := .long, accessFlags := 26, slot := 6, constantValue := 0 }, { name := "twoToTheDoubleScaleUp", type := .double, accessFlags := 8, slot := 7, constantValue := 0 }, { name := "twoToTheDoubleScaleDown", type := .double, accessFlags := 8, slot := 8, constantValue := 0 }, { name := "$assertionsDisabled", type := .boolean, accessFlags := 4120, slot := 9, constantValue := 0 }]
  methods := #[k2m0, k2m1, k2m2]
  instanceTypes := #[]
  staticTypes := #[.double, .double, .double, .double, .double, .long, .long, .double, .double, .boolean]
  resolved := Array.replicate 460 none
  statics := none }

def pool3 : Array CpInfo := pool [(1, .methodref 2 3), (0, .class_ 4), (0, .nameAndType 5 6), (0, u "java/lang/Object"), (0, u "<init>"), (0, u "()V"), (0, .methodref 8 9), (0, .class_ 10), (0, .nameAndType 11 12), (0, u "[I"), (0, u "clone"), (0, u "()Ljava/lang/Object;"), (0, .fieldref 14 15), (0, .class_ 16), (0, .nameAndType 17 10), (0, u "com/example/inexact_odds/inexactodds/language/Encoding"), (0, u "low"), (0, .fieldref 14 19), (0, .nameAndType 20 10), (0, u "word"), (0, .fieldref 14 22), (0, .nameAndType 23 10), (0, u "shift"), (0, .fieldref 14 25), (0, .nameAndType 26 27), (0, u "mask"), (0, u "[J"), (0, .methodref 29 30), (0, .class_ 31), (0, .nameAndType 32 33), (0, u "java/lang/Long"), (0, u "numberOfLeadingZeros"), (0, u "(J)I"), (0, .long 18446744073709551615), (1, .fieldref 14 37), (0, .nameAndType 38 39), (0, u "words"), (0, u "I"), (0, u "([I[I)V"), (5, u "encode"), (0, u "([I[JI)V"), (0, u "decode"), (0, u "([JI[I)V")] 2

def k3c0 : Code := { maxStack := 6, maxLocals := 9, code := prog_37_method_1_code, exceptionTable := #[], attributes := #[] }
def k3m0 : Method := { name := "<init>", desc := "([I[I)V", sig := { parameters := [(.array .int), (.array .int)], returnType := none }, accessFlags := 0, code := some k3c0 }
def k3c1 : Code := { maxStack := 8, maxLocals := 5, code := prog_37_method_3_code, exceptionTable := #[], attributes := #[] }
def k3m1 : Method := { name := "encode", desc := "([I[JI)V", sig := { parameters := [(.array .int), (.array .long), .int], returnType := none }, accessFlags := 0, code := some k3c1 }
def k3c2 : Code := { maxStack := 6, maxLocals := 5, code := prog_37_method_4_code, exceptionTable := #[], attributes := #[] }
def k3m2 : Method := { name := "decode", desc := "([JI[I)V", sig := { parameters := [(.array .long), .int, (.array .int)], returnType := none }, accessFlags := 0, code := some k3c2 }
/-- com/example/inexact_odds/inexactodds/language/Encoding -/
def k3 : Class := { plain "com/example/inexact_odds/inexactodds/language/Encoding" (some 0) with
  accessFlags := 48
  interfaces := #[]
  cf := some (fileOf pool3 14 #[] #[{ accessFlags := 0, nameIndex := 5, descriptorIndex := 40, attributes := #[] }, { accessFlags := 0, nameIndex := 46, descriptorIndex := 47, attributes := #[] }, { accessFlags := 0, nameIndex := 48, descriptorIndex := 49, attributes := #[] }] 48 2 #[] #[{ accessFlags := 18, nameIndex := 17, descriptorIndex := 10, attributes := #[] }, { accessFlags := 18, nameIndex := 20, descriptorIndex := 10, attributes := #[] }, { accessFlags := 18, nameIndex := 23, descriptorIndex := 10, attributes := #[] }, { accessFlags := 18, nameIndex := 26, descriptorIndex := 27, attributes := #[] }, { accessFlags := 18, nameIndex := 38, descriptorIndex := 39, attributes := #[] }])
  fields := #[{ name := "low", type := (.array .int), accessFlags := 18, slot := 0, constantValue := 0 }, { name := "word", type := (.array .int), accessFlags := 18, slot := 1, constantValue := 0 }, { name := "shift", type := (.array .int), accessFlags := 18, slot := 2, constantValue := 0 }, { name := "mask", type := (.array .long), accessFlags := 18, slot := 3, constantValue := 0 }, { name := "words", type := .int, accessFlags := 18, slot := 4, constantValue := 0 }]
  methods := #[k3m0, k3m1, k3m2]
  instanceTypes := #[(.array .int), (.array .int), (.array .int), (.array .long), .int]
  staticTypes := #[]
  resolved := Array.replicate 52 none
  statics := none }

def pool4 : Array CpInfo := pool [(1, .class_ 2), (0, u "java/lang/Cloneable"), (0, .class_ 4), (0, u "java/lang/Object")] 2

/-- java/lang/Cloneable -/
def k4 : Class := { plain "java/lang/Cloneable" (some 0) with
  accessFlags := 1537
  interfaces := #[]
  cf := some (fileOf pool4 1 #[] #[] 1537 3 #[] #[])
  fields := #[]
  methods := #[]
  instanceTypes := #[]
  staticTypes := #[]
  resolved := Array.replicate 7 none
  statics := none }

def pool5 : Array CpInfo := pool [(1, .class_ 2), (0, u "java/io/Serializable"), (0, .class_ 4), (0, u "java/lang/Object")] 2

/-- java/io/Serializable -/
def k5 : Class := { plain "java/io/Serializable" (some 0) with
  accessFlags := 1537
  interfaces := #[]
  cf := some (fileOf pool5 1 #[] #[] 1537 3 #[] #[])
  fields := #[]
  methods := #[]
  instanceTypes := #[]
  staticTypes := #[]
  resolved := Array.replicate 7 none
  statics := none }

def pool6 : Array CpInfo := pool [(2, .class_ 4), (1, u "java/lang/Object"), (0, u "<init>"), (0, u "()V"), (1, .class_ 10), (1, u "java/lang/Number"), (2, .class_ 14), (0, u "java/io/Serializable"), (0, u "serialVersionUID"), (0, u "J")] 20

def k6m0 : Method := { name := "<init>", desc := "()V", sig := { parameters := [], returnType := none }, accessFlags := 1, code := none }
/-- java/lang/Number -/
def k6 : Class := { plain "java/lang/Number" (some 0) with
  accessFlags := 1057
  interfaces := #[5]
  cf := some (fileOf pool6 8 #[] #[{ accessFlags := 1, nameIndex := 5, descriptorIndex := 6, attributes := #[] }] 1057 2 #[13] #[{ accessFlags := 26, nameIndex := 15, descriptorIndex := 16, attributes := #[] }])
  fields := #[{ name := "serialVersionUID", type := .long, accessFlags := 26, slot := 0, constantValue := 0 }]
  methods := #[k6m0]
  instanceTypes := #[]
  staticTypes := #[.long]
  resolved := Array.replicate 37 none
  statics := none }

def pool7 : Array CpInfo := pool [(1, .class_ 2), (0, u "java/lang/Comparable"), (0, .class_ 4), (0, u "java/lang/Object")] 7

/-- java/lang/Comparable -/
def k7 : Class := { plain "java/lang/Comparable" (some 0) with
  accessFlags := 1537
  interfaces := #[]
  cf := some (fileOf pool7 1 #[] #[] 1537 3 #[] #[])
  fields := #[]
  methods := #[]
  instanceTypes := #[]
  staticTypes := #[]
  resolved := Array.replicate 12 none
  statics := none }

def pool8 : Array CpInfo := pool [(1, .class_ 2), (0, u "java/lang/constant/Constable"), (0, .class_ 4), (0, u "java/lang/Object")] 6

/-- java/lang/constant/Constable -/
def k8 : Class := { plain "java/lang/constant/Constable" (some 0) with
  accessFlags := 1537
  interfaces := #[]
  cf := some (fileOf pool8 1 #[] #[] 1537 3 #[] #[])
  fields := #[]
  methods := #[]
  instanceTypes := #[]
  staticTypes := #[]
  resolved := Array.replicate 11 none
  statics := none }

def pool9 : Array CpInfo := pool [(1, .class_ 2), (0, u "java/lang/constant/ConstantDesc"), (0, .class_ 4), (0, u "java/lang/Object")] 32

/-- java/lang/constant/ConstantDesc -/
def k9 : Class := { plain "java/lang/constant/ConstantDesc" (some 0) with
  accessFlags := 1537
  interfaces := #[]
  cf := some (fileOf pool9 1 #[] #[] 1537 3 #[] #[])
  fields := #[]
  methods := #[]
  instanceTypes := #[]
  staticTypes := #[]
  resolved := Array.replicate 37 none
  statics := none }

def pool10 : Array CpInfo := pool [(1, .class_ 2), (0, u "java/lang/Long"), (15, .class_ 20), (1, u "java/lang/Integer"), (79, u "numberOfLeadingZeros"), (0, u "(J)I"), (133, .class_ 237), (1, u "java/lang/Long$LongCache"), (33, .class_ 272), (0, u "java/lang/Number"), (2, u "value"), (0, u "J"), (31, .methodref 18 309), (0, .nameAndType 100 310), (0, u "(I)I"), (50, u "TYPE"), (0, u "Ljava/lang/Class;"), (0, .class_ 364), (0, u "java/lang/Comparable"), (0, .class_ 366), (0, u "java/lang/constant/Constable"), (0, .class_ 368), (0, u "java/lang/constant/ConstantDesc"), (0, u "MIN_VALUE"), (1, u "MAX_VALUE"), (4, u "SIZE"), (0, u "I"), (1, u "BYTES"), (1, u "serialVersionUID")] 142

def k10c0 : Code := { maxStack := 3, maxLocals := 3, code := jdk_35_method_48_code, exceptionTable := #[], attributes := #[] }
def k10m0 : Method := { name := "numberOfLeadingZeros", desc := "(J)I", sig := { parameters := [.long], returnType := some .int }, accessFlags := 9, code := some k10c0 }
/-- java/lang/Long -/
def k10 : Class := { plain "java/lang/Long" (some 6) with
  accessFlags := 49
  interfaces := #[7, 8, 9]
  cf := some (fileOf pool10 1 #[.nestMembers #[235]] #[{ accessFlags := 9, nameIndex := 100, descriptorIndex := 101, attributes := #[] }] 49 271 #[363, 365, 367] #[{ accessFlags := 25, nameIndex := 369, descriptorIndex := 276, attributes := #[] }, { accessFlags := 25, nameIndex := 371, descriptorIndex := 276, attributes := #[] }, { accessFlags := 25, nameIndex := 361, descriptorIndex := 362, attributes := #[] }, { accessFlags := 18, nameIndex := 275, descriptorIndex := 276, attributes := #[] }, { accessFlags := 25, nameIndex := 376, descriptorIndex := 377, attributes := #[] }, { accessFlags := 25, nameIndex := 379, descriptorIndex := 377, attributes := #[] }, { accessFlags := 26, nameIndex := 381, descriptorIndex := 276, attributes := #[] }])
  fields := #[{ name := "MIN_VALUE", type := .long, accessFlags := 25, slot := 0, constantValue := 0 }, { name := "MAX_VALUE", type := .long, accessFlags := 25, slot := 1, constantValue := 0 }, { name := "TYPE", type := (.object "java/lang/Class"), accessFlags := 25, slot := 2, constantValue := 0 }, { name := "value", type := .long, accessFlags := 18, slot := 0, constantValue := 0 }, { name := "SIZE", type := .int, accessFlags := 25, slot := 3, constantValue := 0 }, { name := "BYTES", type := .int, accessFlags := 25, slot := 4, constantValue := 0 }, { name := "serialVersionUID", type := .long, accessFlags := 26, slot := 5, constantValue := 0 }]
  methods := #[k10m0]
  instanceTypes := #[.long]
  staticTypes := #[.long, .long, (.object "java/lang/Class"), .int, .int, .long]
  resolved := Array.replicate 524 none
  statics := none }

def pool11 : Array CpInfo := pool [(1, .class_ 2), (0, u "java/lang/Integer"), (16, u "digits"), (0, u "[C"), (32, u "numberOfLeadingZeros"), (0, u "(I)I"), (30, u "DigitOnes"), (0, u "[B"), (2, u "DigitTens"), (99, .class_ 190), (0, u "java/lang/Integer$IntegerCache"), (3, u "I"), (8, .class_ 204), (0, u "java/lang/Number"), (2, u "value"), (56, .integer 65536), (37, u "TYPE"), (0, u "Ljava/lang/Class;"), (0, .class_ 305), (0, u "java/lang/Comparable"), (0, .class_ 307), (0, u "java/lang/constant/Constable"), (0, .class_ 309), (0, u "java/lang/constant/ConstantDesc"), (0, u "MIN_VALUE"), (1, u "MAX_VALUE"), (3, u "SIZE"), (1, u "BYTES"), (1, u "serialVersionUID"), (0, u "J")] 131

def k11c0 : Code := { maxStack := 3, maxLocals := 2, code := jdk_33_method_47_code, exceptionTable := #[], attributes := #[] }
def k11m0 : Method := { name := "numberOfLeadingZeros", desc := "(I)I", sig := { parameters := [.int], returnType := some .int }, accessFlags := 9, code := some k11c0 }
/-- java/lang/Integer -/
def k11 : Class := { plain "java/lang/Integer" (some 6) with
  accessFlags := 49
  interfaces := #[7, 8, 9]
  cf := some (fileOf pool11 1 #[.nestMembers #[189]] #[{ accessFlags := 9, nameIndex := 53, descriptorIndex := 54, attributes := #[] }] 49 203 #[304, 306, 308] #[{ accessFlags := 25, nameIndex := 310, descriptorIndex := 194, attributes := #[] }, { accessFlags := 25, nameIndex := 312, descriptorIndex := 194, attributes := #[] }, { accessFlags := 25, nameIndex := 302, descriptorIndex := 303, attributes := #[] }, { accessFlags := 24, nameIndex := 19, descriptorIndex := 20, attributes := #[] }, { accessFlags := 24, nameIndex := 89, descriptorIndex := 86, attributes := #[] }, { accessFlags := 24, nameIndex := 85, descriptorIndex := 86, attributes := #[] }, { accessFlags := 18, nameIndex := 207, descriptorIndex := 194, attributes := #[] }, { accessFlags := 25, nameIndex := 316, descriptorIndex := 194, attributes := #[] }, { accessFlags := 25, nameIndex := 318, descriptorIndex := 194, attributes := #[] }, { accessFlags := 26, nameIndex := 320, descriptorIndex := 321, attributes := #[] }])
  fields := #[{ name := "MIN_VALUE", type := .int, accessFlags := 25, slot := 0, constantValue := 0 }, { name := "MAX_VALUE", type := .int, accessFlags := 25, slot := 1, constantValue := 0 }, { name := "TYPE", type := (.object "java/lang/Class"), accessFlags := 25, slot := 2, constantValue := 0 }, { name := "digits", type := (.array .char), accessFlags := 24, slot := 3, constantValue := 0 }, { name := "DigitTens", type := (.array .byte), accessFlags := 24, slot := 4, constantValue := 0 }, { name := "DigitOnes", type := (.array .byte), accessFlags := 24, slot := 5, constantValue := 0 }, { name := "value", type := .int, accessFlags := 18, slot := 0, constantValue := 0 }, { name := "SIZE", type := .int, accessFlags := 25, slot := 6, constantValue := 0 }, { name := "BYTES", type := .int, accessFlags := 25, slot := 7, constantValue := 0 }, { name := "serialVersionUID", type := .long, accessFlags := 26, slot := 8, constantValue := 0 }]
  methods := #[k11m0]
  instanceTypes := #[.int]
  staticTypes := #[.int, .int, (.object "java/lang/Class"), (.array .char), (.array .byte), (.array .byte), .int, .int, .long]
  resolved := Array.replicate 453 none
  statics := none }

/-- the primitive byte -/
def k12 : Class := { plain "byte" none with kind := .primitive 'B', accessFlags := 0x411 }
/-- [B -/
def k13 : Class := { plain "[B" (some 0) with kind := .array 12 .byte, interfaces := #[4, 5], accessFlags := 1041 }

/-- the primitive int -/
def k14 : Class := { plain "int" none with kind := .primitive 'I', accessFlags := 0x411 }
/-- [I -/
def k15 : Class := { plain "[I" (some 0) with kind := .array 14 .int, interfaces := #[4, 5], accessFlags := 1041 }

/-- the primitive long -/
def k16 : Class := { plain "long" none with kind := .primitive 'J', accessFlags := 0x411 }
/-- [J -/
def k17 : Class := { plain "[J" (some 0) with kind := .array 16 .long, interfaces := #[4, 5], accessFlags := 1041 }

def heap : Heap := #[]
def classes : Array Class := #[k0, k1, k2, k3, k4, k5, k6, k7, k8, k9, k10, k11, k12, k13, k14, k15, k16, k17]
def interned : List (Array UInt16 × Addr) := []
def slotsUsed : Nat := 0
def theMethod : MethodId := ⟨1, 1⟩
def args0 : Array Value := #[.long 5, .long 7, .long 9, .int 1, .int 2, .int 3]
def aboutOver (below : List Frame) : State where
  vm := { classes := classes, interned := interned.toArray }
  heap := heap
  slotsUsed := slotsUsed
  threads := #[{ frames := .invoking theMethod args0 :: below }]
def below0 : List Frame := [.native { method := ⟨0, 0⟩, args := #[] }]
def about1 : State := aboutOver below0
def p0 : Program := .bare "" "" ""
def e0 : Env := launch0.env 0 0 0
theorem w_frames : about1.frames = Frame.invoking theMethod args0 :: below0 := rfl
set_option maxRecDepth 65536 in
theorem w_args : argsFit about1.vm theMethod args0 = true := by decide +kernel
set_option maxRecDepth 65536 in
theorem w_heap : heapFits about1 = true := by decide +kernel
set_option maxRecDepth 65536 in
theorem w_runnable : about1.curStatus? = some .runnable := by decide +kernel
set_option maxRecDepth 65536 in
theorem w_alone : about1.alone = true := by decide +kernel
set_option maxRecDepth 65536 in
theorem w_named : about1.methodNamed? x = some theMethod := by decide +kernel
set_option maxRecDepth 65536 in
theorem w_hears : about1.hears theMethod below0 = true := by decide +kernel
set_option maxRecDepth 65536 in
theorem w_ripe : about1.ripe theMethod args0 below0 = true := by decide +kernel
theorem w_running : about1.status = .running := rfl
set_option maxRecDepth 65536 in
theorem w_room : about1.hasRoom e0.platform room_1 = true :=
  launch0.hasRoom_least _ room_1 (by decide +kernel) (by decide +kernel) (by decide +kernel) (by decide +kernel) (by decide +kernel) (by decide +kernel)
theorem allAtoms_all (ts : List Jvm.Cond) (a : Array Jvm.Value) (st : Jvm.State) : (allAtoms ts).before a st = ts.all (fun c => c.before a st) := by
  induction ts with
  | nil => rfl
  | cons c t ih =>
    show (Jvm.Cond.and c (allAtoms t)).before a st = _
    rw [Jvm.Cond.before_and, ih, List.all_cons]
def words1 : List Jvm.Cond := Jvm.Cond.code x code maxLocals ret :: tables_1
/-- a 'code' word, met by the world's own term for the bytes: nothing is compared byte by byte -/
theorem code_word {y : MethodName} {bytes : ByteArray} {mx : Nat} {rt : Option FieldType} {a : Array Value} {s : State} {m : MethodId} {meth : Method} {c : Code} (h1 : s.methodNamed? y = some m) (h2 : s.vm.method? m = some meth) (h3 : meth.code = some c) (h4 : c.code = bytes)
    (h5 : (c.maxLocals == mx && c.exceptionTable.isEmpty && decide (c.maxStack ≤ mostOperands) && decide (meth.sig.returnType = rt) && !meth.locks && decide (parseMethodDescriptor y.desc = some meth.sig)) = true) : (Jvm.Cond.code y bytes mx rt).before a s = true := by
  simp only [Bool.and_eq_true, beq_iff_eq, Bool.not_eq_true', decide_eq_true_eq] at h5
  obtain ⟨⟨⟨⟨⟨g1, g2⟩, g3⟩, g4⟩, g5⟩, g6⟩ := h5
  simp [Cond.before, Cond.holds, Cond.value, h1, h2, h3, h4, g1, g2, g3, g4, g5, g6]
def isCode : Jvm.Cond → Bool
  | .code _ _ _ _ => true
  | _ => false
theorem all_split {L : List Jvm.Cond} {P : Jvm.Cond → Bool} (h1 : L.all (fun c => isCode c || P c) = true) (h2 : ∀ c ∈ L.filter isCode, P c = true) : L.all P = true := by
  refine List.all_eq_true.mpr fun c hc => ?_
  have h := List.all_eq_true.mp h1 c hc
  rcases Bool.eq_false_or_eq_true (isCode c) with hi | hi
  · exact h2 c (List.mem_filter.mpr ⟨hc, hi⟩)
  · simpa [hi] using h
set_option maxRecDepth 65536 in
theorem w_c0 : (Jvm.Cond.code x code maxLocals ret).before args0 about1 = true := code_word (m := ⟨1, 1⟩) (meth := k1m1) (c := k1c1) (by decide +kernel) rfl rfl rfl (by decide +kernel)
set_option maxRecDepth 65536 in
theorem w_c1 : (Jvm.Cond.code ({ cls := "com/example/inexact_odds/inexactodds/language/EncodingDecodePinLaw", name := "fill", desc := "([I[I[IIJI)V" } : Jvm.MethodName) method_3_code (15 : Nat) (Option.none : Option Jvm.ClassFile.FieldType)).before args0 about1 = true := code_word (m := ⟨1, 2⟩) (meth := k1m2) (c := k1c2) (by decide +kernel) rfl rfl rfl (by decide +kernel)
set_option maxRecDepth 65536 in
theorem w_c2 : (Jvm.Cond.code ({ cls := "java/lang/Math", name := "min", desc := "(II)I" } : Jvm.MethodName) jdk_29_method_69_code (2 : Nat) (Option.some Jvm.ClassFile.FieldType.int)).before args0 about1 = true := code_word (m := ⟨2, 2⟩) (meth := k2m2) (c := k2c2) (by decide +kernel) rfl rfl rfl (by decide +kernel)
set_option maxRecDepth 65536 in
theorem w_c3 : (Jvm.Cond.code ({ cls := "java/lang/Math", name := "max", desc := "(II)I" } : Jvm.MethodName) jdk_29_method_65_code (2 : Nat) (Option.some Jvm.ClassFile.FieldType.int)).before args0 about1 = true := code_word (m := ⟨2, 1⟩) (meth := k2m1) (c := k2c1) (by decide +kernel) rfl rfl rfl (by decide +kernel)
set_option maxRecDepth 65536 in
theorem w_c4 : (Jvm.Cond.code ({ cls := "com/example/inexact_odds/inexactodds/language/Encoding", name := "<init>", desc := "([I[I)V" } : Jvm.MethodName) prog_37_method_1_code (9 : Nat) (Option.none : Option Jvm.ClassFile.FieldType)).before args0 about1 = true := code_word (m := ⟨3, 0⟩) (meth := k3m0) (c := k3c0) (by decide +kernel) rfl rfl rfl (by decide +kernel)
set_option maxRecDepth 65536 in
theorem w_c5 : (Jvm.Cond.code ({ cls := "java/lang/Object", name := "<init>", desc := "()V" } : Jvm.MethodName) object_method_1_code (1 : Nat) (Option.none : Option Jvm.ClassFile.FieldType)).before args0 about1 = true := code_word (m := ⟨0, 0⟩) (meth := k0m0) (c := k0c0) (by decide +kernel) rfl rfl rfl (by decide +kernel)
set_option maxRecDepth 65536 in
theorem w_c6 : (Jvm.Cond.code ({ cls := "java/lang/Long", name := "numberOfLeadingZeros", desc := "(J)I" } : Jvm.MethodName) jdk_35_method_48_code (3 : Nat) (Option.some Jvm.ClassFile.FieldType.int)).before args0 about1 = true := code_word (m := ⟨10, 0⟩) (meth := k10m0) (c := k10c0) (by decide +kernel) rfl rfl rfl (by decide +kernel)
set_option maxRecDepth 65536 in
theorem w_c7 : (Jvm.Cond.code ({ cls := "java/lang/Integer", name := "numberOfLeadingZeros", desc := "(I)I" } : Jvm.MethodName) jdk_33_method_47_code (2 : Nat) (Option.some Jvm.ClassFile.FieldType.int)).before args0 about1 = true := code_word (m := ⟨11, 0⟩) (meth := k11m0) (c := k11c0) (by decide +kernel) rfl rfl rfl (by decide +kernel)
set_option maxRecDepth 65536 in
theorem w_c8 : (Jvm.Cond.code ({ cls := "com/example/inexact_odds/inexactodds/language/Encoding", name := "encode", desc := "([I[JI)V" } : Jvm.MethodName) prog_37_method_3_code (5 : Nat) (Option.none : Option Jvm.ClassFile.FieldType)).before args0 about1 = true := code_word (m := ⟨3, 1⟩) (meth := k3m1) (c := k3c1) (by decide +kernel) rfl rfl rfl (by decide +kernel)
set_option maxRecDepth 65536 in
theorem w_c9 : (Jvm.Cond.code ({ cls := "com/example/inexact_odds/inexactodds/language/Encoding", name := "decode", desc := "([JI[I)V" } : Jvm.MethodName) prog_37_method_4_code (5 : Nat) (Option.none : Option Jvm.ClassFile.FieldType)).before args0 about1 = true := code_word (m := ⟨3, 2⟩) (meth := k3m2) (c := k3c2) (by decide +kernel) rfl rfl rfl (by decide +kernel)
def codes1 : List Jvm.Cond := [Jvm.Cond.code x code maxLocals ret, Jvm.Cond.code ({ cls := "com/example/inexact_odds/inexactodds/language/EncodingDecodePinLaw", name := "fill", desc := "([I[I[IIJI)V" } : Jvm.MethodName) method_3_code (15 : Nat) (Option.none : Option Jvm.ClassFile.FieldType), Jvm.Cond.code ({ cls := "java/lang/Math", name := "min", desc := "(II)I" } : Jvm.MethodName) jdk_29_method_69_code (2 : Nat) (Option.some Jvm.ClassFile.FieldType.int), Jvm.Cond.code ({ cls := "java/lang/Math", name := "max", desc := "(II)I" } : Jvm.MethodName) jdk_29_method_65_code (2 : Nat) (Option.some Jvm.ClassFile.FieldType.int), Jvm.Cond.code ({ cls := "com/example/inexact_odds/inexactodds/language/Encoding", name := "<init>", desc := "([I[I)V" } : Jvm.MethodName) prog_37_method_1_code (9 : Nat) (Option.none : Option Jvm.ClassFile.FieldType), Jvm.Cond.code ({ cls := "java/lang/Object", name := "<init>", desc := "()V" } : Jvm.MethodName) object_method_1_code (1 : Nat) (Option.none : Option Jvm.ClassFile.FieldType), Jvm.Cond.code ({ cls := "java/lang/Long", name := "numberOfLeadingZeros", desc := "(J)I" } : Jvm.MethodName) jdk_35_method_48_code (3 : Nat) (Option.some Jvm.ClassFile.FieldType.int), Jvm.Cond.code ({ cls := "java/lang/Integer", name := "numberOfLeadingZeros", desc := "(I)I" } : Jvm.MethodName) jdk_33_method_47_code (2 : Nat) (Option.some Jvm.ClassFile.FieldType.int), Jvm.Cond.code ({ cls := "com/example/inexact_odds/inexactodds/language/Encoding", name := "encode", desc := "([I[JI)V" } : Jvm.MethodName) prog_37_method_3_code (5 : Nat) (Option.none : Option Jvm.ClassFile.FieldType), Jvm.Cond.code ({ cls := "com/example/inexact_odds/inexactodds/language/Encoding", name := "decode", desc := "([JI[I)V" } : Jvm.MethodName) prog_37_method_4_code (5 : Nat) (Option.none : Option Jvm.ClassFile.FieldType)]
set_option maxRecDepth 65536 in
theorem codes_eq : words1.filter isCode = codes1 := rfl
theorem w_codes : ∀ c ∈ words1.filter isCode, c.before args0 about1 = true := by
  rw [codes_eq]
  intro c hc
  simp only [codes1, List.mem_cons, List.not_mem_nil, or_false] at hc
  rcases hc with rfl | rfl | rfl | rfl | rfl | rfl | rfl | rfl | rfl | rfl
  · exact w_c0
  · exact w_c1
  · exact w_c2
  · exact w_c3
  · exact w_c4
  · exact w_c5
  · exact w_c6
  · exact w_c7
  · exact w_c8
  · exact w_c9
set_option maxRecDepth 65536 in
theorem w_t1 : (words1.take 24).all (fun c => isCode c || c.before args0 about1) = true := by decide +kernel
set_option maxRecDepth 65536 in
theorem w_t2 : ((words1.drop 24).take 24).all (fun c => isCode c || c.before args0 about1) = true := by decide +kernel
set_option maxRecDepth 65536 in
theorem w_t3 : ((words1.drop 24).drop 24).all (fun c => isCode c || c.before args0 about1) = true := by decide +kernel
theorem w_tables : (allAtoms (Jvm.Cond.code x code maxLocals ret :: tables_1)).before args0 about1 = true := by
  rw [allAtoms_all]
  show words1.all (fun c => c.before args0 about1) = true
  refine all_split ?_ w_codes
  rw [← List.take_append_drop 24 words1, List.all_append, w_t1, ← List.take_append_drop 24 (words1.drop 24), List.all_append, w_t2, w_t3]
  rfl
set_option maxRecDepth 65536 in
theorem w_case : (Jvm.Cond.and given_1 narrow_1).before args0 about1 = true := by decide +kernel
theorem w_applies : (headSpec (Jvm.Cond.code x code maxLocals ret :: tables_1) room_1).applies x e0.platform about1 = true :=
  (Spec.applies_iff w_frames).mpr ⟨w_running, w_runnable, w_alone, w_named, w_hears, w_ripe, w_room, w_tables⟩
theorem atStart : AtStart classFile x code maxLocals ret World_1 tables_1 room_1 Calls_1 rest_1 Pre_1 launch0 p0 e0 about1 theMethod args0 below0 :=
  ⟨lists_1, trivial, launch0.admits_env _ _ _, launch0.least_env, fairChoices_fair.cas, fairChoices_fair.clock, w_frames, w_args, w_heap, w_applies, trivial, trivial, w_case⟩
end start1
theorem witness_1 : WitnessClaimed_1 := ⟨start1.p0, start1.e0, start1.about1, start1.theMethod, start1.args0, start1.below0, start1.atStart⟩
end Jvm.Pilot.@@N@@
