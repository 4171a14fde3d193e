import JvmDerived
import JvmDerived.Pilot.@@N@@Statement
import JvmDerived.Pilot.@@N@@Code
set_option linter.unusedVariables false
set_option linter.unusedSimpArgs false
namespace Jvm.RoadKit
open Sem ClassFile Op Lib Jvm.Stand Jvm.Free Jvm.LawKit
section New
variable {p : Program} {l : Launch} {e : Env} {R : Room} {s : State} {m : MethodId} {args : Array Value} {below : List Frame} {meth : Method} {c : Code} {T : State} {locs : List Loc} {cells slots : Nat}
theorem retI (X : Stand p l e R s m args below meth c T locs cells slots) (hx : p.tables.exec = Jvm.exec) {pc : Nat} {Ls : Array Slot} {z : Int32} {rest : List Value} (hret : meth.sig.returnType = some .int) (hd : decode c.code pc = .ok (.ireturn, 1)) {fs : List Frame}
    (hl : ∀ (f : JFrame) (acts : List Action), f.method = m → f.locked = none → f.entered = [] → (doReturn e (T.setTop f) acts (some (.int z))).1 = T.setFrames fs) : Steps p.tables e below (T.setTop (mkF m pc Ls (.int z :: rest))) (T.setFrames fs) := by
  have hm' : T.vm.method? m = some meth := X.method'
  have hn : narrow .int (.int z) = .int z := rfl
  show Steps p.tables e below (T.setTop { method := m, pc := pc, locals := Ls, stack := _ :: rest, locked := none }) _
  jvm_step X.here [X.here.top, hx, hd, hm', hret, hn]
  first | (intro acts; rw [hl _ acts rfl rfl rfl]) | rw [hl _ _ rfl rfl rfl]
  exact Steps.refl _
end New
end Jvm.RoadKit
namespace Jvm.Pilot.@@N@@
open Jvm Jvm.ClassFile Sem Op Lib Jvm.Free Jvm.Stand Jvm.LawKit Jvm.RoadKit Bundle Jvm.Pilot.@@N@@.Jvm.D
abbrev vI (x : Int32) : Slot := .val (.int x)
abbrev vJ (x : Int64) : Slot := .val (.long x)
abbrev vR (x : Addr) : Slot := .val (.ref x)
def AV (Z : State) (h : Heap) (a : Addr) (ty : FieldType) (n : Nat) (f : Nat → Value) : Prop := ∃ c : Cell, Arr Z h a c ty ∧ c.slots.size = n ∧ ∀ j, j < n → c.slots[j]? = some (f j) ∧ fits ty (f j) = true
def own_upd (f : Nat → Value) (k : Nat) (v : Value) : Nat → Value := fun j => if j = k then v else f j
section AVs
variable {Z : State} {h h' : Heap} {a b : Addr} {ty : FieldType} {n : Nat} {f : Nat → Value} {v : Value} {sl : Nat}
theorem AV.lt (A : AV Z h a ty n f) : a < h.size := by obtain ⟨c, A, -⟩ := A; exact A.lt
theorem AV.ext (A : AV Z h a ty n f) (E : Ext h h') : AV Z h' a ty n f := by obtain ⟨c, A, r⟩ := A; exact ⟨c, A.ext E, r⟩
theorem AV.other (A : AV Z h b ty n f) (W : Wr h h' a sl v) (q : b ≠ a) : AV Z h' b ty n f := by obtain ⟨c, A, r⟩ := A; exact ⟨c, A.other W q, r⟩
theorem AV.keep {ws : List Addr} (A : AV Z h a ty n f) (K : Keep h h' ws) (q : a ∉ ws) : AV Z h' a ty n f := by obtain ⟨c, A, r⟩ := A; exact ⟨c, ⟨K.2.1 a c A.1 q, A.2⟩, r⟩
theorem AV.new {k : ClassId} {z : Int32} (A : Arr Z h a (newA k ty z) ty) (hz : z.toNatClampNeg = n) (hf : fits ty (defaultValue ty) = true) : AV Z h a ty n (fun _ => defaultValue ty) := ⟨_, A, by rw [sz_new]; exact hz, fun j hj => ⟨by simp [newA, hz, hj], hf⟩⟩
theorem AV.set (A : AV Z h a ty n f) (W : Wr h h' a sl v) (hv : fits ty v = true) : AV Z h' a ty n (own_upd f sl v) := by
  obtain ⟨c, A, S, H⟩ := A
  refine ⟨_, A.same W, by rw [sz_set]; exact S, fun j hj => ?_⟩
  by_cases e : j = sl
  · subst e
    exact ⟨by simp [Cell.setSlot, own_upd, S, hj], by simp [own_upd, hv]⟩
  · have e2 : (c.setSlot sl v).slots[j]? = c.slots[j]? := Array.getElem?_setIfInBounds_ne (Ne.symm e)
    exact ⟨by rw [e2, own_upd, if_neg e]; exact (H j hj).1, by rw [own_upd, if_neg e]; exact (H j hj).2⟩
theorem AV.at (A : AV Z h a ty n f) {j : Int32} {k : Nat} (h0 : ¬ j < 0) (hj : j.toNatClampNeg = k) (hk : k < n) : ∃ c : Cell, Arr Z h a c ty ∧ ¬ (j < 0 ∨ c.slots.size ≤ j.toNatClampNeg) ∧ c.slots[j.toNatClampNeg]? = some (f k) := by
  obtain ⟨c, A, S, H⟩ := A
  exact ⟨c, A, fun q => q.elim h0 (fun r => by omega), by rw [hj]; exact (H k hk).1⟩
theorem AV.len (A : AV Z h a ty n f) : ∃ c : Cell, Arr Z h a c ty ∧ c.slots.size.toInt32 = n.toInt32 := by
  obtain ⟨c, A, S, H⟩ := A
  exact ⟨c, A, by rw [S]⟩
theorem AV.congr (A : AV Z h a ty n f) {g : Nat → Value} (e : ∀ j, j < n → f j = g j) : AV Z h a ty n g := by
  obtain ⟨c, A, S, H⟩ := A
  exact ⟨c, A, S, fun j hj => by rw [← e j hj]; exact H j hj⟩
theorem AV.fit (A : AV Z h a ty n f) {j : Nat} (hj : j < n) : fits ty (f j) = true := by
  obtain ⟨c, A, S, H⟩ := A
  exact (H j hj).2
end AVs
theorem own_notin1 {a b : Addr} (h : a ≠ b) : a ∉ [b] := fun q => h (List.mem_singleton.mp q)
theorem own_notin2 {a b c : Addr} (h : a ≠ b) (h2 : a ≠ c) : a ∉ [b, c] := fun q => by
  rcases List.mem_cons.mp q with r | r
  · exact h r
  · exact own_notin1 h2 r
theorem own_notin0 {a : Addr} : a ∉ ([] : List Addr) := nofun
theorem own_trans0 {ws : List Addr} {n : Nat} : ∀ x ∈ ([] : List Addr), x ∈ ws ∨ n ≤ x := nofun
theorem own_trans1 {ws : List Addr} {n : Nat} {a : Addr} (h : a ∈ ws ∨ n ≤ a) : ∀ x ∈ [a], x ∈ ws ∨ n ≤ x := fun x q => by cases List.mem_singleton.mp q; exact h
theorem own_trans2 {ws : List Addr} {n : Nat} {a b : Addr} (h : a ∈ ws ∨ n ≤ a) (h2 : b ∈ ws ∨ n ≤ b) : ∀ x ∈ [a, b], x ∈ ws ∨ n ≤ x := fun x q => by
  rcases List.mem_cons.mp q with r | r
  · cases r; exact h
  · cases List.mem_singleton.mp r; exact h2
def own_set {α : Type} (f : Nat → α) (k : Nat) (v : α) : Nat → α := fun j => if j = k then v else f j
section AVt
variable {Z : State} {h h' : Heap} {a : Addr} {n sl : Nat}
theorem AV.setI {g : Nat → Int32} {v : Int32} (A : AV Z h a .int n (fun j => .int (g j))) (W : Wr h h' a sl (.int v)) : AV Z h' a .int n (fun j => .int (own_set g sl v j)) := (A.set W rfl).congr (fun j _ => by simp only [own_upd, own_set]; split <;> rfl)
theorem AV.setJ {g : Nat → Int64} {v : Int64} (A : AV Z h a .long n (fun j => .long (g j))) (W : Wr h h' a sl (.long v)) : AV Z h' a .long n (fun j => .long (own_set g sl v j)) := (A.set W rfl).congr (fun j _ => by simp only [own_upd, own_set]; split <;> rfl)
end AVt
theorem own_notin3 {a b c d : Addr} (h : a ≠ b) (h2 : a ≠ c) (h3 : a ≠ d) : a ∉ [b, c, d] := fun q => by
  rcases List.mem_cons.mp q with r | r
  · exact h r
  · exact own_notin2 h2 h3 r
theorem own_trans3 {ws : List Addr} {n : Nat} {a b c : Addr} (h : a ∈ ws ∨ n ≤ a) (h2 : b ∈ ws ∨ n ≤ b) (h3 : c ∈ ws ∨ n ≤ c) : ∀ x ∈ [a, b, c], x ∈ ws ∨ n ≤ x := fun x q => by
  rcases List.mem_cons.mp q with r | r
  · cases r; exact h
  · exact own_trans2 h2 h3 x r
/-! plain facts on bits, for the encoding -/
def own_min (a b : Int32) : Int32 := if b < a then b else a
def own_max (a b : Int32) : Int32 := if a < b then b else a
def own_ush32 (x k : Int32) : Int32 := (x.toUInt32 >>> (k &&& 31).toUInt32).toInt32
def own_ush (x : Int64) (k : Int32) : Int64 := (x.toUInt64 >>> (k &&& 0x3f).toInt64.toUInt64).toInt64
def own_shl (x : Int64) (k : Int32) : Int64 := x <<< (k &&& 0x3f).toInt64
def own_n5 (n i : Int32) : Int32 := n - own_ush32 i (1 : Int32)
def own_n4 (n i : Int32) : Int32 := if i < (4 : Int32) then own_n5 n i else own_n5 (n + (-2 : Int32)) (own_ush32 i (2 : Int32))
def own_n3 (n i : Int32) : Int32 := if i < (16 : Int32) then own_n4 n i else own_n4 (n + (-4 : Int32)) (own_ush32 i (4 : Int32))
def own_n2 (n i : Int32) : Int32 := if i < (256 : Int32) then own_n3 n i else own_n3 (n + (-8 : Int32)) (own_ush32 i (8 : Int32))
def own_n1 (n i : Int32) : Int32 := if i < (65536 : Int32) then own_n2 n i else own_n2 (n + (-16 : Int32)) (own_ush32 i (16 : Int32))
def own_inlz (x : Int32) : Int32 := if (0 : Int32) < x then own_n1 (31 : Int32) x else if x = (0 : Int32) then (32 : Int32) else (0 : Int32)
def own_lnlz (q : Int64) : Int32 := if (own_ush q (32 : Int32)).toInt32 = (0 : Int32) then (32 : Int32) + own_inlz q.toInt32 else own_inlz (own_ush q (32 : Int32)).toInt32
def own_bits (lo hi : Int32) : Int32 := (64 : Int32) - own_lnlz (hi.toInt64 - lo.toInt64)
def own_mask (b : Int32) : Int64 := if b = (0 : Int32) then (0 : Int64) else own_ush (-1 : Int64) ((64 : Int32) - b)
theorem own_ltI {a b : Int32} : a < b ↔ a.toInt < b.toInt := Int32.lt_iff_toInt_lt
theorem own_ush32_at (i k : Int32) (n : Nat) (hn : n < 32) (hk : ((k &&& 31).toUInt32 % 32).toBitVec.toNat = n) (h : 0 ≤ i.toInt) : (own_ush32 i k).toInt = i.toInt / 2 ^ n ∧ 0 ≤ (own_ush32 i k).toInt := by
  have e : (own_ush32 i k).toBitVec = i.toBitVec >>> n := by
    show i.toBitVec >>> ((k &&& 31).toUInt32 % 32).toBitVec = _
    rw [BitVec.ushiftRight_eq', hk]
  have hi : i.toInt = i.toBitVec.toNat := by
    have : i.toBitVec.toInt = i.toInt := rfl
    rw [BitVec.toInt_eq_toNat_cond] at this
    have hl := i.toBitVec.isLt
    split at this <;> omega
  have lt : i.toBitVec.toNat < 2 ^ 31 := by
    have := Int32.toInt_lt i
    omega
  have en : (own_ush32 i k).toBitVec.toNat = i.toBitVec.toNat / 2 ^ n := by rw [e, BitVec.toNat_ushiftRight, Nat.shiftRight_eq_div_pow]
  have le : i.toBitVec.toNat / 2 ^ n ≤ i.toBitVec.toNat := Nat.div_le_self _ _
  have hr : (own_ush32 i k).toInt = ((i.toBitVec.toNat / 2 ^ n : Nat) : Int) := by
    show (own_ush32 i k).toBitVec.toInt = _
    rw [BitVec.toInt_eq_toNat_cond, en]
    split <;> omega
  rw [hr, hi]
  exact ⟨by simp, by omega⟩
theorem own_n5_b (x : Int) (n i : Int32) (m : Nat) (hm : m ≤ 30) (hn : n.toInt = 31 - m) (hi : i.toInt = x / 2 ^ m) (h4 : i.toInt < 4) (h0 : 0 ≤ i.toInt) : ∃ r : Nat, (own_n5 n i).toInt = r ∧ r ≤ 31 ∧ x < 2 ^ (32 - r) := by
  have u := (own_ush32_at i (1 : Int32) 1 (by decide) (by decide) h0).1
  have s := c_isub n (own_ush32 i (1 : Int32))
  have b1 := Int32.le_toInt (own_n5 n i)
  have b2 := Int32.toInt_lt (own_n5 n i)
  have p : (0 : Int) < 2 ^ m := Int.pow_pos (by decide)
  rw [own_n5] at *
  by_cases h : i.toInt < 2
  · refine ⟨31 - m, by omega, by omega, ?_⟩
    rw [show 32 - (31 - m) = m + 1 by omega, Int.pow_succ]
    rw [hi] at h
    have := (Int.ediv_lt_iff_lt_mul p).mp h
    omega
  · refine ⟨30 - m, by omega, by omega, ?_⟩
    rw [show 32 - (30 - m) = m + 2 by omega, Int.pow_succ, Int.pow_succ]
    rw [hi] at h4
    have := (Int.ediv_lt_iff_lt_mul p).mp h4
    omega
theorem own_step_b (x : Int) (n i k c : Int32) (m d : Nat) (hd : d < 32) (hk : ((k &&& 31).toUInt32 % 32).toBitVec.toNat = d) (hc : c.toInt = -d) (hm : m + d ≤ 31) (hn : n.toInt = 31 - m) (hi : i.toInt = x / 2 ^ m) (h0 : 0 ≤ i.toInt) (B : Int) (hB : i.toInt < B * 2 ^ d) :
    (n + c).toInt = 31 - ((m + d : Nat) : Int) ∧ (own_ush32 i k).toInt = x / 2 ^ (m + d) ∧ 0 ≤ (own_ush32 i k).toInt ∧ (own_ush32 i k).toInt < B := by
  obtain ⟨u, u0⟩ := own_ush32_at i k d hd hk h0
  have s := c_iadd n c
  have b1 := Int32.le_toInt (n + c)
  have b2 := Int32.toInt_lt (n + c)
  refine ⟨by omega, ?_, u0, ?_⟩
  · rw [u, hi, Int.ediv_ediv_of_nonneg (Int.pow_nonneg (by decide)), Int.pow_add]
  · rw [u]; exact (Int.ediv_lt_iff_lt_mul (Int.pow_pos (by decide))).mpr hB
theorem own_n4_b (x : Int) (n i : Int32) (m : Nat) (hm : m ≤ 28) (hn : n.toInt = 31 - m) (hi : i.toInt = x / 2 ^ m) (h4 : i.toInt < 16) (h0 : 0 ≤ i.toInt) : ∃ r : Nat, (own_n4 n i).toInt = r ∧ r ≤ 31 ∧ x < 2 ^ (32 - r) := by
  by_cases h : i < (4 : Int32)
  · rw [own_n4, if_pos h]
    rw [own_ltI] at h
    exact own_n5_b x n i m (by omega) hn hi h h0
  · rw [own_n4, if_neg h]
    obtain ⟨a, b, c, d⟩ := own_step_b x n i (2 : Int32) (-2 : Int32) m 2 (by decide) (by decide) (by decide) (by omega) hn hi h0 4 (by omega)
    exact own_n5_b x _ _ (m + 2) (by omega) a b d c
theorem own_n3_b (x : Int) (n i : Int32) (m : Nat) (hm : m ≤ 24) (hn : n.toInt = 31 - m) (hi : i.toInt = x / 2 ^ m) (h4 : i.toInt < 256) (h0 : 0 ≤ i.toInt) : ∃ r : Nat, (own_n3 n i).toInt = r ∧ r ≤ 31 ∧ x < 2 ^ (32 - r) := by
  by_cases h : i < (16 : Int32)
  · rw [own_n3, if_pos h]
    rw [own_ltI] at h
    exact own_n4_b x n i m (by omega) hn hi h h0
  · rw [own_n3, if_neg h]
    obtain ⟨a, b, c, d⟩ := own_step_b x n i (4 : Int32) (-4 : Int32) m 4 (by decide) (by decide) (by decide) (by omega) hn hi h0 16 (by omega)
    exact own_n4_b x _ _ (m + 4) (by omega) a b d c
theorem own_n2_b (x : Int) (n i : Int32) (m : Nat) (hm : m ≤ 16) (hn : n.toInt = 31 - m) (hi : i.toInt = x / 2 ^ m) (h4 : i.toInt < 65536) (h0 : 0 ≤ i.toInt) : ∃ r : Nat, (own_n2 n i).toInt = r ∧ r ≤ 31 ∧ x < 2 ^ (32 - r) := by
  by_cases h : i < (256 : Int32)
  · rw [own_n2, if_pos h]
    rw [own_ltI] at h
    exact own_n3_b x n i m (by omega) hn hi h h0
  · rw [own_n2, if_neg h]
    obtain ⟨a, b, c, d⟩ := own_step_b x n i (8 : Int32) (-8 : Int32) m 8 (by decide) (by decide) (by decide) (by omega) hn hi h0 256 (by omega)
    exact own_n3_b x _ _ (m + 8) (by omega) a b d c
theorem own_inlz_b (x : Int32) (hx : 0 < x.toInt) : ∃ r : Nat, (own_inlz x).toInt = r ∧ r ≤ 31 ∧ x.toInt < 2 ^ (32 - r) := by
  have p : (0 : Int32) < x := own_ltI.mpr hx
  rw [own_inlz, if_pos p]
  have t := Int32.toInt_lt x
  by_cases h : x < (65536 : Int32)
  · rw [own_n1, if_pos h]
    rw [own_ltI] at h
    exact own_n2_b x.toInt _ x 0 (by omega) rfl (by simp) h (by omega)
  · rw [own_n1, if_neg h]
    obtain ⟨a, b, c, d⟩ := own_step_b x.toInt (31 : Int32) x (16 : Int32) (-16 : Int32) 0 16 (by decide) (by decide) (by decide) (by omega) rfl (by simp) (by omega) 65536 (by omega)
    exact own_n2_b x.toInt _ _ (0 + 16) (by omega) a b d c
theorem own_amt : ∀ n : Fin 64, (((Int32.ofNat n.1) &&& 0x3f).toInt64.toUInt64 % 64).toBitVec.toNat = n.1 ∧ (((Int32.ofNat n.1) &&& 0x3f).toInt64.toBitVec.smod 64).toNat = n.1 := by decide +kernel
theorem own_ofNat (k : Int32) (n : Nat) (h : k.toInt = n) : k = Int32.ofNat n := by
  rw [← Int32.toInt_inj, h]
  have := Int32.toInt_lt k
  rw [Int32.toInt_ofNat_of_lt (by omega)]
theorem own_ush_bv (x : Int64) (k : Int32) (n : Nat) (h : k.toInt = n) (hn : n < 64) : (own_ush x k).toBitVec = x.toBitVec >>> n := by
  have e := own_ofNat k n h
  subst e
  show x.toBitVec >>> (((Int32.ofNat n) &&& 0x3f).toInt64.toUInt64 % 64).toBitVec = _
  rw [BitVec.ushiftRight_eq', (own_amt ⟨n, hn⟩).1]
theorem own_shl_bv (x : Int64) (k : Int32) (n : Nat) (h : k.toInt = n) (hn : n < 64) : (own_shl x k).toBitVec = x.toBitVec <<< n := by
  have e := own_ofNat k n h
  subst e
  show x.toBitVec <<< (((Int32.ofNat n) &&& 0x3f).toInt64.toBitVec.smod 64) = _
  rw [BitVec.shiftLeft_eq', (own_amt ⟨n, hn⟩).2]
theorem own_shl_zero (k : Int32) : own_shl (0 : Int64) k = 0 := by
  apply Int64.toBitVec_inj.mp
  show (0 : BitVec 64) <<< ((k &&& 0x3f).toInt64.toBitVec.smod 64) = 0
  simp
theorem own_toNat (x : Int64) (h : 0 ≤ x.toInt) : x.toInt = x.toBitVec.toNat := by
  have : x.toBitVec.toInt = x.toInt := rfl
  rw [BitVec.toInt_eq_toNat_cond] at this
  have hl := x.toBitVec.isLt
  split at this <;> omega
theorem own_hi0 (q : Int64) (h0 : 0 ≤ q.toInt) (h1 : q.toInt < 4294967296) : (own_ush q (32 : Int32)).toInt32 = (0 : Int32) := by
  have qn := own_toNat q h0
  have e := own_ush_bv q (32 : Int32) 32 rfl (by decide)
  have e2 : (own_ush q (32 : Int32)).toBitVec.toNat = 0 := by
    rw [e, BitVec.toNat_ushiftRight, Nat.shiftRight_eq_div_pow]
    apply Nat.div_eq_of_lt
    omega
  have e3 : own_ush q (32 : Int32) = 0 := Int64.toBitVec_inj.mp (BitVec.eq_of_toNat_eq e2)
  rw [e3]; rfl
theorem own_64 (i : Int32) (r : Nat) (h : i.toInt = r) (hr : r ≤ 32) : ((64 : Int32) - ((32 : Int32) + i)).toInt = ((32 - r : Nat) : Int) := by
  have f1 := c_iadd (32 : Int32) i
  have f2 := Int32.le_toInt ((32 : Int32) + i)
  have f3 := Int32.toInt_lt ((32 : Int32) + i)
  have f4 := c_isub (64 : Int32) ((32 : Int32) + i)
  have f5 := Int32.le_toInt ((64 : Int32) - ((32 : Int32) + i))
  have f6 := Int32.toInt_lt ((64 : Int32) - ((32 : Int32) + i))
  have f7 : (32 : Int32).toInt = 32 := rfl
  have f8 : (64 : Int32).toInt = 64 := rfl
  omega
theorem own_bits_q (q : Int64) (h0 : 0 ≤ q.toInt) (h1 : q.toInt < 4294967296) : ∃ b : Nat, ((64 : Int32) - own_lnlz q).toInt = b ∧ b ≤ 32 ∧ q.toInt < 2 ^ b := by
  have L : own_lnlz q = (32 : Int32) + own_inlz q.toInt32 := by rw [own_lnlz, if_pos (own_hi0 q h0 h1)]
  have w := c_l2i q
  have w1 := Int32.le_toInt q.toInt32
  have w2 := Int32.toInt_lt q.toInt32
  rw [L]
  by_cases hp : 0 < q.toInt32.toInt
  · obtain ⟨r, r1, r2, r3⟩ := own_inlz_b q.toInt32 hp
    refine ⟨32 - r, own_64 _ r r1 (by omega), by omega, ?_⟩
    have : q.toInt32.toInt = q.toInt := by omega
    rw [← this]
    exact r3
  · have n0 : ¬ (0 : Int32) < q.toInt32 := fun c => hp (own_ltI.mp c)
    by_cases he : q.toInt32 = (0 : Int32)
    · have i : own_inlz q.toInt32 = (32 : Int32) := by rw [own_inlz, if_neg n0, if_pos he]
      have e0 : q.toInt32.toInt = 0 := by rw [he]; rfl
      rw [i]
      exact ⟨0, own_64 _ 32 rfl (by omega), by omega, by omega⟩
    · have i : own_inlz q.toInt32 = (0 : Int32) := by rw [own_inlz, if_neg n0, if_neg he]
      rw [i]
      exact ⟨32, own_64 _ 0 rfl (by omega), by omega, by omega⟩
theorem own_rng (lo hi : Int32) (h : lo.toInt ≤ hi.toInt) : (hi.toInt64 - lo.toInt64).toInt = hi.toInt - lo.toInt ∧ hi.toInt - lo.toInt < 4294967296 := by
  have a1 := Int32.le_toInt lo
  have a2 := Int32.toInt_lt hi
  have s := c_lsub hi.toInt64 lo.toInt64
  have s1 := Int64.le_toInt (hi.toInt64 - lo.toInt64)
  have s2 := Int64.toInt_lt (hi.toInt64 - lo.toInt64)
  rw [c_i2l, c_i2l] at s
  omega
/-- the bits of a range of values -/
theorem own_bits_b (lo hi : Int32) (h : lo.toInt ≤ hi.toInt) : ∃ b : Nat, (own_bits lo hi).toInt = b ∧ b ≤ 32 ∧ hi.toInt - lo.toInt < 2 ^ b := by
  obtain ⟨d, l⟩ := own_rng lo hi h
  rw [← d]
  exact own_bits_q _ (by omega) (by omega)
def own_lo (x : BitVec 64) (n : Nat) : Prop := ∀ i, n ≤ i → x.getLsbD i = false
def own_hi (x : BitVec 64) (n : Nat) : Prop := ∀ i, i < n → x.getLsbD i = false
theorem own_lo_of (x : Int64) (n : Nat) (h0 : 0 ≤ x.toInt) (h : x.toInt < 2 ^ n) : own_lo x.toBitVec n := fun i hi => by
  have e := own_toNat x h0
  have l : x.toBitVec.toNat < 2 ^ n := by
    have : ((x.toBitVec.toNat : Nat) : Int) < ((2 ^ n : Nat) : Int) := by rw [← e]; simpa using h
    exact Int.ofNat_lt.mp this
  rw [BitVec.getLsbD]
  exact Nat.testBit_lt_two_pow (Nat.lt_of_lt_of_le l (Nat.pow_le_pow_right (by decide) hi))
theorem own_mask_bit : ∀ b : Fin 33, b.1 ≠ 0 → ∀ i : Fin 64, (own_ush (-1 : Int64) ((64 : Int32) - Int32.ofNat b.1)).toBitVec.getLsbD i.1 = decide (i.1 < b.1) := by decide +kernel
/-- a field read back out of a word -/
theorem own_extract (K d : Int64) (k bb : Int32) (s b : Nat) (hb : bb.toInt = b) (hk : k.toInt = s) (hb32 : b ≤ 32) (hs : s + b ≤ 64) (hd : own_lo d.toBitVec b) (hK : ∀ i, i < b → K.toBitVec.getLsbD (s + i) = d.toBitVec.getLsbD i) : own_ush K k &&& own_mask bb = d := by
  have e := own_ofNat bb b hb
  subst e
  apply Int64.toBitVec_inj.mp
  rw [Int64.toBitVec_and]
  apply BitVec.eq_of_getLsbD_eq
  intro i hi
  rw [BitVec.getLsbD_and]
  by_cases b0 : b = 0
  · subst b0
    have m : own_mask (Int32.ofNat 0) = 0 := by decide
    rw [m, hd i (by omega)]
    simp
  · have ne : ¬ Int32.ofNat b = (0 : Int32) := fun q => by
      have : (Int32.ofNat b).toInt = (0 : Int32).toInt := by rw [q]
      rw [hb] at this
      have z : (0 : Int32).toInt = 0 := rfl
      omega
    rw [own_mask, if_neg ne, own_mask_bit ⟨b, by omega⟩ b0 ⟨i, hi⟩, own_ush_bv K k s hk (by omega), BitVec.getLsbD_ushiftRight]
    by_cases h : i < b
    · rw [hK i h]; simp [h]
    · rw [hd i (by omega)]; simp [h]
theorem own_shl_hi (d : Int64) (k : Int32) (s b : Nat) (hk : k.toInt = s) (hs : s + b ≤ 64) (hd : own_lo d.toBitVec b) : own_hi (own_shl d k).toBitVec s ∧ own_lo (own_shl d k).toBitVec (s + b) ∧ ∀ i, i < b → (own_shl d k).toBitVec.getLsbD (s + i) = d.toBitVec.getLsbD i := by
  by_cases b0 : b = 0
  · subst b0
    have z : d = 0 := by
      apply Int64.toBitVec_inj.mp
      apply BitVec.eq_of_getLsbD_eq
      intro i hi
      rw [hd i (by omega)]
      simp
    rw [z, own_shl_zero]
    exact ⟨fun i _ => by simp, fun i _ => by simp, fun i h => by omega⟩
  · rw [own_shl_bv d k s hk (by omega)]
    refine ⟨fun i hi => by simp [hi], fun i hi => ?_, fun i hi => ?_⟩
    · rw [BitVec.getLsbD_shiftLeft, hd (i - s) (by omega)]; simp
    · rw [BitVec.getLsbD_shiftLeft]
      have h1 : decide (s + i < 64) = true := by simp; omega
      have h2 : decide (s + i < s) = false := by simp
      rw [h1, h2, show s + i - s = i by omega]; simp
def own_fl (f u b : Int32) : Int32 := if (64 : Int32) < (u + b) then (f + (1 : Int32)) else f
def own_us (u b : Int32) : Int32 := if (64 : Int32) < (u + b) then (0 : Int32) else u
def own_F (lo hi : Nat → Int32) : Nat → Int32 × Int32
  | 0 => ((0 : Int32), (0 : Int32))
  | j + 1 => (own_fl (own_F lo hi j).1 (own_F lo hi j).2 (own_bits (lo j) (hi j)), (own_us (own_F lo hi j).2 (own_bits (lo j) (hi j))) + (own_bits (lo j) (hi j)))
def own_wd (lo hi : Nat → Int32) (j : Nat) : Int32 := (own_F lo hi (j + 1)).1
def own_sf (lo hi : Nat → Int32) (j : Nat) : Int32 := ((64 : Int32) - own_us (own_F lo hi j).2 (own_bits (lo j) (hi j))) - (own_bits (lo j) (hi j))
def own_mk (lo hi : Nat → Int32) (j : Nat) : Int64 := own_mask (own_bits (lo j) (hi j))
theorem own_three {α : Type} (f g : Nat → α) : ∀ j, j < 3 → (own_set (own_set (own_set g 0 (f 0)) 1 (f 1)) 2 (f 2)) j = f j := by
  intro j hj
  have c : j = 0 ∨ j = 1 ∨ j = 2 := by omega
  rcases c with rfl | rfl | rfl <;> rfl
theorem own_ix (p x : Int32) (o k N : Nat) (hp : p.toInt = o) (hx : x.toInt = k) (h : o + k < N) (hN : N ≤ 8) : ¬ (p + x) < 0 ∧ (p + x).toNatClampNeg = o + k := by
  have q := c_iadd p x
  have b1 := Int32.le_toInt (p + x)
  have b2 := Int32.toInt_lt (p + x)
  have z : (0 : Int32).toInt = 0 := rfl
  have e : (p + x).toInt = ((o + k : Nat) : Int) := by omega
  exact ⟨by rw [Int32.lt_iff_toInt_lt]; omega, by simp only [Int32.toNatClampNeg]; omega⟩
def own_or (f : Nat → Int64) (k : Nat) (v : Int64) : Nat → Int64 := own_set f k (f k ||| v)
def own_dd (lo val : Nat → Int32) (j : Nat) : Int64 := (val j).toInt64 - (lo j).toInt64
def own_zero (f : Nat → Int64) (o nw : Nat) : Nat → Int64 := if nw = 1 then own_set f o (0 : Int64) else own_set (own_set f o (0 : Int64)) (o + 1) (0 : Int64)
def own_enc (f : Nat → Int64) (o nw : Nat) (wn : Nat → Nat) (lo val sh : Nat → Int32) : Nat → Int64 :=
  own_or (own_or (own_or (own_zero f o nw) (o + wn 0) (own_shl (own_dd lo val 0) (sh 0))) (o + wn 1) (own_shl (own_dd lo val 1) (sh 1))) (o + wn 2) (own_shl (own_dd lo val 2) (sh 2))
def own_dec (f : Nat → Int64) (o : Nat) (wn : Nat → Nat) (lo sh : Nat → Int32) (mk : Nat → Int64) (j : Nat) : Int32 := ((own_ush (f (o + wn j)) (sh j) &&& mk j) + (lo j).toInt64).toInt32
theorem own_lt_of {a b : Int32} {m n : Int} (h1 : a.toInt = m) (h2 : b.toInt = n) (h : m < n) : a < b := by rw [Int32.lt_iff_toInt_lt, h1, h2]; exact h
theorem own_nlt_of {a b : Int32} {m n : Int} (h1 : a.toInt = m) (h2 : b.toInt = n) (h : n ≤ m) : ¬ a < b := by rw [Int32.lt_iff_toInt_lt, h1, h2]; exact Int.not_lt.mpr h
def own_wn (w2 : Nat) (j : Nat) : Nat := if j = 2 then w2 else 0
theorem own_orb (a b : Int64) (i : Nat) : (a ||| b).toBitVec.getLsbD i = (a.toBitVec.getLsbD i || b.toBitVec.getLsbD i) := by rw [Int64.toBitVec_or, BitVec.getLsbD_or]
theorem own_zb (i : Nat) : (0 : Int64).toBitVec.getLsbD i = false := by
  show (0#64).getLsbD i = false
  simp
theorem own_enc0 (f : Nat → Int64) (o : Nat) (lo val sh : Nat → Int32) : own_enc f o 1 (own_wn 0) lo val sh o = (((0 : Int64) ||| own_shl (own_dd lo val 0) (sh 0)) ||| own_shl (own_dd lo val 1) (sh 1)) ||| own_shl (own_dd lo val 2) (sh 2) := by
  simp [own_enc, own_or, own_set, own_zero, own_wn]
theorem own_enc1 (f : Nat → Int64) (o : Nat) (lo val sh : Nat → Int32) : own_enc f o 2 (own_wn 1) lo val sh o = ((0 : Int64) ||| own_shl (own_dd lo val 0) (sh 0)) ||| own_shl (own_dd lo val 1) (sh 1) := by
  simp [own_enc, own_or, own_set, own_zero, own_wn]
theorem own_enc2 (f : Nat → Int64) (o : Nat) (lo val sh : Nat → Int32) : own_enc f o 2 (own_wn 1) lo val sh (o + 1) = (0 : Int64) ||| own_shl (own_dd lo val 2) (sh 2) := by
  simp [own_enc, own_or, own_set, own_zero, own_wn]
theorem own_back (K : Int64) (lo val : Nat → Int32) (j : Nat) (h : K = own_dd lo val j) : (K + (lo j).toInt64).toInt32 = val j := by
  rw [h, own_dd, Int64.sub_add_cancel]; simp
theorem own_dec_enc (f : Nat → Int64) (o w2 : Nat) (lo val sh bb : Nat → Int32) (mk : Nat → Int64) (s b : Nat → Nat)
    (hs : ∀ j, j < 3 → (sh j).toInt = s j) (hb : ∀ j, j < 3 → (bb j).toInt = b j ∧ b j ≤ 32) (hm : ∀ j, j < 3 → mk j = own_mask (bb j)) (hd : ∀ j, j < 3 → own_lo (own_dd lo val j).toBitVec (b j))
    (L0 : s 0 + b 0 = 64) (L1 : s 1 + b 1 = s 0) (L2 : (w2 = 0 ∧ s 2 + b 2 = s 1) ∨ (w2 = 1 ∧ s 2 + b 2 = 64)) : ∀ j, j < 3 → own_dec (own_enc f o (w2 + 1) (own_wn w2) lo val sh) o (own_wn w2) lo sh mk j = val j := by
  have s2 : s 2 + b 2 ≤ 64 := by omega
  obtain ⟨h0, l0, t0⟩ := own_shl_hi (own_dd lo val 0) (sh 0) (s 0) (b 0) (hs 0 (by decide)) (by omega) (hd 0 (by decide))
  obtain ⟨h1, l1, t1⟩ := own_shl_hi (own_dd lo val 1) (sh 1) (s 1) (b 1) (hs 1 (by decide)) (by omega) (hd 1 (by decide))
  obtain ⟨h2, l2, t2⟩ := own_shl_hi (own_dd lo val 2) (sh 2) (s 2) (b 2) (hs 2 (by decide)) s2 (hd 2 (by decide))
  intro j hj
  have c : j = 0 ∨ j = 1 ∨ j = 2 := by omega
  rw [own_dec]
  apply own_back
  rw [hm j hj]
  rcases L2 with ⟨rfl, L2⟩ | ⟨rfl, L2⟩
  · rw [show o + own_wn 0 j = o by simp [own_wn], own_enc0]
    rcases c with rfl | rfl | rfl
    · refine own_extract _ _ _ _ (s 0) (b 0) (hb 0 (by decide)).1 (hs 0 (by decide)) (hb 0 (by decide)).2 (by omega) (hd 0 (by decide)) fun i hi => ?_
      rw [own_orb, own_orb, own_orb, own_zb, t0 i hi, l1 _ (by omega), l2 _ (by omega)]; simp
    · refine own_extract _ _ _ _ (s 1) (b 1) (hb 1 (by decide)).1 (hs 1 (by decide)) (hb 1 (by decide)).2 (by omega) (hd 1 (by decide)) fun i hi => ?_
      rw [own_orb, own_orb, own_orb, own_zb, t1 i hi, h0 _ (by omega), l2 _ (by omega)]; simp
    · refine own_extract _ _ _ _ (s 2) (b 2) (hb 2 (by decide)).1 (hs 2 (by decide)) (hb 2 (by decide)).2 (by omega) (hd 2 (by decide)) fun i hi => ?_
      rw [own_orb, own_orb, own_orb, own_zb, t2 i hi, h0 _ (by omega), h1 _ (by omega)]; simp
  · rcases c with rfl | rfl | rfl
    · rw [show o + own_wn 1 0 = o by simp [own_wn], own_enc1]
      refine own_extract _ _ _ _ (s 0) (b 0) (hb 0 (by decide)).1 (hs 0 (by decide)) (hb 0 (by decide)).2 (by omega) (hd 0 (by decide)) fun i hi => ?_
      rw [own_orb, own_orb, own_zb, t0 i hi, l1 _ (by omega)]; simp
    · rw [show o + own_wn 1 1 = o by simp [own_wn], own_enc1]
      refine own_extract _ _ _ _ (s 1) (b 1) (hb 1 (by decide)).1 (hs 1 (by decide)) (hb 1 (by decide)).2 (by omega) (hd 1 (by decide)) fun i hi => ?_
      rw [own_orb, own_orb, own_zb, t1 i hi, h0 _ (by omega)]; simp
    · rw [show o + own_wn 1 2 = o + 1 by simp [own_wn], own_enc2]
      refine own_extract _ _ _ _ (s 2) (b 2) (hb 2 (by decide)).1 (hs 2 (by decide)) (hb 2 (by decide)).2 (by omega) (hd 2 (by decide)) fun i hi => ?_
      rw [own_orb, own_zb, t2 i hi]; simp
theorem own_us_at (u b : Int32) (un bn : Nat) (hu : u.toInt = un) (hb : b.toInt = bn) (h1 : un ≤ 64) (h2 : bn ≤ 32) : (u + b).toInt = ((un + bn : Nat) : Int) ∧ (((64 : Int32) < (u + b)) ↔ 64 < un + bn) := by
  have q := c_iadd u b
  have b1 := Int32.le_toInt (u + b)
  have b2 := Int32.toInt_lt (u + b)
  have e : (u + b).toInt = ((un + bn : Nat) : Int) := by omega
  have f : (64 : Int32).toInt = 64 := rfl
  exact ⟨e, by rw [Int32.lt_iff_toInt_lt, e, f]; omega⟩
theorem own_sf_at (u b : Int32) (un bn : Nat) (hu : u.toInt = un) (hb : b.toInt = bn) (h : un + bn ≤ 64) : (((64 : Int32) - u) - b).toInt = ((64 - un - bn : Nat) : Int) := by
  have q1 := c_isub (64 : Int32) u
  have q2 := c_isub ((64 : Int32) - u) b
  have b1 := Int32.le_toInt ((64 : Int32) - u)
  have b2 := Int32.toInt_lt ((64 : Int32) - u)
  have b3 := Int32.le_toInt (((64 : Int32) - u) - b)
  have b4 := Int32.toInt_lt (((64 : Int32) - u) - b)
  have f : (64 : Int32).toInt = 64 := rfl
  omega
/-- the layout of three variables -/
theorem own_lay (lo hi : Nat → Int32) (b : Nat → Nat) (hb : ∀ j, j < 3 → (own_bits (lo j) (hi j)).toInt = b j ∧ b j ≤ 32) :
    ∃ (w2 : Nat) (s : Nat → Nat), (∀ j, j < 3 → (own_sf lo hi j).toInt = s j) ∧ (∀ j, j < 3 → (own_wd lo hi j).toInt = own_wn w2 j ∧ own_wn w2 j < w2 + 1) ∧ ((own_F lo hi 3).1 + (1 : Int32)).toInt = ((w2 + 1 : Nat) : Int) ∧ s 0 + b 0 = 64 ∧ s 1 + b 1 = s 0 ∧ ((w2 = 0 ∧ s 2 + b 2 = s 1) ∨ (w2 = 1 ∧ s 2 + b 2 = 64)) := by
  obtain ⟨e0, m0⟩ := hb 0 (by decide)
  obtain ⟨e1, m1⟩ := hb 1 (by decide)
  obtain ⟨e2, m2⟩ := hb 2 (by decide)
  have z : (0 : Int32).toInt = ((0 : Nat) : Int) := rfl
  obtain ⟨a0, i0⟩ := own_us_at (0 : Int32) _ 0 (b 0) z e0 (by omega) m0
  have n0 : ¬ (64 : Int32) < ((0 : Int32) + own_bits (lo 0) (hi 0)) := fun c => by have := i0.mp c; omega
  have F1 : own_F lo hi 1 = ((0 : Int32), (0 : Int32) + own_bits (lo 0) (hi 0)) := by
    show (own_fl (0 : Int32) (0 : Int32) _, (own_us (0 : Int32) _) + _) = _
    rw [own_fl, own_us, if_neg n0, if_neg n0]
  obtain ⟨a1, i1⟩ := own_us_at ((0 : Int32) + own_bits (lo 0) (hi 0)) _ (0 + b 0) (b 1) a0 e1 (by omega) m1
  have n1 : ¬ (64 : Int32) < (((0 : Int32) + own_bits (lo 0) (hi 0)) + own_bits (lo 1) (hi 1)) := fun c => by have := i1.mp c; omega
  have F2 : own_F lo hi 2 = ((0 : Int32), ((0 : Int32) + own_bits (lo 0) (hi 0)) + own_bits (lo 1) (hi 1)) := by
    show (own_fl (own_F lo hi 1).1 (own_F lo hi 1).2 _, (own_us (own_F lo hi 1).2 _) + _) = _
    rw [F1, own_fl, own_us, if_neg n1, if_neg n1]
  obtain ⟨a2, i2⟩ := own_us_at (((0 : Int32) + own_bits (lo 0) (hi 0)) + own_bits (lo 1) (hi 1)) _ (0 + b 0 + b 1) (b 2) a1 e2 (by omega) m2
  have W0 : own_wd lo hi 0 = (0 : Int32) := by show (own_F lo hi 1).1 = _; rw [F1]
  have W1 : own_wd lo hi 1 = (0 : Int32) := by show (own_F lo hi 2).1 = _; rw [F2]
  have S0 : (own_sf lo hi 0).toInt = ((64 - 0 - b 0 : Nat) : Int) := by
    show (((64 : Int32) - own_us (0 : Int32) _) - _).toInt = _
    rw [own_us, if_neg n0]
    exact own_sf_at _ _ 0 (b 0) z e0 (by omega)
  have S1 : (own_sf lo hi 1).toInt = ((64 - (0 + b 0) - b 1 : Nat) : Int) := by
    show (((64 : Int32) - own_us (own_F lo hi 1).2 _) - _).toInt = _
    rw [F1, own_us, if_neg n1]
    exact own_sf_at _ _ (0 + b 0) (b 1) a0 e1 (by omega)
  by_cases c : (64 : Int32) < (((0 : Int32) + own_bits (lo 0) (hi 0)) + own_bits (lo 1) (hi 1)) + own_bits (lo 2) (hi 2)
  · have c' := i2.mp c
    have F3 : (own_F lo hi 3).1 = (0 : Int32) + (1 : Int32) := by
      show own_fl (own_F lo hi 2).1 (own_F lo hi 2).2 _ = _
      rw [F2, own_fl, if_pos c]
    have S2 : (own_sf lo hi 2).toInt = ((64 - 0 - b 2 : Nat) : Int) := by
      show (((64 : Int32) - own_us (own_F lo hi 2).2 _) - _).toInt = _
      rw [F2, own_us, if_pos c]
      exact own_sf_at _ _ 0 (b 2) z e2 (by omega)
    refine ⟨1, fun j => if j = 0 then 64 - 0 - b 0 else if j = 1 then 64 - (0 + b 0) - b 1 else 64 - 0 - b 2, fun j hj => ?_, fun j hj => ?_, by rw [F3]; rfl, by simp; omega, by simp; omega, Or.inr ⟨rfl, by simp; omega⟩⟩
    · have q : j = 0 ∨ j = 1 ∨ j = 2 := by omega
      rcases q with rfl | rfl | rfl
      · exact S0
      · exact S1
      · exact S2
    · have q : j = 0 ∨ j = 1 ∨ j = 2 := by omega
      rcases q with rfl | rfl | rfl
      · rw [W0]; exact ⟨rfl, by decide⟩
      · rw [W1]; exact ⟨rfl, by decide⟩
      · exact ⟨by show (own_F lo hi 3).1.toInt = _; rw [F3]; rfl, by decide⟩
  · have c' : ¬ 64 < 0 + b 0 + b 1 + b 2 := fun q => c (i2.mpr q)
    have F3 : (own_F lo hi 3).1 = (0 : Int32) := by
      show own_fl (own_F lo hi 2).1 (own_F lo hi 2).2 _ = _
      rw [F2, own_fl, if_neg c]
    have S2 : (own_sf lo hi 2).toInt = ((64 - (0 + b 0 + b 1) - b 2 : Nat) : Int) := by
      show (((64 : Int32) - own_us (own_F lo hi 2).2 _) - _).toInt = _
      rw [F2, own_us, if_neg c]
      exact own_sf_at _ _ (0 + b 0 + b 1) (b 2) a1 e2 (by omega)
    refine ⟨0, fun j => if j = 0 then 64 - 0 - b 0 else if j = 1 then 64 - (0 + b 0) - b 1 else 64 - (0 + b 0 + b 1) - b 2, fun j hj => ?_, fun j hj => ?_, by rw [F3]; rfl, by simp; omega, by simp; omega, Or.inl ⟨rfl, by simp; omega⟩⟩
    · have q : j = 0 ∨ j = 1 ∨ j = 2 := by omega
      rcases q with rfl | rfl | rfl
      · exact S0
      · exact S1
      · exact S2
    · have q : j = 0 ∨ j = 1 ∨ j = 2 := by omega
      rcases q with rfl | rfl | rfl
      · rw [W0]; exact ⟨rfl, by decide⟩
      · rw [W1]; exact ⟨rfl, by decide⟩
      · exact ⟨by show (own_F lo hi 3).1.toInt = _; rw [F3]; rfl, by decide⟩
def own_v3 {α : Type} (a b c : α) : Nat → α := fun j => if j = 0 then a else if j = 1 then b else c
theorem own_all3 {P : Nat → Prop} (h0 : P 0) (h1 : P 1) (h2 : P 2) : ∀ j, j < 3 → P j := fun j hj => by
  have q : j = 0 ∨ j = 1 ∨ j = 2 := by omega
  rcases q with rfl | rfl | rfl <;> assumption
theorem own_bits3 (lo hi : Nat → Int32) (h : ∀ j, j < 3 → (lo j).toInt ≤ (hi j).toInt) : ∃ b : Nat → Nat, ∀ j, j < 3 → (own_bits (lo j) (hi j)).toInt = b j ∧ b j ≤ 32 ∧ (hi j).toInt - (lo j).toInt < 2 ^ (b j) := by
  obtain ⟨b0, g0⟩ := own_bits_b (lo 0) (hi 0) (h 0 (by decide))
  obtain ⟨b1, g1⟩ := own_bits_b (lo 1) (hi 1) (h 1 (by decide))
  obtain ⟨b2, g2⟩ := own_bits_b (lo 2) (hi 2) (h 2 (by decide))
  exact ⟨own_v3 b0 b1 b2, own_all3 g0 g1 g2⟩
theorem own_fin3 (lo hi val : Nat → Int32) (h : ∀ j, j < 3 → (lo j).toInt ≤ (hi j).toInt) (hd : ∀ j, j < 3 → 0 ≤ (own_dd lo val j).toInt ∧ (own_dd lo val j).toInt ≤ (hi j).toInt - (lo j).toInt) :
    ∃ w2 : Nat, (w2 + 1 = 1 ∨ w2 + 1 = 2) ∧ ((own_F lo hi 3).1 + (1 : Int32)).toInt = ((w2 + 1 : Nat) : Int) ∧ (∀ j, j < 3 → (own_wd lo hi j).toInt = own_wn w2 j ∧ own_wn w2 j < w2 + 1) ∧ ∀ f o j, j < 3 → own_dec (own_enc f o (w2 + 1) (own_wn w2) lo val (own_sf lo hi)) o (own_wn w2) lo (own_sf lo hi) (own_mk lo hi) j = val j := by
  obtain ⟨b, hb⟩ := own_bits3 lo hi h
  obtain ⟨w2, s, hs, hw, hF, L0, L1, L2⟩ := own_lay lo hi b fun j hj => ⟨(hb j hj).1, (hb j hj).2.1⟩
  refine ⟨w2, by omega, hF, hw, fun f o => ?_⟩
  exact own_dec_enc f o w2 lo val (own_sf lo hi) (fun j => own_bits (lo j) (hi j)) (own_mk lo hi) s b hs (fun j hj => ⟨(hb j hj).1, (hb j hj).2.1⟩) (fun _ _ => rfl) (fun j hj => own_lo_of _ _ (hd j hj).1 (by have := (hb j hj).2.2; have := (hd j hj).2; omega)) L0 L1 L2
def own_lw (b : Int64) : Int32 := own_min b.toInt32 (own_ush b (32 : Int32)).toInt32
def own_hg (b : Int64) : Int32 := own_max b.toInt32 (own_ush b (32 : Int32)).toInt32
def own_sp (lo hi : Int32) : Int64 := (hi.toInt64 - lo.toInt64) + (1 : Int64)
def own_pk (lo hi x : Int32) : Int64 := ((x.toInt64 &&& (4294967295 : Int64)) - ((x.toInt64 &&& (4294967295 : Int64)) / own_sp lo hi) * own_sp lo hi)
def own_vl (lo hi x : Int32) : Int32 := (lo.toInt64 + own_pk lo hi x).toInt32
theorem own_lw_hg (b : Int64) : (own_lw b).toInt ≤ (own_hg b).toInt := by
  rw [own_lw, own_hg, own_min, own_max]
  split <;> split <;> simp only [Int32.lt_iff_toInt_lt] at * <;> omega
theorem own_sp_at (lo hi : Int32) (h : lo.toInt ≤ hi.toInt) : (own_sp lo hi).toInt = hi.toInt - lo.toInt + 1 := by
  obtain ⟨d, l⟩ := own_rng lo hi h
  have q := c_ladd (hi.toInt64 - lo.toInt64) (1 : Int64)
  have b1 := Int64.le_toInt (own_sp lo hi)
  have b2 := Int64.toInt_lt (own_sp lo hi)
  have o : (1 : Int64).toInt = 1 := by decide
  rw [own_sp] at *
  omega
theorem own_sp_ne (lo hi : Int32) (h : lo.toInt ≤ hi.toInt) : own_sp lo hi ≠ 0 := fun e => by
  have := own_sp_at lo hi h
  rw [e] at this
  have z : (0 : Int64).toInt = 0 := by decide
  omega
theorem own_pk_at (lo hi x : Int32) (h : lo.toInt ≤ hi.toInt) : 0 ≤ (own_pk lo hi x).toInt ∧ (own_pk lo hi x).toInt ≤ hi.toInt - lo.toInt := by
  have s := own_sp_at lo hi h
  have a := (c_andSL x.toInt64 (4294967295 : Int64)).2.2 (by decide)
  have r := (c_lrem (x.toInt64 &&& (4294967295 : Int64)) (own_sp lo hi) _ s).1 a
  rw [own_pk, r]
  have q1 := Int.emod_nonneg (x.toInt64 &&& (4294967295 : Int64)).toInt (show hi.toInt - lo.toInt + 1 ≠ 0 by omega)
  have q2 := Int.emod_lt_of_pos (x.toInt64 &&& (4294967295 : Int64)).toInt (show 0 < hi.toInt - lo.toInt + 1 by omega)
  omega
theorem own_vl_at (lo hi x : Int32) (h : lo.toInt ≤ hi.toInt) : (own_vl lo hi x).toInt = lo.toInt + (own_pk lo hi x).toInt ∧ ((own_vl lo hi x).toInt64 - lo.toInt64).toInt = (own_pk lo hi x).toInt := by
  obtain ⟨p1, p2⟩ := own_pk_at lo hi x h
  have a1 := Int32.le_toInt lo
  have a2 := Int32.toInt_lt hi
  have q := c_ladd lo.toInt64 (own_pk lo hi x)
  have b1 := Int64.le_toInt (lo.toInt64 + own_pk lo hi x)
  have b2 := Int64.toInt_lt (lo.toInt64 + own_pk lo hi x)
  rw [c_i2l] at q
  have n := c_l2i (lo.toInt64 + own_pk lo hi x)
  have n1 := Int32.le_toInt (own_vl lo hi x)
  have n2 := Int32.toInt_lt (own_vl lo hi x)
  have e : (own_vl lo hi x).toInt = lo.toInt + (own_pk lo hi x).toInt := by rw [own_vl] at *; omega
  refine ⟨e, ?_⟩
  have d := c_lsub (own_vl lo hi x).toInt64 lo.toInt64
  have d1 := Int64.le_toInt ((own_vl lo hi x).toInt64 - lo.toInt64)
  have d2 := Int64.toInt_lt ((own_vl lo hi x).toInt64 - lo.toInt64)
  rw [c_i2l, c_i2l, e] at d
  omega
/-! comparing two words that differ in one field -/
theorem own_flipN (n : Nat) (h : n < 2 ^ 63) : n ^^^ 2 ^ 63 = 2 ^ 63 + n := by
  apply Nat.eq_of_testBit_eq
  intro i
  rw [Nat.testBit_xor, Nat.testBit_two_pow]
  rcases Nat.lt_trichotomy i 63 with c | c | c
  · rw [Nat.testBit_two_pow_add_gt c]
    have : decide (63 = i) = false := by simp; omega
    rw [this]; simp
  · subst c
    rw [Nat.testBit_two_pow_add_eq]; simp
  · have a : n.testBit i = false := Nat.testBit_lt_two_pow (Nat.lt_of_lt_of_le h (Nat.pow_le_pow_right (by decide) (by omega)))
    have b : (2 ^ 63 + n).testBit i = false := Nat.testBit_lt_two_pow (Nat.lt_of_lt_of_le (show 2 ^ 63 + n < 2 ^ 64 by omega) (Nat.pow_le_pow_right (by decide) (by omega)))
    have d : decide (63 = i) = false := by simp; omega
    rw [a, b, d]; rfl
theorem own_flip (a : Int64) : (a ^^^ (-9223372036854775808 : Int64)).toInt = (a.toBitVec.toNat : Int) - 9223372036854775808 := by
  have e : (a ^^^ (-9223372036854775808 : Int64)).toBitVec.toNat = a.toBitVec.toNat ^^^ 2 ^ 63 := by
    rw [Int64.toBitVec_xor, BitVec.toNat_xor]; rfl
  have l := a.toBitVec.isLt
  show (a ^^^ (-9223372036854775808 : Int64)).toBitVec.toInt = _
  rw [BitVec.toInt_eq_toNat_cond, e]
  by_cases h : a.toBitVec.toNat < 2 ^ 63
  · rw [own_flipN _ h]
    split <;> omega
  · have m : a.toBitVec.toNat = (a.toBitVec.toNat - 2 ^ 63) ^^^ 2 ^ 63 := by rw [own_flipN _ (by omega)]; omega
    have f : a.toBitVec.toNat ^^^ 2 ^ 63 = a.toBitVec.toNat - 2 ^ 63 := by
      conv => lhs; rw [m]
      rw [Nat.xor_assoc, Nat.xor_self, Nat.xor_zero]
    rw [f]
    split <;> omega
def own_ucmp (a b : Int64) : Int32 := if (a ^^^ (-9223372036854775808 : Int64)) < (b ^^^ (-9223372036854775808 : Int64)) then (-1 : Int32) else if (a ^^^ (-9223372036854775808 : Int64)) = (b ^^^ (-9223372036854775808 : Int64)) then (0 : Int32) else (1 : Int32)
def own_icmp (x z : Int32) : Int32 := if x < z then (-1 : Int32) else if x = z then (0 : Int32) else (1 : Int32)
theorem own_ucmp_of (a b : Int64) (x z : Int32) (h1 : a.toBitVec.toNat < b.toBitVec.toNat ↔ x < z) (h2 : a = b ↔ x = z) : own_ucmp a b = own_icmp x z := by
  have f1 := own_flip a
  have f2 := own_flip b
  have k1 : ((a ^^^ (-9223372036854775808 : Int64)) < (b ^^^ (-9223372036854775808 : Int64))) ↔ x < z := by
    rw [← h1, Int64.lt_iff_toInt_lt, f1, f2]; omega
  have k2 : ((a ^^^ (-9223372036854775808 : Int64)) = (b ^^^ (-9223372036854775808 : Int64))) ↔ x = z := by
    rw [← h2, ← Int64.toInt_inj, f1, f2]
    constructor
    · intro q
      apply Int64.toBitVec_inj.mp
      apply BitVec.eq_of_toNat_eq
      omega
    · intro q; rw [q]
  simp only [own_ucmp, own_icmp, k1, k2]
theorem own_field (K d : BitVec 64) (s b : Nat) (hs : s + b ≤ 64) (hd : own_lo d b) (e : ∀ i, i < b → K.getLsbD (s + i) = d.getLsbD i) : K.toNat / 2 ^ s % 2 ^ b = d.toNat := by
  apply Nat.eq_of_testBit_eq
  intro i
  rw [Nat.testBit_mod_two_pow, Nat.testBit_div_two_pow]
  by_cases h : i < b
  · have := e i h
    rw [BitVec.getLsbD, BitVec.getLsbD] at this
    rw [Nat.add_comm i s, this]; simp [h]
  · have := hd i (by omega)
    rw [BitVec.getLsbD] at this
    rw [this]; simp [h]
theorem own_split3 (K s b : Nat) : K = (K / 2 ^ (s + b)) * 2 ^ (s + b) + (K / 2 ^ s % 2 ^ b) * 2 ^ s + K % 2 ^ s := by
  have a := Nat.div_add_mod K (2 ^ s)
  have c := Nat.div_add_mod (K / 2 ^ s) (2 ^ b)
  have d : K / 2 ^ (s + b) = K / 2 ^ s / 2 ^ b := by rw [Nat.pow_add, Nat.div_div_eq_div_mul]
  have f : (K / 2 ^ s / 2 ^ b) * 2 ^ (s + b) = (2 ^ b * (K / 2 ^ s / 2 ^ b)) * 2 ^ s := by
    rw [Nat.pow_add, ← Nat.mul_assoc, Nat.mul_comm (K / 2 ^ s / 2 ^ b) (2 ^ s), Nat.mul_assoc, Nat.mul_comm (2 ^ s), Nat.mul_comm (K / 2 ^ s / 2 ^ b)]
  rw [d, f, ← Nat.add_mul, c, Nat.mul_comm, a]
theorem own_word_cmp (K1 K3 d d' : Int64) (s b : Nat) (hs : s + b ≤ 64) (hd : own_lo d.toBitVec b) (hd' : own_lo d'.toBitVec b) (e1 : ∀ i, i < b → K1.toBitVec.getLsbD (s + i) = d.toBitVec.getLsbD i) (e3 : ∀ i, i < b → K3.toBitVec.getLsbD (s + i) = d'.toBitVec.getLsbD i)
    (out : ∀ i, (i < s ∨ s + b ≤ i) → K1.toBitVec.getLsbD i = K3.toBitVec.getLsbD i) : (K1.toBitVec.toNat < K3.toBitVec.toNat ↔ d.toBitVec.toNat < d'.toBitVec.toNat) ∧ (K1 = K3 ↔ d = d') := by
  have f1 := own_field _ _ s b hs hd e1
  have f3 := own_field _ _ s b hs hd' e3
  have hiq : K1.toBitVec.toNat / 2 ^ (s + b) = K3.toBitVec.toNat / 2 ^ (s + b) := by
    apply Nat.eq_of_testBit_eq
    intro i
    rw [Nat.testBit_div_two_pow, Nat.testBit_div_two_pow]
    have := out (i + (s + b)) (Or.inr (by omega))
    rw [BitVec.getLsbD, BitVec.getLsbD] at this
    exact this
  have loq : K1.toBitVec.toNat % 2 ^ s = K3.toBitVec.toNat % 2 ^ s := by
    apply Nat.eq_of_testBit_eq
    intro i
    rw [Nat.testBit_mod_two_pow, Nat.testBit_mod_two_pow]
    by_cases h : i < s
    · have := out i (Or.inl h)
      rw [BitVec.getLsbD, BitVec.getLsbD] at this
      rw [this]
    · simp [h]
  have g1 := own_split3 K1.toBitVec.toNat s b
  have g3 := own_split3 K3.toBitVec.toNat s b
  rw [f1, hiq, loq] at g1
  rw [f3] at g3
  have p : 0 < 2 ^ s := Nat.pow_pos (by decide)
  have m1 : d.toBitVec.toNat * 2 ^ s < d'.toBitVec.toNat * 2 ^ s ↔ d.toBitVec.toNat < d'.toBitVec.toNat := ⟨fun q => Nat.lt_of_mul_lt_mul_right q, fun q => Nat.mul_lt_mul_of_pos_right q p⟩
  have m2 : d = d' → d.toBitVec.toNat * 2 ^ s = d'.toBitVec.toNat * 2 ^ s := fun q => by rw [q]
  have m3 : K1 = K3 → d = d' := fun q => by
    apply Int64.toBitVec_inj.mp
    apply BitVec.eq_of_toNat_eq
    have w := own_field _ _ s b hs hd e1
    rw [q, f3] at w
    exact w.symm
  generalize K3.toBitVec.toNat / 2 ^ (s + b) * 2 ^ (s + b) = A at g1 g3
  generalize K3.toBitVec.toNat % 2 ^ s = B at g1 g3
  generalize d.toBitVec.toNat * 2 ^ s = P1 at g1 m1 m2
  generalize d'.toBitVec.toNat * 2 ^ s = P3 at g3 m1 m2
  refine ⟨?_, m3, fun q => ?_⟩
  · rw [← m1]; omega
  · apply Int64.toBitVec_inj.mp
    apply BitVec.eq_of_toNat_eq
    have := m2 q
    omega
theorem own_dd_nat (lo val : Nat → Int32) (j : Nat) (h : 0 ≤ (own_dd lo val j).toInt) : ((own_dd lo val j).toBitVec.toNat : Int) = (val j).toInt - (lo j).toInt := by
  have e := own_toNat _ h
  have s := c_lsub (val j).toInt64 (lo j).toInt64
  rw [c_i2l, c_i2l] at s
  have a1 := Int32.le_toInt (val j)
  have a2 := Int32.toInt_lt (val j)
  have a3 := Int32.le_toInt (lo j)
  have a4 := Int32.toInt_lt (lo j)
  have b1 := Int64.le_toInt (own_dd lo val j)
  have b2 := Int64.toInt_lt (own_dd lo val j)
  rw [own_dd] at *
  omega
/-- the two keys compare as the one value that differs -/
theorem own_keys (f f' : Nat → Int64) (o w2 k : Nat) (lo xv zv sh : Nat → Int32) (s b : Nat → Nat) (hk : k < 3)
    (hs : ∀ j, j < 3 → (sh j).toInt = s j) (hx : ∀ j, j < 3 → own_lo (own_dd lo xv j).toBitVec (b j) ∧ 0 ≤ (own_dd lo xv j).toInt) (hz : ∀ j, j < 3 → own_lo (own_dd lo zv j).toBitVec (b j) ∧ 0 ≤ (own_dd lo zv j).toInt)
    (L0 : s 0 + b 0 = 64) (L1 : s 1 + b 1 = s 0) (L2 : (w2 = 0 ∧ s 2 + b 2 = s 1) ∨ (w2 = 1 ∧ s 2 + b 2 = 64)) (same : ∀ j, j < 3 → j ≠ k → zv j = xv j) :
    let c0 := own_ucmp (own_enc f o (w2 + 1) (own_wn w2) lo xv sh o) (own_enc f' o (w2 + 1) (own_wn w2) lo zv sh o)
    let c1 := own_ucmp (own_enc f o (w2 + 1) (own_wn w2) lo xv sh (o + 1)) (own_enc f' o (w2 + 1) (own_wn w2) lo zv sh (o + 1))
    (w2 = 0 → c0 = own_icmp (xv k) (zv k)) ∧ (w2 = 1 → (c0 = 0 → c1 = own_icmp (xv k) (zv k)) ∧ (c0 ≠ 0 → c0 = own_icmp (xv k) (zv k))) := by
  have s2 : s 2 + b 2 ≤ 64 := by omega
  have sl : ∀ j, j < 3 → s j + b j ≤ 64 := fun j hj => by
    have q : j = 0 ∨ j = 1 ∨ j = 2 := by omega
    rcases q with rfl | rfl | rfl <;> omega
  have tx : ∀ j, j < 3 → _ := fun j hj => own_shl_hi (own_dd lo xv j) (sh j) (s j) (b j) (hs j hj) (sl j hj) (hx j hj).1
  have tz : ∀ j, j < 3 → _ := fun j hj => own_shl_hi (own_dd lo zv j) (sh j) (s j) (b j) (hs j hj) (sl j hj) (hz j hj).1
  have eq : ∀ j, j < 3 → j ≠ k → own_shl (own_dd lo zv j) (sh j) = own_shl (own_dd lo xv j) (sh j) := fun j hj hn => by rw [own_dd, own_dd, same j hj hn]
  have fin : ∀ K1 K3 : Int64, ((K1.toBitVec.toNat < K3.toBitVec.toNat ↔ (own_dd lo xv k).toBitVec.toNat < (own_dd lo zv k).toBitVec.toNat) ∧ (K1 = K3 ↔ own_dd lo xv k = own_dd lo zv k)) → own_ucmp K1 K3 = own_icmp (xv k) (zv k) := fun K1 K3 h => by
    have n1 := own_dd_nat lo xv k (hx k hk).2
    have n3 := own_dd_nat lo zv k (hz k hk).2
    refine own_ucmp_of K1 K3 (xv k) (zv k) ?_ ?_
    · rw [h.1, Int32.lt_iff_toInt_lt]; omega
    · rw [h.2, ← Int32.toInt_inj]
      constructor
      · intro q; rw [q] at n1; omega
      · intro q
        apply Int64.toBitVec_inj.mp
        apply BitVec.eq_of_toNat_eq
        omega
  have same0 : ∀ K : Int64, own_ucmp K K = 0 := fun K => by simp [own_ucmp, Int64.lt_irrefl]
  obtain ⟨x0h, x0l, x0t⟩ := tx 0 (by decide)
  obtain ⟨x1h, x1l, x1t⟩ := tx 1 (by decide)
  obtain ⟨x2h, x2l, x2t⟩ := tx 2 (by decide)
  obtain ⟨z0h, z0l, z0t⟩ := tz 0 (by decide)
  obtain ⟨z1h, z1l, z1t⟩ := tz 1 (by decide)
  obtain ⟨z2h, z2l, z2t⟩ := tz 2 (by decide)
  have q : k = 0 ∨ k = 1 ∨ k = 2 := by omega
  rcases L2 with ⟨rfl, L2⟩ | ⟨rfl, L2⟩
  · refine ⟨fun _ => ?_, fun c => absurd c (by decide)⟩
    apply fin
    rw [own_enc0, own_enc0]
    rcases q with rfl | rfl | rfl
    · rw [eq 1 (by decide) (by decide), eq 2 (by decide) (by decide)]
      refine own_word_cmp _ _ _ _ (s 0) (b 0) (by omega) (hx 0 hk).1 (hz 0 hk).1 (fun i hi => ?_) (fun i hi => ?_) (fun i hi => ?_)
      · rw [own_orb, own_orb, own_orb, own_zb, x0t i hi, x1l _ (by omega), x2l _ (by omega)]; simp
      · rw [own_orb, own_orb, own_orb, own_zb, z0t i hi, x1l _ (by omega), x2l _ (by omega)]; simp
      · rw [own_orb, own_orb, own_orb, own_orb, own_orb, own_orb]
        rcases hi with hi | hi
        · rw [x0h i hi, z0h i hi]
        · rw [x0l i hi, z0l i hi]
    · rw [eq 0 (by decide) (by decide), eq 2 (by decide) (by decide)]
      refine own_word_cmp _ _ _ _ (s 1) (b 1) (by omega) (hx 1 hk).1 (hz 1 hk).1 (fun i hi => ?_) (fun i hi => ?_) (fun i hi => ?_)
      · rw [own_orb, own_orb, own_orb, own_zb, x1t i hi, x0h _ (by omega), x2l _ (by omega)]; simp
      · rw [own_orb, own_orb, own_orb, own_zb, z1t i hi, x0h _ (by omega), x2l _ (by omega)]; simp
      · rw [own_orb, own_orb, own_orb, own_orb, own_orb, own_orb]
        rcases hi with hi | hi
        · rw [x1h i hi, z1h i hi]
        · rw [x1l i hi, z1l i hi]
    · rw [eq 0 (by decide) (by decide), eq 1 (by decide) (by decide)]
      refine own_word_cmp _ _ _ _ (s 2) (b 2) (by omega) (hx 2 hk).1 (hz 2 hk).1 (fun i hi => ?_) (fun i hi => ?_) (fun i hi => ?_)
      · rw [own_orb, own_orb, own_orb, own_zb, x2t i hi, x0h _ (by omega), x1h _ (by omega)]; simp
      · rw [own_orb, own_orb, own_orb, own_zb, z2t i hi, x0h _ (by omega), x1h _ (by omega)]; simp
      · rw [own_orb, own_orb, own_orb, own_orb, own_orb, own_orb]
        rcases hi with hi | hi
        · rw [x2h i hi, z2h i hi]
        · rw [x2l i hi, z2l i hi]
  · refine ⟨fun c => absurd c (by decide), fun _ => ?_⟩
    show (own_ucmp (own_enc f o 2 (own_wn 1) lo xv sh o) (own_enc f' o 2 (own_wn 1) lo zv sh o) = 0 → own_ucmp (own_enc f o 2 (own_wn 1) lo xv sh (o + 1)) (own_enc f' o 2 (own_wn 1) lo zv sh (o + 1)) = _) ∧ _
    rw [own_enc1, own_enc1, own_enc2, own_enc2]
    rcases q with rfl | rfl | rfl
    · rw [eq 1 (by decide) (by decide), eq 2 (by decide) (by decide)]
      have c := fin (((0 : Int64) ||| own_shl (own_dd lo xv 0) (sh 0)) ||| own_shl (own_dd lo xv 1) (sh 1)) (((0 : Int64) ||| own_shl (own_dd lo zv 0) (sh 0)) ||| own_shl (own_dd lo xv 1) (sh 1)) (by
        refine own_word_cmp _ _ _ _ (s 0) (b 0) (by omega) (hx 0 hk).1 (hz 0 hk).1 (fun i hi => ?_) (fun i hi => ?_) (fun i hi => ?_)
        · rw [own_orb, own_orb, own_zb, x0t i hi, x1l _ (by omega)]; simp
        · rw [own_orb, own_orb, own_zb, z0t i hi, x1l _ (by omega)]; simp
        · rw [own_orb, own_orb, own_orb, own_orb]
          rcases hi with hi | hi
          · rw [x0h i hi, z0h i hi]
          · rw [x0l i hi, z0l i hi])
      exact ⟨fun q => by rw [same0, ← c, q], fun _ => c⟩
    · rw [eq 0 (by decide) (by decide), eq 2 (by decide) (by decide)]
      have c := fin (((0 : Int64) ||| own_shl (own_dd lo xv 0) (sh 0)) ||| own_shl (own_dd lo xv 1) (sh 1)) (((0 : Int64) ||| own_shl (own_dd lo xv 0) (sh 0)) ||| own_shl (own_dd lo zv 1) (sh 1)) (by
        refine own_word_cmp _ _ _ _ (s 1) (b 1) (by omega) (hx 1 hk).1 (hz 1 hk).1 (fun i hi => ?_) (fun i hi => ?_) (fun i hi => ?_)
        · rw [own_orb, own_orb, own_zb, x1t i hi, x0h _ (by omega)]; simp
        · rw [own_orb, own_orb, own_zb, z1t i hi, x0h _ (by omega)]; simp
        · rw [own_orb, own_orb, own_orb, own_orb]
          rcases hi with hi | hi
          · rw [x1h i hi, z1h i hi]
          · rw [x1l i hi, z1l i hi])
      exact ⟨fun q => by rw [same0, ← c, q], fun _ => c⟩
    · rw [eq 0 (by decide) (by decide), eq 1 (by decide) (by decide)]
      refine ⟨fun _ => fin _ _ ?_, fun q => absurd (same0 _) q⟩
      refine own_word_cmp _ _ _ _ (s 2) (b 2) (by omega) (hx 2 hk).1 (hz 2 hk).1 (fun i hi => ?_) (fun i hi => ?_) (fun i hi => ?_)
      · rw [own_orb, own_zb, x2t i hi]; simp
      · rw [own_orb, own_zb, z2t i hi]; simp
      · rw [own_orb, own_orb]
        rcases hi with hi | hi
        · rw [x2h i hi, z2h i hi]
        · rw [x2l i hi, z2l i hi]
theorem own_enc_out (f : Nat → Int64) (o w2 i : Nat) (lo val sh : Nat → Int32) (hw : w2 = 0 ∨ w2 = 1) (h : ¬ (o ≤ i ∧ i < o + (w2 + 1))) : own_enc f o (w2 + 1) (own_wn w2) lo val sh i = f i := by
  rcases hw with rfl | rfl
  · have n : ¬ i = o := by omega
    simp [own_enc, own_or, own_set, own_zero, own_wn, n]
  · have n : ¬ i = o := by omega
    have n1 : ¬ i = o + 1 := by omega
    simp [own_enc, own_or, own_set, own_zero, own_wn, n, n1]
theorem own_dd0 (lo sh : Nat → Int32) (j : Nat) : own_shl (own_dd lo lo j) (sh j) = 0 := by
  rw [own_dd, Int64.sub_self, own_shl_zero]
theorem own_enc_lo (f : Nat → Int64) (o w2 : Nat) (lo sh : Nat → Int32) (hw : w2 = 0 ∨ w2 = 1) : own_enc f o (w2 + 1) (own_wn w2) lo lo sh o = 0 ∧ (w2 = 1 → own_enc f o (w2 + 1) (own_wn w2) lo lo sh (o + 1) = 0) := by
  rcases hw with rfl | rfl
  · exact ⟨by rw [own_enc0, own_dd0, own_dd0, own_dd0]; rfl, fun c => absurd c (by decide)⟩
  · exact ⟨by rw [own_enc1, own_dd0, own_dd0]; rfl, fun _ => by rw [own_enc2, own_dd0]; rfl⟩
theorem own_fin2 (lo hi xv zv : Nat → Int32) (k : Nat) (hk : k < 3) (h : ∀ j, j < 3 → (lo j).toInt ≤ (hi j).toInt) (hx : ∀ j, j < 3 → 0 ≤ (own_dd lo xv j).toInt ∧ (own_dd lo xv j).toInt ≤ (hi j).toInt - (lo j).toInt) (hz : ∀ j, j < 3 → 0 ≤ (own_dd lo zv j).toInt ∧ (own_dd lo zv j).toInt ≤ (hi j).toInt - (lo j).toInt) (same : ∀ j, j < 3 → j ≠ k → zv j = xv j) :
    ∃ w2 : Nat, (w2 = 0 ∨ w2 = 1) ∧ ((own_F lo hi 3).1 + (1 : Int32)).toInt = ((w2 + 1 : Nat) : Int) ∧ (∀ j, j < 3 → (own_wd lo hi j).toInt = own_wn w2 j ∧ own_wn w2 j < w2 + 1) ∧ (∀ f o j, j < 3 → own_dec (own_enc f o (w2 + 1) (own_wn w2) lo xv (own_sf lo hi)) o (own_wn w2) lo (own_sf lo hi) (own_mk lo hi) j = xv j) ∧
      ∀ f f' o, (w2 = 0 → own_ucmp (own_enc f o (w2 + 1) (own_wn w2) lo xv (own_sf lo hi) o) (own_enc f' o (w2 + 1) (own_wn w2) lo zv (own_sf lo hi) o) = own_icmp (xv k) (zv k)) ∧
        (w2 = 1 → (own_ucmp (own_enc f o (w2 + 1) (own_wn w2) lo xv (own_sf lo hi) o) (own_enc f' o (w2 + 1) (own_wn w2) lo zv (own_sf lo hi) o) = 0 → own_ucmp (own_enc f o (w2 + 1) (own_wn w2) lo xv (own_sf lo hi) (o + 1)) (own_enc f' o (w2 + 1) (own_wn w2) lo zv (own_sf lo hi) (o + 1)) = own_icmp (xv k) (zv k)) ∧
          (own_ucmp (own_enc f o (w2 + 1) (own_wn w2) lo xv (own_sf lo hi) o) (own_enc f' o (w2 + 1) (own_wn w2) lo zv (own_sf lo hi) o) ≠ 0 → own_ucmp (own_enc f o (w2 + 1) (own_wn w2) lo xv (own_sf lo hi) o) (own_enc f' o (w2 + 1) (own_wn w2) lo zv (own_sf lo hi) o) = own_icmp (xv k) (zv k))) := by
  obtain ⟨b, hb⟩ := own_bits3 lo hi h
  obtain ⟨w2, s, hs, hw, hF, L0, L1, L2⟩ := own_lay lo hi b fun j hj => ⟨(hb j hj).1, (hb j hj).2.1⟩
  have lx : ∀ j, j < 3 → own_lo (own_dd lo xv j).toBitVec (b j) := fun j hj => own_lo_of _ _ (hx j hj).1 (by have := (hb j hj).2.2; have := (hx j hj).2; omega)
  have lz : ∀ j, j < 3 → own_lo (own_dd lo zv j).toBitVec (b j) := fun j hj => own_lo_of _ _ (hz j hj).1 (by have := (hb j hj).2.2; have := (hz j hj).2; omega)
  refine ⟨w2, by omega, hF, hw, fun f o => ?_, fun f f' o => ?_⟩
  · exact own_dec_enc f o w2 lo xv (own_sf lo hi) (fun j => own_bits (lo j) (hi j)) (own_mk lo hi) s b hs (fun j hj => ⟨(hb j hj).1, (hb j hj).2.1⟩) (fun _ _ => rfl) lx L0 L1 L2
  · exact own_keys f f' o w2 k lo xv zv (own_sf lo hi) s b hk hs (fun j hj => ⟨lx j hj, (hx j hj).1⟩) (fun j hj => ⟨lz j hj, (hz j hj).1⟩) L0 L1 L2 same
theorem own_vv (lo hi : Nat → Int32) (r0 r1 r2 : Int32) (h : ∀ j, j < 3 → (lo j).toInt ≤ (hi j).toInt) : ∀ j, j < 3 → 0 ≤ (own_dd lo (own_v3 (own_vl (lo 0) (hi 0) r0) (own_vl (lo 1) (hi 1) r1) (own_vl (lo 2) (hi 2) r2)) j).toInt ∧ (own_dd lo (own_v3 (own_vl (lo 0) (hi 0) r0) (own_vl (lo 1) (hi 1) r1) (own_vl (lo 2) (hi 2) r2)) j).toInt ≤ (hi j).toInt - (lo j).toInt := by
  refine own_all3 ?_ ?_ ?_
  · have a := own_pk_at _ _ r0 (h 0 (by decide))
    rw [← (own_vl_at _ _ r0 (h 0 (by decide))).2] at a
    exact a
  · have a := own_pk_at _ _ r1 (h 1 (by decide))
    rw [← (own_vl_at _ _ r1 (h 1 (by decide))).2] at a
    exact a
  · have a := own_pk_at _ _ r2 (h 2 (by decide))
    rw [← (own_vl_at _ _ r2 (h 2 (by decide))).2] at a
    exact a
theorem own_zz (lo hi xv : Nat → Int32) (k : Nat) (hk : k < 3) (r : Int32) (h : ∀ j, j < 3 → (lo j).toInt ≤ (hi j).toInt) (hx : ∀ j, j < 3 → 0 ≤ (own_dd lo xv j).toInt ∧ (own_dd lo xv j).toInt ≤ (hi j).toInt - (lo j).toInt) :
    (∀ j, j < 3 → 0 ≤ (own_dd lo (own_set xv k (own_vl (lo k) (hi k) r)) j).toInt ∧ (own_dd lo (own_set xv k (own_vl (lo k) (hi k) r)) j).toInt ≤ (hi j).toInt - (lo j).toInt) ∧ ∀ j, j < 3 → j ≠ k → own_set xv k (own_vl (lo k) (hi k) r) j = xv j := by
  refine ⟨fun j hj => ?_, fun j hj hn => by rw [own_set, if_neg hn]⟩
  by_cases e : j = k
  · subst e
    have a := own_pk_at _ _ r (h j hj)
    rw [← (own_vl_at _ _ r (h j hj)).2] at a
    have z : own_dd lo (own_set xv j (own_vl (lo j) (hi j) r)) j = (own_vl (lo j) (hi j) r).toInt64 - (lo j).toInt64 := by rw [own_dd, own_set, if_pos rfl]
    rw [z]
    exact a
  · have z : own_dd lo (own_set xv k (own_vl (lo k) (hi k) r)) j = own_dd lo xv j := by rw [own_dd, own_dd, own_set, if_neg e]
    rw [z]
    exact hx j hj
theorem own_and3 (q : Int64) : ∃ o : Nat, (q &&& (3 : Int64)).toInt32.toInt = o ∧ o ≤ 3 := by
  have a : (q &&& (3 : Int64)).toBitVec.toNat ≤ 3 := by
    rw [Int64.toBitVec_and, BitVec.toNat_and]
    exact Nat.and_le_right
  have b := (c_andSL q (3 : Int64)).2.2 (by decide)
  have e := own_toNat _ b
  have n := c_l2i (q &&& (3 : Int64))
  have n1 := Int32.le_toInt (q &&& (3 : Int64)).toInt32
  have n2 := Int32.toInt_lt (q &&& (3 : Int64)).toInt32
  exact ⟨(q &&& (3 : Int64)).toInt32.toInt.toNat, by omega, by omega⟩
theorem own_irem (x y : Int32) : x - (x / y) * y = x % y := by
  have b1 := Int32.le_toInt (x % y)
  have b2 := Int32.toInt_lt (x % y)
  rw [Int32.toInt_mod] at b1 b2
  rw [← Int32.toInt_inj, Int32.toInt_mod]
  have k := Int.tmod_def x.toInt y.toInt
  have m : (x - (x / y) * y).toInt = (x.toInt - x.toInt.tdiv y.toInt * y.toInt).bmod (2 ^ 32) := by
    simp only [Int32.toInt_sub, Int32.toInt_mul, Int32.toInt_div, Int.bmod_mul_bmod, Int.sub_bmod_bmod]
  rw [m, show x.toInt - x.toInt.tdiv y.toInt * y.toInt = x.toInt.tmod y.toInt by rw [k, Int.mul_comm]]
  exact Int.bmod_eq_of_le (by omega) (by omega)
def own_kx (q : Int64) : Int32 := ((own_ush q (60 : Int32)) &&& (3 : Int64)).toInt32
def own_kk (q : Int64) : Int32 := own_kx q - (own_kx q / (3 : Int32)) * (3 : Int32)
theorem own_kk_at (q : Int64) : ∃ n : Nat, n < 3 ∧ (own_kk q).toInt = n := by
  obtain ⟨o, h1, h2⟩ := own_and3 (own_ush q (60 : Int32))
  have h1 : (own_kx q).toInt = o := h1
  have r := (c_irem (own_kx q) (3 : Int32) 3 rfl).1 (by omega)
  rw [own_kk, own_irem]
  exact ⟨((own_kx q) % (3 : Int32)).toInt.toNat, by omega, by omega⟩
def own_of (q : Int64) : Int32 := (own_ush q (62 : Int32)).toInt32
theorem own_of_at (q : Int64) : ∃ o : Nat, (own_of q).toInt = o ∧ o ≤ 3 := by
  have e := own_ush_bv q (62 : Int32) 62 rfl (by decide)
  have l := q.toBitVec.isLt
  have a : (own_ush q (62 : Int32)).toBitVec.toNat ≤ 3 := by
    rw [e, BitVec.toNat_ushiftRight, Nat.shiftRight_eq_div_pow]; omega
  have i : (own_ush q (62 : Int32)).toInt = ((own_ush q (62 : Int32)).toBitVec.toNat : Int) := by
    show (own_ush q (62 : Int32)).toBitVec.toInt = _
    rw [BitVec.toInt_eq_toNat_cond]; split <;> omega
  have n := c_l2i (own_ush q (62 : Int32))
  have n1 := Int32.le_toInt (own_of q)
  have n2 := Int32.toInt_lt (own_of q)
  rw [own_of] at *
  exact ⟨(own_ush q (62 : Int32)).toBitVec.toNat, by omega, a⟩
theorem own_nat0 (x : Int32) (a : Nat) (hx : x.toInt = a) : ¬ x < 0 ∧ x.toNatClampNeg = a := by
  have z : (0 : Int32).toInt = 0 := rfl
  exact ⟨by rw [Int32.lt_iff_toInt_lt]; omega, by simp only [Int32.toNatClampNeg]; omega⟩
theorem own_W (W : Int32) (w2 : Nat) (h : W.toInt = ((w2 + 1 : Nat) : Int)) (hw : w2 = 0 ∨ w2 = 1) : ¬ W < (1 : Int32) ∧ ¬ (2 : Int32) < W ∧ (w2 = 0 → W < (2 : Int32) ∧ ¬ (1 : Int32) < W) ∧ (w2 = 1 → ¬ W < (2 : Int32) ∧ (1 : Int32) < W) := by
  have o : (1 : Int32).toInt = 1 := rfl
  have t : (2 : Int32).toInt = 2 := rfl
  simp only [Int32.lt_iff_toInt_lt, o, t, h]
  omega
theorem own_H (f : Nat → Int64) (g : Int64) (o w2 : Nat) (p W : Int32) (lo val sh : Nat → Int32) (hw : w2 = 0 ∨ w2 = 1) (hf : ∀ i, f i = g) (hp : p.toInt = o) (ho : o ≤ 3) (hW : W.toInt = ((w2 + 1 : Nat) : Int)) : ∀ i, i < 6 → own_enc f o (w2 + 1) (own_wn w2) lo val sh i = g ∨ (¬ (Int32.ofNat i) < p ∧ (Int32.ofNat i) < (p + W)) := by
  intro i hi
  by_cases c : o ≤ i ∧ i < o + (w2 + 1)
  · right
    have q := c_iadd p W
    have b1 := Int32.le_toInt (p + W)
    have b2 := Int32.toInt_lt (p + W)
    have e : (Int32.ofNat i).toInt = i := Int32.toInt_ofNat_of_lt (by omega)
    rw [Int32.lt_iff_toInt_lt, Int32.lt_iff_toInt_lt, e]
    omega
  · left
    rw [own_enc_out f o w2 i lo val sh hw c, hf i]
theorem own_six (g : Int64) : ∀ j, j < 6 → (own_set (own_set (own_set (own_set (own_set (own_set (fun _ => (0 : Int64)) 0 g) 1 g) 2 g) 3 g) 4 g) 5 g) j = (fun _ => g) j := by
  intro j hj
  have c : j = 0 ∨ j = 1 ∨ j = 2 ∨ j = 3 ∨ j = 4 ∨ j = 5 := by omega
  rcases c with rfl | rfl | rfl | rfl | rfl | rfl <;> rfl
theorem own_o6 {o w2 : Nat} (h : o ≤ 3) (hw : w2 = 0 ∨ w2 = 1) : o + (w2 + 1) ≤ 6 := by omega
theorem own_o7 {o : Nat} (h : o ≤ 3) : o < 6 := by omega
theorem own_o8 {o : Nat} (h : o ≤ 3) : o + 1 < 6 := by omega
theorem own_12 {w2 : Nat} (hw : w2 = 0 ∨ w2 = 1) : w2 + 1 = 1 ∨ w2 + 1 = 2 := by omega
theorem d1_0 : decode jdk_29_method_69_code 0 = .ok (.iload_n 0, 1) := by decide +kernel
theorem d1_1 : decode jdk_29_method_69_code 1 = .ok (.iload_n 1, 1) := by decide +kernel
theorem d1_2 : decode jdk_29_method_69_code 2 = .ok (.if_icmp .gt 7, 3) := by decide +kernel
theorem d1_9 : decode jdk_29_method_69_code 9 = .ok (.iload_n 1, 1) := by decide +kernel
theorem d1_10 : decode jdk_29_method_69_code 10 = .ok (.ireturn, 1) := by decide +kernel
theorem d1_5 : decode jdk_29_method_69_code 5 = .ok (.iload_n 0, 1) := by decide +kernel
theorem d1_6 : decode jdk_29_method_69_code 6 = .ok (.goto 4, 3) := by decide +kernel
theorem ef_rm_min (m : MethodId) (p1 : Int32) (p2 : Int32) : entryFrame m #[(.int p1), (.int p2)] 2 = mkF m 0 #[vI p1, vI p2] [] := by first | (simp [entryFrame, mkF, argsToLocals, Value.category]; done) | rfl
def Q_rm_min (Z : State) (p1 : Int32) (p2 : Int32) (h0 : Heap) (n0 : Nat) (v : Option Value) (h : Heap) (L : List Loc) : Prop := v = some (.int (own_min p1 p2)) ∧ Fr n0 L ∧ h = h0
set_option maxRecDepth 65536 in
set_option maxHeartbeats 40000000 in
theorem rm_min (l : Launch) (Z : State) (a0 : Array Value) (hw : ∀ d ∈ tables_1, d.before a0 Z = true) (ws : List Jvm.Cond) (p1 : Int32) (p2 : Int32) (h0 : Heap) (n0 : Nat) (Z0 : n0 ≤ h0.size) :
    MetFree l (⟨"java/lang/Math", "min", "(II)I"⟩ : MethodName) (head1 (Jvm.Cond.code (⟨"java/lang/Math", "min", "(II)I"⟩ : MethodName) jdk_29_method_69_code 2 (some .int) :: ws) ({ frames := 0, cells := 0, slots := 0, locals := 0 } : Room)) (fun a U => a = #[(.int p1), (.int p2)] ∧ Z.Warmed39 U.vm ∧ U.heap = h0) (fun _ _ _ _ _ => True) (fun _ U oC U' => ∃ v L, oC = .returned v ∧ Q_rm_min Z p1 p2 h0 n0 v U'.heap L ∧ FrameEnd U oC U' L ({ frames := 0, cells := 0, slots := 0, locals := 0 } : Room).cells ({ frames := 0, cells := 0, slots := 0, locals := 0 } : Room).slots) := by
  refine MetFree.of_bodySF (Jvm.Free.JP.mathPlain rfl (by decide +kernel)) hisR ?_
  intro p e s m args below meth c s₁ Bd hml0 hP hK
  obtain ⟨rfl, hZ, hh⟩ := hP
  have hx := Bd.exec
  have hby := Bd.bytes
  have hml : c.maxLocals = 2 := hml0
  have hown : s.vm.findClass "java/lang/Math" = some m.cls := findClass_of_methodNamed Bd.named
  have hnm := (name_of_methodNamed Bd.named Bd.method).1
  have X0 : Stand p l e ({ frames := 0, cells := 0, slots := 0, locals := 0 } : Room) s m #[(.int p1), (.int p2)] below meth c s₁ [] 0 0 := Stand.of_body Bd
  have e0 : s₁.heap = h0 := by rw [← hh, Bd.state]; rfl
  have N0 := Fr.nil n0
  have pre0 : ∀ tg, Steps p.tables e below (s₁.setTop (mkF m 0 #[vI p1, vI p2] [])) tg → Steps p.tables e below (s₁.setTop (entryFrame m #[(.int p1), (.int p2)] 2)) tg := fun t k => castTop (ef_rm_min m p1 p2) k
  have pre00 : ∀ tg, Steps p.tables e below (s₁.setTop (mkF m 0 #[vI p1, vI p2] [])) tg → Steps p.tables e below (s₁.setTop (mkF m 0 #[vI p1, vI p2] [])) tg := fun _ k => k
  have R1 : ∀ tg, Steps p.tables e below (s₁.setTop (mkF m 2 #[vI p1, vI p2] [(.int p2), (.int p1)])) tg → Steps p.tables e below (s₁.setTop (mkF m 0 #[vI p1, vI p2] [])) tg := by
    intro tg kt
    refine pre00 _ ?_
    show Steps p.tables e below (s₁.setTop (mkF m 0 #[vI p1, vI p2] [])) _
    refine XS.iloadN X0.here hx rfl (hb hby d1_0) rfl ?_
    refine XS.iloadN X0.here hx rfl (hb hby d1_1) rfl ?_
    exact kt
  by_cases hc : p2 < p1
  · have R2 : ∀ tg, Steps p.tables e below (s₁.setTop (mkF m 10 #[vI p1, vI p2] [(.int p2)])) tg → Steps p.tables e below (s₁.setTop (mkF m 0 #[vI p1, vI p2] [])) tg := by
      intro tg kt
      refine R1 _ ?_
      show Steps p.tables e below (s₁.setTop (mkF m 2 #[vI p1, vI p2] [(.int p2), (.int p1)])) _
      refine XS.icmpYes X0.here hx rfl (pc0 := 2) (pc' := 9) rfl (hb hby d1_2) rfl (tlt (hc : p2 < p1)).2.2.1 (by decide) (by decide) ?_
      refine XS.iloadN X0.here hx rfl (hb hby d1_9) rfl ?_
      exact kt
    clear R1
    obtain ⟨fs, hr, hrun, hended, hW, hsame⟩ := X0.leave (v := some (.int p2)) (fun h => by rw [Bd.returns] at h; cases h)
    refine ⟨_, _, pre0 _ (R2 _ ?_), hrun, hended, _, _, rfl, ?_, ⟨_, rfl⟩, hW, hsame.mono (by decide) (by decide)⟩
    · exact retI X0 hx Bd.returns (hb hby d1_10) hr
    · show Q_rm_min Z p1 p2 h0 n0 _ s₁.heap _
      rw [e0]
      exact ⟨by simp [own_min, hc], N0, rfl⟩
  · have R3 : ∀ tg, Steps p.tables e below (s₁.setTop (mkF m 10 #[vI p1, vI p2] [(.int p1)])) tg → Steps p.tables e below (s₁.setTop (mkF m 0 #[vI p1, vI p2] [])) tg := by
      intro tg kt
      refine R1 _ ?_
      show Steps p.tables e below (s₁.setTop (mkF m 2 #[vI p1, vI p2] [(.int p2), (.int p1)])) _
      refine XS.icmpNo X0.here hx rfl (hb hby d1_2) rfl (flt (hc : ¬ (p2 < p1))).2.2.1 ?_
      refine XS.iloadN X0.here hx rfl (hb hby d1_5) rfl ?_
      show Steps p.tables e below (s₁.setTop (mkF m 6 #[vI p1, vI p2] [(.int p1)])) _
      refine XS.goto X0.here hx rfl (pc0 := 6) (pc' := 10) rfl (hb hby d1_6) (by decide) (by decide) ?_
      exact kt
    clear R1
    obtain ⟨fs, hr, hrun, hended, hW, hsame⟩ := X0.leave (v := some (.int p1)) (fun h => by rw [Bd.returns] at h; cases h)
    refine ⟨_, _, pre0 _ (R3 _ ?_), hrun, hended, _, _, rfl, ?_, ⟨_, rfl⟩, hW, hsame.mono (by decide) (by decide)⟩
    · exact retI X0 hx Bd.returns (hb hby d1_10) hr
    · show Q_rm_min Z p1 p2 h0 n0 _ s₁.heap _
      rw [e0]
      exact ⟨by simp [own_min, hc], N0, rfl⟩
theorem d2_0 : decode jdk_29_method_65_code 0 = .ok (.iload_n 0, 1) := by decide +kernel
theorem d2_1 : decode jdk_29_method_65_code 1 = .ok (.iload_n 1, 1) := by decide +kernel
theorem d2_2 : decode jdk_29_method_65_code 2 = .ok (.if_icmp .lt 7, 3) := by decide +kernel
theorem d2_9 : decode jdk_29_method_65_code 9 = .ok (.iload_n 1, 1) := by decide +kernel
theorem d2_10 : decode jdk_29_method_65_code 10 = .ok (.ireturn, 1) := by decide +kernel
theorem d2_5 : decode jdk_29_method_65_code 5 = .ok (.iload_n 0, 1) := by decide +kernel
theorem d2_6 : decode jdk_29_method_65_code 6 = .ok (.goto 4, 3) := by decide +kernel
theorem ef_rm_max (m : MethodId) (p1 : Int32) (p2 : Int32) : entryFrame m #[(.int p1), (.int p2)] 2 = mkF m 0 #[vI p1, vI p2] [] := by first | (simp [entryFrame, mkF, argsToLocals, Value.category]; done) | rfl
def Q_rm_max (Z : State) (p1 : Int32) (p2 : Int32) (h0 : Heap) (n0 : Nat) (v : Option Value) (h : Heap) (L : List Loc) : Prop := v = some (.int (own_max p1 p2)) ∧ Fr n0 L ∧ h = h0
set_option maxRecDepth 65536 in
set_option maxHeartbeats 40000000 in
theorem rm_max (l : Launch) (Z : State) (a0 : Array Value) (hw : ∀ d ∈ tables_1, d.before a0 Z = true) (ws : List Jvm.Cond) (p1 : Int32) (p2 : Int32) (h0 : Heap) (n0 : Nat) (Z0 : n0 ≤ h0.size) :
    MetFree l (⟨"java/lang/Math", "max", "(II)I"⟩ : MethodName) (head1 (Jvm.Cond.code (⟨"java/lang/Math", "max", "(II)I"⟩ : MethodName) jdk_29_method_65_code 2 (some .int) :: ws) ({ frames := 0, cells := 0, slots := 0, locals := 0 } : Room)) (fun a U => a = #[(.int p1), (.int p2)] ∧ Z.Warmed39 U.vm ∧ U.heap = h0) (fun _ _ _ _ _ => True) (fun _ U oC U' => ∃ v L, oC = .returned v ∧ Q_rm_max Z p1 p2 h0 n0 v U'.heap L ∧ FrameEnd U oC U' L ({ frames := 0, cells := 0, slots := 0, locals := 0 } : Room).cells ({ frames := 0, cells := 0, slots := 0, locals := 0 } : Room).slots) := by
  refine MetFree.of_bodySF (Jvm.Free.JP.mathPlain rfl (by decide +kernel)) hisR ?_
  intro p e s m args below meth c s₁ Bd hml0 hP hK
  obtain ⟨rfl, hZ, hh⟩ := hP
  have hx := Bd.exec
  have hby := Bd.bytes
  have hml : c.maxLocals = 2 := hml0
  have hown : s.vm.findClass "java/lang/Math" = some m.cls := findClass_of_methodNamed Bd.named
  have hnm := (name_of_methodNamed Bd.named Bd.method).1
  have X0 : Stand p l e ({ frames := 0, cells := 0, slots := 0, locals := 0 } : Room) s m #[(.int p1), (.int p2)] below meth c s₁ [] 0 0 := Stand.of_body Bd
  have e0 : s₁.heap = h0 := by rw [← hh, Bd.state]; rfl
  have N0 := Fr.nil n0
  have pre0 : ∀ tg, Steps p.tables e below (s₁.setTop (mkF m 0 #[vI p1, vI p2] [])) tg → Steps p.tables e below (s₁.setTop (entryFrame m #[(.int p1), (.int p2)] 2)) tg := fun t k => castTop (ef_rm_max m p1 p2) k
  have pre00 : ∀ tg, Steps p.tables e below (s₁.setTop (mkF m 0 #[vI p1, vI p2] [])) tg → Steps p.tables e below (s₁.setTop (mkF m 0 #[vI p1, vI p2] [])) tg := fun _ k => k
  have R4 : ∀ tg, Steps p.tables e below (s₁.setTop (mkF m 2 #[vI p1, vI p2] [(.int p2), (.int p1)])) tg → Steps p.tables e below (s₁.setTop (mkF m 0 #[vI p1, vI p2] [])) tg := by
    intro tg kt
    refine pre00 _ ?_
    show Steps p.tables e below (s₁.setTop (mkF m 0 #[vI p1, vI p2] [])) _
    refine XS.iloadN X0.here hx rfl (hb hby d2_0) rfl ?_
    refine XS.iloadN X0.here hx rfl (hb hby d2_1) rfl ?_
    exact kt
  by_cases hc : p1 < p2
  · have R5 : ∀ tg, Steps p.tables e below (s₁.setTop (mkF m 10 #[vI p1, vI p2] [(.int p2)])) tg → Steps p.tables e below (s₁.setTop (mkF m 0 #[vI p1, vI p2] [])) tg := by
      intro tg kt
      refine R4 _ ?_
      show Steps p.tables e below (s₁.setTop (mkF m 2 #[vI p1, vI p2] [(.int p2), (.int p1)])) _
      refine XS.icmpYes X0.here hx rfl (pc0 := 2) (pc' := 9) rfl (hb hby d2_2) rfl (tlt (hc : p1 < p2)).1 (by decide) (by decide) ?_
      refine XS.iloadN X0.here hx rfl (hb hby d2_9) rfl ?_
      exact kt
    clear R4
    obtain ⟨fs, hr, hrun, hended, hW, hsame⟩ := X0.leave (v := some (.int p2)) (fun h => by rw [Bd.returns] at h; cases h)
    refine ⟨_, _, pre0 _ (R5 _ ?_), hrun, hended, _, _, rfl, ?_, ⟨_, rfl⟩, hW, hsame.mono (by decide) (by decide)⟩
    · exact retI X0 hx Bd.returns (hb hby d2_10) hr
    · show Q_rm_max Z p1 p2 h0 n0 _ s₁.heap _
      rw [e0]
      exact ⟨by simp [own_max, hc], N0, rfl⟩
  · have R6 : ∀ tg, Steps p.tables e below (s₁.setTop (mkF m 10 #[vI p1, vI p2] [(.int p1)])) tg → Steps p.tables e below (s₁.setTop (mkF m 0 #[vI p1, vI p2] [])) tg := by
      intro tg kt
      refine R4 _ ?_
      show Steps p.tables e below (s₁.setTop (mkF m 2 #[vI p1, vI p2] [(.int p2), (.int p1)])) _
      refine XS.icmpNo X0.here hx rfl (hb hby d2_2) rfl (flt (hc : ¬ (p1 < p2))).1 ?_
      refine XS.iloadN X0.here hx rfl (hb hby d2_5) rfl ?_
      show Steps p.tables e below (s₁.setTop (mkF m 6 #[vI p1, vI p2] [(.int p1)])) _
      refine XS.goto X0.here hx rfl (pc0 := 6) (pc' := 10) rfl (hb hby d2_6) (by decide) (by decide) ?_
      exact kt
    clear R4
    obtain ⟨fs, hr, hrun, hended, hW, hsame⟩ := X0.leave (v := some (.int p1)) (fun h => by rw [Bd.returns] at h; cases h)
    refine ⟨_, _, pre0 _ (R6 _ ?_), hrun, hended, _, _, rfl, ?_, ⟨_, rfl⟩, hW, hsame.mono (by decide) (by decide)⟩
    · exact retI X0 hx Bd.returns (hb hby d2_10) hr
    · show Q_rm_max Z p1 p2 h0 n0 _ s₁.heap _
      rw [e0]
      exact ⟨by simp [own_max, hc], N0, rfl⟩
theorem pn_0 : plainName "java/lang/Integer" = true := by first | (simp [plainName, overriddenIn]; done) | decide +kernel
theorem d6_0 : decode jdk_33_method_47_code 0 = .ok (.iload_n 0, 1) := by decide +kernel
theorem d6_1 : decode jdk_33_method_47_code 1 = .ok (.ifCond .gt 14, 3) := by decide +kernel
theorem d6_15 : decode jdk_33_method_47_code 15 = .ok (.bipush 31, 2) := by decide +kernel
theorem d6_17 : decode jdk_33_method_47_code 17 = .ok (.istore_n 1, 1) := by decide +kernel
theorem d6_18 : decode jdk_33_method_47_code 18 = .ok (.iload_n 0, 1) := by decide +kernel
theorem d6_19 : decode jdk_33_method_47_code 19 = .ok (.ldc_w 264, 3) := by decide +kernel
theorem d6_22 : decode jdk_33_method_47_code 22 = .ok (.if_icmp .lt 11, 3) := by decide +kernel
theorem d6_33 : decode jdk_33_method_47_code 33 = .ok (.iload_n 0, 1) := by decide +kernel
theorem d6_34 : decode jdk_33_method_47_code 34 = .ok (.sipush 256, 3) := by decide +kernel
theorem d6_37 : decode jdk_33_method_47_code 37 = .ok (.if_icmp .lt 11, 3) := by decide +kernel
theorem d6_48 : decode jdk_33_method_47_code 48 = .ok (.iload_n 0, 1) := by decide +kernel
theorem d6_49 : decode jdk_33_method_47_code 49 = .ok (.bipush 16, 2) := by decide +kernel
theorem d6_51 : decode jdk_33_method_47_code 51 = .ok (.if_icmp .lt 10, 3) := by decide +kernel
theorem d6_61 : decode jdk_33_method_47_code 61 = .ok (.iload_n 0, 1) := by decide +kernel
theorem d6_62 : decode jdk_33_method_47_code 62 = .ok (.iconst 4, 1) := by decide +kernel
theorem d6_63 : decode jdk_33_method_47_code 63 = .ok (.if_icmp .lt 10, 3) := by decide +kernel
theorem d6_73 : decode jdk_33_method_47_code 73 = .ok (.iload_n 1, 1) := by decide +kernel
theorem d6_74 : decode jdk_33_method_47_code 74 = .ok (.iload_n 0, 1) := by decide +kernel
theorem d6_75 : decode jdk_33_method_47_code 75 = .ok (.iconst 1, 1) := by decide +kernel
theorem d6_76 : decode jdk_33_method_47_code 76 = .ok (.iushr, 1) := by decide +kernel
theorem d6_77 : decode jdk_33_method_47_code 77 = .ok (.isub, 1) := by decide +kernel
theorem d6_78 : decode jdk_33_method_47_code 78 = .ok (.ireturn, 1) := by decide +kernel
theorem d6_66 : decode jdk_33_method_47_code 66 = .ok (.iinc 1 (-2), 3) := by decide +kernel
theorem d6_69 : decode jdk_33_method_47_code 69 = .ok (.iload_n 0, 1) := by decide +kernel
theorem d6_70 : decode jdk_33_method_47_code 70 = .ok (.iconst 2, 1) := by decide +kernel
theorem d6_71 : decode jdk_33_method_47_code 71 = .ok (.iushr, 1) := by decide +kernel
theorem d6_72 : decode jdk_33_method_47_code 72 = .ok (.istore_n 0, 1) := by decide +kernel
theorem d6_54 : decode jdk_33_method_47_code 54 = .ok (.iinc 1 (-4), 3) := by decide +kernel
theorem d6_57 : decode jdk_33_method_47_code 57 = .ok (.iload_n 0, 1) := by decide +kernel
theorem d6_58 : decode jdk_33_method_47_code 58 = .ok (.iconst 4, 1) := by decide +kernel
theorem d6_59 : decode jdk_33_method_47_code 59 = .ok (.iushr, 1) := by decide +kernel
theorem d6_60 : decode jdk_33_method_47_code 60 = .ok (.istore_n 0, 1) := by decide +kernel
theorem d6_40 : decode jdk_33_method_47_code 40 = .ok (.iinc 1 (-8), 3) := by decide +kernel
theorem d6_43 : decode jdk_33_method_47_code 43 = .ok (.iload_n 0, 1) := by decide +kernel
theorem d6_44 : decode jdk_33_method_47_code 44 = .ok (.bipush 8, 2) := by decide +kernel
theorem d6_46 : decode jdk_33_method_47_code 46 = .ok (.iushr, 1) := by decide +kernel
theorem d6_47 : decode jdk_33_method_47_code 47 = .ok (.istore_n 0, 1) := by decide +kernel
theorem d6_25 : decode jdk_33_method_47_code 25 = .ok (.iinc 1 (-16), 3) := by decide +kernel
theorem d6_28 : decode jdk_33_method_47_code 28 = .ok (.iload_n 0, 1) := by decide +kernel
theorem d6_29 : decode jdk_33_method_47_code 29 = .ok (.bipush 16, 2) := by decide +kernel
theorem d6_31 : decode jdk_33_method_47_code 31 = .ok (.iushr, 1) := by decide +kernel
theorem d6_32 : decode jdk_33_method_47_code 32 = .ok (.istore_n 0, 1) := by decide +kernel
theorem d6_4 : decode jdk_33_method_47_code 4 = .ok (.iload_n 0, 1) := by decide +kernel
theorem d6_5 : decode jdk_33_method_47_code 5 = .ok (.ifCond .ne 8, 3) := by decide +kernel
theorem d6_8 : decode jdk_33_method_47_code 8 = .ok (.bipush 32, 2) := by decide +kernel
theorem d6_10 : decode jdk_33_method_47_code 10 = .ok (.goto 4, 3) := by decide +kernel
theorem d6_14 : decode jdk_33_method_47_code 14 = .ok (.ireturn, 1) := by decide +kernel
theorem d6_13 : decode jdk_33_method_47_code 13 = .ok (.iconst 0, 1) := by decide +kernel
theorem ef_rm_inlz (m : MethodId) (p1 : Int32) : entryFrame m #[(.int p1)] 2 = mkF m 0 #[vI p1, .unset] [] := by first | (simp [entryFrame, mkF, argsToLocals, Value.category]; done) | rfl
def Q_rm_inlz (Z : State) (p1 : Int32) (h0 : Heap) (n0 : Nat) (v : Option Value) (h : Heap) (L : List Loc) : Prop := v = some (.int (own_inlz p1)) ∧ Fr n0 L ∧ h = h0
set_option maxRecDepth 65536 in
set_option maxHeartbeats 40000000 in
theorem rm_inlz (l : Launch) (Z : State) (a0 : Array Value) (hw : ∀ d ∈ tables_1, d.before a0 Z = true) (ws : List Jvm.Cond) (p1 : Int32) (h0 : Heap) (n0 : Nat) (Z0 : n0 ≤ h0.size) :
    MetFree l (⟨"java/lang/Integer", "numberOfLeadingZeros", "(I)I"⟩ : MethodName) (head1 (Jvm.Cond.code (⟨"java/lang/Integer", "numberOfLeadingZeros", "(I)I"⟩ : MethodName) jdk_33_method_47_code 2 (some .int) :: ws) ({ frames := 0, cells := 0, slots := 0, locals := 0 } : Room)) (fun a U => a = #[(.int p1)] ∧ Z.Warmed39 U.vm ∧ U.heap = h0) (fun _ _ _ _ _ => True) (fun _ U oC U' => ∃ v L, oC = .returned v ∧ Q_rm_inlz Z p1 h0 n0 v U'.heap L ∧ FrameEnd U oC U' L ({ frames := 0, cells := 0, slots := 0, locals := 0 } : Room).cells ({ frames := 0, cells := 0, slots := 0, locals := 0 } : Room).slots) := by
  refine MetFree.of_bodySF (plainFor_of_name pn_0) hisR ?_
  intro p e s m args below meth c s₁ Bd hml0 hP hK
  obtain ⟨rfl, hZ, hh⟩ := hP
  have hx := Bd.exec
  have hby := Bd.bytes
  have hml : c.maxLocals = 2 := hml0
  have hown : s.vm.findClass "java/lang/Integer" = some m.cls := findClass_of_methodNamed Bd.named
  have hnm := (name_of_methodNamed Bd.named Bd.method).1
  have X0 : Stand p l e ({ frames := 0, cells := 0, slots := 0, locals := 0 } : Room) s m #[(.int p1)] below meth c s₁ [] 0 0 := Stand.of_body Bd
  have e0 : s₁.heap = h0 := by rw [← hh, Bd.state]; rfl
  have N0 := Fr.nil n0
  have pre0 : ∀ tg, Steps p.tables e below (s₁.setTop (mkF m 0 #[vI p1, .unset] [])) tg → Steps p.tables e below (s₁.setTop (entryFrame m #[(.int p1)] 2)) tg := fun t k => castTop (ef_rm_inlz m p1) k
  have pre00 : ∀ tg, Steps p.tables e below (s₁.setTop (mkF m 0 #[vI p1, .unset] [])) tg → Steps p.tables e below (s₁.setTop (mkF m 0 #[vI p1, .unset] [])) tg := fun _ k => k
  have R7 : ∀ tg, Steps p.tables e below (s₁.setTop (mkF m 1 #[vI p1, .unset] [(.int p1)])) tg → Steps p.tables e below (s₁.setTop (mkF m 0 #[vI p1, .unset] [])) tg := by
    intro tg kt
    refine pre00 _ ?_
    show Steps p.tables e below (s₁.setTop (mkF m 0 #[vI p1, .unset] [])) _
    refine XS.iloadN X0.here hx rfl (hb hby d6_0) rfl ?_
    exact kt
  by_cases hc1 : (0 : Int32) < p1
  · have R8 : ∀ tg, Steps p.tables e below (s₁.setTop (mkF m 22 #[vI p1, vI (31 : Int32)] [(.int (65536 : Int32)), (.int p1)])) tg → Steps p.tables e below (s₁.setTop (mkF m 0 #[vI p1, .unset] [])) tg := by
      intro tg kt
      refine R7 _ ?_
      show Steps p.tables e below (s₁.setTop (mkF m 1 #[vI p1, .unset] [(.int p1)])) _
      refine XS.ifYes X0.here hx rfl (pc0 := 1) (pc' := 15) rfl (hb hby d6_1) rfl ((if0 _ _).trans (tlt (hc1 : (0 : Int32) < p1)).2.2.1) (by decide) (by decide) ?_
      refine XS.bipush X0.here hx rfl (hb hby d6_15) ?_
      show Steps p.tables e below (s₁.setTop (mkF m 17 #[vI p1, .unset] [(.int (31 : Int32))])) _
      refine XS.istoreN X0.here hx rfl (hb hby d6_17) rfl (l' := #[vI p1, vI (31 : Int32)]) rfl ?_
      refine XS.iloadN X0.here hx rfl (hb hby d6_18) rfl ?_
      show Steps p.tables e below (s₁.setTop (mkF m 19 #[vI p1, vI (31 : Int32)] [(.int p1)])) _
      refine X0.ldcwInt hx hown (mvT hZ (hw _ (List.mem_of_getElem? (i := 43) rfl))) (g := (mkF m 19 #[vI p1, vI (31 : Int32)] [(.int p1)])) rfl (hb hby d6_19) _ ?_
      exact kt
    clear R7
    by_cases hc22 : p1 < (65536 : Int32)
    · have R9 : ∀ tg, Steps p.tables e below (s₁.setTop (mkF m 37 #[vI p1, vI (31 : Int32)] [(.int (256 : Int32)), (.int p1)])) tg → Steps p.tables e below (s₁.setTop (mkF m 0 #[vI p1, .unset] [])) tg := by
        intro tg kt
        refine R8 _ ?_
        show Steps p.tables e below (s₁.setTop (mkF m 22 #[vI p1, vI (31 : Int32)] [(.int (65536 : Int32)), (.int p1)])) _
        refine XS.icmpYes X0.here hx rfl (pc0 := 22) (pc' := 33) rfl (hb hby d6_22) rfl (tlt (hc22 : p1 < (65536 : Int32))).1 (by decide) (by decide) ?_
        refine XS.iloadN X0.here hx rfl (hb hby d6_33) rfl ?_
        refine XS.sipush X0.here hx rfl (hb hby d6_34) ?_
        exact kt
      clear R8
      by_cases hc37 : p1 < (256 : Int32)
      · have R10 : ∀ tg, Steps p.tables e below (s₁.setTop (mkF m 51 #[vI p1, vI (31 : Int32)] [(.int (16 : Int32)), (.int p1)])) tg → Steps p.tables e below (s₁.setTop (mkF m 0 #[vI p1, .unset] [])) tg := by
          intro tg kt
          refine R9 _ ?_
          show Steps p.tables e below (s₁.setTop (mkF m 37 #[vI p1, vI (31 : Int32)] [(.int (256 : Int32)), (.int p1)])) _
          refine XS.icmpYes X0.here hx rfl (pc0 := 37) (pc' := 48) rfl (hb hby d6_37) rfl (tlt (hc37 : p1 < (256 : Int32))).1 (by decide) (by decide) ?_
          refine XS.iloadN X0.here hx rfl (hb hby d6_48) rfl ?_
          refine XS.bipush X0.here hx rfl (hb hby d6_49) ?_
          exact kt
        clear R9
        by_cases hc51 : p1 < (16 : Int32)
        · have R11 : ∀ tg, Steps p.tables e below (s₁.setTop (mkF m 63 #[vI p1, vI (31 : Int32)] [(.int (4 : Int32)), (.int p1)])) tg → Steps p.tables e below (s₁.setTop (mkF m 0 #[vI p1, .unset] [])) tg := by
            intro tg kt
            refine R10 _ ?_
            show Steps p.tables e below (s₁.setTop (mkF m 51 #[vI p1, vI (31 : Int32)] [(.int (16 : Int32)), (.int p1)])) _
            refine XS.icmpYes X0.here hx rfl (pc0 := 51) (pc' := 61) rfl (hb hby d6_51) rfl (tlt (hc51 : p1 < (16 : Int32))).1 (by decide) (by decide) ?_
            refine XS.iloadN X0.here hx rfl (hb hby d6_61) rfl ?_
            refine XS.iconst X0.here hx rfl (hb hby d6_62) ?_
            exact kt
          clear R10
          by_cases hc63 : p1 < (4 : Int32)
          · have R12 : ∀ tg, Steps p.tables e below (s₁.setTop (mkF m 78 #[vI p1, vI (31 : Int32)] [(.int ((31 : Int32) - ((p1.toUInt32 >>> ((1 : Int32) &&& 31).toUInt32).toInt32)))])) tg → Steps p.tables e below (s₁.setTop (mkF m 0 #[vI p1, .unset] [])) tg := by
              intro tg kt
              refine R11 _ ?_
              show Steps p.tables e below (s₁.setTop (mkF m 63 #[vI p1, vI (31 : Int32)] [(.int (4 : Int32)), (.int p1)])) _
              refine XS.icmpYes X0.here hx rfl (pc0 := 63) (pc' := 73) rfl (hb hby d6_63) rfl (tlt (hc63 : p1 < (4 : Int32))).1 (by decide) (by decide) ?_
              refine XS.iloadN X0.here hx rfl (hb hby d6_73) rfl ?_
              refine XS.iloadN X0.here hx rfl (hb hby d6_74) rfl ?_
              show Steps p.tables e below (s₁.setTop (mkF m 75 #[vI p1, vI (31 : Int32)] [(.int p1), (.int (31 : Int32))])) _
              refine XS.iconst X0.here hx rfl (hb hby d6_75) ?_
              show Steps p.tables e below (s₁.setTop (mkF m 76 #[vI p1, vI (31 : Int32)] [(.int (1 : Int32)), (.int p1), (.int (31 : Int32))])) _
              refine XS.iushr X0.here hx rfl (hb hby d6_76) rfl ?_
              show Steps p.tables e below (s₁.setTop (mkF m 77 #[vI p1, vI (31 : Int32)] [(.int ((p1.toUInt32 >>> ((1 : Int32) &&& 31).toUInt32).toInt32)), (.int (31 : Int32))])) _
              refine XS.isub X0.here hx rfl (hb hby d6_77) rfl ?_
              exact kt
            clear R11
            obtain ⟨fs, hr, hrun, hended, hW, hsame⟩ := X0.leave (v := some (.int ((31 : Int32) - ((p1.toUInt32 >>> ((1 : Int32) &&& 31).toUInt32).toInt32)))) (fun h => by rw [Bd.returns] at h; cases h)
            refine ⟨_, _, pre0 _ (R12 _ ?_), hrun, hended, _, _, rfl, ?_, ⟨_, rfl⟩, hW, hsame.mono (by decide) (by decide)⟩
            · exact retI X0 hx Bd.returns (hb hby d6_78) hr
            · show Q_rm_inlz Z p1 h0 n0 _ s₁.heap _
              rw [e0]
              exact ⟨by rw [own_inlz, if_pos hc1, own_n1, if_pos hc22, own_n2, if_pos hc37, own_n3, if_pos hc51, own_n4, if_pos hc63]; rfl, N0, rfl⟩
          · have R13 : ∀ tg, Steps p.tables e below (s₁.setTop (mkF m 73 #[vI ((p1.toUInt32 >>> ((2 : Int32) &&& 31).toUInt32).toInt32), vI ((31 : Int32) + (-2 : Int32))] [])) tg → Steps p.tables e below (s₁.setTop (mkF m 0 #[vI p1, .unset] [])) tg := by
              intro tg kt
              refine R11 _ ?_
              show Steps p.tables e below (s₁.setTop (mkF m 63 #[vI p1, vI (31 : Int32)] [(.int (4 : Int32)), (.int p1)])) _
              refine XS.icmpNo X0.here hx rfl (hb hby d6_63) rfl (flt (hc63 : ¬ (p1 < (4 : Int32)))).1 ?_
              show Steps p.tables e below (s₁.setTop (mkF m 66 #[vI p1, vI (31 : Int32)] [])) _
              refine XS.iinc X0.here hx rfl (hb hby d6_66) rfl (l' := #[vI p1, vI ((31 : Int32) + (-2 : Int32))]) rfl ?_
              refine XS.iloadN X0.here hx rfl (hb hby d6_69) rfl ?_
              refine XS.iconst X0.here hx rfl (hb hby d6_70) ?_
              show Steps p.tables e below (s₁.setTop (mkF m 71 #[vI p1, vI ((31 : Int32) + (-2 : Int32))] [(.int (2 : Int32)), (.int p1)])) _
              refine XS.iushr X0.here hx rfl (hb hby d6_71) rfl ?_
              show Steps p.tables e below (s₁.setTop (mkF m 72 #[vI p1, vI ((31 : Int32) + (-2 : Int32))] [(.int ((p1.toUInt32 >>> ((2 : Int32) &&& 31).toUInt32).toInt32))])) _
              refine XS.istoreN X0.here hx rfl (hb hby d6_72) rfl (l' := #[vI ((p1.toUInt32 >>> ((2 : Int32) &&& 31).toUInt32).toInt32), vI ((31 : Int32) + (-2 : Int32))]) rfl ?_
              exact kt
            clear R11
            have R14 : ∀ tg, Steps p.tables e below (s₁.setTop (mkF m 73 #[vI (own_ush32 p1 (2 : Int32)), vI ((31 : Int32) + (-2 : Int32))] [])) tg → Steps p.tables e below (s₁.setTop (mkF m 0 #[vI p1, .unset] [])) tg := R13
            have R15 : ∀ tg, Steps p.tables e below (s₁.setTop (mkF m 78 #[vI (own_ush32 p1 (2 : Int32)), vI ((31 : Int32) + (-2 : Int32))] [(.int (((31 : Int32) + (-2 : Int32)) - (((own_ush32 p1 (2 : Int32)).toUInt32 >>> ((1 : Int32) &&& 31).toUInt32).toInt32)))])) tg → Steps p.tables e below (s₁.setTop (mkF m 0 #[vI p1, .unset] [])) tg := by
              intro tg kt
              refine R14 _ ?_
              show Steps p.tables e below (s₁.setTop (mkF m 73 #[vI (own_ush32 p1 (2 : Int32)), vI ((31 : Int32) + (-2 : Int32))] [])) _
              refine XS.iloadN X0.here hx rfl (hb hby d6_73) rfl ?_
              refine XS.iloadN X0.here hx rfl (hb hby d6_74) rfl ?_
              refine XS.iconst X0.here hx rfl (hb hby d6_75) ?_
              show Steps p.tables e below (s₁.setTop (mkF m 76 #[vI (own_ush32 p1 (2 : Int32)), vI ((31 : Int32) + (-2 : Int32))] [(.int (1 : Int32)), (.int (own_ush32 p1 (2 : Int32))), (.int ((31 : Int32) + (-2 : Int32)))])) _
              refine XS.iushr X0.here hx rfl (hb hby d6_76) rfl ?_
              show Steps p.tables e below (s₁.setTop (mkF m 77 #[vI (own_ush32 p1 (2 : Int32)), vI ((31 : Int32) + (-2 : Int32))] [(.int (((own_ush32 p1 (2 : Int32)).toUInt32 >>> ((1 : Int32) &&& 31).toUInt32).toInt32)), (.int ((31 : Int32) + (-2 : Int32)))])) _
              refine XS.isub X0.here hx rfl (hb hby d6_77) rfl ?_
              exact kt
            clear R14
            obtain ⟨fs, hr, hrun, hended, hW, hsame⟩ := X0.leave (v := some (.int (((31 : Int32) + (-2 : Int32)) - (((own_ush32 p1 (2 : Int32)).toUInt32 >>> ((1 : Int32) &&& 31).toUInt32).toInt32)))) (fun h => by rw [Bd.returns] at h; cases h)
            refine ⟨_, _, pre0 _ (R15 _ ?_), hrun, hended, _, _, rfl, ?_, ⟨_, rfl⟩, hW, hsame.mono (by decide) (by decide)⟩
            · exact retI X0 hx Bd.returns (hb hby d6_78) hr
            · show Q_rm_inlz Z p1 h0 n0 _ s₁.heap _
              rw [e0]
              exact ⟨by rw [own_inlz, if_pos hc1, own_n1, if_pos hc22, own_n2, if_pos hc37, own_n3, if_pos hc51, own_n4, if_neg hc63]; rfl, N0, rfl⟩
        · have R16 : ∀ tg, Steps p.tables e below (s₁.setTop (mkF m 61 #[vI ((p1.toUInt32 >>> ((4 : Int32) &&& 31).toUInt32).toInt32), vI ((31 : Int32) + (-4 : Int32))] [])) tg → Steps p.tables e below (s₁.setTop (mkF m 0 #[vI p1, .unset] [])) tg := by
            intro tg kt
            refine R10 _ ?_
            show Steps p.tables e below (s₁.setTop (mkF m 51 #[vI p1, vI (31 : Int32)] [(.int (16 : Int32)), (.int p1)])) _
            refine XS.icmpNo X0.here hx rfl (hb hby d6_51) rfl (flt (hc51 : ¬ (p1 < (16 : Int32)))).1 ?_
            show Steps p.tables e below (s₁.setTop (mkF m 54 #[vI p1, vI (31 : Int32)] [])) _
            refine XS.iinc X0.here hx rfl (hb hby d6_54) rfl (l' := #[vI p1, vI ((31 : Int32) + (-4 : Int32))]) rfl ?_
            refine XS.iloadN X0.here hx rfl (hb hby d6_57) rfl ?_
            refine XS.iconst X0.here hx rfl (hb hby d6_58) ?_
            show Steps p.tables e below (s₁.setTop (mkF m 59 #[vI p1, vI ((31 : Int32) + (-4 : Int32))] [(.int (4 : Int32)), (.int p1)])) _
            refine XS.iushr X0.here hx rfl (hb hby d6_59) rfl ?_
            show Steps p.tables e below (s₁.setTop (mkF m 60 #[vI p1, vI ((31 : Int32) + (-4 : Int32))] [(.int ((p1.toUInt32 >>> ((4 : Int32) &&& 31).toUInt32).toInt32))])) _
            refine XS.istoreN X0.here hx rfl (hb hby d6_60) rfl (l' := #[vI ((p1.toUInt32 >>> ((4 : Int32) &&& 31).toUInt32).toInt32), vI ((31 : Int32) + (-4 : Int32))]) rfl ?_
            exact kt
          clear R10
          have R17 : ∀ tg, Steps p.tables e below (s₁.setTop (mkF m 61 #[vI (own_ush32 p1 (4 : Int32)), vI ((31 : Int32) + (-4 : Int32))] [])) tg → Steps p.tables e below (s₁.setTop (mkF m 0 #[vI p1, .unset] [])) tg := R16
          have R18 : ∀ tg, Steps p.tables e below (s₁.setTop (mkF m 63 #[vI (own_ush32 p1 (4 : Int32)), vI ((31 : Int32) + (-4 : Int32))] [(.int (4 : Int32)), (.int (own_ush32 p1 (4 : Int32)))])) tg → Steps p.tables e below (s₁.setTop (mkF m 0 #[vI p1, .unset] [])) tg := by
            intro tg kt
            refine R17 _ ?_
            show Steps p.tables e below (s₁.setTop (mkF m 61 #[vI (own_ush32 p1 (4 : Int32)), vI ((31 : Int32) + (-4 : Int32))] [])) _
            refine XS.iloadN X0.here hx rfl (hb hby d6_61) rfl ?_
            refine XS.iconst X0.here hx rfl (hb hby d6_62) ?_
            exact kt
          clear R17
          by_cases hc63 : (own_ush32 p1 (4 : Int32)) < (4 : Int32)
          · have R19 : ∀ tg, Steps p.tables e below (s₁.setTop (mkF m 78 #[vI (own_ush32 p1 (4 : Int32)), vI ((31 : Int32) + (-4 : Int32))] [(.int (((31 : Int32) + (-4 : Int32)) - (((own_ush32 p1 (4 : Int32)).toUInt32 >>> ((1 : Int32) &&& 31).toUInt32).toInt32)))])) tg → Steps p.tables e below (s₁.setTop (mkF m 0 #[vI p1, .unset] [])) tg := by
              intro tg kt
              refine R18 _ ?_
              show Steps p.tables e below (s₁.setTop (mkF m 63 #[vI (own_ush32 p1 (4 : Int32)), vI ((31 : Int32) + (-4 : Int32))] [(.int (4 : Int32)), (.int (own_ush32 p1 (4 : Int32)))])) _
              refine XS.icmpYes X0.here hx rfl (pc0 := 63) (pc' := 73) rfl (hb hby d6_63) rfl (tlt (hc63 : (own_ush32 p1 (4 : Int32)) < (4 : Int32))).1 (by decide) (by decide) ?_
              refine XS.iloadN X0.here hx rfl (hb hby d6_73) rfl ?_
              refine XS.iloadN X0.here hx rfl (hb hby d6_74) rfl ?_
              show Steps p.tables e below (s₁.setTop (mkF m 75 #[vI (own_ush32 p1 (4 : Int32)), vI ((31 : Int32) + (-4 : Int32))] [(.int (own_ush32 p1 (4 : Int32))), (.int ((31 : Int32) + (-4 : Int32)))])) _
              refine XS.iconst X0.here hx rfl (hb hby d6_75) ?_
              show Steps p.tables e below (s₁.setTop (mkF m 76 #[vI (own_ush32 p1 (4 : Int32)), vI ((31 : Int32) + (-4 : Int32))] [(.int (1 : Int32)), (.int (own_ush32 p1 (4 : Int32))), (.int ((31 : Int32) + (-4 : Int32)))])) _
              refine XS.iushr X0.here hx rfl (hb hby d6_76) rfl ?_
              show Steps p.tables e below (s₁.setTop (mkF m 77 #[vI (own_ush32 p1 (4 : Int32)), vI ((31 : Int32) + (-4 : Int32))] [(.int (((own_ush32 p1 (4 : Int32)).toUInt32 >>> ((1 : Int32) &&& 31).toUInt32).toInt32)), (.int ((31 : Int32) + (-4 : Int32)))])) _
              refine XS.isub X0.here hx rfl (hb hby d6_77) rfl ?_
              exact kt
            clear R18
            obtain ⟨fs, hr, hrun, hended, hW, hsame⟩ := X0.leave (v := some (.int (((31 : Int32) + (-4 : Int32)) - (((own_ush32 p1 (4 : Int32)).toUInt32 >>> ((1 : Int32) &&& 31).toUInt32).toInt32)))) (fun h => by rw [Bd.returns] at h; cases h)
            refine ⟨_, _, pre0 _ (R19 _ ?_), hrun, hended, _, _, rfl, ?_, ⟨_, rfl⟩, hW, hsame.mono (by decide) (by decide)⟩
            · exact retI X0 hx Bd.returns (hb hby d6_78) hr
            · show Q_rm_inlz Z p1 h0 n0 _ s₁.heap _
              rw [e0]
              exact ⟨by rw [own_inlz, if_pos hc1, own_n1, if_pos hc22, own_n2, if_pos hc37, own_n3, if_neg hc51, own_n4, if_pos hc63]; rfl, N0, rfl⟩
          · have R20 : ∀ tg, Steps p.tables e below (s₁.setTop (mkF m 73 #[vI (((own_ush32 p1 (4 : Int32)).toUInt32 >>> ((2 : Int32) &&& 31).toUInt32).toInt32), vI (((31 : Int32) + (-4 : Int32)) + (-2 : Int32))] [])) tg → Steps p.tables e below (s₁.setTop (mkF m 0 #[vI p1, .unset] [])) tg := by
              intro tg kt
              refine R18 _ ?_
              show Steps p.tables e below (s₁.setTop (mkF m 63 #[vI (own_ush32 p1 (4 : Int32)), vI ((31 : Int32) + (-4 : Int32))] [(.int (4 : Int32)), (.int (own_ush32 p1 (4 : Int32)))])) _
              refine XS.icmpNo X0.here hx rfl (hb hby d6_63) rfl (flt (hc63 : ¬ ((own_ush32 p1 (4 : Int32)) < (4 : Int32)))).1 ?_
              show Steps p.tables e below (s₁.setTop (mkF m 66 #[vI (own_ush32 p1 (4 : Int32)), vI ((31 : Int32) + (-4 : Int32))] [])) _
              refine XS.iinc X0.here hx rfl (hb hby d6_66) rfl (l' := #[vI (own_ush32 p1 (4 : Int32)), vI (((31 : Int32) + (-4 : Int32)) + (-2 : Int32))]) rfl ?_
              refine XS.iloadN X0.here hx rfl (hb hby d6_69) rfl ?_
              refine XS.iconst X0.here hx rfl (hb hby d6_70) ?_
              show Steps p.tables e below (s₁.setTop (mkF m 71 #[vI (own_ush32 p1 (4 : Int32)), vI (((31 : Int32) + (-4 : Int32)) + (-2 : Int32))] [(.int (2 : Int32)), (.int (own_ush32 p1 (4 : Int32)))])) _
              refine XS.iushr X0.here hx rfl (hb hby d6_71) rfl ?_
              show Steps p.tables e below (s₁.setTop (mkF m 72 #[vI (own_ush32 p1 (4 : Int32)), vI (((31 : Int32) + (-4 : Int32)) + (-2 : Int32))] [(.int (((own_ush32 p1 (4 : Int32)).toUInt32 >>> ((2 : Int32) &&& 31).toUInt32).toInt32))])) _
              refine XS.istoreN X0.here hx rfl (hb hby d6_72) rfl (l' := #[vI (((own_ush32 p1 (4 : Int32)).toUInt32 >>> ((2 : Int32) &&& 31).toUInt32).toInt32), vI (((31 : Int32) + (-4 : Int32)) + (-2 : Int32))]) rfl ?_
              exact kt
            clear R18
            have R21 : ∀ tg, Steps p.tables e below (s₁.setTop (mkF m 73 #[vI (own_ush32 (own_ush32 p1 (4 : Int32)) (2 : Int32)), vI (((31 : Int32) + (-4 : Int32)) + (-2 : Int32))] [])) tg → Steps p.tables e below (s₁.setTop (mkF m 0 #[vI p1, .unset] [])) tg := R20
            have R22 : ∀ tg, Steps p.tables e below (s₁.setTop (mkF m 78 #[vI (own_ush32 (own_ush32 p1 (4 : Int32)) (2 : Int32)), vI (((31 : Int32) + (-4 : Int32)) + (-2 : Int32))] [(.int ((((31 : Int32) + (-4 : Int32)) + (-2 : Int32)) - (((own_ush32 (own_ush32 p1 (4 : Int32)) (2 : Int32)).toUInt32 >>> ((1 : Int32) &&& 31).toUInt32).toInt32)))])) tg → Steps p.tables e below (s₁.setTop (mkF m 0 #[vI p1, .unset] [])) tg := by
              intro tg kt
              refine R21 _ ?_
              show Steps p.tables e below (s₁.setTop (mkF m 73 #[vI (own_ush32 (own_ush32 p1 (4 : Int32)) (2 : Int32)), vI (((31 : Int32) + (-4 : Int32)) + (-2 : Int32))] [])) _
              refine XS.iloadN X0.here hx rfl (hb hby d6_73) rfl ?_
              refine XS.iloadN X0.here hx rfl (hb hby d6_74) rfl ?_
              refine XS.iconst X0.here hx rfl (hb hby d6_75) ?_
              show Steps p.tables e below (s₁.setTop (mkF m 76 #[vI (own_ush32 (own_ush32 p1 (4 : Int32)) (2 : Int32)), vI (((31 : Int32) + (-4 : Int32)) + (-2 : Int32))] [(.int (1 : Int32)), (.int (own_ush32 (own_ush32 p1 (4 : Int32)) (2 : Int32))), (.int (((31 : Int32) + (-4 : Int32)) + (-2 : Int32)))])) _
              refine XS.iushr X0.here hx rfl (hb hby d6_76) rfl ?_
              show Steps p.tables e below (s₁.setTop (mkF m 77 #[vI (own_ush32 (own_ush32 p1 (4 : Int32)) (2 : Int32)), vI (((31 : Int32) + (-4 : Int32)) + (-2 : Int32))] [(.int (((own_ush32 (own_ush32 p1 (4 : Int32)) (2 : Int32)).toUInt32 >>> ((1 : Int32) &&& 31).toUInt32).toInt32)), (.int (((31 : Int32) + (-4 : Int32)) + (-2 : Int32)))])) _
              refine XS.isub X0.here hx rfl (hb hby d6_77) rfl ?_
              exact kt
            clear R21
            obtain ⟨fs, hr, hrun, hended, hW, hsame⟩ := X0.leave (v := some (.int ((((31 : Int32) + (-4 : Int32)) + (-2 : Int32)) - (((own_ush32 (own_ush32 p1 (4 : Int32)) (2 : Int32)).toUInt32 >>> ((1 : Int32) &&& 31).toUInt32).toInt32)))) (fun h => by rw [Bd.returns] at h; cases h)
            refine ⟨_, _, pre0 _ (R22 _ ?_), hrun, hended, _, _, rfl, ?_, ⟨_, rfl⟩, hW, hsame.mono (by decide) (by decide)⟩
            · exact retI X0 hx Bd.returns (hb hby d6_78) hr
            · show Q_rm_inlz Z p1 h0 n0 _ s₁.heap _
              rw [e0]
              exact ⟨by rw [own_inlz, if_pos hc1, own_n1, if_pos hc22, own_n2, if_pos hc37, own_n3, if_neg hc51, own_n4, if_neg hc63]; rfl, N0, rfl⟩
      · have R23 : ∀ tg, Steps p.tables e below (s₁.setTop (mkF m 48 #[vI ((p1.toUInt32 >>> ((8 : Int32) &&& 31).toUInt32).toInt32), vI ((31 : Int32) + (-8 : Int32))] [])) tg → Steps p.tables e below (s₁.setTop (mkF m 0 #[vI p1, .unset] [])) tg := by
          intro tg kt
          refine R9 _ ?_
          show Steps p.tables e below (s₁.setTop (mkF m 37 #[vI p1, vI (31 : Int32)] [(.int (256 : Int32)), (.int p1)])) _
          refine XS.icmpNo X0.here hx rfl (hb hby d6_37) rfl (flt (hc37 : ¬ (p1 < (256 : Int32)))).1 ?_
          show Steps p.tables e below (s₁.setTop (mkF m 40 #[vI p1, vI (31 : Int32)] [])) _
          refine XS.iinc X0.here hx rfl (hb hby d6_40) rfl (l' := #[vI p1, vI ((31 : Int32) + (-8 : Int32))]) rfl ?_
          refine XS.iloadN X0.here hx rfl (hb hby d6_43) rfl ?_
          refine XS.bipush X0.here hx rfl (hb hby d6_44) ?_
          show Steps p.tables e below (s₁.setTop (mkF m 46 #[vI p1, vI ((31 : Int32) + (-8 : Int32))] [(.int (8 : Int32)), (.int p1)])) _
          refine XS.iushr X0.here hx rfl (hb hby d6_46) rfl ?_
          show Steps p.tables e below (s₁.setTop (mkF m 47 #[vI p1, vI ((31 : Int32) + (-8 : Int32))] [(.int ((p1.toUInt32 >>> ((8 : Int32) &&& 31).toUInt32).toInt32))])) _
          refine XS.istoreN X0.here hx rfl (hb hby d6_47) rfl (l' := #[vI ((p1.toUInt32 >>> ((8 : Int32) &&& 31).toUInt32).toInt32), vI ((31 : Int32) + (-8 : Int32))]) rfl ?_
          exact kt
        clear R9
        have R24 : ∀ tg, Steps p.tables e below (s₁.setTop (mkF m 48 #[vI (own_ush32 p1 (8 : Int32)), vI ((31 : Int32) + (-8 : Int32))] [])) tg → Steps p.tables e below (s₁.setTop (mkF m 0 #[vI p1, .unset] [])) tg := R23
        have R25 : ∀ tg, Steps p.tables e below (s₁.setTop (mkF m 51 #[vI (own_ush32 p1 (8 : Int32)), vI ((31 : Int32) + (-8 : Int32))] [(.int (16 : Int32)), (.int (own_ush32 p1 (8 : Int32)))])) tg → Steps p.tables e below (s₁.setTop (mkF m 0 #[vI p1, .unset] [])) tg := by
          intro tg kt
          refine R24 _ ?_
          show Steps p.tables e below (s₁.setTop (mkF m 48 #[vI (own_ush32 p1 (8 : Int32)), vI ((31 : Int32) + (-8 : Int32))] [])) _
          refine XS.iloadN X0.here hx rfl (hb hby d6_48) rfl ?_
          refine XS.bipush X0.here hx rfl (hb hby d6_49) ?_
          exact kt
        clear R24
        by_cases hc51 : (own_ush32 p1 (8 : Int32)) < (16 : Int32)
        · have R26 : ∀ tg, Steps p.tables e below (s₁.setTop (mkF m 63 #[vI (own_ush32 p1 (8 : Int32)), vI ((31 : Int32) + (-8 : Int32))] [(.int (4 : Int32)), (.int (own_ush32 p1 (8 : Int32)))])) tg → Steps p.tables e below (s₁.setTop (mkF m 0 #[vI p1, .unset] [])) tg := by
            intro tg kt
            refine R25 _ ?_
            show Steps p.tables e below (s₁.setTop (mkF m 51 #[vI (own_ush32 p1 (8 : Int32)), vI ((31 : Int32) + (-8 : Int32))] [(.int (16 : Int32)), (.int (own_ush32 p1 (8 : Int32)))])) _
            refine XS.icmpYes X0.here hx rfl (pc0 := 51) (pc' := 61) rfl (hb hby d6_51) rfl (tlt (hc51 : (own_ush32 p1 (8 : Int32)) < (16 : Int32))).1 (by decide) (by decide) ?_
            refine XS.iloadN X0.here hx rfl (hb hby d6_61) rfl ?_
            refine XS.iconst X0.here hx rfl (hb hby d6_62) ?_
            exact kt
          clear R25
          by_cases hc63 : (own_ush32 p1 (8 : Int32)) < (4 : Int32)
          · have R27 : ∀ tg, Steps p.tables e below (s₁.setTop (mkF m 78 #[vI (own_ush32 p1 (8 : Int32)), vI ((31 : Int32) + (-8 : Int32))] [(.int (((31 : Int32) + (-8 : Int32)) - (((own_ush32 p1 (8 : Int32)).toUInt32 >>> ((1 : Int32) &&& 31).toUInt32).toInt32)))])) tg → Steps p.tables e below (s₁.setTop (mkF m 0 #[vI p1, .unset] [])) tg := by
              intro tg kt
              refine R26 _ ?_
              show Steps p.tables e below (s₁.setTop (mkF m 63 #[vI (own_ush32 p1 (8 : Int32)), vI ((31 : Int32) + (-8 : Int32))] [(.int (4 : Int32)), (.int (own_ush32 p1 (8 : Int32)))])) _
              refine XS.icmpYes X0.here hx rfl (pc0 := 63) (pc' := 73) rfl (hb hby d6_63) rfl (tlt (hc63 : (own_ush32 p1 (8 : Int32)) < (4 : Int32))).1 (by decide) (by decide) ?_
              refine XS.iloadN X0.here hx rfl (hb hby d6_73) rfl ?_
              refine XS.iloadN X0.here hx rfl (hb hby d6_74) rfl ?_
              show Steps p.tables e below (s₁.setTop (mkF m 75 #[vI (own_ush32 p1 (8 : Int32)), vI ((31 : Int32) + (-8 : Int32))] [(.int (own_ush32 p1 (8 : Int32))), (.int ((31 : Int32) + (-8 : Int32)))])) _
              refine XS.iconst X0.here hx rfl (hb hby d6_75) ?_
              show Steps p.tables e below (s₁.setTop (mkF m 76 #[vI (own_ush32 p1 (8 : Int32)), vI ((31 : Int32) + (-8 : Int32))] [(.int (1 : Int32)), (.int (own_ush32 p1 (8 : Int32))), (.int ((31 : Int32) + (-8 : Int32)))])) _
              refine XS.iushr X0.here hx rfl (hb hby d6_76) rfl ?_
              show Steps p.tables e below (s₁.setTop (mkF m 77 #[vI (own_ush32 p1 (8 : Int32)), vI ((31 : Int32) + (-8 : Int32))] [(.int (((own_ush32 p1 (8 : Int32)).toUInt32 >>> ((1 : Int32) &&& 31).toUInt32).toInt32)), (.int ((31 : Int32) + (-8 : Int32)))])) _
              refine XS.isub X0.here hx rfl (hb hby d6_77) rfl ?_
              exact kt
            clear R26
            obtain ⟨fs, hr, hrun, hended, hW, hsame⟩ := X0.leave (v := some (.int (((31 : Int32) + (-8 : Int32)) - (((own_ush32 p1 (8 : Int32)).toUInt32 >>> ((1 : Int32) &&& 31).toUInt32).toInt32)))) (fun h => by rw [Bd.returns] at h; cases h)
            refine ⟨_, _, pre0 _ (R27 _ ?_), hrun, hended, _, _, rfl, ?_, ⟨_, rfl⟩, hW, hsame.mono (by decide) (by decide)⟩
            · exact retI X0 hx Bd.returns (hb hby d6_78) hr
            · show Q_rm_inlz Z p1 h0 n0 _ s₁.heap _
              rw [e0]
              exact ⟨by rw [own_inlz, if_pos hc1, own_n1, if_pos hc22, own_n2, if_neg hc37, own_n3, if_pos hc51, own_n4, if_pos hc63]; rfl, N0, rfl⟩
          · have R28 : ∀ tg, Steps p.tables e below (s₁.setTop (mkF m 73 #[vI (((own_ush32 p1 (8 : Int32)).toUInt32 >>> ((2 : Int32) &&& 31).toUInt32).toInt32), vI (((31 : Int32) + (-8 : Int32)) + (-2 : Int32))] [])) tg → Steps p.tables e below (s₁.setTop (mkF m 0 #[vI p1, .unset] [])) tg := by
              intro tg kt
              refine R26 _ ?_
              show Steps p.tables e below (s₁.setTop (mkF m 63 #[vI (own_ush32 p1 (8 : Int32)), vI ((31 : Int32) + (-8 : Int32))] [(.int (4 : Int32)), (.int (own_ush32 p1 (8 : Int32)))])) _
              refine XS.icmpNo X0.here hx rfl (hb hby d6_63) rfl (flt (hc63 : ¬ ((own_ush32 p1 (8 : Int32)) < (4 : Int32)))).1 ?_
              show Steps p.tables e below (s₁.setTop (mkF m 66 #[vI (own_ush32 p1 (8 : Int32)), vI ((31 : Int32) + (-8 : Int32))] [])) _
              refine XS.iinc X0.here hx rfl (hb hby d6_66) rfl (l' := #[vI (own_ush32 p1 (8 : Int32)), vI (((31 : Int32) + (-8 : Int32)) + (-2 : Int32))]) rfl ?_
              refine XS.iloadN X0.here hx rfl (hb hby d6_69) rfl ?_
              refine XS.iconst X0.here hx rfl (hb hby d6_70) ?_
              show Steps p.tables e below (s₁.setTop (mkF m 71 #[vI (own_ush32 p1 (8 : Int32)), vI (((31 : Int32) + (-8 : Int32)) + (-2 : Int32))] [(.int (2 : Int32)), (.int (own_ush32 p1 (8 : Int32)))])) _
              refine XS.iushr X0.here hx rfl (hb hby d6_71) rfl ?_
              show Steps p.tables e below (s₁.setTop (mkF m 72 #[vI (own_ush32 p1 (8 : Int32)), vI (((31 : Int32) + (-8 : Int32)) + (-2 : Int32))] [(.int (((own_ush32 p1 (8 : Int32)).toUInt32 >>> ((2 : Int32) &&& 31).toUInt32).toInt32))])) _
              refine XS.istoreN X0.here hx rfl (hb hby d6_72) rfl (l' := #[vI (((own_ush32 p1 (8 : Int32)).toUInt32 >>> ((2 : Int32) &&& 31).toUInt32).toInt32), vI (((31 : Int32) + (-8 : Int32)) + (-2 : Int32))]) rfl ?_
              exact kt
            clear R26
            have R29 : ∀ tg, Steps p.tables e below (s₁.setTop (mkF m 73 #[vI (own_ush32 (own_ush32 p1 (8 : Int32)) (2 : Int32)), vI (((31 : Int32) + (-8 : Int32)) + (-2 : Int32))] [])) tg → Steps p.tables e below (s₁.setTop (mkF m 0 #[vI p1, .unset] [])) tg := R28
            have R30 : ∀ tg, Steps p.tables e below (s₁.setTop (mkF m 78 #[vI (own_ush32 (own_ush32 p1 (8 : Int32)) (2 : Int32)), vI (((31 : Int32) + (-8 : Int32)) + (-2 : Int32))] [(.int ((((31 : Int32) + (-8 : Int32)) + (-2 : Int32)) - (((own_ush32 (own_ush32 p1 (8 : Int32)) (2 : Int32)).toUInt32 >>> ((1 : Int32) &&& 31).toUInt32).toInt32)))])) tg → Steps p.tables e below (s₁.setTop (mkF m 0 #[vI p1, .unset] [])) tg := by
              intro tg kt
              refine R29 _ ?_
              show Steps p.tables e below (s₁.setTop (mkF m 73 #[vI (own_ush32 (own_ush32 p1 (8 : Int32)) (2 : Int32)), vI (((31 : Int32) + (-8 : Int32)) + (-2 : Int32))] [])) _
              refine XS.iloadN X0.here hx rfl (hb hby d6_73) rfl ?_
              refine XS.iloadN X0.here hx rfl (hb hby d6_74) rfl ?_
              refine XS.iconst X0.here hx rfl (hb hby d6_75) ?_
              show Steps p.tables e below (s₁.setTop (mkF m 76 #[vI (own_ush32 (own_ush32 p1 (8 : Int32)) (2 : Int32)), vI (((31 : Int32) + (-8 : Int32)) + (-2 : Int32))] [(.int (1 : Int32)), (.int (own_ush32 (own_ush32 p1 (8 : Int32)) (2 : Int32))), (.int (((31 : Int32) + (-8 : Int32)) + (-2 : Int32)))])) _
              refine XS.iushr X0.here hx rfl (hb hby d6_76) rfl ?_
              show Steps p.tables e below (s₁.setTop (mkF m 77 #[vI (own_ush32 (own_ush32 p1 (8 : Int32)) (2 : Int32)), vI (((31 : Int32) + (-8 : Int32)) + (-2 : Int32))] [(.int (((own_ush32 (own_ush32 p1 (8 : Int32)) (2 : Int32)).toUInt32 >>> ((1 : Int32) &&& 31).toUInt32).toInt32)), (.int (((31 : Int32) + (-8 : Int32)) + (-2 : Int32)))])) _
              refine XS.isub X0.here hx rfl (hb hby d6_77) rfl ?_
              exact kt
            clear R29
            obtain ⟨fs, hr, hrun, hended, hW, hsame⟩ := X0.leave (v := some (.int ((((31 : Int32) + (-8 : Int32)) + (-2 : Int32)) - (((own_ush32 (own_ush32 p1 (8 : Int32)) (2 : Int32)).toUInt32 >>> ((1 : Int32) &&& 31).toUInt32).toInt32)))) (fun h => by rw [Bd.returns] at h; cases h)
            refine ⟨_, _, pre0 _ (R30 _ ?_), hrun, hended, _, _, rfl, ?_, ⟨_, rfl⟩, hW, hsame.mono (by decide) (by decide)⟩
            · exact retI X0 hx Bd.returns (hb hby d6_78) hr
            · show Q_rm_inlz Z p1 h0 n0 _ s₁.heap _
              rw [e0]
              exact ⟨by rw [own_inlz, if_pos hc1, own_n1, if_pos hc22, own_n2, if_neg hc37, own_n3, if_pos hc51, own_n4, if_neg hc63]; rfl, N0, rfl⟩
        · have R31 : ∀ tg, Steps p.tables e below (s₁.setTop (mkF m 61 #[vI (((own_ush32 p1 (8 : Int32)).toUInt32 >>> ((4 : Int32) &&& 31).toUInt32).toInt32), vI (((31 : Int32) + (-8 : Int32)) + (-4 : Int32))] [])) tg → Steps p.tables e below (s₁.setTop (mkF m 0 #[vI p1, .unset] [])) tg := by
            intro tg kt
            refine R25 _ ?_
            show Steps p.tables e below (s₁.setTop (mkF m 51 #[vI (own_ush32 p1 (8 : Int32)), vI ((31 : Int32) + (-8 : Int32))] [(.int (16 : Int32)), (.int (own_ush32 p1 (8 : Int32)))])) _
            refine XS.icmpNo X0.here hx rfl (hb hby d6_51) rfl (flt (hc51 : ¬ ((own_ush32 p1 (8 : Int32)) < (16 : Int32)))).1 ?_
            show Steps p.tables e below (s₁.setTop (mkF m 54 #[vI (own_ush32 p1 (8 : Int32)), vI ((31 : Int32) + (-8 : Int32))] [])) _
            refine XS.iinc X0.here hx rfl (hb hby d6_54) rfl (l' := #[vI (own_ush32 p1 (8 : Int32)), vI (((31 : Int32) + (-8 : Int32)) + (-4 : Int32))]) rfl ?_
            refine XS.iloadN X0.here hx rfl (hb hby d6_57) rfl ?_
            refine XS.iconst X0.here hx rfl (hb hby d6_58) ?_
            show Steps p.tables e below (s₁.setTop (mkF m 59 #[vI (own_ush32 p1 (8 : Int32)), vI (((31 : Int32) + (-8 : Int32)) + (-4 : Int32))] [(.int (4 : Int32)), (.int (own_ush32 p1 (8 : Int32)))])) _
            refine XS.iushr X0.here hx rfl (hb hby d6_59) rfl ?_
            show Steps p.tables e below (s₁.setTop (mkF m 60 #[vI (own_ush32 p1 (8 : Int32)), vI (((31 : Int32) + (-8 : Int32)) + (-4 : Int32))] [(.int (((own_ush32 p1 (8 : Int32)).toUInt32 >>> ((4 : Int32) &&& 31).toUInt32).toInt32))])) _
            refine XS.istoreN X0.here hx rfl (hb hby d6_60) rfl (l' := #[vI (((own_ush32 p1 (8 : Int32)).toUInt32 >>> ((4 : Int32) &&& 31).toUInt32).toInt32), vI (((31 : Int32) + (-8 : Int32)) + (-4 : Int32))]) rfl ?_
            exact kt
          clear R25
          have R32 : ∀ tg, Steps p.tables e below (s₁.setTop (mkF m 61 #[vI (own_ush32 (own_ush32 p1 (8 : Int32)) (4 : Int32)), vI (((31 : Int32) + (-8 : Int32)) + (-4 : Int32))] [])) tg → Steps p.tables e below (s₁.setTop (mkF m 0 #[vI p1, .unset] [])) tg := R31
          have R33 : ∀ tg, Steps p.tables e below (s₁.setTop (mkF m 63 #[vI (own_ush32 (own_ush32 p1 (8 : Int32)) (4 : Int32)), vI (((31 : Int32) + (-8 : Int32)) + (-4 : Int32))] [(.int (4 : Int32)), (.int (own_ush32 (own_ush32 p1 (8 : Int32)) (4 : Int32)))])) tg → Steps p.tables e below (s₁.setTop (mkF m 0 #[vI p1, .unset] [])) tg := by
            intro tg kt
            refine R32 _ ?_
            show Steps p.tables e below (s₁.setTop (mkF m 61 #[vI (own_ush32 (own_ush32 p1 (8 : Int32)) (4 : Int32)), vI (((31 : Int32) + (-8 : Int32)) + (-4 : Int32))] [])) _
            refine XS.iloadN X0.here hx rfl (hb hby d6_61) rfl ?_
            refine XS.iconst X0.here hx rfl (hb hby d6_62) ?_
            exact kt
          clear R32
          by_cases hc63 : (own_ush32 (own_ush32 p1 (8 : Int32)) (4 : Int32)) < (4 : Int32)
          · have R34 : ∀ tg, Steps p.tables e below (s₁.setTop (mkF m 78 #[vI (own_ush32 (own_ush32 p1 (8 : Int32)) (4 : Int32)), vI (((31 : Int32) + (-8 : Int32)) + (-4 : Int32))] [(.int ((((31 : Int32) + (-8 : Int32)) + (-4 : Int32)) - (((own_ush32 (own_ush32 p1 (8 : Int32)) (4 : Int32)).toUInt32 >>> ((1 : Int32) &&& 31).toUInt32).toInt32)))])) tg → Steps p.tables e below (s₁.setTop (mkF m 0 #[vI p1, .unset] [])) tg := by
              intro tg kt
              refine R33 _ ?_
              show Steps p.tables e below (s₁.setTop (mkF m 63 #[vI (own_ush32 (own_ush32 p1 (8 : Int32)) (4 : Int32)), vI (((31 : Int32) + (-8 : Int32)) + (-4 : Int32))] [(.int (4 : Int32)), (.int (own_ush32 (own_ush32 p1 (8 : Int32)) (4 : Int32)))])) _
              refine XS.icmpYes X0.here hx rfl (pc0 := 63) (pc' := 73) rfl (hb hby d6_63) rfl (tlt (hc63 : (own_ush32 (own_ush32 p1 (8 : Int32)) (4 : Int32)) < (4 : Int32))).1 (by decide) (by decide) ?_
              refine XS.iloadN X0.here hx rfl (hb hby d6_73) rfl ?_
              refine XS.iloadN X0.here hx rfl (hb hby d6_74) rfl ?_
              show Steps p.tables e below (s₁.setTop (mkF m 75 #[vI (own_ush32 (own_ush32 p1 (8 : Int32)) (4 : Int32)), vI (((31 : Int32) + (-8 : Int32)) + (-4 : Int32))] [(.int (own_ush32 (own_ush32 p1 (8 : Int32)) (4 : Int32))), (.int (((31 : Int32) + (-8 : Int32)) + (-4 : Int32)))])) _
              refine XS.iconst X0.here hx rfl (hb hby d6_75) ?_
              show Steps p.tables e below (s₁.setTop (mkF m 76 #[vI (own_ush32 (own_ush32 p1 (8 : Int32)) (4 : Int32)), vI (((31 : Int32) + (-8 : Int32)) + (-4 : Int32))] [(.int (1 : Int32)), (.int (own_ush32 (own_ush32 p1 (8 : Int32)) (4 : Int32))), (.int (((31 : Int32) + (-8 : Int32)) + (-4 : Int32)))])) _
              refine XS.iushr X0.here hx rfl (hb hby d6_76) rfl ?_
              show Steps p.tables e below (s₁.setTop (mkF m 77 #[vI (own_ush32 (own_ush32 p1 (8 : Int32)) (4 : Int32)), vI (((31 : Int32) + (-8 : Int32)) + (-4 : Int32))] [(.int (((own_ush32 (own_ush32 p1 (8 : Int32)) (4 : Int32)).toUInt32 >>> ((1 : Int32) &&& 31).toUInt32).toInt32)), (.int (((31 : Int32) + (-8 : Int32)) + (-4 : Int32)))])) _
              refine XS.isub X0.here hx rfl (hb hby d6_77) rfl ?_
              exact kt
            clear R33
            obtain ⟨fs, hr, hrun, hended, hW, hsame⟩ := X0.leave (v := some (.int ((((31 : Int32) + (-8 : Int32)) + (-4 : Int32)) - (((own_ush32 (own_ush32 p1 (8 : Int32)) (4 : Int32)).toUInt32 >>> ((1 : Int32) &&& 31).toUInt32).toInt32)))) (fun h => by rw [Bd.returns] at h; cases h)
            refine ⟨_, _, pre0 _ (R34 _ ?_), hrun, hended, _, _, rfl, ?_, ⟨_, rfl⟩, hW, hsame.mono (by decide) (by decide)⟩
            · exact retI X0 hx Bd.returns (hb hby d6_78) hr
            · show Q_rm_inlz Z p1 h0 n0 _ s₁.heap _
              rw [e0]
              exact ⟨by rw [own_inlz, if_pos hc1, own_n1, if_pos hc22, own_n2, if_neg hc37, own_n3, if_neg hc51, own_n4, if_pos hc63]; rfl, N0, rfl⟩
          · have R35 : ∀ tg, Steps p.tables e below (s₁.setTop (mkF m 73 #[vI (((own_ush32 (own_ush32 p1 (8 : Int32)) (4 : Int32)).toUInt32 >>> ((2 : Int32) &&& 31).toUInt32).toInt32), vI ((((31 : Int32) + (-8 : Int32)) + (-4 : Int32)) + (-2 : Int32))] [])) tg → Steps p.tables e below (s₁.setTop (mkF m 0 #[vI p1, .unset] [])) tg := by
              intro tg kt
              refine R33 _ ?_
              show Steps p.tables e below (s₁.setTop (mkF m 63 #[vI (own_ush32 (own_ush32 p1 (8 : Int32)) (4 : Int32)), vI (((31 : Int32) + (-8 : Int32)) + (-4 : Int32))] [(.int (4 : Int32)), (.int (own_ush32 (own_ush32 p1 (8 : Int32)) (4 : Int32)))])) _
              refine XS.icmpNo X0.here hx rfl (hb hby d6_63) rfl (flt (hc63 : ¬ ((own_ush32 (own_ush32 p1 (8 : Int32)) (4 : Int32)) < (4 : Int32)))).1 ?_
              show Steps p.tables e below (s₁.setTop (mkF m 66 #[vI (own_ush32 (own_ush32 p1 (8 : Int32)) (4 : Int32)), vI (((31 : Int32) + (-8 : Int32)) + (-4 : Int32))] [])) _
              refine XS.iinc X0.here hx rfl (hb hby d6_66) rfl (l' := #[vI (own_ush32 (own_ush32 p1 (8 : Int32)) (4 : Int32)), vI ((((31 : Int32) + (-8 : Int32)) + (-4 : Int32)) + (-2 : Int32))]) rfl ?_
              refine XS.iloadN X0.here hx rfl (hb hby d6_69) rfl ?_
              refine XS.iconst X0.here hx rfl (hb hby d6_70) ?_
              show Steps p.tables e below (s₁.setTop (mkF m 71 #[vI (own_ush32 (own_ush32 p1 (8 : Int32)) (4 : Int32)), vI ((((31 : Int32) + (-8 : Int32)) + (-4 : Int32)) + (-2 : Int32))] [(.int (2 : Int32)), (.int (own_ush32 (own_ush32 p1 (8 : Int32)) (4 : Int32)))])) _
              refine XS.iushr X0.here hx rfl (hb hby d6_71) rfl ?_
              show Steps p.tables e below (s₁.setTop (mkF m 72 #[vI (own_ush32 (own_ush32 p1 (8 : Int32)) (4 : Int32)), vI ((((31 : Int32) + (-8 : Int32)) + (-4 : Int32)) + (-2 : Int32))] [(.int (((own_ush32 (own_ush32 p1 (8 : Int32)) (4 : Int32)).toUInt32 >>> ((2 : Int32) &&& 31).toUInt32).toInt32))])) _
              refine XS.istoreN X0.here hx rfl (hb hby d6_72) rfl (l' := #[vI (((own_ush32 (own_ush32 p1 (8 : Int32)) (4 : Int32)).toUInt32 >>> ((2 : Int32) &&& 31).toUInt32).toInt32), vI ((((31 : Int32) + (-8 : Int32)) + (-4 : Int32)) + (-2 : Int32))]) rfl ?_
              exact kt
            clear R33
            have R36 : ∀ tg, Steps p.tables e below (s₁.setTop (mkF m 73 #[vI (own_ush32 (own_ush32 (own_ush32 p1 (8 : Int32)) (4 : Int32)) (2 : Int32)), vI ((((31 : Int32) + (-8 : Int32)) + (-4 : Int32)) + (-2 : Int32))] [])) tg → Steps p.tables e below (s₁.setTop (mkF m 0 #[vI p1, .unset] [])) tg := R35
            have R37 : ∀ tg, Steps p.tables e below (s₁.setTop (mkF m 78 #[vI (own_ush32 (own_ush32 (own_ush32 p1 (8 : Int32)) (4 : Int32)) (2 : Int32)), vI ((((31 : Int32) + (-8 : Int32)) + (-4 : Int32)) + (-2 : Int32))] [(.int (((((31 : Int32) + (-8 : Int32)) + (-4 : Int32)) + (-2 : Int32)) - (((own_ush32 (own_ush32 (own_ush32 p1 (8 : Int32)) (4 : Int32)) (2 : Int32)).toUInt32 >>> ((1 : Int32) &&& 31).toUInt32).toInt32)))])) tg → Steps p.tables e below (s₁.setTop (mkF m 0 #[vI p1, .unset] [])) tg := by
              intro tg kt
              refine R36 _ ?_
              show Steps p.tables e below (s₁.setTop (mkF m 73 #[vI (own_ush32 (own_ush32 (own_ush32 p1 (8 : Int32)) (4 : Int32)) (2 : Int32)), vI ((((31 : Int32) + (-8 : Int32)) + (-4 : Int32)) + (-2 : Int32))] [])) _
              refine XS.iloadN X0.here hx rfl (hb hby d6_73) rfl ?_
              refine XS.iloadN X0.here hx rfl (hb hby d6_74) rfl ?_
              refine XS.iconst X0.here hx rfl (hb hby d6_75) ?_
              show Steps p.tables e below (s₁.setTop (mkF m 76 #[vI (own_ush32 (own_ush32 (own_ush32 p1 (8 : Int32)) (4 : Int32)) (2 : Int32)), vI ((((31 : Int32) + (-8 : Int32)) + (-4 : Int32)) + (-2 : Int32))] [(.int (1 : Int32)), (.int (own_ush32 (own_ush32 (own_ush32 p1 (8 : Int32)) (4 : Int32)) (2 : Int32))), (.int ((((31 : Int32) + (-8 : Int32)) + (-4 : Int32)) + (-2 : Int32)))])) _
              refine XS.iushr X0.here hx rfl (hb hby d6_76) rfl ?_
              show Steps p.tables e below (s₁.setTop (mkF m 77 #[vI (own_ush32 (own_ush32 (own_ush32 p1 (8 : Int32)) (4 : Int32)) (2 : Int32)), vI ((((31 : Int32) + (-8 : Int32)) + (-4 : Int32)) + (-2 : Int32))] [(.int (((own_ush32 (own_ush32 (own_ush32 p1 (8 : Int32)) (4 : Int32)) (2 : Int32)).toUInt32 >>> ((1 : Int32) &&& 31).toUInt32).toInt32)), (.int ((((31 : Int32) + (-8 : Int32)) + (-4 : Int32)) + (-2 : Int32)))])) _
              refine XS.isub X0.here hx rfl (hb hby d6_77) rfl ?_
              exact kt
            clear R36
            obtain ⟨fs, hr, hrun, hended, hW, hsame⟩ := X0.leave (v := some (.int (((((31 : Int32) + (-8 : Int32)) + (-4 : Int32)) + (-2 : Int32)) - (((own_ush32 (own_ush32 (own_ush32 p1 (8 : Int32)) (4 : Int32)) (2 : Int32)).toUInt32 >>> ((1 : Int32) &&& 31).toUInt32).toInt32)))) (fun h => by rw [Bd.returns] at h; cases h)
            refine ⟨_, _, pre0 _ (R37 _ ?_), hrun, hended, _, _, rfl, ?_, ⟨_, rfl⟩, hW, hsame.mono (by decide) (by decide)⟩
            · exact retI X0 hx Bd.returns (hb hby d6_78) hr
            · show Q_rm_inlz Z p1 h0 n0 _ s₁.heap _
              rw [e0]
              exact ⟨by rw [own_inlz, if_pos hc1, own_n1, if_pos hc22, own_n2, if_neg hc37, own_n3, if_neg hc51, own_n4, if_neg hc63]; rfl, N0, rfl⟩
    · have R38 : ∀ tg, Steps p.tables e below (s₁.setTop (mkF m 33 #[vI ((p1.toUInt32 >>> ((16 : Int32) &&& 31).toUInt32).toInt32), vI ((31 : Int32) + (-16 : Int32))] [])) tg → Steps p.tables e below (s₁.setTop (mkF m 0 #[vI p1, .unset] [])) tg := by
        intro tg kt
        refine R8 _ ?_
        show Steps p.tables e below (s₁.setTop (mkF m 22 #[vI p1, vI (31 : Int32)] [(.int (65536 : Int32)), (.int p1)])) _
        refine XS.icmpNo X0.here hx rfl (hb hby d6_22) rfl (flt (hc22 : ¬ (p1 < (65536 : Int32)))).1 ?_
        show Steps p.tables e below (s₁.setTop (mkF m 25 #[vI p1, vI (31 : Int32)] [])) _
        refine XS.iinc X0.here hx rfl (hb hby d6_25) rfl (l' := #[vI p1, vI ((31 : Int32) + (-16 : Int32))]) rfl ?_
        refine XS.iloadN X0.here hx rfl (hb hby d6_28) rfl ?_
        refine XS.bipush X0.here hx rfl (hb hby d6_29) ?_
        show Steps p.tables e below (s₁.setTop (mkF m 31 #[vI p1, vI ((31 : Int32) + (-16 : Int32))] [(.int (16 : Int32)), (.int p1)])) _
        refine XS.iushr X0.here hx rfl (hb hby d6_31) rfl ?_
        show Steps p.tables e below (s₁.setTop (mkF m 32 #[vI p1, vI ((31 : Int32) + (-16 : Int32))] [(.int ((p1.toUInt32 >>> ((16 : Int32) &&& 31).toUInt32).toInt32))])) _
        refine XS.istoreN X0.here hx rfl (hb hby d6_32) rfl (l' := #[vI ((p1.toUInt32 >>> ((16 : Int32) &&& 31).toUInt32).toInt32), vI ((31 : Int32) + (-16 : Int32))]) rfl ?_
        exact kt
      clear R8
      have R39 : ∀ tg, Steps p.tables e below (s₁.setTop (mkF m 33 #[vI (own_ush32 p1 (16 : Int32)), vI ((31 : Int32) + (-16 : Int32))] [])) tg → Steps p.tables e below (s₁.setTop (mkF m 0 #[vI p1, .unset] [])) tg := R38
      have R40 : ∀ tg, Steps p.tables e below (s₁.setTop (mkF m 37 #[vI (own_ush32 p1 (16 : Int32)), vI ((31 : Int32) + (-16 : Int32))] [(.int (256 : Int32)), (.int (own_ush32 p1 (16 : Int32)))])) tg → Steps p.tables e below (s₁.setTop (mkF m 0 #[vI p1, .unset] [])) tg := by
        intro tg kt
        refine R39 _ ?_
        show Steps p.tables e below (s₁.setTop (mkF m 33 #[vI (own_ush32 p1 (16 : Int32)), vI ((31 : Int32) + (-16 : Int32))] [])) _
        refine XS.iloadN X0.here hx rfl (hb hby d6_33) rfl ?_
        refine XS.sipush X0.here hx rfl (hb hby d6_34) ?_
        exact kt
      clear R39
      by_cases hc37 : (own_ush32 p1 (16 : Int32)) < (256 : Int32)
      · have R41 : ∀ tg, Steps p.tables e below (s₁.setTop (mkF m 51 #[vI (own_ush32 p1 (16 : Int32)), vI ((31 : Int32) + (-16 : Int32))] [(.int (16 : Int32)), (.int (own_ush32 p1 (16 : Int32)))])) tg → Steps p.tables e below (s₁.setTop (mkF m 0 #[vI p1, .unset] [])) tg := by
          intro tg kt
          refine R40 _ ?_
          show Steps p.tables e below (s₁.setTop (mkF m 37 #[vI (own_ush32 p1 (16 : Int32)), vI ((31 : Int32) + (-16 : Int32))] [(.int (256 : Int32)), (.int (own_ush32 p1 (16 : Int32)))])) _
          refine XS.icmpYes X0.here hx rfl (pc0 := 37) (pc' := 48) rfl (hb hby d6_37) rfl (tlt (hc37 : (own_ush32 p1 (16 : Int32)) < (256 : Int32))).1 (by decide) (by decide) ?_
          refine XS.iloadN X0.here hx rfl (hb hby d6_48) rfl ?_
          refine XS.bipush X0.here hx rfl (hb hby d6_49) ?_
          exact kt
        clear R40
        by_cases hc51 : (own_ush32 p1 (16 : Int32)) < (16 : Int32)
        · have R42 : ∀ tg, Steps p.tables e below (s₁.setTop (mkF m 63 #[vI (own_ush32 p1 (16 : Int32)), vI ((31 : Int32) + (-16 : Int32))] [(.int (4 : Int32)), (.int (own_ush32 p1 (16 : Int32)))])) tg → Steps p.tables e below (s₁.setTop (mkF m 0 #[vI p1, .unset] [])) tg := by
            intro tg kt
            refine R41 _ ?_
            show Steps p.tables e below (s₁.setTop (mkF m 51 #[vI (own_ush32 p1 (16 : Int32)), vI ((31 : Int32) + (-16 : Int32))] [(.int (16 : Int32)), (.int (own_ush32 p1 (16 : Int32)))])) _
            refine XS.icmpYes X0.here hx rfl (pc0 := 51) (pc' := 61) rfl (hb hby d6_51) rfl (tlt (hc51 : (own_ush32 p1 (16 : Int32)) < (16 : Int32))).1 (by decide) (by decide) ?_
            refine XS.iloadN X0.here hx rfl (hb hby d6_61) rfl ?_
            refine XS.iconst X0.here hx rfl (hb hby d6_62) ?_
            exact kt
          clear R41
          by_cases hc63 : (own_ush32 p1 (16 : Int32)) < (4 : Int32)
          · have R43 : ∀ tg, Steps p.tables e below (s₁.setTop (mkF m 78 #[vI (own_ush32 p1 (16 : Int32)), vI ((31 : Int32) + (-16 : Int32))] [(.int (((31 : Int32) + (-16 : Int32)) - (((own_ush32 p1 (16 : Int32)).toUInt32 >>> ((1 : Int32) &&& 31).toUInt32).toInt32)))])) tg → Steps p.tables e below (s₁.setTop (mkF m 0 #[vI p1, .unset] [])) tg := by
              intro tg kt
              refine R42 _ ?_
              show Steps p.tables e below (s₁.setTop (mkF m 63 #[vI (own_ush32 p1 (16 : Int32)), vI ((31 : Int32) + (-16 : Int32))] [(.int (4 : Int32)), (.int (own_ush32 p1 (16 : Int32)))])) _
              refine XS.icmpYes X0.here hx rfl (pc0 := 63) (pc' := 73) rfl (hb hby d6_63) rfl (tlt (hc63 : (own_ush32 p1 (16 : Int32)) < (4 : Int32))).1 (by decide) (by decide) ?_
              refine XS.iloadN X0.here hx rfl (hb hby d6_73) rfl ?_
              refine XS.iloadN X0.here hx rfl (hb hby d6_74) rfl ?_
              show Steps p.tables e below (s₁.setTop (mkF m 75 #[vI (own_ush32 p1 (16 : Int32)), vI ((31 : Int32) + (-16 : Int32))] [(.int (own_ush32 p1 (16 : Int32))), (.int ((31 : Int32) + (-16 : Int32)))])) _
              refine XS.iconst X0.here hx rfl (hb hby d6_75) ?_
              show Steps p.tables e below (s₁.setTop (mkF m 76 #[vI (own_ush32 p1 (16 : Int32)), vI ((31 : Int32) + (-16 : Int32))] [(.int (1 : Int32)), (.int (own_ush32 p1 (16 : Int32))), (.int ((31 : Int32) + (-16 : Int32)))])) _
              refine XS.iushr X0.here hx rfl (hb hby d6_76) rfl ?_
              show Steps p.tables e below (s₁.setTop (mkF m 77 #[vI (own_ush32 p1 (16 : Int32)), vI ((31 : Int32) + (-16 : Int32))] [(.int (((own_ush32 p1 (16 : Int32)).toUInt32 >>> ((1 : Int32) &&& 31).toUInt32).toInt32)), (.int ((31 : Int32) + (-16 : Int32)))])) _
              refine XS.isub X0.here hx rfl (hb hby d6_77) rfl ?_
              exact kt
            clear R42
            obtain ⟨fs, hr, hrun, hended, hW, hsame⟩ := X0.leave (v := some (.int (((31 : Int32) + (-16 : Int32)) - (((own_ush32 p1 (16 : Int32)).toUInt32 >>> ((1 : Int32) &&& 31).toUInt32).toInt32)))) (fun h => by rw [Bd.returns] at h; cases h)
            refine ⟨_, _, pre0 _ (R43 _ ?_), hrun, hended, _, _, rfl, ?_, ⟨_, rfl⟩, hW, hsame.mono (by decide) (by decide)⟩
            · exact retI X0 hx Bd.returns (hb hby d6_78) hr
            · show Q_rm_inlz Z p1 h0 n0 _ s₁.heap _
              rw [e0]
              exact ⟨by rw [own_inlz, if_pos hc1, own_n1, if_neg hc22, own_n2, if_pos hc37, own_n3, if_pos hc51, own_n4, if_pos hc63]; rfl, N0, rfl⟩
          · have R44 : ∀ tg, Steps p.tables e below (s₁.setTop (mkF m 73 #[vI (((own_ush32 p1 (16 : Int32)).toUInt32 >>> ((2 : Int32) &&& 31).toUInt32).toInt32), vI (((31 : Int32) + (-16 : Int32)) + (-2 : Int32))] [])) tg → Steps p.tables e below (s₁.setTop (mkF m 0 #[vI p1, .unset] [])) tg := by
              intro tg kt
              refine R42 _ ?_
              show Steps p.tables e below (s₁.setTop (mkF m 63 #[vI (own_ush32 p1 (16 : Int32)), vI ((31 : Int32) + (-16 : Int32))] [(.int (4 : Int32)), (.int (own_ush32 p1 (16 : Int32)))])) _
              refine XS.icmpNo X0.here hx rfl (hb hby d6_63) rfl (flt (hc63 : ¬ ((own_ush32 p1 (16 : Int32)) < (4 : Int32)))).1 ?_
              show Steps p.tables e below (s₁.setTop (mkF m 66 #[vI (own_ush32 p1 (16 : Int32)), vI ((31 : Int32) + (-16 : Int32))] [])) _
              refine XS.iinc X0.here hx rfl (hb hby d6_66) rfl (l' := #[vI (own_ush32 p1 (16 : Int32)), vI (((31 : Int32) + (-16 : Int32)) + (-2 : Int32))]) rfl ?_
              refine XS.iloadN X0.here hx rfl (hb hby d6_69) rfl ?_
              refine XS.iconst X0.here hx rfl (hb hby d6_70) ?_
              show Steps p.tables e below (s₁.setTop (mkF m 71 #[vI (own_ush32 p1 (16 : Int32)), vI (((31 : Int32) + (-16 : Int32)) + (-2 : Int32))] [(.int (2 : Int32)), (.int (own_ush32 p1 (16 : Int32)))])) _
              refine XS.iushr X0.here hx rfl (hb hby d6_71) rfl ?_
              show Steps p.tables e below (s₁.setTop (mkF m 72 #[vI (own_ush32 p1 (16 : Int32)), vI (((31 : Int32) + (-16 : Int32)) + (-2 : Int32))] [(.int (((own_ush32 p1 (16 : Int32)).toUInt32 >>> ((2 : Int32) &&& 31).toUInt32).toInt32))])) _
              refine XS.istoreN X0.here hx rfl (hb hby d6_72) rfl (l' := #[vI (((own_ush32 p1 (16 : Int32)).toUInt32 >>> ((2 : Int32) &&& 31).toUInt32).toInt32), vI (((31 : Int32) + (-16 : Int32)) + (-2 : Int32))]) rfl ?_
              exact kt
            clear R42
            have R45 : ∀ tg, Steps p.tables e below (s₁.setTop (mkF m 73 #[vI (own_ush32 (own_ush32 p1 (16 : Int32)) (2 : Int32)), vI (((31 : Int32) + (-16 : Int32)) + (-2 : Int32))] [])) tg → Steps p.tables e below (s₁.setTop (mkF m 0 #[vI p1, .unset] [])) tg := R44
            have R46 : ∀ tg, Steps p.tables e below (s₁.setTop (mkF m 78 #[vI (own_ush32 (own_ush32 p1 (16 : Int32)) (2 : Int32)), vI (((31 : Int32) + (-16 : Int32)) + (-2 : Int32))] [(.int ((((31 : Int32) + (-16 : Int32)) + (-2 : Int32)) - (((own_ush32 (own_ush32 p1 (16 : Int32)) (2 : Int32)).toUInt32 >>> ((1 : Int32) &&& 31).toUInt32).toInt32)))])) tg → Steps p.tables e below (s₁.setTop (mkF m 0 #[vI p1, .unset] [])) tg := by
              intro tg kt
              refine R45 _ ?_
              show Steps p.tables e below (s₁.setTop (mkF m 73 #[vI (own_ush32 (own_ush32 p1 (16 : Int32)) (2 : Int32)), vI (((31 : Int32) + (-16 : Int32)) + (-2 : Int32))] [])) _
              refine XS.iloadN X0.here hx rfl (hb hby d6_73) rfl ?_
              refine XS.iloadN X0.here hx rfl (hb hby d6_74) rfl ?_
              refine XS.iconst X0.here hx rfl (hb hby d6_75) ?_
              show Steps p.tables e below (s₁.setTop (mkF m 76 #[vI (own_ush32 (own_ush32 p1 (16 : Int32)) (2 : Int32)), vI (((31 : Int32) + (-16 : Int32)) + (-2 : Int32))] [(.int (1 : Int32)), (.int (own_ush32 (own_ush32 p1 (16 : Int32)) (2 : Int32))), (.int (((31 : Int32) + (-16 : Int32)) + (-2 : Int32)))])) _
              refine XS.iushr X0.here hx rfl (hb hby d6_76) rfl ?_
              show Steps p.tables e below (s₁.setTop (mkF m 77 #[vI (own_ush32 (own_ush32 p1 (16 : Int32)) (2 : Int32)), vI (((31 : Int32) + (-16 : Int32)) + (-2 : Int32))] [(.int (((own_ush32 (own_ush32 p1 (16 : Int32)) (2 : Int32)).toUInt32 >>> ((1 : Int32) &&& 31).toUInt32).toInt32)), (.int (((31 : Int32) + (-16 : Int32)) + (-2 : Int32)))])) _
              refine XS.isub X0.here hx rfl (hb hby d6_77) rfl ?_
              exact kt
            clear R45
            obtain ⟨fs, hr, hrun, hended, hW, hsame⟩ := X0.leave (v := some (.int ((((31 : Int32) + (-16 : Int32)) + (-2 : Int32)) - (((own_ush32 (own_ush32 p1 (16 : Int32)) (2 : Int32)).toUInt32 >>> ((1 : Int32) &&& 31).toUInt32).toInt32)))) (fun h => by rw [Bd.returns] at h; cases h)
            refine ⟨_, _, pre0 _ (R46 _ ?_), hrun, hended, _, _, rfl, ?_, ⟨_, rfl⟩, hW, hsame.mono (by decide) (by decide)⟩
            · exact retI X0 hx Bd.returns (hb hby d6_78) hr
            · show Q_rm_inlz Z p1 h0 n0 _ s₁.heap _
              rw [e0]
              exact ⟨by rw [own_inlz, if_pos hc1, own_n1, if_neg hc22, own_n2, if_pos hc37, own_n3, if_pos hc51, own_n4, if_neg hc63]; rfl, N0, rfl⟩
        · have R47 : ∀ tg, Steps p.tables e below (s₁.setTop (mkF m 61 #[vI (((own_ush32 p1 (16 : Int32)).toUInt32 >>> ((4 : Int32) &&& 31).toUInt32).toInt32), vI (((31 : Int32) + (-16 : Int32)) + (-4 : Int32))] [])) tg → Steps p.tables e below (s₁.setTop (mkF m 0 #[vI p1, .unset] [])) tg := by
            intro tg kt
            refine R41 _ ?_
            show Steps p.tables e below (s₁.setTop (mkF m 51 #[vI (own_ush32 p1 (16 : Int32)), vI ((31 : Int32) + (-16 : Int32))] [(.int (16 : Int32)), (.int (own_ush32 p1 (16 : Int32)))])) _
            refine XS.icmpNo X0.here hx rfl (hb hby d6_51) rfl (flt (hc51 : ¬ ((own_ush32 p1 (16 : Int32)) < (16 : Int32)))).1 ?_
            show Steps p.tables e below (s₁.setTop (mkF m 54 #[vI (own_ush32 p1 (16 : Int32)), vI ((31 : Int32) + (-16 : Int32))] [])) _
            refine XS.iinc X0.here hx rfl (hb hby d6_54) rfl (l' := #[vI (own_ush32 p1 (16 : Int32)), vI (((31 : Int32) + (-16 : Int32)) + (-4 : Int32))]) rfl ?_
            refine XS.iloadN X0.here hx rfl (hb hby d6_57) rfl ?_
            refine XS.iconst X0.here hx rfl (hb hby d6_58) ?_
            show Steps p.tables e below (s₁.setTop (mkF m 59 #[vI (own_ush32 p1 (16 : Int32)), vI (((31 : Int32) + (-16 : Int32)) + (-4 : Int32))] [(.int (4 : Int32)), (.int (own_ush32 p1 (16 : Int32)))])) _
            refine XS.iushr X0.here hx rfl (hb hby d6_59) rfl ?_
            show Steps p.tables e below (s₁.setTop (mkF m 60 #[vI (own_ush32 p1 (16 : Int32)), vI (((31 : Int32) + (-16 : Int32)) + (-4 : Int32))] [(.int (((own_ush32 p1 (16 : Int32)).toUInt32 >>> ((4 : Int32) &&& 31).toUInt32).toInt32))])) _
            refine XS.istoreN X0.here hx rfl (hb hby d6_60) rfl (l' := #[vI (((own_ush32 p1 (16 : Int32)).toUInt32 >>> ((4 : Int32) &&& 31).toUInt32).toInt32), vI (((31 : Int32) + (-16 : Int32)) + (-4 : Int32))]) rfl ?_
            exact kt
          clear R41
          have R48 : ∀ tg, Steps p.tables e below (s₁.setTop (mkF m 61 #[vI (own_ush32 (own_ush32 p1 (16 : Int32)) (4 : Int32)), vI (((31 : Int32) + (-16 : Int32)) + (-4 : Int32))] [])) tg → Steps p.tables e below (s₁.setTop (mkF m 0 #[vI p1, .unset] [])) tg := R47
          have R49 : ∀ tg, Steps p.tables e below (s₁.setTop (mkF m 63 #[vI (own_ush32 (own_ush32 p1 (16 : Int32)) (4 : Int32)), vI (((31 : Int32) + (-16 : Int32)) + (-4 : Int32))] [(.int (4 : Int32)), (.int (own_ush32 (own_ush32 p1 (16 : Int32)) (4 : Int32)))])) tg → Steps p.tables e below (s₁.setTop (mkF m 0 #[vI p1, .unset] [])) tg := by
            intro tg kt
            refine R48 _ ?_
            show Steps p.tables e below (s₁.setTop (mkF m 61 #[vI (own_ush32 (own_ush32 p1 (16 : Int32)) (4 : Int32)), vI (((31 : Int32) + (-16 : Int32)) + (-4 : Int32))] [])) _
            refine XS.iloadN X0.here hx rfl (hb hby d6_61) rfl ?_
            refine XS.iconst X0.here hx rfl (hb hby d6_62) ?_
            exact kt
          clear R48
          by_cases hc63 : (own_ush32 (own_ush32 p1 (16 : Int32)) (4 : Int32)) < (4 : Int32)
          · have R50 : ∀ tg, Steps p.tables e below (s₁.setTop (mkF m 78 #[vI (own_ush32 (own_ush32 p1 (16 : Int32)) (4 : Int32)), vI (((31 : Int32) + (-16 : Int32)) + (-4 : Int32))] [(.int ((((31 : Int32) + (-16 : Int32)) + (-4 : Int32)) - (((own_ush32 (own_ush32 p1 (16 : Int32)) (4 : Int32)).toUInt32 >>> ((1 : Int32) &&& 31).toUInt32).toInt32)))])) tg → Steps p.tables e below (s₁.setTop (mkF m 0 #[vI p1, .unset] [])) tg := by
              intro tg kt
              refine R49 _ ?_
              show Steps p.tables e below (s₁.setTop (mkF m 63 #[vI (own_ush32 (own_ush32 p1 (16 : Int32)) (4 : Int32)), vI (((31 : Int32) + (-16 : Int32)) + (-4 : Int32))] [(.int (4 : Int32)), (.int (own_ush32 (own_ush32 p1 (16 : Int32)) (4 : Int32)))])) _
              refine XS.icmpYes X0.here hx rfl (pc0 := 63) (pc' := 73) rfl (hb hby d6_63) rfl (tlt (hc63 : (own_ush32 (own_ush32 p1 (16 : Int32)) (4 : Int32)) < (4 : Int32))).1 (by decide) (by decide) ?_
              refine XS.iloadN X0.here hx rfl (hb hby d6_73) rfl ?_
              refine XS.iloadN X0.here hx rfl (hb hby d6_74) rfl ?_
              show Steps p.tables e below (s₁.setTop (mkF m 75 #[vI (own_ush32 (own_ush32 p1 (16 : Int32)) (4 : Int32)), vI (((31 : Int32) + (-16 : Int32)) + (-4 : Int32))] [(.int (own_ush32 (own_ush32 p1 (16 : Int32)) (4 : Int32))), (.int (((31 : Int32) + (-16 : Int32)) + (-4 : Int32)))])) _
              refine XS.iconst X0.here hx rfl (hb hby d6_75) ?_
              show Steps p.tables e below (s₁.setTop (mkF m 76 #[vI (own_ush32 (own_ush32 p1 (16 : Int32)) (4 : Int32)), vI (((31 : Int32) + (-16 : Int32)) + (-4 : Int32))] [(.int (1 : Int32)), (.int (own_ush32 (own_ush32 p1 (16 : Int32)) (4 : Int32))), (.int (((31 : Int32) + (-16 : Int32)) + (-4 : Int32)))])) _
              refine XS.iushr X0.here hx rfl (hb hby d6_76) rfl ?_
              show Steps p.tables e below (s₁.setTop (mkF m 77 #[vI (own_ush32 (own_ush32 p1 (16 : Int32)) (4 : Int32)), vI (((31 : Int32) + (-16 : Int32)) + (-4 : Int32))] [(.int (((own_ush32 (own_ush32 p1 (16 : Int32)) (4 : Int32)).toUInt32 >>> ((1 : Int32) &&& 31).toUInt32).toInt32)), (.int (((31 : Int32) + (-16 : Int32)) + (-4 : Int32)))])) _
              refine XS.isub X0.here hx rfl (hb hby d6_77) rfl ?_
              exact kt
            clear R49
            obtain ⟨fs, hr, hrun, hended, hW, hsame⟩ := X0.leave (v := some (.int ((((31 : Int32) + (-16 : Int32)) + (-4 : Int32)) - (((own_ush32 (own_ush32 p1 (16 : Int32)) (4 : Int32)).toUInt32 >>> ((1 : Int32) &&& 31).toUInt32).toInt32)))) (fun h => by rw [Bd.returns] at h; cases h)
            refine ⟨_, _, pre0 _ (R50 _ ?_), hrun, hended, _, _, rfl, ?_, ⟨_, rfl⟩, hW, hsame.mono (by decide) (by decide)⟩
            · exact retI X0 hx Bd.returns (hb hby d6_78) hr
            · show Q_rm_inlz Z p1 h0 n0 _ s₁.heap _
              rw [e0]
              exact ⟨by rw [own_inlz, if_pos hc1, own_n1, if_neg hc22, own_n2, if_pos hc37, own_n3, if_neg hc51, own_n4, if_pos hc63]; rfl, N0, rfl⟩
          · have R51 : ∀ tg, Steps p.tables e below (s₁.setTop (mkF m 73 #[vI (((own_ush32 (own_ush32 p1 (16 : Int32)) (4 : Int32)).toUInt32 >>> ((2 : Int32) &&& 31).toUInt32).toInt32), vI ((((31 : Int32) + (-16 : Int32)) + (-4 : Int32)) + (-2 : Int32))] [])) tg → Steps p.tables e below (s₁.setTop (mkF m 0 #[vI p1, .unset] [])) tg := by
              intro tg kt
              refine R49 _ ?_
              show Steps p.tables e below (s₁.setTop (mkF m 63 #[vI (own_ush32 (own_ush32 p1 (16 : Int32)) (4 : Int32)), vI (((31 : Int32) + (-16 : Int32)) + (-4 : Int32))] [(.int (4 : Int32)), (.int (own_ush32 (own_ush32 p1 (16 : Int32)) (4 : Int32)))])) _
              refine XS.icmpNo X0.here hx rfl (hb hby d6_63) rfl (flt (hc63 : ¬ ((own_ush32 (own_ush32 p1 (16 : Int32)) (4 : Int32)) < (4 : Int32)))).1 ?_
              show Steps p.tables e below (s₁.setTop (mkF m 66 #[vI (own_ush32 (own_ush32 p1 (16 : Int32)) (4 : Int32)), vI (((31 : Int32) + (-16 : Int32)) + (-4 : Int32))] [])) _
              refine XS.iinc X0.here hx rfl (hb hby d6_66) rfl (l' := #[vI (own_ush32 (own_ush32 p1 (16 : Int32)) (4 : Int32)), vI ((((31 : Int32) + (-16 : Int32)) + (-4 : Int32)) + (-2 : Int32))]) rfl ?_
              refine XS.iloadN X0.here hx rfl (hb hby d6_69) rfl ?_
              refine XS.iconst X0.here hx rfl (hb hby d6_70) ?_
              show Steps p.tables e below (s₁.setTop (mkF m 71 #[vI (own_ush32 (own_ush32 p1 (16 : Int32)) (4 : Int32)), vI ((((31 : Int32) + (-16 : Int32)) + (-4 : Int32)) + (-2 : Int32))] [(.int (2 : Int32)), (.int (own_ush32 (own_ush32 p1 (16 : Int32)) (4 : Int32)))])) _
              refine XS.iushr X0.here hx rfl (hb hby d6_71) rfl ?_
              show Steps p.tables e below (s₁.setTop (mkF m 72 #[vI (own_ush32 (own_ush32 p1 (16 : Int32)) (4 : Int32)), vI ((((31 : Int32) + (-16 : Int32)) + (-4 : Int32)) + (-2 : Int32))] [(.int (((own_ush32 (own_ush32 p1 (16 : Int32)) (4 : Int32)).toUInt32 >>> ((2 : Int32) &&& 31).toUInt32).toInt32))])) _
              refine XS.istoreN X0.here hx rfl (hb hby d6_72) rfl (l' := #[vI (((own_ush32 (own_ush32 p1 (16 : Int32)) (4 : Int32)).toUInt32 >>> ((2 : Int32) &&& 31).toUInt32).toInt32), vI ((((31 : Int32) + (-16 : Int32)) + (-4 : Int32)) + (-2 : Int32))]) rfl ?_
              exact kt
            clear R49
            have R52 : ∀ tg, Steps p.tables e below (s₁.setTop (mkF m 73 #[vI (own_ush32 (own_ush32 (own_ush32 p1 (16 : Int32)) (4 : Int32)) (2 : Int32)), vI ((((31 : Int32) + (-16 : Int32)) + (-4 : Int32)) + (-2 : Int32))] [])) tg → Steps p.tables e below (s₁.setTop (mkF m 0 #[vI p1, .unset] [])) tg := R51
            have R53 : ∀ tg, Steps p.tables e below (s₁.setTop (mkF m 78 #[vI (own_ush32 (own_ush32 (own_ush32 p1 (16 : Int32)) (4 : Int32)) (2 : Int32)), vI ((((31 : Int32) + (-16 : Int32)) + (-4 : Int32)) + (-2 : Int32))] [(.int (((((31 : Int32) + (-16 : Int32)) + (-4 : Int32)) + (-2 : Int32)) - (((own_ush32 (own_ush32 (own_ush32 p1 (16 : Int32)) (4 : Int32)) (2 : Int32)).toUInt32 >>> ((1 : Int32) &&& 31).toUInt32).toInt32)))])) tg → Steps p.tables e below (s₁.setTop (mkF m 0 #[vI p1, .unset] [])) tg := by
              intro tg kt
              refine R52 _ ?_
              show Steps p.tables e below (s₁.setTop (mkF m 73 #[vI (own_ush32 (own_ush32 (own_ush32 p1 (16 : Int32)) (4 : Int32)) (2 : Int32)), vI ((((31 : Int32) + (-16 : Int32)) + (-4 : Int32)) + (-2 : Int32))] [])) _
              refine XS.iloadN X0.here hx rfl (hb hby d6_73) rfl ?_
              refine XS.iloadN X0.here hx rfl (hb hby d6_74) rfl ?_
              refine XS.iconst X0.here hx rfl (hb hby d6_75) ?_
              show Steps p.tables e below (s₁.setTop (mkF m 76 #[vI (own_ush32 (own_ush32 (own_ush32 p1 (16 : Int32)) (4 : Int32)) (2 : Int32)), vI ((((31 : Int32) + (-16 : Int32)) + (-4 : Int32)) + (-2 : Int32))] [(.int (1 : Int32)), (.int (own_ush32 (own_ush32 (own_ush32 p1 (16 : Int32)) (4 : Int32)) (2 : Int32))), (.int ((((31 : Int32) + (-16 : Int32)) + (-4 : Int32)) + (-2 : Int32)))])) _
              refine XS.iushr X0.here hx rfl (hb hby d6_76) rfl ?_
              show Steps p.tables e below (s₁.setTop (mkF m 77 #[vI (own_ush32 (own_ush32 (own_ush32 p1 (16 : Int32)) (4 : Int32)) (2 : Int32)), vI ((((31 : Int32) + (-16 : Int32)) + (-4 : Int32)) + (-2 : Int32))] [(.int (((own_ush32 (own_ush32 (own_ush32 p1 (16 : Int32)) (4 : Int32)) (2 : Int32)).toUInt32 >>> ((1 : Int32) &&& 31).toUInt32).toInt32)), (.int ((((31 : Int32) + (-16 : Int32)) + (-4 : Int32)) + (-2 : Int32)))])) _
              refine XS.isub X0.here hx rfl (hb hby d6_77) rfl ?_
              exact kt
            clear R52
            obtain ⟨fs, hr, hrun, hended, hW, hsame⟩ := X0.leave (v := some (.int (((((31 : Int32) + (-16 : Int32)) + (-4 : Int32)) + (-2 : Int32)) - (((own_ush32 (own_ush32 (own_ush32 p1 (16 : Int32)) (4 : Int32)) (2 : Int32)).toUInt32 >>> ((1 : Int32) &&& 31).toUInt32).toInt32)))) (fun h => by rw [Bd.returns] at h; cases h)
            refine ⟨_, _, pre0 _ (R53 _ ?_), hrun, hended, _, _, rfl, ?_, ⟨_, rfl⟩, hW, hsame.mono (by decide) (by decide)⟩
            · exact retI X0 hx Bd.returns (hb hby d6_78) hr
            · show Q_rm_inlz Z p1 h0 n0 _ s₁.heap _
              rw [e0]
              exact ⟨by rw [own_inlz, if_pos hc1, own_n1, if_neg hc22, own_n2, if_pos hc37, own_n3, if_neg hc51, own_n4, if_neg hc63]; rfl, N0, rfl⟩
      · have R54 : ∀ tg, Steps p.tables e below (s₁.setTop (mkF m 48 #[vI (((own_ush32 p1 (16 : Int32)).toUInt32 >>> ((8 : Int32) &&& 31).toUInt32).toInt32), vI (((31 : Int32) + (-16 : Int32)) + (-8 : Int32))] [])) tg → Steps p.tables e below (s₁.setTop (mkF m 0 #[vI p1, .unset] [])) tg := by
          intro tg kt
          refine R40 _ ?_
          show Steps p.tables e below (s₁.setTop (mkF m 37 #[vI (own_ush32 p1 (16 : Int32)), vI ((31 : Int32) + (-16 : Int32))] [(.int (256 : Int32)), (.int (own_ush32 p1 (16 : Int32)))])) _
          refine XS.icmpNo X0.here hx rfl (hb hby d6_37) rfl (flt (hc37 : ¬ ((own_ush32 p1 (16 : Int32)) < (256 : Int32)))).1 ?_
          show Steps p.tables e below (s₁.setTop (mkF m 40 #[vI (own_ush32 p1 (16 : Int32)), vI ((31 : Int32) + (-16 : Int32))] [])) _
          refine XS.iinc X0.here hx rfl (hb hby d6_40) rfl (l' := #[vI (own_ush32 p1 (16 : Int32)), vI (((31 : Int32) + (-16 : Int32)) + (-8 : Int32))]) rfl ?_
          refine XS.iloadN X0.here hx rfl (hb hby d6_43) rfl ?_
          refine XS.bipush X0.here hx rfl (hb hby d6_44) ?_
          show Steps p.tables e below (s₁.setTop (mkF m 46 #[vI (own_ush32 p1 (16 : Int32)), vI (((31 : Int32) + (-16 : Int32)) + (-8 : Int32))] [(.int (8 : Int32)), (.int (own_ush32 p1 (16 : Int32)))])) _
          refine XS.iushr X0.here hx rfl (hb hby d6_46) rfl ?_
          show Steps p.tables e below (s₁.setTop (mkF m 47 #[vI (own_ush32 p1 (16 : Int32)), vI (((31 : Int32) + (-16 : Int32)) + (-8 : Int32))] [(.int (((own_ush32 p1 (16 : Int32)).toUInt32 >>> ((8 : Int32) &&& 31).toUInt32).toInt32))])) _
          refine XS.istoreN X0.here hx rfl (hb hby d6_47) rfl (l' := #[vI (((own_ush32 p1 (16 : Int32)).toUInt32 >>> ((8 : Int32) &&& 31).toUInt32).toInt32), vI (((31 : Int32) + (-16 : Int32)) + (-8 : Int32))]) rfl ?_
          exact kt
        clear R40
        have R55 : ∀ tg, Steps p.tables e below (s₁.setTop (mkF m 48 #[vI (own_ush32 (own_ush32 p1 (16 : Int32)) (8 : Int32)), vI (((31 : Int32) + (-16 : Int32)) + (-8 : Int32))] [])) tg → Steps p.tables e below (s₁.setTop (mkF m 0 #[vI p1, .unset] [])) tg := R54
        have R56 : ∀ tg, Steps p.tables e below (s₁.setTop (mkF m 51 #[vI (own_ush32 (own_ush32 p1 (16 : Int32)) (8 : Int32)), vI (((31 : Int32) + (-16 : Int32)) + (-8 : Int32))] [(.int (16 : Int32)), (.int (own_ush32 (own_ush32 p1 (16 : Int32)) (8 : Int32)))])) tg → Steps p.tables e below (s₁.setTop (mkF m 0 #[vI p1, .unset] [])) tg := by
          intro tg kt
          refine R55 _ ?_
          show Steps p.tables e below (s₁.setTop (mkF m 48 #[vI (own_ush32 (own_ush32 p1 (16 : Int32)) (8 : Int32)), vI (((31 : Int32) + (-16 : Int32)) + (-8 : Int32))] [])) _
          refine XS.iloadN X0.here hx rfl (hb hby d6_48) rfl ?_
          refine XS.bipush X0.here hx rfl (hb hby d6_49) ?_
          exact kt
        clear R55
        by_cases hc51 : (own_ush32 (own_ush32 p1 (16 : Int32)) (8 : Int32)) < (16 : Int32)
        · have R57 : ∀ tg, Steps p.tables e below (s₁.setTop (mkF m 63 #[vI (own_ush32 (own_ush32 p1 (16 : Int32)) (8 : Int32)), vI (((31 : Int32) + (-16 : Int32)) + (-8 : Int32))] [(.int (4 : Int32)), (.int (own_ush32 (own_ush32 p1 (16 : Int32)) (8 : Int32)))])) tg → Steps p.tables e below (s₁.setTop (mkF m 0 #[vI p1, .unset] [])) tg := by
            intro tg kt
            refine R56 _ ?_
            show Steps p.tables e below (s₁.setTop (mkF m 51 #[vI (own_ush32 (own_ush32 p1 (16 : Int32)) (8 : Int32)), vI (((31 : Int32) + (-16 : Int32)) + (-8 : Int32))] [(.int (16 : Int32)), (.int (own_ush32 (own_ush32 p1 (16 : Int32)) (8 : Int32)))])) _
            refine XS.icmpYes X0.here hx rfl (pc0 := 51) (pc' := 61) rfl (hb hby d6_51) rfl (tlt (hc51 : (own_ush32 (own_ush32 p1 (16 : Int32)) (8 : Int32)) < (16 : Int32))).1 (by decide) (by decide) ?_
            refine XS.iloadN X0.here hx rfl (hb hby d6_61) rfl ?_
            refine XS.iconst X0.here hx rfl (hb hby d6_62) ?_
            exact kt
          clear R56
          by_cases hc63 : (own_ush32 (own_ush32 p1 (16 : Int32)) (8 : Int32)) < (4 : Int32)
          · have R58 : ∀ tg, Steps p.tables e below (s₁.setTop (mkF m 78 #[vI (own_ush32 (own_ush32 p1 (16 : Int32)) (8 : Int32)), vI (((31 : Int32) + (-16 : Int32)) + (-8 : Int32))] [(.int ((((31 : Int32) + (-16 : Int32)) + (-8 : Int32)) - (((own_ush32 (own_ush32 p1 (16 : Int32)) (8 : Int32)).toUInt32 >>> ((1 : Int32) &&& 31).toUInt32).toInt32)))])) tg → Steps p.tables e below (s₁.setTop (mkF m 0 #[vI p1, .unset] [])) tg := by
              intro tg kt
              refine R57 _ ?_
              show Steps p.tables e below (s₁.setTop (mkF m 63 #[vI (own_ush32 (own_ush32 p1 (16 : Int32)) (8 : Int32)), vI (((31 : Int32) + (-16 : Int32)) + (-8 : Int32))] [(.int (4 : Int32)), (.int (own_ush32 (own_ush32 p1 (16 : Int32)) (8 : Int32)))])) _
              refine XS.icmpYes X0.here hx rfl (pc0 := 63) (pc' := 73) rfl (hb hby d6_63) rfl (tlt (hc63 : (own_ush32 (own_ush32 p1 (16 : Int32)) (8 : Int32)) < (4 : Int32))).1 (by decide) (by decide) ?_
              refine XS.iloadN X0.here hx rfl (hb hby d6_73) rfl ?_
              refine XS.iloadN X0.here hx rfl (hb hby d6_74) rfl ?_
              show Steps p.tables e below (s₁.setTop (mkF m 75 #[vI (own_ush32 (own_ush32 p1 (16 : Int32)) (8 : Int32)), vI (((31 : Int32) + (-16 : Int32)) + (-8 : Int32))] [(.int (own_ush32 (own_ush32 p1 (16 : Int32)) (8 : Int32))), (.int (((31 : Int32) + (-16 : Int32)) + (-8 : Int32)))])) _
              refine XS.iconst X0.here hx rfl (hb hby d6_75) ?_
              show Steps p.tables e below (s₁.setTop (mkF m 76 #[vI (own_ush32 (own_ush32 p1 (16 : Int32)) (8 : Int32)), vI (((31 : Int32) + (-16 : Int32)) + (-8 : Int32))] [(.int (1 : Int32)), (.int (own_ush32 (own_ush32 p1 (16 : Int32)) (8 : Int32))), (.int (((31 : Int32) + (-16 : Int32)) + (-8 : Int32)))])) _
              refine XS.iushr X0.here hx rfl (hb hby d6_76) rfl ?_
              show Steps p.tables e below (s₁.setTop (mkF m 77 #[vI (own_ush32 (own_ush32 p1 (16 : Int32)) (8 : Int32)), vI (((31 : Int32) + (-16 : Int32)) + (-8 : Int32))] [(.int (((own_ush32 (own_ush32 p1 (16 : Int32)) (8 : Int32)).toUInt32 >>> ((1 : Int32) &&& 31).toUInt32).toInt32)), (.int (((31 : Int32) + (-16 : Int32)) + (-8 : Int32)))])) _
              refine XS.isub X0.here hx rfl (hb hby d6_77) rfl ?_
              exact kt
            clear R57
            obtain ⟨fs, hr, hrun, hended, hW, hsame⟩ := X0.leave (v := some (.int ((((31 : Int32) + (-16 : Int32)) + (-8 : Int32)) - (((own_ush32 (own_ush32 p1 (16 : Int32)) (8 : Int32)).toUInt32 >>> ((1 : Int32) &&& 31).toUInt32).toInt32)))) (fun h => by rw [Bd.returns] at h; cases h)
            refine ⟨_, _, pre0 _ (R58 _ ?_), hrun, hended, _, _, rfl, ?_, ⟨_, rfl⟩, hW, hsame.mono (by decide) (by decide)⟩
            · exact retI X0 hx Bd.returns (hb hby d6_78) hr
            · show Q_rm_inlz Z p1 h0 n0 _ s₁.heap _
              rw [e0]
              exact ⟨by rw [own_inlz, if_pos hc1, own_n1, if_neg hc22, own_n2, if_neg hc37, own_n3, if_pos hc51, own_n4, if_pos hc63]; rfl, N0, rfl⟩
          · have R59 : ∀ tg, Steps p.tables e below (s₁.setTop (mkF m 73 #[vI (((own_ush32 (own_ush32 p1 (16 : Int32)) (8 : Int32)).toUInt32 >>> ((2 : Int32) &&& 31).toUInt32).toInt32), vI ((((31 : Int32) + (-16 : Int32)) + (-8 : Int32)) + (-2 : Int32))] [])) tg → Steps p.tables e below (s₁.setTop (mkF m 0 #[vI p1, .unset] [])) tg := by
              intro tg kt
              refine R57 _ ?_
              show Steps p.tables e below (s₁.setTop (mkF m 63 #[vI (own_ush32 (own_ush32 p1 (16 : Int32)) (8 : Int32)), vI (((31 : Int32) + (-16 : Int32)) + (-8 : Int32))] [(.int (4 : Int32)), (.int (own_ush32 (own_ush32 p1 (16 : Int32)) (8 : Int32)))])) _
              refine XS.icmpNo X0.here hx rfl (hb hby d6_63) rfl (flt (hc63 : ¬ ((own_ush32 (own_ush32 p1 (16 : Int32)) (8 : Int32)) < (4 : Int32)))).1 ?_
              show Steps p.tables e below (s₁.setTop (mkF m 66 #[vI (own_ush32 (own_ush32 p1 (16 : Int32)) (8 : Int32)), vI (((31 : Int32) + (-16 : Int32)) + (-8 : Int32))] [])) _
              refine XS.iinc X0.here hx rfl (hb hby d6_66) rfl (l' := #[vI (own_ush32 (own_ush32 p1 (16 : Int32)) (8 : Int32)), vI ((((31 : Int32) + (-16 : Int32)) + (-8 : Int32)) + (-2 : Int32))]) rfl ?_
              refine XS.iloadN X0.here hx rfl (hb hby d6_69) rfl ?_
              refine XS.iconst X0.here hx rfl (hb hby d6_70) ?_
              show Steps p.tables e below (s₁.setTop (mkF m 71 #[vI (own_ush32 (own_ush32 p1 (16 : Int32)) (8 : Int32)), vI ((((31 : Int32) + (-16 : Int32)) + (-8 : Int32)) + (-2 : Int32))] [(.int (2 : Int32)), (.int (own_ush32 (own_ush32 p1 (16 : Int32)) (8 : Int32)))])) _
              refine XS.iushr X0.here hx rfl (hb hby d6_71) rfl ?_
              show Steps p.tables e below (s₁.setTop (mkF m 72 #[vI (own_ush32 (own_ush32 p1 (16 : Int32)) (8 : Int32)), vI ((((31 : Int32) + (-16 : Int32)) + (-8 : Int32)) + (-2 : Int32))] [(.int (((own_ush32 (own_ush32 p1 (16 : Int32)) (8 : Int32)).toUInt32 >>> ((2 : Int32) &&& 31).toUInt32).toInt32))])) _
              refine XS.istoreN X0.here hx rfl (hb hby d6_72) rfl (l' := #[vI (((own_ush32 (own_ush32 p1 (16 : Int32)) (8 : Int32)).toUInt32 >>> ((2 : Int32) &&& 31).toUInt32).toInt32), vI ((((31 : Int32) + (-16 : Int32)) + (-8 : Int32)) + (-2 : Int32))]) rfl ?_
              exact kt
            clear R57
            have R60 : ∀ tg, Steps p.tables e below (s₁.setTop (mkF m 73 #[vI (own_ush32 (own_ush32 (own_ush32 p1 (16 : Int32)) (8 : Int32)) (2 : Int32)), vI ((((31 : Int32) + (-16 : Int32)) + (-8 : Int32)) + (-2 : Int32))] [])) tg → Steps p.tables e below (s₁.setTop (mkF m 0 #[vI p1, .unset] [])) tg := R59
            have R61 : ∀ tg, Steps p.tables e below (s₁.setTop (mkF m 78 #[vI (own_ush32 (own_ush32 (own_ush32 p1 (16 : Int32)) (8 : Int32)) (2 : Int32)), vI ((((31 : Int32) + (-16 : Int32)) + (-8 : Int32)) + (-2 : Int32))] [(.int (((((31 : Int32) + (-16 : Int32)) + (-8 : Int32)) + (-2 : Int32)) - (((own_ush32 (own_ush32 (own_ush32 p1 (16 : Int32)) (8 : Int32)) (2 : Int32)).toUInt32 >>> ((1 : Int32) &&& 31).toUInt32).toInt32)))])) tg → Steps p.tables e below (s₁.setTop (mkF m 0 #[vI p1, .unset] [])) tg := by
              intro tg kt
              refine R60 _ ?_
              show Steps p.tables e below (s₁.setTop (mkF m 73 #[vI (own_ush32 (own_ush32 (own_ush32 p1 (16 : Int32)) (8 : Int32)) (2 : Int32)), vI ((((31 : Int32) + (-16 : Int32)) + (-8 : Int32)) + (-2 : Int32))] [])) _
              refine XS.iloadN X0.here hx rfl (hb hby d6_73) rfl ?_
              refine XS.iloadN X0.here hx rfl (hb hby d6_74) rfl ?_
              refine XS.iconst X0.here hx rfl (hb hby d6_75) ?_
              show Steps p.tables e below (s₁.setTop (mkF m 76 #[vI (own_ush32 (own_ush32 (own_ush32 p1 (16 : Int32)) (8 : Int32)) (2 : Int32)), vI ((((31 : Int32) + (-16 : Int32)) + (-8 : Int32)) + (-2 : Int32))] [(.int (1 : Int32)), (.int (own_ush32 (own_ush32 (own_ush32 p1 (16 : Int32)) (8 : Int32)) (2 : Int32))), (.int ((((31 : Int32) + (-16 : Int32)) + (-8 : Int32)) + (-2 : Int32)))])) _
              refine XS.iushr X0.here hx rfl (hb hby d6_76) rfl ?_
              show Steps p.tables e below (s₁.setTop (mkF m 77 #[vI (own_ush32 (own_ush32 (own_ush32 p1 (16 : Int32)) (8 : Int32)) (2 : Int32)), vI ((((31 : Int32) + (-16 : Int32)) + (-8 : Int32)) + (-2 : Int32))] [(.int (((own_ush32 (own_ush32 (own_ush32 p1 (16 : Int32)) (8 : Int32)) (2 : Int32)).toUInt32 >>> ((1 : Int32) &&& 31).toUInt32).toInt32)), (.int ((((31 : Int32) + (-16 : Int32)) + (-8 : Int32)) + (-2 : Int32)))])) _
              refine XS.isub X0.here hx rfl (hb hby d6_77) rfl ?_
              exact kt
            clear R60
            obtain ⟨fs, hr, hrun, hended, hW, hsame⟩ := X0.leave (v := some (.int (((((31 : Int32) + (-16 : Int32)) + (-8 : Int32)) + (-2 : Int32)) - (((own_ush32 (own_ush32 (own_ush32 p1 (16 : Int32)) (8 : Int32)) (2 : Int32)).toUInt32 >>> ((1 : Int32) &&& 31).toUInt32).toInt32)))) (fun h => by rw [Bd.returns] at h; cases h)
            refine ⟨_, _, pre0 _ (R61 _ ?_), hrun, hended, _, _, rfl, ?_, ⟨_, rfl⟩, hW, hsame.mono (by decide) (by decide)⟩
            · exact retI X0 hx Bd.returns (hb hby d6_78) hr
            · show Q_rm_inlz Z p1 h0 n0 _ s₁.heap _
              rw [e0]
              exact ⟨by rw [own_inlz, if_pos hc1, own_n1, if_neg hc22, own_n2, if_neg hc37, own_n3, if_pos hc51, own_n4, if_neg hc63]; rfl, N0, rfl⟩
        · have R62 : ∀ tg, Steps p.tables e below (s₁.setTop (mkF m 61 #[vI (((own_ush32 (own_ush32 p1 (16 : Int32)) (8 : Int32)).toUInt32 >>> ((4 : Int32) &&& 31).toUInt32).toInt32), vI ((((31 : Int32) + (-16 : Int32)) + (-8 : Int32)) + (-4 : Int32))] [])) tg → Steps p.tables e below (s₁.setTop (mkF m 0 #[vI p1, .unset] [])) tg := by
            intro tg kt
            refine R56 _ ?_
            show Steps p.tables e below (s₁.setTop (mkF m 51 #[vI (own_ush32 (own_ush32 p1 (16 : Int32)) (8 : Int32)), vI (((31 : Int32) + (-16 : Int32)) + (-8 : Int32))] [(.int (16 : Int32)), (.int (own_ush32 (own_ush32 p1 (16 : Int32)) (8 : Int32)))])) _
            refine XS.icmpNo X0.here hx rfl (hb hby d6_51) rfl (flt (hc51 : ¬ ((own_ush32 (own_ush32 p1 (16 : Int32)) (8 : Int32)) < (16 : Int32)))).1 ?_
            show Steps p.tables e below (s₁.setTop (mkF m 54 #[vI (own_ush32 (own_ush32 p1 (16 : Int32)) (8 : Int32)), vI (((31 : Int32) + (-16 : Int32)) + (-8 : Int32))] [])) _
            refine XS.iinc X0.here hx rfl (hb hby d6_54) rfl (l' := #[vI (own_ush32 (own_ush32 p1 (16 : Int32)) (8 : Int32)), vI ((((31 : Int32) + (-16 : Int32)) + (-8 : Int32)) + (-4 : Int32))]) rfl ?_
            refine XS.iloadN X0.here hx rfl (hb hby d6_57) rfl ?_
            refine XS.iconst X0.here hx rfl (hb hby d6_58) ?_
            show Steps p.tables e below (s₁.setTop (mkF m 59 #[vI (own_ush32 (own_ush32 p1 (16 : Int32)) (8 : Int32)), vI ((((31 : Int32) + (-16 : Int32)) + (-8 : Int32)) + (-4 : Int32))] [(.int (4 : Int32)), (.int (own_ush32 (own_ush32 p1 (16 : Int32)) (8 : Int32)))])) _
            refine XS.iushr X0.here hx rfl (hb hby d6_59) rfl ?_
            show Steps p.tables e below (s₁.setTop (mkF m 60 #[vI (own_ush32 (own_ush32 p1 (16 : Int32)) (8 : Int32)), vI ((((31 : Int32) + (-16 : Int32)) + (-8 : Int32)) + (-4 : Int32))] [(.int (((own_ush32 (own_ush32 p1 (16 : Int32)) (8 : Int32)).toUInt32 >>> ((4 : Int32) &&& 31).toUInt32).toInt32))])) _
            refine XS.istoreN X0.here hx rfl (hb hby d6_60) rfl (l' := #[vI (((own_ush32 (own_ush32 p1 (16 : Int32)) (8 : Int32)).toUInt32 >>> ((4 : Int32) &&& 31).toUInt32).toInt32), vI ((((31 : Int32) + (-16 : Int32)) + (-8 : Int32)) + (-4 : Int32))]) rfl ?_
            exact kt
          clear R56
          have R63 : ∀ tg, Steps p.tables e below (s₁.setTop (mkF m 61 #[vI (own_ush32 (own_ush32 (own_ush32 p1 (16 : Int32)) (8 : Int32)) (4 : Int32)), vI ((((31 : Int32) + (-16 : Int32)) + (-8 : Int32)) + (-4 : Int32))] [])) tg → Steps p.tables e below (s₁.setTop (mkF m 0 #[vI p1, .unset] [])) tg := R62
          have R64 : ∀ tg, Steps p.tables e below (s₁.setTop (mkF m 63 #[vI (own_ush32 (own_ush32 (own_ush32 p1 (16 : Int32)) (8 : Int32)) (4 : Int32)), vI ((((31 : Int32) + (-16 : Int32)) + (-8 : Int32)) + (-4 : Int32))] [(.int (4 : Int32)), (.int (own_ush32 (own_ush32 (own_ush32 p1 (16 : Int32)) (8 : Int32)) (4 : Int32)))])) tg → Steps p.tables e below (s₁.setTop (mkF m 0 #[vI p1, .unset] [])) tg := by
            intro tg kt
            refine R63 _ ?_
            show Steps p.tables e below (s₁.setTop (mkF m 61 #[vI (own_ush32 (own_ush32 (own_ush32 p1 (16 : Int32)) (8 : Int32)) (4 : Int32)), vI ((((31 : Int32) + (-16 : Int32)) + (-8 : Int32)) + (-4 : Int32))] [])) _
            refine XS.iloadN X0.here hx rfl (hb hby d6_61) rfl ?_
            refine XS.iconst X0.here hx rfl (hb hby d6_62) ?_
            exact kt
          clear R63
          by_cases hc63 : (own_ush32 (own_ush32 (own_ush32 p1 (16 : Int32)) (8 : Int32)) (4 : Int32)) < (4 : Int32)
          · have R65 : ∀ tg, Steps p.tables e below (s₁.setTop (mkF m 78 #[vI (own_ush32 (own_ush32 (own_ush32 p1 (16 : Int32)) (8 : Int32)) (4 : Int32)), vI ((((31 : Int32) + (-16 : Int32)) + (-8 : Int32)) + (-4 : Int32))] [(.int (((((31 : Int32) + (-16 : Int32)) + (-8 : Int32)) + (-4 : Int32)) - (((own_ush32 (own_ush32 (own_ush32 p1 (16 : Int32)) (8 : Int32)) (4 : Int32)).toUInt32 >>> ((1 : Int32) &&& 31).toUInt32).toInt32)))])) tg → Steps p.tables e below (s₁.setTop (mkF m 0 #[vI p1, .unset] [])) tg := by
              intro tg kt
              refine R64 _ ?_
              show Steps p.tables e below (s₁.setTop (mkF m 63 #[vI (own_ush32 (own_ush32 (own_ush32 p1 (16 : Int32)) (8 : Int32)) (4 : Int32)), vI ((((31 : Int32) + (-16 : Int32)) + (-8 : Int32)) + (-4 : Int32))] [(.int (4 : Int32)), (.int (own_ush32 (own_ush32 (own_ush32 p1 (16 : Int32)) (8 : Int32)) (4 : Int32)))])) _
              refine XS.icmpYes X0.here hx rfl (pc0 := 63) (pc' := 73) rfl (hb hby d6_63) rfl (tlt (hc63 : (own_ush32 (own_ush32 (own_ush32 p1 (16 : Int32)) (8 : Int32)) (4 : Int32)) < (4 : Int32))).1 (by decide) (by decide) ?_
              refine XS.iloadN X0.here hx rfl (hb hby d6_73) rfl ?_
              refine XS.iloadN X0.here hx rfl (hb hby d6_74) rfl ?_
              show Steps p.tables e below (s₁.setTop (mkF m 75 #[vI (own_ush32 (own_ush32 (own_ush32 p1 (16 : Int32)) (8 : Int32)) (4 : Int32)), vI ((((31 : Int32) + (-16 : Int32)) + (-8 : Int32)) + (-4 : Int32))] [(.int (own_ush32 (own_ush32 (own_ush32 p1 (16 : Int32)) (8 : Int32)) (4 : Int32))), (.int ((((31 : Int32) + (-16 : Int32)) + (-8 : Int32)) + (-4 : Int32)))])) _
              refine XS.iconst X0.here hx rfl (hb hby d6_75) ?_
              show Steps p.tables e below (s₁.setTop (mkF m 76 #[vI (own_ush32 (own_ush32 (own_ush32 p1 (16 : Int32)) (8 : Int32)) (4 : Int32)), vI ((((31 : Int32) + (-16 : Int32)) + (-8 : Int32)) + (-4 : Int32))] [(.int (1 : Int32)), (.int (own_ush32 (own_ush32 (own_ush32 p1 (16 : Int32)) (8 : Int32)) (4 : Int32))), (.int ((((31 : Int32) + (-16 : Int32)) + (-8 : Int32)) + (-4 : Int32)))])) _
              refine XS.iushr X0.here hx rfl (hb hby d6_76) rfl ?_
              show Steps p.tables e below (s₁.setTop (mkF m 77 #[vI (own_ush32 (own_ush32 (own_ush32 p1 (16 : Int32)) (8 : Int32)) (4 : Int32)), vI ((((31 : Int32) + (-16 : Int32)) + (-8 : Int32)) + (-4 : Int32))] [(.int (((own_ush32 (own_ush32 (own_ush32 p1 (16 : Int32)) (8 : Int32)) (4 : Int32)).toUInt32 >>> ((1 : Int32) &&& 31).toUInt32).toInt32)), (.int ((((31 : Int32) + (-16 : Int32)) + (-8 : Int32)) + (-4 : Int32)))])) _
              refine XS.isub X0.here hx rfl (hb hby d6_77) rfl ?_
              exact kt
            clear R64
            obtain ⟨fs, hr, hrun, hended, hW, hsame⟩ := X0.leave (v := some (.int (((((31 : Int32) + (-16 : Int32)) + (-8 : Int32)) + (-4 : Int32)) - (((own_ush32 (own_ush32 (own_ush32 p1 (16 : Int32)) (8 : Int32)) (4 : Int32)).toUInt32 >>> ((1 : Int32) &&& 31).toUInt32).toInt32)))) (fun h => by rw [Bd.returns] at h; cases h)
            refine ⟨_, _, pre0 _ (R65 _ ?_), hrun, hended, _, _, rfl, ?_, ⟨_, rfl⟩, hW, hsame.mono (by decide) (by decide)⟩
            · exact retI X0 hx Bd.returns (hb hby d6_78) hr
            · show Q_rm_inlz Z p1 h0 n0 _ s₁.heap _
              rw [e0]
              exact ⟨by rw [own_inlz, if_pos hc1, own_n1, if_neg hc22, own_n2, if_neg hc37, own_n3, if_neg hc51, own_n4, if_pos hc63]; rfl, N0, rfl⟩
          · have R66 : ∀ tg, Steps p.tables e below (s₁.setTop (mkF m 73 #[vI (((own_ush32 (own_ush32 (own_ush32 p1 (16 : Int32)) (8 : Int32)) (4 : Int32)).toUInt32 >>> ((2 : Int32) &&& 31).toUInt32).toInt32), vI (((((31 : Int32) + (-16 : Int32)) + (-8 : Int32)) + (-4 : Int32)) + (-2 : Int32))] [])) tg → Steps p.tables e below (s₁.setTop (mkF m 0 #[vI p1, .unset] [])) tg := by
              intro tg kt
              refine R64 _ ?_
              show Steps p.tables e below (s₁.setTop (mkF m 63 #[vI (own_ush32 (own_ush32 (own_ush32 p1 (16 : Int32)) (8 : Int32)) (4 : Int32)), vI ((((31 : Int32) + (-16 : Int32)) + (-8 : Int32)) + (-4 : Int32))] [(.int (4 : Int32)), (.int (own_ush32 (own_ush32 (own_ush32 p1 (16 : Int32)) (8 : Int32)) (4 : Int32)))])) _
              refine XS.icmpNo X0.here hx rfl (hb hby d6_63) rfl (flt (hc63 : ¬ ((own_ush32 (own_ush32 (own_ush32 p1 (16 : Int32)) (8 : Int32)) (4 : Int32)) < (4 : Int32)))).1 ?_
              show Steps p.tables e below (s₁.setTop (mkF m 66 #[vI (own_ush32 (own_ush32 (own_ush32 p1 (16 : Int32)) (8 : Int32)) (4 : Int32)), vI ((((31 : Int32) + (-16 : Int32)) + (-8 : Int32)) + (-4 : Int32))] [])) _
              refine XS.iinc X0.here hx rfl (hb hby d6_66) rfl (l' := #[vI (own_ush32 (own_ush32 (own_ush32 p1 (16 : Int32)) (8 : Int32)) (4 : Int32)), vI (((((31 : Int32) + (-16 : Int32)) + (-8 : Int32)) + (-4 : Int32)) + (-2 : Int32))]) rfl ?_
              refine XS.iloadN X0.here hx rfl (hb hby d6_69) rfl ?_
              refine XS.iconst X0.here hx rfl (hb hby d6_70) ?_
              show Steps p.tables e below (s₁.setTop (mkF m 71 #[vI (own_ush32 (own_ush32 (own_ush32 p1 (16 : Int32)) (8 : Int32)) (4 : Int32)), vI (((((31 : Int32) + (-16 : Int32)) + (-8 : Int32)) + (-4 : Int32)) + (-2 : Int32))] [(.int (2 : Int32)), (.int (own_ush32 (own_ush32 (own_ush32 p1 (16 : Int32)) (8 : Int32)) (4 : Int32)))])) _
              refine XS.iushr X0.here hx rfl (hb hby d6_71) rfl ?_
              show Steps p.tables e below (s₁.setTop (mkF m 72 #[vI (own_ush32 (own_ush32 (own_ush32 p1 (16 : Int32)) (8 : Int32)) (4 : Int32)), vI (((((31 : Int32) + (-16 : Int32)) + (-8 : Int32)) + (-4 : Int32)) + (-2 : Int32))] [(.int (((own_ush32 (own_ush32 (own_ush32 p1 (16 : Int32)) (8 : Int32)) (4 : Int32)).toUInt32 >>> ((2 : Int32) &&& 31).toUInt32).toInt32))])) _
              refine XS.istoreN X0.here hx rfl (hb hby d6_72) rfl (l' := #[vI (((own_ush32 (own_ush32 (own_ush32 p1 (16 : Int32)) (8 : Int32)) (4 : Int32)).toUInt32 >>> ((2 : Int32) &&& 31).toUInt32).toInt32), vI (((((31 : Int32) + (-16 : Int32)) + (-8 : Int32)) + (-4 : Int32)) + (-2 : Int32))]) rfl ?_
              exact kt
            clear R64
            have R67 : ∀ tg, Steps p.tables e below (s₁.setTop (mkF m 73 #[vI (own_ush32 (own_ush32 (own_ush32 (own_ush32 p1 (16 : Int32)) (8 : Int32)) (4 : Int32)) (2 : Int32)), vI (((((31 : Int32) + (-16 : Int32)) + (-8 : Int32)) + (-4 : Int32)) + (-2 : Int32))] [])) tg → Steps p.tables e below (s₁.setTop (mkF m 0 #[vI p1, .unset] [])) tg := R66
            have R68 : ∀ tg, Steps p.tables e below (s₁.setTop (mkF m 78 #[vI (own_ush32 (own_ush32 (own_ush32 (own_ush32 p1 (16 : Int32)) (8 : Int32)) (4 : Int32)) (2 : Int32)), vI (((((31 : Int32) + (-16 : Int32)) + (-8 : Int32)) + (-4 : Int32)) + (-2 : Int32))] [(.int ((((((31 : Int32) + (-16 : Int32)) + (-8 : Int32)) + (-4 : Int32)) + (-2 : Int32)) - (((own_ush32 (own_ush32 (own_ush32 (own_ush32 p1 (16 : Int32)) (8 : Int32)) (4 : Int32)) (2 : Int32)).toUInt32 >>> ((1 : Int32) &&& 31).toUInt32).toInt32)))])) tg → Steps p.tables e below (s₁.setTop (mkF m 0 #[vI p1, .unset] [])) tg := by
              intro tg kt
              refine R67 _ ?_
              show Steps p.tables e below (s₁.setTop (mkF m 73 #[vI (own_ush32 (own_ush32 (own_ush32 (own_ush32 p1 (16 : Int32)) (8 : Int32)) (4 : Int32)) (2 : Int32)), vI (((((31 : Int32) + (-16 : Int32)) + (-8 : Int32)) + (-4 : Int32)) + (-2 : Int32))] [])) _
              refine XS.iloadN X0.here hx rfl (hb hby d6_73) rfl ?_
              refine XS.iloadN X0.here hx rfl (hb hby d6_74) rfl ?_
              refine XS.iconst X0.here hx rfl (hb hby d6_75) ?_
              show Steps p.tables e below (s₁.setTop (mkF m 76 #[vI (own_ush32 (own_ush32 (own_ush32 (own_ush32 p1 (16 : Int32)) (8 : Int32)) (4 : Int32)) (2 : Int32)), vI (((((31 : Int32) + (-16 : Int32)) + (-8 : Int32)) + (-4 : Int32)) + (-2 : Int32))] [(.int (1 : Int32)), (.int (own_ush32 (own_ush32 (own_ush32 (own_ush32 p1 (16 : Int32)) (8 : Int32)) (4 : Int32)) (2 : Int32))), (.int (((((31 : Int32) + (-16 : Int32)) + (-8 : Int32)) + (-4 : Int32)) + (-2 : Int32)))])) _
              refine XS.iushr X0.here hx rfl (hb hby d6_76) rfl ?_
              show Steps p.tables e below (s₁.setTop (mkF m 77 #[vI (own_ush32 (own_ush32 (own_ush32 (own_ush32 p1 (16 : Int32)) (8 : Int32)) (4 : Int32)) (2 : Int32)), vI (((((31 : Int32) + (-16 : Int32)) + (-8 : Int32)) + (-4 : Int32)) + (-2 : Int32))] [(.int (((own_ush32 (own_ush32 (own_ush32 (own_ush32 p1 (16 : Int32)) (8 : Int32)) (4 : Int32)) (2 : Int32)).toUInt32 >>> ((1 : Int32) &&& 31).toUInt32).toInt32)), (.int (((((31 : Int32) + (-16 : Int32)) + (-8 : Int32)) + (-4 : Int32)) + (-2 : Int32)))])) _
              refine XS.isub X0.here hx rfl (hb hby d6_77) rfl ?_
              exact kt
            clear R67
            obtain ⟨fs, hr, hrun, hended, hW, hsame⟩ := X0.leave (v := some (.int ((((((31 : Int32) + (-16 : Int32)) + (-8 : Int32)) + (-4 : Int32)) + (-2 : Int32)) - (((own_ush32 (own_ush32 (own_ush32 (own_ush32 p1 (16 : Int32)) (8 : Int32)) (4 : Int32)) (2 : Int32)).toUInt32 >>> ((1 : Int32) &&& 31).toUInt32).toInt32)))) (fun h => by rw [Bd.returns] at h; cases h)
            refine ⟨_, _, pre0 _ (R68 _ ?_), hrun, hended, _, _, rfl, ?_, ⟨_, rfl⟩, hW, hsame.mono (by decide) (by decide)⟩
            · exact retI X0 hx Bd.returns (hb hby d6_78) hr
            · show Q_rm_inlz Z p1 h0 n0 _ s₁.heap _
              rw [e0]
              exact ⟨by rw [own_inlz, if_pos hc1, own_n1, if_neg hc22, own_n2, if_neg hc37, own_n3, if_neg hc51, own_n4, if_neg hc63]; rfl, N0, rfl⟩
  · have R69 : ∀ tg, Steps p.tables e below (s₁.setTop (mkF m 5 #[vI p1, .unset] [(.int p1)])) tg → Steps p.tables e below (s₁.setTop (mkF m 0 #[vI p1, .unset] [])) tg := by
      intro tg kt
      refine R7 _ ?_
      show Steps p.tables e below (s₁.setTop (mkF m 1 #[vI p1, .unset] [(.int p1)])) _
      refine XS.ifNo X0.here hx rfl (hb hby d6_1) rfl ((if0 _ _).trans (flt (hc1 : ¬ ((0 : Int32) < p1))).2.2.1) ?_
      refine XS.iloadN X0.here hx rfl (hb hby d6_4) rfl ?_
      exact kt
    clear R7
    by_cases hc5 : p1 = (0 : Int32)
    · have R70 : ∀ tg, Steps p.tables e below (s₁.setTop (mkF m 14 #[vI p1, .unset] [(.int (32 : Int32))])) tg → Steps p.tables e below (s₁.setTop (mkF m 0 #[vI p1, .unset] [])) tg := by
        intro tg kt
        refine R69 _ ?_
        show Steps p.tables e below (s₁.setTop (mkF m 5 #[vI p1, .unset] [(.int p1)])) _
        refine XS.ifNo X0.here hx rfl (hb hby d6_5) rfl ((if0 _ _).trans (teq (hc5 : p1 = (0 : Int32))).2) ?_
        refine XS.bipush X0.here hx rfl (hb hby d6_8) ?_
        show Steps p.tables e below (s₁.setTop (mkF m 10 #[vI p1, .unset] [(.int (32 : Int32))])) _
        refine XS.goto X0.here hx rfl (pc0 := 10) (pc' := 14) rfl (hb hby d6_10) (by decide) (by decide) ?_
        exact kt
      clear R69
      obtain ⟨fs, hr, hrun, hended, hW, hsame⟩ := X0.leave (v := some (.int (32 : Int32))) (fun h => by rw [Bd.returns] at h; cases h)
      refine ⟨_, _, pre0 _ (R70 _ ?_), hrun, hended, _, _, rfl, ?_, ⟨_, rfl⟩, hW, hsame.mono (by decide) (by decide)⟩
      · exact retI X0 hx Bd.returns (hb hby d6_14) hr
      · show Q_rm_inlz Z p1 h0 n0 _ s₁.heap _
        rw [e0]
        exact ⟨by rw [own_inlz, if_neg hc1, if_pos hc5], N0, rfl⟩
    · have R71 : ∀ tg, Steps p.tables e below (s₁.setTop (mkF m 14 #[vI p1, .unset] [(.int (0 : Int32))])) tg → Steps p.tables e below (s₁.setTop (mkF m 0 #[vI p1, .unset] [])) tg := by
        intro tg kt
        refine R69 _ ?_
        show Steps p.tables e below (s₁.setTop (mkF m 5 #[vI p1, .unset] [(.int p1)])) _
        refine XS.ifYes X0.here hx rfl (pc0 := 5) (pc' := 13) rfl (hb hby d6_5) rfl ((if0 _ _).trans (feq (hc5 : ¬ (p1 = (0 : Int32)))).2) (by decide) (by decide) ?_
        refine XS.iconst X0.here hx rfl (hb hby d6_13) ?_
        exact kt
      clear R69
      obtain ⟨fs, hr, hrun, hended, hW, hsame⟩ := X0.leave (v := some (.int (0 : Int32))) (fun h => by rw [Bd.returns] at h; cases h)
      refine ⟨_, _, pre0 _ (R71 _ ?_), hrun, hended, _, _, rfl, ?_, ⟨_, rfl⟩, hW, hsame.mono (by decide) (by decide)⟩
      · exact retI X0 hx Bd.returns (hb hby d6_14) hr
      · show Q_rm_inlz Z p1 h0 n0 _ s₁.heap _
        rw [e0]
        exact ⟨by rw [own_inlz, if_neg hc1, if_neg hc5], N0, rfl⟩
theorem pn_1 : plainName "java/lang/Long" = true := by first | (simp [plainName, overriddenIn]; done) | decide +kernel
theorem d5_0 : decode jdk_35_method_48_code 0 = .ok (.lload_n 0, 1) := by decide +kernel
theorem d5_1 : decode jdk_35_method_48_code 1 = .ok (.bipush 32, 2) := by decide +kernel
theorem d5_3 : decode jdk_35_method_48_code 3 = .ok (.lushr, 1) := by decide +kernel
theorem d5_4 : decode jdk_35_method_48_code 4 = .ok (.l2i, 1) := by decide +kernel
theorem d5_5 : decode jdk_35_method_48_code 5 = .ok (.istore_n 2, 1) := by decide +kernel
theorem d5_6 : decode jdk_35_method_48_code 6 = .ok (.iload_n 2, 1) := by decide +kernel
theorem d5_7 : decode jdk_35_method_48_code 7 = .ok (.ifCond .ne 14, 3) := by decide +kernel
theorem d5_10 : decode jdk_35_method_48_code 10 = .ok (.bipush 32, 2) := by decide +kernel
theorem d5_12 : decode jdk_35_method_48_code 12 = .ok (.lload_n 0, 1) := by decide +kernel
theorem d5_13 : decode jdk_35_method_48_code 13 = .ok (.l2i, 1) := by decide +kernel
theorem pd_0 : parseMethodDescriptor "(I)I" = some ⟨[.int], some .int⟩ := by decide +kernel
theorem d5_14 : decode jdk_35_method_48_code 14 = .ok (.invokestatic 308, 3) := by decide +kernel
theorem d5_17 : decode jdk_35_method_48_code 17 = .ok (.iadd, 1) := by decide +kernel
theorem d5_18 : decode jdk_35_method_48_code 18 = .ok (.goto 7, 3) := by decide +kernel
theorem d5_25 : decode jdk_35_method_48_code 25 = .ok (.ireturn, 1) := by decide +kernel
theorem d5_21 : decode jdk_35_method_48_code 21 = .ok (.iload_n 2, 1) := by decide +kernel
theorem d5_22 : decode jdk_35_method_48_code 22 = .ok (.invokestatic 308, 3) := by decide +kernel
theorem ef_rm_lnlz (m : MethodId) (q1 : Int64) : entryFrame m #[(.long q1)] 3 = mkF m 0 #[vJ q1, .second, .unset] [] := by first | (simp [entryFrame, mkF, argsToLocals, Value.category]; done) | rfl
def Q_rm_lnlz (Z : State) (q1 : Int64) (h0 : Heap) (n0 : Nat) (v : Option Value) (h : Heap) (L : List Loc) : Prop := v = some (.int (own_lnlz q1)) ∧ Fr n0 L ∧ h = h0
set_option maxRecDepth 65536 in
set_option maxHeartbeats 40000000 in
theorem rm_lnlz (l : Launch) (Z : State) (a0 : Array Value) (hw : ∀ d ∈ tables_1, d.before a0 Z = true) (ws : List Jvm.Cond) (q1 : Int64) (h0 : Heap) (n0 : Nat) (Z0 : n0 ≤ h0.size) :
    MetFree l (⟨"java/lang/Long", "numberOfLeadingZeros", "(J)I"⟩ : MethodName) (head1 (Jvm.Cond.code (⟨"java/lang/Long", "numberOfLeadingZeros", "(J)I"⟩ : MethodName) jdk_35_method_48_code 3 (some .int) :: ws) ({ frames := 1, cells := 0, slots := 0, locals := 14 } : Room)) (fun a U => a = #[(.long q1)] ∧ Z.Warmed39 U.vm ∧ U.heap = h0) (fun _ _ _ _ _ => True) (fun _ U oC U' => ∃ v L, oC = .returned v ∧ Q_rm_lnlz Z q1 h0 n0 v U'.heap L ∧ FrameEnd U oC U' L ({ frames := 1, cells := 0, slots := 0, locals := 14 } : Room).cells ({ frames := 1, cells := 0, slots := 0, locals := 14 } : Room).slots) := by
  refine MetFree.of_bodySF (plainFor_of_name pn_1) hisR ?_
  intro p e s m args below meth c s₁ Bd hml0 hP hK
  obtain ⟨rfl, hZ, hh⟩ := hP
  have hx := Bd.exec
  have hby := Bd.bytes
  have hml : c.maxLocals = 3 := hml0
  have hown : s.vm.findClass "java/lang/Long" = some m.cls := findClass_of_methodNamed Bd.named
  have hnm := (name_of_methodNamed Bd.named Bd.method).1
  have X0 : Stand p l e ({ frames := 1, cells := 0, slots := 0, locals := 14 } : Room) s m #[(.long q1)] below meth c s₁ [] 0 0 := Stand.of_body Bd
  have e0 : s₁.heap = h0 := by rw [← hh, Bd.state]; rfl
  have N0 := Fr.nil n0
  have pre0 : ∀ tg, Steps p.tables e below (s₁.setTop (mkF m 0 #[vJ q1, .second, .unset] [])) tg → Steps p.tables e below (s₁.setTop (entryFrame m #[(.long q1)] 3)) tg := fun t k => castTop (ef_rm_lnlz m q1) k
  have pre00 : ∀ tg, Steps p.tables e below (s₁.setTop (mkF m 0 #[vJ q1, .second, .unset] [])) tg → Steps p.tables e below (s₁.setTop (mkF m 0 #[vJ q1, .second, .unset] [])) tg := fun _ k => k
  have R72 : ∀ tg, Steps p.tables e below (s₁.setTop (mkF m 5 #[vJ q1, .second, .unset] [(.int (((q1.toUInt64 >>> ((32 : Int32) &&& 0x3f).toInt64.toUInt64).toInt64).toInt32))])) tg → Steps p.tables e below (s₁.setTop (mkF m 0 #[vJ q1, .second, .unset] [])) tg := by
    intro tg kt
    refine pre00 _ ?_
    show Steps p.tables e below (s₁.setTop (mkF m 0 #[vJ q1, .second, .unset] [])) _
    refine XS.lloadN X0.here hx rfl (hb hby d5_0) rfl ?_
    refine XS.bipush X0.here hx rfl (hb hby d5_1) ?_
    show Steps p.tables e below (s₁.setTop (mkF m 3 #[vJ q1, .second, .unset] [(.int (32 : Int32)), (.long q1)])) _
    refine XS.lushr X0.here hx rfl (hb hby d5_3) rfl ?_
    show Steps p.tables e below (s₁.setTop (mkF m 4 #[vJ q1, .second, .unset] [(.long ((q1.toUInt64 >>> ((32 : Int32) &&& 0x3f).toInt64.toUInt64).toInt64))])) _
    refine XS.l2i X0.here hx rfl (hb hby d5_4) rfl ?_
    exact kt
  have R73 : ∀ tg, Steps p.tables e below (s₁.setTop (mkF m 5 #[vJ q1, .second, .unset] [(.int ((own_ush q1 (32 : Int32)).toInt32))])) tg → Steps p.tables e below (s₁.setTop (mkF m 0 #[vJ q1, .second, .unset] [])) tg := R72
  have R74 : ∀ tg, Steps p.tables e below (s₁.setTop (mkF m 7 #[vJ q1, .second, vI ((own_ush q1 (32 : Int32)).toInt32)] [(.int ((own_ush q1 (32 : Int32)).toInt32))])) tg → Steps p.tables e below (s₁.setTop (mkF m 0 #[vJ q1, .second, .unset] [])) tg := by
    intro tg kt
    refine R73 _ ?_
    show Steps p.tables e below (s₁.setTop (mkF m 5 #[vJ q1, .second, .unset] [(.int ((own_ush q1 (32 : Int32)).toInt32))])) _
    refine XS.istoreN X0.here hx rfl (hb hby d5_5) rfl (l' := #[vJ q1, .second, vI ((own_ush q1 (32 : Int32)).toInt32)]) rfl ?_
    refine XS.iloadN X0.here hx rfl (hb hby d5_6) rfl ?_
    exact kt
  clear R73
  by_cases hc7 : ((own_ush q1 (32 : Int32)).toInt32) = (0 : Int32)
  · have R75 : ∀ tg, Steps p.tables e below (s₁.setTop (mkF m 14 #[vJ q1, .second, vI ((own_ush q1 (32 : Int32)).toInt32)] [(.int (q1.toInt32)), (.int (32 : Int32))])) tg → Steps p.tables e below (s₁.setTop (mkF m 0 #[vJ q1, .second, .unset] [])) tg := by
      intro tg kt
      refine R74 _ ?_
      show Steps p.tables e below (s₁.setTop (mkF m 7 #[vJ q1, .second, vI ((own_ush q1 (32 : Int32)).toInt32)] [(.int ((own_ush q1 (32 : Int32)).toInt32))])) _
      refine XS.ifNo X0.here hx rfl (hb hby d5_7) rfl ((if0 _ _).trans (teq (hc7 : ((own_ush q1 (32 : Int32)).toInt32) = (0 : Int32))).2) ?_
      refine XS.bipush X0.here hx rfl (hb hby d5_10) ?_
      refine XS.lloadN X0.here hx rfl (hb hby d5_12) rfl ?_
      show Steps p.tables e below (s₁.setTop (mkF m 13 #[vJ q1, .second, vI ((own_ush q1 (32 : Int32)).toInt32)] [(.long q1), (.int (32 : Int32))])) _
      refine XS.l2i X0.here hx rfl (hb hby d5_13) rfl ?_
      exact kt
    clear R74
    obtain ⟨_, _, ⟨T76, L76, k76, n76⟩, -, X76, ⟨Lc76, hQ76, l76, y76, z76⟩, st76⟩ := Jvm.LawKit.callS X0 hx (y := (⟨"java/lang/Integer", "numberOfLeadingZeros", "(I)I"⟩ : MethodName)) hown (mvT hZ (hw _ (List.mem_of_getElem? (i := 39) rfl))) (mvT hZ (hw _ (List.mem_of_getElem? (i := 40) rfl))) (mvT hZ (hw _ (List.mem_of_getElem? (i := 41) rfl))) (mvT hZ (hw _ (List.mem_of_getElem? (i := 42) rfl))) (by decide) (backOf (W := 1) (rm_inlz l Z a0 hw [] (q1.toInt32) h0 n0 Z0) hZ (hw _ (List.mem_of_getElem? (i := 42) rfl)) (hw _ (List.mem_of_getElem? (i := 41) rfl)) (by decide) (by decide)) (g := (mkF m 14 #[vJ q1, .second, vI ((own_ush q1 (32 : Int32)).toInt32)] [(.int (q1.toInt32)), (.int (32 : Int32))])) rfl (by rw [hml]; rfl) (argsL := [(.int (q1.toInt32))]) (rest := [(.int (32 : Int32))]) (lenOf pd_0 rfl) rfl (by show 2 * 0 + _ ≤ _; exact Nat.le_of_eq rfl) (hb hby d5_14) (fun _ _ => ⟨rfl, e0, (by decide : 0 + 0 ≤ _), (by decide : 0 + 0 ≤ _)⟩)
    dsimp only [Pt.U, Pt.locs, Pt.cells, Pt.slots] at X76 l76 y76 z76 st76 hQ76
    rw [l76, y76, z76] at X76
    obtain ⟨rfl, N76q, hh76⟩ := hQ76
    have N76 := Fr.app N0 N76q
    have R77 : ∀ tg, Steps p.tables e below (T76.setTop (mkF m 25 #[vJ q1, .second, vI ((own_ush q1 (32 : Int32)).toInt32)] [(.int ((32 : Int32) + (own_inlz q1.toInt32)))])) tg → Steps p.tables e below (s₁.setTop (mkF m 0 #[vJ q1, .second, .unset] [])) tg := by
      intro tg kt
      refine R75 _ ?_
      refine st76 _ ?_
      show Steps p.tables e below (T76.setTop (mkF m 17 #[vJ q1, .second, vI ((own_ush q1 (32 : Int32)).toInt32)] [(.int (own_inlz q1.toInt32)), (.int (32 : Int32))])) _
      refine XS.iadd X76.here hx rfl (hb hby d5_17) rfl ?_
      show Steps p.tables e below (T76.setTop (mkF m 18 #[vJ q1, .second, vI ((own_ush q1 (32 : Int32)).toInt32)] [(.int ((32 : Int32) + (own_inlz q1.toInt32)))])) _
      refine XS.goto X76.here hx rfl (pc0 := 18) (pc' := 25) rfl (hb hby d5_18) (by decide) (by decide) ?_
      exact kt
    clear R75 st76
    obtain ⟨fs, hr, hrun, hended, hW, hsame⟩ := X76.leave (v := some (.int ((32 : Int32) + (own_inlz q1.toInt32)))) (fun h => by rw [Bd.returns] at h; cases h)
    refine ⟨_, _, pre0 _ (R77 _ ?_), hrun, hended, _, _, rfl, ?_, ⟨_, rfl⟩, hW, hsame.mono (by decide) (by decide)⟩
    · exact retI X76 hx Bd.returns (hb hby d5_25) hr
    · show Q_rm_lnlz Z q1 h0 n0 _ T76.heap _
      rw [hh76]
      exact ⟨by rw [own_lnlz, if_pos hc7], N76, rfl⟩
  · have R78 : ∀ tg, Steps p.tables e below (s₁.setTop (mkF m 22 #[vJ q1, .second, vI ((own_ush q1 (32 : Int32)).toInt32)] [(.int ((own_ush q1 (32 : Int32)).toInt32))])) tg → Steps p.tables e below (s₁.setTop (mkF m 0 #[vJ q1, .second, .unset] [])) tg := by
      intro tg kt
      refine R74 _ ?_
      show Steps p.tables e below (s₁.setTop (mkF m 7 #[vJ q1, .second, vI ((own_ush q1 (32 : Int32)).toInt32)] [(.int ((own_ush q1 (32 : Int32)).toInt32))])) _
      refine XS.ifYes X0.here hx rfl (pc0 := 7) (pc' := 21) rfl (hb hby d5_7) rfl ((if0 _ _).trans (feq (hc7 : ¬ (((own_ush q1 (32 : Int32)).toInt32) = (0 : Int32)))).2) (by decide) (by decide) ?_
      refine XS.iloadN X0.here hx rfl (hb hby d5_21) rfl ?_
      exact kt
    clear R74
    obtain ⟨_, _, ⟨T79, L79, k79, n79⟩, -, X79, ⟨Lc79, hQ79, l79, y79, z79⟩, st79⟩ := Jvm.LawKit.callS X0 hx (y := (⟨"java/lang/Integer", "numberOfLeadingZeros", "(I)I"⟩ : MethodName)) hown (mvT hZ (hw _ (List.mem_of_getElem? (i := 39) rfl))) (mvT hZ (hw _ (List.mem_of_getElem? (i := 40) rfl))) (mvT hZ (hw _ (List.mem_of_getElem? (i := 41) rfl))) (mvT hZ (hw _ (List.mem_of_getElem? (i := 42) rfl))) (by decide) (backOf (W := 0) (rm_inlz l Z a0 hw [] ((own_ush q1 (32 : Int32)).toInt32) h0 n0 Z0) hZ (hw _ (List.mem_of_getElem? (i := 42) rfl)) (hw _ (List.mem_of_getElem? (i := 41) rfl)) (by decide) (by decide)) (g := (mkF m 22 #[vJ q1, .second, vI ((own_ush q1 (32 : Int32)).toInt32)] [(.int ((own_ush q1 (32 : Int32)).toInt32))])) rfl (by rw [hml]; rfl) (argsL := [(.int ((own_ush q1 (32 : Int32)).toInt32))]) (rest := []) (lenOf pd_0 rfl) rfl (by show 2 * 0 + _ ≤ _; exact Nat.le_of_eq rfl) (hb hby d5_22) (fun _ _ => ⟨rfl, e0, (by decide : 0 + 0 ≤ _), (by decide : 0 + 0 ≤ _)⟩)
    dsimp only [Pt.U, Pt.locs, Pt.cells, Pt.slots] at X79 l79 y79 z79 st79 hQ79
    rw [l79, y79, z79] at X79
    obtain ⟨rfl, N79q, hh79⟩ := hQ79
    have N79 := Fr.app N0 N79q
    have R80 : ∀ tg, Steps p.tables e below (T79.setTop (mkF m 25 #[vJ q1, .second, vI ((own_ush q1 (32 : Int32)).toInt32)] [(.int (own_inlz (own_ush q1 (32 : Int32)).toInt32))])) tg → Steps p.tables e below (s₁.setTop (mkF m 0 #[vJ q1, .second, .unset] [])) tg := by
      intro tg kt
      refine R78 _ ?_
      refine st79 _ ?_
      exact kt
    clear R78 st79
    obtain ⟨fs, hr, hrun, hended, hW, hsame⟩ := X79.leave (v := some (.int (own_inlz (own_ush q1 (32 : Int32)).toInt32))) (fun h => by rw [Bd.returns] at h; cases h)
    refine ⟨_, _, pre0 _ (R80 _ ?_), hrun, hended, _, _, rfl, ?_, ⟨_, rfl⟩, hW, hsame.mono (by decide) (by decide)⟩
    · exact retI X79 hx Bd.returns (hb hby d5_25) hr
    · show Q_rm_lnlz Z q1 h0 n0 _ T79.heap _
      rw [hh79]
      exact ⟨by rw [own_lnlz, if_neg hc7], N79, rfl⟩
theorem d3_47 : decode prog_37_method_1_code 47 = .ok (.iload 5, 2) := by decide +kernel
theorem d3_49 : decode prog_37_method_1_code 49 = .ok (.aload_n 1, 1) := by decide +kernel
theorem d3_50 : decode prog_37_method_1_code 50 = .ok (.arraylength, 1) := by decide +kernel
theorem d3_51 : decode prog_37_method_1_code 51 = .ok (.if_icmp .ge 103, 3) := by decide +kernel
theorem d3_54 : decode prog_37_method_1_code 54 = .ok (.aload_n 2, 1) := by decide +kernel
theorem d3_55 : decode prog_37_method_1_code 55 = .ok (.iload 5, 2) := by decide +kernel
theorem d3_57 : decode prog_37_method_1_code 57 = .ok (.iaload, 1) := by decide +kernel
theorem d3_58 : decode prog_37_method_1_code 58 = .ok (.i2l, 1) := by decide +kernel
theorem d3_59 : decode prog_37_method_1_code 59 = .ok (.aload_n 1, 1) := by decide +kernel
theorem d3_60 : decode prog_37_method_1_code 60 = .ok (.iload 5, 2) := by decide +kernel
theorem d3_62 : decode prog_37_method_1_code 62 = .ok (.iaload, 1) := by decide +kernel
theorem d3_63 : decode prog_37_method_1_code 63 = .ok (.i2l, 1) := by decide +kernel
theorem d3_64 : decode prog_37_method_1_code 64 = .ok (.lsub, 1) := by decide +kernel
theorem d3_65 : decode prog_37_method_1_code 65 = .ok (.lstore 6, 2) := by decide +kernel
theorem d3_67 : decode prog_37_method_1_code 67 = .ok (.bipush 64, 2) := by decide +kernel
theorem d3_69 : decode prog_37_method_1_code 69 = .ok (.lload 6, 2) := by decide +kernel
theorem pd_1 : parseMethodDescriptor "(J)I" = some ⟨[.long], some .int⟩ := by decide +kernel
theorem d3_71 : decode prog_37_method_1_code 71 = .ok (.invokestatic 28, 3) := by decide +kernel
theorem d3_74 : decode prog_37_method_1_code 74 = .ok (.isub, 1) := by decide +kernel
theorem d3_75 : decode prog_37_method_1_code 75 = .ok (.istore 8, 2) := by decide +kernel
theorem d3_77 : decode prog_37_method_1_code 77 = .ok (.iload 4, 2) := by decide +kernel
theorem d3_79 : decode prog_37_method_1_code 79 = .ok (.iload 8, 2) := by decide +kernel
theorem d3_81 : decode prog_37_method_1_code 81 = .ok (.iadd, 1) := by decide +kernel
theorem d3_82 : decode prog_37_method_1_code 82 = .ok (.bipush 64, 2) := by decide +kernel
theorem d3_84 : decode prog_37_method_1_code 84 = .ok (.if_icmp .le 9, 3) := by decide +kernel
theorem d3_87 : decode prog_37_method_1_code 87 = .ok (.iinc 3 1, 3) := by decide +kernel
theorem d3_90 : decode prog_37_method_1_code 90 = .ok (.iconst 0, 1) := by decide +kernel
theorem d3_91 : decode prog_37_method_1_code 91 = .ok (.istore 4, 2) := by decide +kernel
set_option maxRecDepth 65536 in
set_option maxHeartbeats 40000000 in
theorem lp_c1A {p : Program} {l : Launch} {e : Env} {s : State} {m : MethodId} {args : Array Value} {below : List Frame} {meth : Method} {c : Code} {Z : State} {a0 : Array Value} {n0 : Nat} {T0 : State} {locs : List Loc} {h0 : Heap} (a1 : Addr) (a2 : Addr) (a3 : Addr) (fl : Int32) (us : Int32) (iv : Int32) (i : Nat) (lo : Nat → Int32) (hi : Nat → Int32) (X0 : Stand p l e ({ frames := 2, cells := 4, slots := 12, locals := 29 } : Room) s m args below meth c T0 locs 4 12) (hx : p.tables.exec = Jvm.exec) (hZ : Z.Warmed39 s.vm) (hw : ∀ d ∈ tables_1, d.before a0 Z = true) (hby : c.code = prog_37_method_1_code) (hml : c.maxLocals = 9) (hown : s.vm.findClass "com/example/inexact_odds/inexactodds/language/Encoding" = some m.cls) (e0 : T0.heap = h0) (N0 : Fr n0 locs) (Z0 : n0 ≤ h0.size) (VL : AV Z h0 a2 .int 3 (fun j => .int (lo j))) (VH : AV Z h0 a3 .int 3 (fun j => .int (hi j))) (hi0 : ¬ iv < 0) (hin : iv.toNatClampNeg = i) (hi3 : i < 3) (hlt : iv < (3 : Int32)) :
    ∃ (T' : State) (L' : List Loc), Stand p l e ({ frames := 2, cells := 4, slots := 12, locals := 29 } : Room) s m args below meth c T' L' 4 12 ∧ T'.heap = h0 ∧ Fr n0 L' ∧ ∀ t, Steps p.tables e below (T'.setTop (mkF m 93 #[vR a1, vR a2, vR a3, vI (own_fl fl us (own_bits (lo i) (hi i))), vI (own_us us (own_bits (lo i) (hi i))), vI iv, vJ ((hi i).toInt64 - (lo i).toInt64), .second, vI (own_bits (lo i) (hi i))] [])) t → Steps p.tables e below (T0.setTop (mkF m 47 #[vR a1, vR a2, vR a3, vI fl, vI us, vI iv, .unset, .unset, .unset] [])) t := by
  have R81 : ∀ tg, Steps p.tables e below (T0.setTop (mkF m 50 #[vR a1, vR a2, vR a3, vI fl, vI us, vI iv, .unset, .unset, .unset] [(.ref a2), (.int iv)])) tg → Steps p.tables e below (T0.setTop (mkF m 47 #[vR a1, vR a2, vR a3, vI fl, vI us, vI iv, .unset, .unset, .unset] [])) tg := by
    intro tg kt
    refine (fun (t : State) (k : Steps p.tables e below (T0.setTop (mkF m 47 #[vR a1, vR a2, vR a3, vI fl, vI us, vI iv, .unset, .unset, .unset] [])) t) => k) _ ?_
    show Steps p.tables e below (T0.setTop (mkF m 47 #[vR a1, vR a2, vR a3, vI fl, vI us, vI iv, .unset, .unset, .unset] [])) _
    refine XS.iload X0.here hx rfl (hb hby d3_47) rfl ?_
    refine XS.aloadN X0.here hx rfl (hb hby d3_49) rfl rfl ?_
    exact kt
  obtain ⟨cl82, Ar82, ln82⟩ := VL.len
  have R83 : ∀ tg, Steps p.tables e below (T0.setTop (mkF m 57 #[vR a1, vR a2, vR a3, vI fl, vI us, vI iv, .unset, .unset, .unset] [(.int iv), (.ref a3)])) tg → Steps p.tables e below (T0.setTop (mkF m 47 #[vR a1, vR a2, vR a3, vI fl, vI us, vI iv, .unset, .unset, .unset] [])) tg := by
    intro tg kt
    refine R81 _ ?_
    show Steps p.tables e below (T0.setTop (mkF m 50 #[vR a1, vR a2, vR a3, vI fl, vI us, vI iv, .unset, .unset, .unset] [(.ref a2), (.int iv)])) _
    refine X0.arraylength hx (by rw [e0]; exact Ar82.1) (State.isArrayOf_alike hZ.alike Ar82.2.1) (g := (mkF m 50 #[vR a1, vR a2, vR a3, vI fl, vI us, vI iv, .unset, .unset, .unset] [(.ref a2), (.int iv)])) rfl rfl (hb hby d3_50) _ ?_
    rw [ln82]
    show Steps p.tables e below (T0.setTop (mkF m 51 #[vR a1, vR a2, vR a3, vI fl, vI us, vI iv, .unset, .unset, .unset] [(.int (3 : Int32)), (.int iv)])) _
    refine XS.icmpNo X0.here hx rfl (hb hby d3_51) rfl (tlt (hlt : iv < (3 : Int32))).2.1 ?_
    refine XS.aloadN X0.here hx rfl (hb hby d3_54) rfl rfl ?_
    refine XS.iload X0.here hx rfl (hb hby d3_55) rfl ?_
    exact kt
  clear R81
  obtain ⟨cl84, Ar84, hin84, hat84⟩ := VH.at (j := iv) (k := i) hi0 hin hi3
  have R85 : ∀ tg, Steps p.tables e below (T0.setTop (mkF m 62 #[vR a1, vR a2, vR a3, vI fl, vI us, vI iv, .unset, .unset, .unset] [(.int iv), (.ref a2), (.long ((hi i).toInt64))])) tg → Steps p.tables e below (T0.setTop (mkF m 47 #[vR a1, vR a2, vR a3, vI fl, vI us, vI iv, .unset, .unset, .unset] [])) tg := by
    intro tg kt
    refine R83 _ ?_
    show Steps p.tables e below (T0.setTop (mkF m 57 #[vR a1, vR a2, vR a3, vI fl, vI us, vI iv, .unset, .unset, .unset] [(.int iv), (.ref a3)])) _
    refine X0.iaload hx (j := iv) (v := (.int (hi i))) (by rw [e0]; exact Ar84.1) (State.isArrayOf_alike hZ.alike Ar84.2.1) Ar84.2.2 hin84 hat84 (g := (mkF m 57 #[vR a1, vR a2, vR a3, vI fl, vI us, vI iv, .unset, .unset, .unset] [(.int iv), (.ref a3)])) rfl rfl (hb hby d3_57) _ ?_
    show Steps p.tables e below (T0.setTop (mkF m 58 #[vR a1, vR a2, vR a3, vI fl, vI us, vI iv, .unset, .unset, .unset] [(.int (hi i))])) _
    refine XS.i2l X0.here hx rfl (hb hby d3_58) rfl ?_
    refine XS.aloadN X0.here hx rfl (hb hby d3_59) rfl rfl ?_
    refine XS.iload X0.here hx rfl (hb hby d3_60) rfl ?_
    exact kt
  clear R83
  obtain ⟨cl86, Ar86, hin86, hat86⟩ := VL.at (j := iv) (k := i) hi0 hin hi3
  have R87 : ∀ tg, Steps p.tables e below (T0.setTop (mkF m 71 #[vR a1, vR a2, vR a3, vI fl, vI us, vI iv, vJ (((hi i).toInt64) - ((lo i).toInt64)), .second, .unset] [(.long (((hi i).toInt64) - ((lo i).toInt64))), (.int (64 : Int32))])) tg → Steps p.tables e below (T0.setTop (mkF m 47 #[vR a1, vR a2, vR a3, vI fl, vI us, vI iv, .unset, .unset, .unset] [])) tg := by
    intro tg kt
    refine R85 _ ?_
    show Steps p.tables e below (T0.setTop (mkF m 62 #[vR a1, vR a2, vR a3, vI fl, vI us, vI iv, .unset, .unset, .unset] [(.int iv), (.ref a2), (.long ((hi i).toInt64))])) _
    refine X0.iaload hx (j := iv) (v := (.int (lo i))) (by rw [e0]; exact Ar86.1) (State.isArrayOf_alike hZ.alike Ar86.2.1) Ar86.2.2 hin86 hat86 (g := (mkF m 62 #[vR a1, vR a2, vR a3, vI fl, vI us, vI iv, .unset, .unset, .unset] [(.int iv), (.ref a2), (.long ((hi i).toInt64))])) rfl rfl (hb hby d3_62) _ ?_
    show Steps p.tables e below (T0.setTop (mkF m 63 #[vR a1, vR a2, vR a3, vI fl, vI us, vI iv, .unset, .unset, .unset] [(.int (lo i)), (.long ((hi i).toInt64))])) _
    refine XS.i2l X0.here hx rfl (hb hby d3_63) rfl ?_
    show Steps p.tables e below (T0.setTop (mkF m 64 #[vR a1, vR a2, vR a3, vI fl, vI us, vI iv, .unset, .unset, .unset] [(.long ((lo i).toInt64)), (.long ((hi i).toInt64))])) _
    refine XS.lsub X0.here hx rfl (hb hby d3_64) rfl ?_
    show Steps p.tables e below (T0.setTop (mkF m 65 #[vR a1, vR a2, vR a3, vI fl, vI us, vI iv, .unset, .unset, .unset] [(.long (((hi i).toInt64) - ((lo i).toInt64)))])) _
    refine XS.lstore X0.here hx rfl (hb hby d3_65) rfl (l' := #[vR a1, vR a2, vR a3, vI fl, vI us, vI iv, vJ (((hi i).toInt64) - ((lo i).toInt64)), .second, .unset]) rfl ?_
    refine XS.bipush X0.here hx rfl (hb hby d3_67) ?_
    refine XS.lload X0.here hx rfl (hb hby d3_69) rfl ?_
    exact kt
  clear R85
  obtain ⟨_, _, ⟨T88, L88, k88, n88⟩, -, X88, ⟨Lc88, hQ88, l88, y88, z88⟩, st88⟩ := Jvm.LawKit.callS X0 hx (y := (⟨"java/lang/Long", "numberOfLeadingZeros", "(J)I"⟩ : MethodName)) hown (mvT hZ (hw _ (List.mem_of_getElem? (i := 35) rfl))) (mvT hZ (hw _ (List.mem_of_getElem? (i := 36) rfl))) (mvT hZ (hw _ (List.mem_of_getElem? (i := 37) rfl))) (mvT hZ (hw _ (List.mem_of_getElem? (i := 38) rfl))) (by decide) (backOf (W := 1) (rm_lnlz l Z a0 hw [] (((hi i).toInt64) - ((lo i).toInt64)) h0 n0 Z0) hZ (hw _ (List.mem_of_getElem? (i := 38) rfl)) (hw _ (List.mem_of_getElem? (i := 37) rfl)) (by decide) (by decide)) (g := (mkF m 71 #[vR a1, vR a2, vR a3, vI fl, vI us, vI iv, vJ (((hi i).toInt64) - ((lo i).toInt64)), .second, .unset] [(.long (((hi i).toInt64) - ((lo i).toInt64))), (.int (64 : Int32))])) rfl (by rw [hml]; rfl) (argsL := [(.long (((hi i).toInt64) - ((lo i).toInt64)))]) (rest := [(.int (64 : Int32))]) (lenOf pd_1 rfl) rfl (by show 2 * 0 + _ ≤ _; exact Nat.le_of_eq rfl) (hb hby d3_71) (fun _ _ => ⟨rfl, e0, (by decide : 4 + 0 ≤ _), (by decide : 12 + 0 ≤ _)⟩)
  dsimp only [Pt.U, Pt.locs, Pt.cells, Pt.slots] at X88 l88 y88 z88 st88 hQ88
  rw [l88, y88, z88] at X88
  obtain ⟨rfl, N88q, hh88⟩ := hQ88
  have N88 := Fr.app N0 N88q
  have R89 : ∀ tg, Steps p.tables e below (T88.setTop (mkF m 75 #[vR a1, vR a2, vR a3, vI fl, vI us, vI iv, vJ (((hi i).toInt64) - ((lo i).toInt64)), .second, .unset] [(.int ((64 : Int32) - (own_lnlz (((hi i).toInt64) - ((lo i).toInt64)))))])) tg → Steps p.tables e below (T0.setTop (mkF m 47 #[vR a1, vR a2, vR a3, vI fl, vI us, vI iv, .unset, .unset, .unset] [])) tg := by
    intro tg kt
    refine R87 _ ?_
    refine st88 _ ?_
    show Steps p.tables e below (T88.setTop (mkF m 74 #[vR a1, vR a2, vR a3, vI fl, vI us, vI iv, vJ (((hi i).toInt64) - ((lo i).toInt64)), .second, .unset] [(.int (own_lnlz (((hi i).toInt64) - ((lo i).toInt64)))), (.int (64 : Int32))])) _
    refine XS.isub X88.here hx rfl (hb hby d3_74) rfl ?_
    exact kt
  clear R87 st88
  have R90 : ∀ tg, Steps p.tables e below (T88.setTop (mkF m 75 #[vR a1, vR a2, vR a3, vI fl, vI us, vI iv, vJ (((hi i).toInt64) - ((lo i).toInt64)), .second, .unset] [(.int (own_bits (lo i) (hi i)))])) tg → Steps p.tables e below (T0.setTop (mkF m 47 #[vR a1, vR a2, vR a3, vI fl, vI us, vI iv, .unset, .unset, .unset] [])) tg := R89
  have R91 : ∀ tg, Steps p.tables e below (T88.setTop (mkF m 84 #[vR a1, vR a2, vR a3, vI fl, vI us, vI iv, vJ (((hi i).toInt64) - ((lo i).toInt64)), .second, vI (own_bits (lo i) (hi i))] [(.int (64 : Int32)), (.int (us + (own_bits (lo i) (hi i))))])) tg → Steps p.tables e below (T0.setTop (mkF m 47 #[vR a1, vR a2, vR a3, vI fl, vI us, vI iv, .unset, .unset, .unset] [])) tg := by
    intro tg kt
    refine R90 _ ?_
    show Steps p.tables e below (T88.setTop (mkF m 75 #[vR a1, vR a2, vR a3, vI fl, vI us, vI iv, vJ (((hi i).toInt64) - ((lo i).toInt64)), .second, .unset] [(.int (own_bits (lo i) (hi i)))])) _
    refine XS.istore X88.here hx rfl (hb hby d3_75) rfl (l' := #[vR a1, vR a2, vR a3, vI fl, vI us, vI iv, vJ (((hi i).toInt64) - ((lo i).toInt64)), .second, vI (own_bits (lo i) (hi i))]) rfl ?_
    refine XS.iload X88.here hx rfl (hb hby d3_77) rfl ?_
    refine XS.iload X88.here hx rfl (hb hby d3_79) rfl ?_
    show Steps p.tables e below (T88.setTop (mkF m 81 #[vR a1, vR a2, vR a3, vI fl, vI us, vI iv, vJ (((hi i).toInt64) - ((lo i).toInt64)), .second, vI (own_bits (lo i) (hi i))] [(.int (own_bits (lo i) (hi i))), (.int us)])) _
    refine XS.iadd X88.here hx rfl (hb hby d3_81) rfl ?_
    refine XS.bipush X88.here hx rfl (hb hby d3_82) ?_
    exact kt
  clear R90
  by_cases hc84 : (64 : Int32) < (us + (own_bits (lo i) (hi i)))
  · have R92 : ∀ tg, Steps p.tables e below (T88.setTop (mkF m 93 #[vR a1, vR a2, vR a3, vI (fl + (1 : Int32)), vI (0 : Int32), vI iv, vJ (((hi i).toInt64) - ((lo i).toInt64)), .second, vI (own_bits (lo i) (hi i))] [])) tg → Steps p.tables e below (T0.setTop (mkF m 47 #[vR a1, vR a2, vR a3, vI fl, vI us, vI iv, .unset, .unset, .unset] [])) tg := by
      intro tg kt
      refine R91 _ ?_
      show Steps p.tables e below (T88.setTop (mkF m 84 #[vR a1, vR a2, vR a3, vI fl, vI us, vI iv, vJ (((hi i).toInt64) - ((lo i).toInt64)), .second, vI (own_bits (lo i) (hi i))] [(.int (64 : Int32)), (.int (us + (own_bits (lo i) (hi i))))])) _
      refine XS.icmpNo X88.here hx rfl (hb hby d3_84) rfl (tlt (hc84 : (64 : Int32) < (us + (own_bits (lo i) (hi i))))).2.2.2 ?_
      show Steps p.tables e below (T88.setTop (mkF m 87 #[vR a1, vR a2, vR a3, vI fl, vI us, vI iv, vJ (((hi i).toInt64) - ((lo i).toInt64)), .second, vI (own_bits (lo i) (hi i))] [])) _
      refine XS.iinc X88.here hx rfl (hb hby d3_87) rfl (l' := #[vR a1, vR a2, vR a3, vI (fl + (1 : Int32)), vI us, vI iv, vJ (((hi i).toInt64) - ((lo i).toInt64)), .second, vI (own_bits (lo i) (hi i))]) rfl ?_
      refine XS.iconst X88.here hx rfl (hb hby d3_90) ?_
      show Steps p.tables e below (T88.setTop (mkF m 91 #[vR a1, vR a2, vR a3, vI (fl + (1 : Int32)), vI us, vI iv, vJ (((hi i).toInt64) - ((lo i).toInt64)), .second, vI (own_bits (lo i) (hi i))] [(.int (0 : Int32))])) _
      refine XS.istore X88.here hx rfl (hb hby d3_91) rfl (l' := #[vR a1, vR a2, vR a3, vI (fl + (1 : Int32)), vI (0 : Int32), vI iv, vJ (((hi i).toInt64) - ((lo i).toInt64)), .second, vI (own_bits (lo i) (hi i))]) rfl ?_
      exact kt
    clear R91
    have R93 : ∀ tg, Steps p.tables e below (T88.setTop (mkF m 93 #[vR a1, vR a2, vR a3, vI (own_fl fl us (own_bits (lo i) (hi i))), vI (own_us us (own_bits (lo i) (hi i))), vI iv, vJ ((hi i).toInt64 - (lo i).toInt64), .second, vI (own_bits (lo i) (hi i))] [])) tg → Steps p.tables e below (T0.setTop (mkF m 47 #[vR a1, vR a2, vR a3, vI fl, vI us, vI iv, .unset, .unset, .unset] [])) tg := by rw [own_fl, own_us, if_pos hc84, if_pos hc84]; exact R92
    exact ⟨_, _, X88, hh88, N88, R93⟩
  · have R94 : ∀ tg, Steps p.tables e below (T88.setTop (mkF m 93 #[vR a1, vR a2, vR a3, vI fl, vI us, vI iv, vJ (((hi i).toInt64) - ((lo i).toInt64)), .second, vI (own_bits (lo i) (hi i))] [])) tg → Steps p.tables e below (T0.setTop (mkF m 47 #[vR a1, vR a2, vR a3, vI fl, vI us, vI iv, .unset, .unset, .unset] [])) tg := by
      intro tg kt
      refine R91 _ ?_
      show Steps p.tables e below (T88.setTop (mkF m 84 #[vR a1, vR a2, vR a3, vI fl, vI us, vI iv, vJ (((hi i).toInt64) - ((lo i).toInt64)), .second, vI (own_bits (lo i) (hi i))] [(.int (64 : Int32)), (.int (us + (own_bits (lo i) (hi i))))])) _
      refine XS.icmpYes X88.here hx rfl (pc0 := 84) (pc' := 93) rfl (hb hby d3_84) rfl (flt (hc84 : ¬ ((64 : Int32) < (us + (own_bits (lo i) (hi i)))))).2.2.2 (by decide) (by decide) ?_
      exact kt
    clear R91
    have R95 : ∀ tg, Steps p.tables e below (T88.setTop (mkF m 93 #[vR a1, vR a2, vR a3, vI (own_fl fl us (own_bits (lo i) (hi i))), vI (own_us us (own_bits (lo i) (hi i))), vI iv, vJ ((hi i).toInt64 - (lo i).toInt64), .second, vI (own_bits (lo i) (hi i))] [])) tg → Steps p.tables e below (T0.setTop (mkF m 47 #[vR a1, vR a2, vR a3, vI fl, vI us, vI iv, .unset, .unset, .unset] [])) tg := by rw [own_fl, own_us, if_neg hc84, if_neg hc84]; exact R94
    exact ⟨_, _, X88, hh88, N88, R95⟩
set_option maxRecDepth 65536 in
set_option maxHeartbeats 40000000 in
theorem lp_c1B {p : Program} {l : Launch} {e : Env} {s : State} {m : MethodId} {args : Array Value} {below : List Frame} {meth : Method} {c : Code} {Z : State} {a0 : Array Value} {n0 : Nat} {T0 : State} {locs : List Loc} {h0 : Heap} (a1 : Addr) (a2 : Addr) (a3 : Addr) (fl : Int32) (us : Int32) (iv : Int32) (i : Nat) (lo : Nat → Int32) (hi : Nat → Int32) (q6 : Int64) (p8 : Int32) (X0 : Stand p l e ({ frames := 2, cells := 4, slots := 12, locals := 29 } : Room) s m args below meth c T0 locs 4 12) (hx : p.tables.exec = Jvm.exec) (hZ : Z.Warmed39 s.vm) (hw : ∀ d ∈ tables_1, d.before a0 Z = true) (hby : c.code = prog_37_method_1_code) (hml : c.maxLocals = 9) (hown : s.vm.findClass "com/example/inexact_odds/inexactodds/language/Encoding" = some m.cls) (e0 : T0.heap = h0) (N0 : Fr n0 locs) (Z0 : n0 ≤ h0.size) (VL : AV Z h0 a2 .int 3 (fun j => .int (lo j))) (VH : AV Z h0 a3 .int 3 (fun j => .int (hi j))) (hi0 : ¬ iv < 0) (hin : iv.toNatClampNeg = i) (hi3 : i < 3) (hlt : iv < (3 : Int32)) :
    ∃ (T' : State) (L' : List Loc), Stand p l e ({ frames := 2, cells := 4, slots := 12, locals := 29 } : Room) s m args below meth c T' L' 4 12 ∧ T'.heap = h0 ∧ Fr n0 L' ∧ ∀ t, Steps p.tables e below (T'.setTop (mkF m 93 #[vR a1, vR a2, vR a3, vI (own_fl fl us (own_bits (lo i) (hi i))), vI (own_us us (own_bits (lo i) (hi i))), vI iv, vJ ((hi i).toInt64 - (lo i).toInt64), .second, vI (own_bits (lo i) (hi i))] [])) t → Steps p.tables e below (T0.setTop (mkF m 47 #[vR a1, vR a2, vR a3, vI fl, vI us, vI iv, vJ q6, .second, vI p8] [])) t := by
  have R96 : ∀ tg, Steps p.tables e below (T0.setTop (mkF m 50 #[vR a1, vR a2, vR a3, vI fl, vI us, vI iv, vJ q6, .second, vI p8] [(.ref a2), (.int iv)])) tg → Steps p.tables e below (T0.setTop (mkF m 47 #[vR a1, vR a2, vR a3, vI fl, vI us, vI iv, vJ q6, .second, vI p8] [])) tg := by
    intro tg kt
    refine (fun (t : State) (k : Steps p.tables e below (T0.setTop (mkF m 47 #[vR a1, vR a2, vR a3, vI fl, vI us, vI iv, vJ q6, .second, vI p8] [])) t) => k) _ ?_
    show Steps p.tables e below (T0.setTop (mkF m 47 #[vR a1, vR a2, vR a3, vI fl, vI us, vI iv, vJ q6, .second, vI p8] [])) _
    refine XS.iload X0.here hx rfl (hb hby d3_47) rfl ?_
    refine XS.aloadN X0.here hx rfl (hb hby d3_49) rfl rfl ?_
    exact kt
  obtain ⟨cl97, Ar97, ln97⟩ := VL.len
  have R98 : ∀ tg, Steps p.tables e below (T0.setTop (mkF m 57 #[vR a1, vR a2, vR a3, vI fl, vI us, vI iv, vJ q6, .second, vI p8] [(.int iv), (.ref a3)])) tg → Steps p.tables e below (T0.setTop (mkF m 47 #[vR a1, vR a2, vR a3, vI fl, vI us, vI iv, vJ q6, .second, vI p8] [])) tg := by
    intro tg kt
    refine R96 _ ?_
    show Steps p.tables e below (T0.setTop (mkF m 50 #[vR a1, vR a2, vR a3, vI fl, vI us, vI iv, vJ q6, .second, vI p8] [(.ref a2), (.int iv)])) _
    refine X0.arraylength hx (by rw [e0]; exact Ar97.1) (State.isArrayOf_alike hZ.alike Ar97.2.1) (g := (mkF m 50 #[vR a1, vR a2, vR a3, vI fl, vI us, vI iv, vJ q6, .second, vI p8] [(.ref a2), (.int iv)])) rfl rfl (hb hby d3_50) _ ?_
    rw [ln97]
    show Steps p.tables e below (T0.setTop (mkF m 51 #[vR a1, vR a2, vR a3, vI fl, vI us, vI iv, vJ q6, .second, vI p8] [(.int (3 : Int32)), (.int iv)])) _
    refine XS.icmpNo X0.here hx rfl (hb hby d3_51) rfl (tlt (hlt : iv < (3 : Int32))).2.1 ?_
    refine XS.aloadN X0.here hx rfl (hb hby d3_54) rfl rfl ?_
    refine XS.iload X0.here hx rfl (hb hby d3_55) rfl ?_
    exact kt
  clear R96
  obtain ⟨cl99, Ar99, hin99, hat99⟩ := VH.at (j := iv) (k := i) hi0 hin hi3
  have R100 : ∀ tg, Steps p.tables e below (T0.setTop (mkF m 62 #[vR a1, vR a2, vR a3, vI fl, vI us, vI iv, vJ q6, .second, vI p8] [(.int iv), (.ref a2), (.long ((hi i).toInt64))])) tg → Steps p.tables e below (T0.setTop (mkF m 47 #[vR a1, vR a2, vR a3, vI fl, vI us, vI iv, vJ q6, .second, vI p8] [])) tg := by
    intro tg kt
    refine R98 _ ?_
    show Steps p.tables e below (T0.setTop (mkF m 57 #[vR a1, vR a2, vR a3, vI fl, vI us, vI iv, vJ q6, .second, vI p8] [(.int iv), (.ref a3)])) _
    refine X0.iaload hx (j := iv) (v := (.int (hi i))) (by rw [e0]; exact Ar99.1) (State.isArrayOf_alike hZ.alike Ar99.2.1) Ar99.2.2 hin99 hat99 (g := (mkF m 57 #[vR a1, vR a2, vR a3, vI fl, vI us, vI iv, vJ q6, .second, vI p8] [(.int iv), (.ref a3)])) rfl rfl (hb hby d3_57) _ ?_
    show Steps p.tables e below (T0.setTop (mkF m 58 #[vR a1, vR a2, vR a3, vI fl, vI us, vI iv, vJ q6, .second, vI p8] [(.int (hi i))])) _
    refine XS.i2l X0.here hx rfl (hb hby d3_58) rfl ?_
    refine XS.aloadN X0.here hx rfl (hb hby d3_59) rfl rfl ?_
    refine XS.iload X0.here hx rfl (hb hby d3_60) rfl ?_
    exact kt
  clear R98
  obtain ⟨cl101, Ar101, hin101, hat101⟩ := VL.at (j := iv) (k := i) hi0 hin hi3
  have R102 : ∀ tg, Steps p.tables e below (T0.setTop (mkF m 71 #[vR a1, vR a2, vR a3, vI fl, vI us, vI iv, vJ (((hi i).toInt64) - ((lo i).toInt64)), .second, vI p8] [(.long (((hi i).toInt64) - ((lo i).toInt64))), (.int (64 : Int32))])) tg → Steps p.tables e below (T0.setTop (mkF m 47 #[vR a1, vR a2, vR a3, vI fl, vI us, vI iv, vJ q6, .second, vI p8] [])) tg := by
    intro tg kt
    refine R100 _ ?_
    show Steps p.tables e below (T0.setTop (mkF m 62 #[vR a1, vR a2, vR a3, vI fl, vI us, vI iv, vJ q6, .second, vI p8] [(.int iv), (.ref a2), (.long ((hi i).toInt64))])) _
    refine X0.iaload hx (j := iv) (v := (.int (lo i))) (by rw [e0]; exact Ar101.1) (State.isArrayOf_alike hZ.alike Ar101.2.1) Ar101.2.2 hin101 hat101 (g := (mkF m 62 #[vR a1, vR a2, vR a3, vI fl, vI us, vI iv, vJ q6, .second, vI p8] [(.int iv), (.ref a2), (.long ((hi i).toInt64))])) rfl rfl (hb hby d3_62) _ ?_
    show Steps p.tables e below (T0.setTop (mkF m 63 #[vR a1, vR a2, vR a3, vI fl, vI us, vI iv, vJ q6, .second, vI p8] [(.int (lo i)), (.long ((hi i).toInt64))])) _
    refine XS.i2l X0.here hx rfl (hb hby d3_63) rfl ?_
    show Steps p.tables e below (T0.setTop (mkF m 64 #[vR a1, vR a2, vR a3, vI fl, vI us, vI iv, vJ q6, .second, vI p8] [(.long ((lo i).toInt64)), (.long ((hi i).toInt64))])) _
    refine XS.lsub X0.here hx rfl (hb hby d3_64) rfl ?_
    show Steps p.tables e below (T0.setTop (mkF m 65 #[vR a1, vR a2, vR a3, vI fl, vI us, vI iv, vJ q6, .second, vI p8] [(.long (((hi i).toInt64) - ((lo i).toInt64)))])) _
    refine XS.lstore X0.here hx rfl (hb hby d3_65) rfl (l' := #[vR a1, vR a2, vR a3, vI fl, vI us, vI iv, vJ (((hi i).toInt64) - ((lo i).toInt64)), .second, vI p8]) rfl ?_
    refine XS.bipush X0.here hx rfl (hb hby d3_67) ?_
    refine XS.lload X0.here hx rfl (hb hby d3_69) rfl ?_
    exact kt
  clear R100
  obtain ⟨_, _, ⟨T103, L103, k103, n103⟩, -, X103, ⟨Lc103, hQ103, l103, y103, z103⟩, st103⟩ := Jvm.LawKit.callS X0 hx (y := (⟨"java/lang/Long", "numberOfLeadingZeros", "(J)I"⟩ : MethodName)) hown (mvT hZ (hw _ (List.mem_of_getElem? (i := 35) rfl))) (mvT hZ (hw _ (List.mem_of_getElem? (i := 36) rfl))) (mvT hZ (hw _ (List.mem_of_getElem? (i := 37) rfl))) (mvT hZ (hw _ (List.mem_of_getElem? (i := 38) rfl))) (by decide) (backOf (W := 1) (rm_lnlz l Z a0 hw [] (((hi i).toInt64) - ((lo i).toInt64)) h0 n0 Z0) hZ (hw _ (List.mem_of_getElem? (i := 38) rfl)) (hw _ (List.mem_of_getElem? (i := 37) rfl)) (by decide) (by decide)) (g := (mkF m 71 #[vR a1, vR a2, vR a3, vI fl, vI us, vI iv, vJ (((hi i).toInt64) - ((lo i).toInt64)), .second, vI p8] [(.long (((hi i).toInt64) - ((lo i).toInt64))), (.int (64 : Int32))])) rfl (by rw [hml]; rfl) (argsL := [(.long (((hi i).toInt64) - ((lo i).toInt64)))]) (rest := [(.int (64 : Int32))]) (lenOf pd_1 rfl) rfl (by show 2 * 0 + _ ≤ _; exact Nat.le_of_eq rfl) (hb hby d3_71) (fun _ _ => ⟨rfl, e0, (by decide : 4 + 0 ≤ _), (by decide : 12 + 0 ≤ _)⟩)
  dsimp only [Pt.U, Pt.locs, Pt.cells, Pt.slots] at X103 l103 y103 z103 st103 hQ103
  rw [l103, y103, z103] at X103
  obtain ⟨rfl, N103q, hh103⟩ := hQ103
  have N103 := Fr.app N0 N103q
  have R104 : ∀ tg, Steps p.tables e below (T103.setTop (mkF m 75 #[vR a1, vR a2, vR a3, vI fl, vI us, vI iv, vJ (((hi i).toInt64) - ((lo i).toInt64)), .second, vI p8] [(.int ((64 : Int32) - (own_lnlz (((hi i).toInt64) - ((lo i).toInt64)))))])) tg → Steps p.tables e below (T0.setTop (mkF m 47 #[vR a1, vR a2, vR a3, vI fl, vI us, vI iv, vJ q6, .second, vI p8] [])) tg := by
    intro tg kt
    refine R102 _ ?_
    refine st103 _ ?_
    show Steps p.tables e below (T103.setTop (mkF m 74 #[vR a1, vR a2, vR a3, vI fl, vI us, vI iv, vJ (((hi i).toInt64) - ((lo i).toInt64)), .second, vI p8] [(.int (own_lnlz (((hi i).toInt64) - ((lo i).toInt64)))), (.int (64 : Int32))])) _
    refine XS.isub X103.here hx rfl (hb hby d3_74) rfl ?_
    exact kt
  clear R102 st103
  have R105 : ∀ tg, Steps p.tables e below (T103.setTop (mkF m 75 #[vR a1, vR a2, vR a3, vI fl, vI us, vI iv, vJ (((hi i).toInt64) - ((lo i).toInt64)), .second, vI p8] [(.int (own_bits (lo i) (hi i)))])) tg → Steps p.tables e below (T0.setTop (mkF m 47 #[vR a1, vR a2, vR a3, vI fl, vI us, vI iv, vJ q6, .second, vI p8] [])) tg := R104
  have R106 : ∀ tg, Steps p.tables e below (T103.setTop (mkF m 84 #[vR a1, vR a2, vR a3, vI fl, vI us, vI iv, vJ (((hi i).toInt64) - ((lo i).toInt64)), .second, vI (own_bits (lo i) (hi i))] [(.int (64 : Int32)), (.int (us + (own_bits (lo i) (hi i))))])) tg → Steps p.tables e below (T0.setTop (mkF m 47 #[vR a1, vR a2, vR a3, vI fl, vI us, vI iv, vJ q6, .second, vI p8] [])) tg := by
    intro tg kt
    refine R105 _ ?_
    show Steps p.tables e below (T103.setTop (mkF m 75 #[vR a1, vR a2, vR a3, vI fl, vI us, vI iv, vJ (((hi i).toInt64) - ((lo i).toInt64)), .second, vI p8] [(.int (own_bits (lo i) (hi i)))])) _
    refine XS.istore X103.here hx rfl (hb hby d3_75) rfl (l' := #[vR a1, vR a2, vR a3, vI fl, vI us, vI iv, vJ (((hi i).toInt64) - ((lo i).toInt64)), .second, vI (own_bits (lo i) (hi i))]) rfl ?_
    refine XS.iload X103.here hx rfl (hb hby d3_77) rfl ?_
    refine XS.iload X103.here hx rfl (hb hby d3_79) rfl ?_
    show Steps p.tables e below (T103.setTop (mkF m 81 #[vR a1, vR a2, vR a3, vI fl, vI us, vI iv, vJ (((hi i).toInt64) - ((lo i).toInt64)), .second, vI (own_bits (lo i) (hi i))] [(.int (own_bits (lo i) (hi i))), (.int us)])) _
    refine XS.iadd X103.here hx rfl (hb hby d3_81) rfl ?_
    refine XS.bipush X103.here hx rfl (hb hby d3_82) ?_
    exact kt
  clear R105
  by_cases hc84 : (64 : Int32) < (us + (own_bits (lo i) (hi i)))
  · have R107 : ∀ tg, Steps p.tables e below (T103.setTop (mkF m 93 #[vR a1, vR a2, vR a3, vI (fl + (1 : Int32)), vI (0 : Int32), vI iv, vJ (((hi i).toInt64) - ((lo i).toInt64)), .second, vI (own_bits (lo i) (hi i))] [])) tg → Steps p.tables e below (T0.setTop (mkF m 47 #[vR a1, vR a2, vR a3, vI fl, vI us, vI iv, vJ q6, .second, vI p8] [])) tg := by
      intro tg kt
      refine R106 _ ?_
      show Steps p.tables e below (T103.setTop (mkF m 84 #[vR a1, vR a2, vR a3, vI fl, vI us, vI iv, vJ (((hi i).toInt64) - ((lo i).toInt64)), .second, vI (own_bits (lo i) (hi i))] [(.int (64 : Int32)), (.int (us + (own_bits (lo i) (hi i))))])) _
      refine XS.icmpNo X103.here hx rfl (hb hby d3_84) rfl (tlt (hc84 : (64 : Int32) < (us + (own_bits (lo i) (hi i))))).2.2.2 ?_
      show Steps p.tables e below (T103.setTop (mkF m 87 #[vR a1, vR a2, vR a3, vI fl, vI us, vI iv, vJ (((hi i).toInt64) - ((lo i).toInt64)), .second, vI (own_bits (lo i) (hi i))] [])) _
      refine XS.iinc X103.here hx rfl (hb hby d3_87) rfl (l' := #[vR a1, vR a2, vR a3, vI (fl + (1 : Int32)), vI us, vI iv, vJ (((hi i).toInt64) - ((lo i).toInt64)), .second, vI (own_bits (lo i) (hi i))]) rfl ?_
      refine XS.iconst X103.here hx rfl (hb hby d3_90) ?_
      show Steps p.tables e below (T103.setTop (mkF m 91 #[vR a1, vR a2, vR a3, vI (fl + (1 : Int32)), vI us, vI iv, vJ (((hi i).toInt64) - ((lo i).toInt64)), .second, vI (own_bits (lo i) (hi i))] [(.int (0 : Int32))])) _
      refine XS.istore X103.here hx rfl (hb hby d3_91) rfl (l' := #[vR a1, vR a2, vR a3, vI (fl + (1 : Int32)), vI (0 : Int32), vI iv, vJ (((hi i).toInt64) - ((lo i).toInt64)), .second, vI (own_bits (lo i) (hi i))]) rfl ?_
      exact kt
    clear R106
    have R108 : ∀ tg, Steps p.tables e below (T103.setTop (mkF m 93 #[vR a1, vR a2, vR a3, vI (own_fl fl us (own_bits (lo i) (hi i))), vI (own_us us (own_bits (lo i) (hi i))), vI iv, vJ ((hi i).toInt64 - (lo i).toInt64), .second, vI (own_bits (lo i) (hi i))] [])) tg → Steps p.tables e below (T0.setTop (mkF m 47 #[vR a1, vR a2, vR a3, vI fl, vI us, vI iv, vJ q6, .second, vI p8] [])) tg := by rw [own_fl, own_us, if_pos hc84, if_pos hc84]; exact R107
    exact ⟨_, _, X103, hh103, N103, R108⟩
  · have R109 : ∀ tg, Steps p.tables e below (T103.setTop (mkF m 93 #[vR a1, vR a2, vR a3, vI fl, vI us, vI iv, vJ (((hi i).toInt64) - ((lo i).toInt64)), .second, vI (own_bits (lo i) (hi i))] [])) tg → Steps p.tables e below (T0.setTop (mkF m 47 #[vR a1, vR a2, vR a3, vI fl, vI us, vI iv, vJ q6, .second, vI p8] [])) tg := by
      intro tg kt
      refine R106 _ ?_
      show Steps p.tables e below (T103.setTop (mkF m 84 #[vR a1, vR a2, vR a3, vI fl, vI us, vI iv, vJ (((hi i).toInt64) - ((lo i).toInt64)), .second, vI (own_bits (lo i) (hi i))] [(.int (64 : Int32)), (.int (us + (own_bits (lo i) (hi i))))])) _
      refine XS.icmpYes X103.here hx rfl (pc0 := 84) (pc' := 93) rfl (hb hby d3_84) rfl (flt (hc84 : ¬ ((64 : Int32) < (us + (own_bits (lo i) (hi i)))))).2.2.2 (by decide) (by decide) ?_
      exact kt
    clear R106
    have R110 : ∀ tg, Steps p.tables e below (T103.setTop (mkF m 93 #[vR a1, vR a2, vR a3, vI (own_fl fl us (own_bits (lo i) (hi i))), vI (own_us us (own_bits (lo i) (hi i))), vI iv, vJ ((hi i).toInt64 - (lo i).toInt64), .second, vI (own_bits (lo i) (hi i))] [])) tg → Steps p.tables e below (T0.setTop (mkF m 47 #[vR a1, vR a2, vR a3, vI fl, vI us, vI iv, vJ q6, .second, vI p8] [])) tg := by rw [own_fl, own_us, if_neg hc84, if_neg hc84]; exact R109
    exact ⟨_, _, X103, hh103, N103, R110⟩
theorem d3_93 : decode prog_37_method_1_code 93 = .ok (.aload_n 0, 1) := by decide +kernel
theorem d3_94 : decode prog_37_method_1_code 94 = .ok (.getfield 18, 3) := by decide +kernel
theorem d3_97 : decode prog_37_method_1_code 97 = .ok (.iload 5, 2) := by decide +kernel
theorem d3_99 : decode prog_37_method_1_code 99 = .ok (.iload_n 3, 1) := by decide +kernel
theorem d3_100 : decode prog_37_method_1_code 100 = .ok (.iastore, 1) := by decide +kernel
theorem d3_101 : decode prog_37_method_1_code 101 = .ok (.aload_n 0, 1) := by decide +kernel
theorem d3_102 : decode prog_37_method_1_code 102 = .ok (.getfield 21, 3) := by decide +kernel
theorem d3_105 : decode prog_37_method_1_code 105 = .ok (.iload 5, 2) := by decide +kernel
theorem d3_107 : decode prog_37_method_1_code 107 = .ok (.bipush 64, 2) := by decide +kernel
theorem d3_109 : decode prog_37_method_1_code 109 = .ok (.iload 4, 2) := by decide +kernel
theorem d3_111 : decode prog_37_method_1_code 111 = .ok (.isub, 1) := by decide +kernel
theorem d3_112 : decode prog_37_method_1_code 112 = .ok (.iload 8, 2) := by decide +kernel
theorem d3_114 : decode prog_37_method_1_code 114 = .ok (.isub, 1) := by decide +kernel
theorem d3_115 : decode prog_37_method_1_code 115 = .ok (.iastore, 1) := by decide +kernel
theorem d3_116 : decode prog_37_method_1_code 116 = .ok (.aload_n 0, 1) := by decide +kernel
theorem d3_117 : decode prog_37_method_1_code 117 = .ok (.getfield 24, 3) := by decide +kernel
theorem d3_120 : decode prog_37_method_1_code 120 = .ok (.iload 5, 2) := by decide +kernel
theorem d3_122 : decode prog_37_method_1_code 122 = .ok (.iload 8, 2) := by decide +kernel
theorem d3_124 : decode prog_37_method_1_code 124 = .ok (.ifCond .ne 7, 3) := by decide +kernel
theorem d3_127 : decode prog_37_method_1_code 127 = .ok (.lconst 0, 1) := by decide +kernel
theorem d3_128 : decode prog_37_method_1_code 128 = .ok (.goto 12, 3) := by decide +kernel
theorem d3_140 : decode prog_37_method_1_code 140 = .ok (.lastore, 1) := by decide +kernel
theorem d3_141 : decode prog_37_method_1_code 141 = .ok (.iload 4, 2) := by decide +kernel
theorem d3_143 : decode prog_37_method_1_code 143 = .ok (.iload 8, 2) := by decide +kernel
theorem d3_145 : decode prog_37_method_1_code 145 = .ok (.iadd, 1) := by decide +kernel
theorem d3_146 : decode prog_37_method_1_code 146 = .ok (.istore 4, 2) := by decide +kernel
theorem d3_148 : decode prog_37_method_1_code 148 = .ok (.iinc 5 1, 3) := by decide +kernel
theorem d3_151 : decode prog_37_method_1_code 151 = .ok (.goto (-104), 3) := by decide +kernel
theorem d3_131 : decode prog_37_method_1_code 131 = .ok (.ldc2_w 34, 3) := by decide +kernel
theorem d3_134 : decode prog_37_method_1_code 134 = .ok (.bipush 64, 2) := by decide +kernel
theorem d3_136 : decode prog_37_method_1_code 136 = .ok (.iload 8, 2) := by decide +kernel
theorem d3_138 : decode prog_37_method_1_code 138 = .ok (.isub, 1) := by decide +kernel
theorem d3_139 : decode prog_37_method_1_code 139 = .ok (.lushr, 1) := by decide +kernel
set_option maxRecDepth 65536 in
set_option maxHeartbeats 40000000 in
theorem lp_c2 {p : Program} {l : Launch} {e : Env} {s : State} {m : MethodId} {args : Array Value} {below : List Frame} {meth : Method} {c : Code} {Z : State} {a0 : Array Value} {n0 : Nat} {T0 : State} {locs : List Loc} {h0 : Heap} (a1 : Addr) (a2 : Addr) (a3 : Addr) (b2 : Addr) (b3 : Addr) (b4 : Addr) (fl : Int32) (us : Int32) (iv : Int32) (q6 : Int64) (bb : Int32) (i : Nat) (fw : Nat → Int32) (fs : Nat → Int32) (fm : Nat → Int64) (X0 : Stand p l e ({ frames := 2, cells := 4, slots := 12, locals := 29 } : Room) s m args below meth c T0 locs 4 12) (hx : p.tables.exec = Jvm.exec) (hZ : Z.Warmed39 s.vm) (hw : ∀ d ∈ tables_1, d.before a0 Z = true) (hby : c.code = prog_37_method_1_code) (hml : c.maxLocals = 9) (hown : s.vm.findClass "com/example/inexact_odds/inexactodds/language/Encoding" = some m.cls) (e0 : T0.heap = h0) (N0 : Fr n0 locs) (Z0 : n0 ≤ h0.size) (Fw : Fld Z h0 a1 "com/example/inexact_odds/inexactodds/language/Encoding" "word" "[I" (.ref b2)) (Fs : Fld Z h0 a1 "com/example/inexact_odds/inexactodds/language/Encoding" "shift" "[I" (.ref b3)) (Fm : Fld Z h0 a1 "com/example/inexact_odds/inexactodds/language/Encoding" "mask" "[J" (.ref b4)) (VW : AV Z h0 b2 .int 3 (fun j => .int (fw j))) (VS : AV Z h0 b3 .int 3 (fun j => .int (fs j))) (VM : AV Z h0 b4 .long 3 (fun j => .long (fm j))) (gb2 : n0 ≤ b2) (gb3 : n0 ≤ b3) (gb4 : n0 ≤ b4) (n1b2 : a1 ≠ b2) (n1b3 : a1 ≠ b3) (n1b4 : a1 ≠ b4) (n23 : b2 ≠ b3) (n24 : b2 ≠ b4) (n34 : b3 ≠ b4) (hi0 : ¬ iv < 0) (hin : iv.toNatClampNeg = i) (hi3 : i < 3) :
    ∃ (T' : State) (h' : Heap) (L' : List Loc), Stand p l e ({ frames := 2, cells := 4, slots := 12, locals := 29 } : Room) s m args below meth c T' L' 4 12 ∧ T'.heap = h' ∧ Fr n0 L' ∧ Keep h0 h' [b2, b3, b4] ∧ AV Z h' b2 .int 3 (fun j => .int ((own_set fw i fl) j)) ∧ AV Z h' b3 .int 3 (fun j => .int ((own_set fs i (((64 : Int32) - us) - bb)) j)) ∧ AV Z h' b4 .long 3 (fun j => .long ((own_set fm i (own_mask bb)) j)) ∧ ∀ t, Steps p.tables e below (T'.setTop (mkF m 47 #[vR a1, vR a2, vR a3, vI fl, vI (us + bb), vI (iv + (1 : Int32)), vJ q6, .second, vI bb] [])) t → Steps p.tables e below (T0.setTop (mkF m 93 #[vR a1, vR a2, vR a3, vI fl, vI us, vI iv, vJ q6, .second, vI bb] [])) t := by
  have R111 : ∀ tg, Steps p.tables e below (T0.setTop (mkF m 94 #[vR a1, vR a2, vR a3, vI fl, vI us, vI iv, vJ q6, .second, vI bb] [(.ref a1)])) tg → Steps p.tables e below (T0.setTop (mkF m 93 #[vR a1, vR a2, vR a3, vI fl, vI us, vI iv, vJ q6, .second, vI bb] [])) tg := by
    intro tg kt
    refine (fun (t : State) (k : Steps p.tables e below (T0.setTop (mkF m 93 #[vR a1, vR a2, vR a3, vI fl, vI us, vI iv, vJ q6, .second, vI bb] [])) t) => k) _ ?_
    show Steps p.tables e below (T0.setTop (mkF m 93 #[vR a1, vR a2, vR a3, vI fl, vI us, vI iv, vJ q6, .second, vI bb] [])) _
    refine XS.aloadN X0.here hx rfl (hb hby d3_93) rfl rfl ?_
    exact kt
  obtain ⟨T112, X112, e112, st112⟩ := getF X0 hx hZ hown (host := "") (Or.inl (hw _ (List.mem_of_getElem? (i := 28) rfl))) Via.refl e0 Fw (g := (mkF m 94 #[vR a1, vR a2, vR a3, vI fl, vI us, vI iv, vJ q6, .second, vI bb] [(.ref a1)])) rfl rfl (hb hby d3_94)
  have R113 : ∀ tg, Steps p.tables e below (T112.setTop (mkF m 100 #[vR a1, vR a2, vR a3, vI fl, vI us, vI iv, vJ q6, .second, vI bb] [(.int fl), (.int iv), (.ref b2)])) tg → Steps p.tables e below (T0.setTop (mkF m 93 #[vR a1, vR a2, vR a3, vI fl, vI us, vI iv, vJ q6, .second, vI bb] [])) tg := by
    intro tg kt
    refine R111 _ ?_
    refine st112 _ ?_
    refine XS.iload X112.here hx rfl (hb hby d3_97) rfl ?_
    refine XS.iloadN X112.here hx rfl (hb hby d3_99) rfl ?_
    exact kt
  clear R111 st112
  obtain ⟨cl114, Ar114, hin114, -⟩ := VW.at (j := iv) (k := i) hi0 hin hi3
  obtain ⟨T115, h115, X115, e115, W115, st115⟩ := stI X112 hx hZ e112 Ar114 (j := iv) hin114 (g := (mkF m 100 #[vR a1, vR a2, vR a3, vI fl, vI us, vI iv, vJ q6, .second, vI bb] [(.int fl), (.int iv), (.ref b2)])) rfl rfl (hb hby d3_100)
  have N115 := Fr.snoc X115 N0 gb2
  rw [show (iv : Int32).toNatClampNeg = i from hin] at W115
  have VW_115 : AV Z h115 b2 .int 3 (fun j => .int ((own_set fw i fl) j)) := VW.setI W115
  have Fw_115 := Fw.other W115 (Or.inl n1b2)
  have Fs_115 := Fs.other W115 (Or.inl n1b2)
  have Fm_115 := Fm.other W115 (Or.inl n1b2)
  have VS_115 := VS.other W115 (Ne.symm n23)
  have VM_115 := VM.other W115 (Ne.symm n24)
  have Zs115 : n0 ≤ h115.size := Nat.le_trans Z0 (Keep.of_wr W115).1
  have Kw115 : Keep h0 h115 [b2, b3, b4] := Keep.wr (Keep.refl h0 [b2, b3, b4]) W115 (Or.inl (List.mem_of_getElem? (i := 0) rfl))
  have R116 : ∀ tg, Steps p.tables e below (T115.setTop (mkF m 102 #[vR a1, vR a2, vR a3, vI fl, vI us, vI iv, vJ q6, .second, vI bb] [(.ref a1)])) tg → Steps p.tables e below (T0.setTop (mkF m 93 #[vR a1, vR a2, vR a3, vI fl, vI us, vI iv, vJ q6, .second, vI bb] [])) tg := by
    intro tg kt
    refine R113 _ ?_
    refine st115 _ ?_
    show Steps p.tables e below (T115.setTop (mkF m 101 #[vR a1, vR a2, vR a3, vI fl, vI us, vI iv, vJ q6, .second, vI bb] [])) _
    refine XS.aloadN X115.here hx rfl (hb hby d3_101) rfl rfl ?_
    exact kt
  clear R113 st115
  obtain ⟨T117, X117, e117, st117⟩ := getF X115 hx hZ hown (host := "") (Or.inl (hw _ (List.mem_of_getElem? (i := 30) rfl))) Via.refl e115 Fs_115 (g := (mkF m 102 #[vR a1, vR a2, vR a3, vI fl, vI us, vI iv, vJ q6, .second, vI bb] [(.ref a1)])) rfl rfl (hb hby d3_102)
  have R118 : ∀ tg, Steps p.tables e below (T117.setTop (mkF m 115 #[vR a1, vR a2, vR a3, vI fl, vI us, vI iv, vJ q6, .second, vI bb] [(.int (((64 : Int32) - us) - bb)), (.int iv), (.ref b3)])) tg → Steps p.tables e below (T0.setTop (mkF m 93 #[vR a1, vR a2, vR a3, vI fl, vI us, vI iv, vJ q6, .second, vI bb] [])) tg := by
    intro tg kt
    refine R116 _ ?_
    refine st117 _ ?_
    refine XS.iload X117.here hx rfl (hb hby d3_105) rfl ?_
    refine XS.bipush X117.here hx rfl (hb hby d3_107) ?_
    show Steps p.tables e below (T117.setTop (mkF m 109 #[vR a1, vR a2, vR a3, vI fl, vI us, vI iv, vJ q6, .second, vI bb] [(.int (64 : Int32)), (.int iv), (.ref b3)])) _
    refine XS.iload X117.here hx rfl (hb hby d3_109) rfl ?_
    show Steps p.tables e below (T117.setTop (mkF m 111 #[vR a1, vR a2, vR a3, vI fl, vI us, vI iv, vJ q6, .second, vI bb] [(.int us), (.int (64 : Int32)), (.int iv), (.ref b3)])) _
    refine XS.isub X117.here hx rfl (hb hby d3_111) rfl ?_
    refine XS.iload X117.here hx rfl (hb hby d3_112) rfl ?_
    show Steps p.tables e below (T117.setTop (mkF m 114 #[vR a1, vR a2, vR a3, vI fl, vI us, vI iv, vJ q6, .second, vI bb] [(.int bb), (.int ((64 : Int32) - us)), (.int iv), (.ref b3)])) _
    refine XS.isub X117.here hx rfl (hb hby d3_114) rfl ?_
    exact kt
  clear R116 st117
  obtain ⟨cl119, Ar119, hin119, -⟩ := VS_115.at (j := iv) (k := i) hi0 hin hi3
  obtain ⟨T120, h120, X120, e120, W120, st120⟩ := stI X117 hx hZ e117 Ar119 (j := iv) hin119 (g := (mkF m 115 #[vR a1, vR a2, vR a3, vI fl, vI us, vI iv, vJ q6, .second, vI bb] [(.int (((64 : Int32) - us) - bb)), (.int iv), (.ref b3)])) rfl rfl (hb hby d3_115)
  have N120 := Fr.snoc X120 N115 gb3
  rw [show (iv : Int32).toNatClampNeg = i from hin] at W120
  have VS_120 : AV Z h120 b3 .int 3 (fun j => .int ((own_set fs i (((64 : Int32) - us) - bb)) j)) := VS_115.setI W120
  have Fw_120 := Fw_115.other W120 (Or.inl n1b3)
  have Fs_120 := Fs_115.other W120 (Or.inl n1b3)
  have Fm_120 := Fm_115.other W120 (Or.inl n1b3)
  have VW_120 := VW_115.other W120 n23
  have VM_120 := VM_115.other W120 (Ne.symm n34)
  clear Fw_115 Fs_115 Fm_115 VW_115 VM_115
  have Zs120 : n0 ≤ h120.size := Nat.le_trans Zs115 (Keep.of_wr W120).1
  have Kw120 : Keep h0 h120 [b2, b3, b4] := Keep.wr Kw115 W120 (Or.inl (List.mem_of_getElem? (i := 1) rfl))
  have R121 : ∀ tg, Steps p.tables e below (T120.setTop (mkF m 117 #[vR a1, vR a2, vR a3, vI fl, vI us, vI iv, vJ q6, .second, vI bb] [(.ref a1)])) tg → Steps p.tables e below (T0.setTop (mkF m 93 #[vR a1, vR a2, vR a3, vI fl, vI us, vI iv, vJ q6, .second, vI bb] [])) tg := by
    intro tg kt
    refine R118 _ ?_
    refine st120 _ ?_
    refine XS.aloadN X120.here hx rfl (hb hby d3_116) rfl rfl ?_
    exact kt
  clear R118 st120
  obtain ⟨T122, X122, e122, st122⟩ := getF X120 hx hZ hown (host := "") (Or.inl (hw _ (List.mem_of_getElem? (i := 33) rfl))) Via.refl e120 Fm_120 (g := (mkF m 117 #[vR a1, vR a2, vR a3, vI fl, vI us, vI iv, vJ q6, .second, vI bb] [(.ref a1)])) rfl rfl (hb hby d3_117)
  have R123 : ∀ tg, Steps p.tables e below (T122.setTop (mkF m 124 #[vR a1, vR a2, vR a3, vI fl, vI us, vI iv, vJ q6, .second, vI bb] [(.int bb), (.int iv), (.ref b4)])) tg → Steps p.tables e below (T0.setTop (mkF m 93 #[vR a1, vR a2, vR a3, vI fl, vI us, vI iv, vJ q6, .second, vI bb] [])) tg := by
    intro tg kt
    refine R121 _ ?_
    refine st122 _ ?_
    refine XS.iload X122.here hx rfl (hb hby d3_120) rfl ?_
    show Steps p.tables e below (T122.setTop (mkF m 122 #[vR a1, vR a2, vR a3, vI fl, vI us, vI iv, vJ q6, .second, vI bb] [(.int iv), (.ref b4)])) _
    refine XS.iload X122.here hx rfl (hb hby d3_122) rfl ?_
    exact kt
  clear R121 st122
  by_cases hc124 : bb = (0 : Int32)
  · have R124 : ∀ tg, Steps p.tables e below (T122.setTop (mkF m 140 #[vR a1, vR a2, vR a3, vI fl, vI us, vI iv, vJ q6, .second, vI bb] [(.long (0 : Int64)), (.int iv), (.ref b4)])) tg → Steps p.tables e below (T0.setTop (mkF m 93 #[vR a1, vR a2, vR a3, vI fl, vI us, vI iv, vJ q6, .second, vI bb] [])) tg := by
      intro tg kt
      refine R123 _ ?_
      show Steps p.tables e below (T122.setTop (mkF m 124 #[vR a1, vR a2, vR a3, vI fl, vI us, vI iv, vJ q6, .second, vI bb] [(.int bb), (.int iv), (.ref b4)])) _
      refine XS.ifNo X122.here hx rfl (hb hby d3_124) rfl ((if0 _ _).trans (teq (hc124 : bb = (0 : Int32))).2) ?_
      refine XS.lconst X122.here hx rfl (hb hby d3_127) ?_
      show Steps p.tables e below (T122.setTop (mkF m 128 #[vR a1, vR a2, vR a3, vI fl, vI us, vI iv, vJ q6, .second, vI bb] [(.long (0 : Int64)), (.int iv), (.ref b4)])) _
      refine XS.goto X122.here hx rfl (pc0 := 128) (pc' := 140) rfl (hb hby d3_128) (by decide) (by decide) ?_
      exact kt
    clear R123
    have R125 : ∀ tg, Steps p.tables e below (T122.setTop (mkF m 140 #[vR a1, vR a2, vR a3, vI fl, vI us, vI iv, vJ q6, .second, vI bb] [(.long (own_mask bb)), (.int iv), (.ref b4)])) tg → Steps p.tables e below (T0.setTop (mkF m 93 #[vR a1, vR a2, vR a3, vI fl, vI us, vI iv, vJ q6, .second, vI bb] [])) tg := by rw [own_mask, if_pos hc124]; exact R124
    obtain ⟨cl126, Ar126, hin126, -⟩ := VM_120.at (j := iv) (k := i) hi0 hin hi3
    obtain ⟨T127, h127, X127, e127, W127, st127⟩ := stJ X122 hx hZ e122 Ar126 (j := iv) hin126 (g := (mkF m 140 #[vR a1, vR a2, vR a3, vI fl, vI us, vI iv, vJ q6, .second, vI bb] [(.long (own_mask bb)), (.int iv), (.ref b4)])) rfl rfl (hb hby d3_140)
    have N127 := Fr.snoc X127 N120 gb4
    rw [show (iv : Int32).toNatClampNeg = i from hin] at W127
    have VM_127 : AV Z h127 b4 .long 3 (fun j => .long ((own_set fm i (own_mask bb)) j)) := VM_120.setJ W127
    have Fw_127 := Fw_120.other W127 (Or.inl n1b4)
    have Fs_127 := Fs_120.other W127 (Or.inl n1b4)
    have Fm_127 := Fm_120.other W127 (Or.inl n1b4)
    have VW_127 := VW_120.other W127 n24
    have VS_127 := VS_120.other W127 n34
    clear Fw_120 Fs_120 Fm_120 VW_120 VS_120
    have Zs127 : n0 ≤ h127.size := Nat.le_trans Zs120 (Keep.of_wr W127).1
    have Kw127 : Keep h0 h127 [b2, b3, b4] := Keep.wr Kw120 W127 (Or.inl (List.mem_of_getElem? (i := 2) rfl))
    have R128 : ∀ tg, Steps p.tables e below (T127.setTop (mkF m 47 #[vR a1, vR a2, vR a3, vI fl, vI (us + bb), vI (iv + (1 : Int32)), vJ q6, .second, vI bb] [])) tg → Steps p.tables e below (T0.setTop (mkF m 93 #[vR a1, vR a2, vR a3, vI fl, vI us, vI iv, vJ q6, .second, vI bb] [])) tg := by
      intro tg kt
      refine R125 _ ?_
      refine st127 _ ?_
      refine XS.iload X127.here hx rfl (hb hby d3_141) rfl ?_
      refine XS.iload X127.here hx rfl (hb hby d3_143) rfl ?_
      show Steps p.tables e below (T127.setTop (mkF m 145 #[vR a1, vR a2, vR a3, vI fl, vI us, vI iv, vJ q6, .second, vI bb] [(.int bb), (.int us)])) _
      refine XS.iadd X127.here hx rfl (hb hby d3_145) rfl ?_
      show Steps p.tables e below (T127.setTop (mkF m 146 #[vR a1, vR a2, vR a3, vI fl, vI us, vI iv, vJ q6, .second, vI bb] [(.int (us + bb))])) _
      refine XS.istore X127.here hx rfl (hb hby d3_146) rfl (l' := #[vR a1, vR a2, vR a3, vI fl, vI (us + bb), vI iv, vJ q6, .second, vI bb]) rfl ?_
      show Steps p.tables e below (T127.setTop (mkF m 148 #[vR a1, vR a2, vR a3, vI fl, vI (us + bb), vI iv, vJ q6, .second, vI bb] [])) _
      refine XS.iinc X127.here hx rfl (hb hby d3_148) rfl (l' := #[vR a1, vR a2, vR a3, vI fl, vI (us + bb), vI (iv + (1 : Int32)), vJ q6, .second, vI bb]) rfl ?_
      show Steps p.tables e below (T127.setTop (mkF m 151 #[vR a1, vR a2, vR a3, vI fl, vI (us + bb), vI (iv + (1 : Int32)), vJ q6, .second, vI bb] [])) _
      refine XS.goto X127.here hx rfl (pc0 := 151) (pc' := 47) rfl (hb hby d3_151) (by decide) (by decide) ?_
      exact kt
    clear R125 st127
    exact ⟨_, _, _, X127, e127, N127, Kw127, VW_127, VS_127, VM_127, R128⟩
  · have R129 : ∀ tg, Steps p.tables e below (T122.setTop (mkF m 140 #[vR a1, vR a2, vR a3, vI fl, vI us, vI iv, vJ q6, .second, vI bb] [(.long (((-1 : Int64).toUInt64 >>> (((64 : Int32) - bb) &&& 0x3f).toInt64.toUInt64).toInt64)), (.int iv), (.ref b4)])) tg → Steps p.tables e below (T0.setTop (mkF m 93 #[vR a1, vR a2, vR a3, vI fl, vI us, vI iv, vJ q6, .second, vI bb] [])) tg := by
      intro tg kt
      refine R123 _ ?_
      show Steps p.tables e below (T122.setTop (mkF m 124 #[vR a1, vR a2, vR a3, vI fl, vI us, vI iv, vJ q6, .second, vI bb] [(.int bb), (.int iv), (.ref b4)])) _
      refine XS.ifYes X122.here hx rfl (pc0 := 124) (pc' := 131) rfl (hb hby d3_124) rfl ((if0 _ _).trans (feq (hc124 : ¬ (bb = (0 : Int32)))).2) (by decide) (by decide) ?_
      show Steps p.tables e below (T122.setTop (mkF m 131 #[vR a1, vR a2, vR a3, vI fl, vI us, vI iv, vJ q6, .second, vI bb] [(.int iv), (.ref b4)])) _
      refine X122.ldc2Long hx hown (mvT hZ (hw _ (List.mem_of_getElem? (i := 44) rfl))) (g := (mkF m 131 #[vR a1, vR a2, vR a3, vI fl, vI us, vI iv, vJ q6, .second, vI bb] [(.int iv), (.ref b4)])) rfl (hb hby d3_131) _ ?_
      refine XS.bipush X122.here hx rfl (hb hby d3_134) ?_
      refine XS.iload X122.here hx rfl (hb hby d3_136) rfl ?_
      show Steps p.tables e below (T122.setTop (mkF m 138 #[vR a1, vR a2, vR a3, vI fl, vI us, vI iv, vJ q6, .second, vI bb] [(.int bb), (.int (64 : Int32)), (.long (-1 : Int64)), (.int iv), (.ref b4)])) _
      refine XS.isub X122.here hx rfl (hb hby d3_138) rfl ?_
      show Steps p.tables e below (T122.setTop (mkF m 139 #[vR a1, vR a2, vR a3, vI fl, vI us, vI iv, vJ q6, .second, vI bb] [(.int ((64 : Int32) - bb)), (.long (-1 : Int64)), (.int iv), (.ref b4)])) _
      refine XS.lushr X122.here hx rfl (hb hby d3_139) rfl ?_
      exact kt
    clear R123
    have R130 : ∀ tg, Steps p.tables e below (T122.setTop (mkF m 140 #[vR a1, vR a2, vR a3, vI fl, vI us, vI iv, vJ q6, .second, vI bb] [(.long (own_mask bb)), (.int iv), (.ref b4)])) tg → Steps p.tables e below (T0.setTop (mkF m 93 #[vR a1, vR a2, vR a3, vI fl, vI us, vI iv, vJ q6, .second, vI bb] [])) tg := by rw [own_mask, if_neg hc124]; exact R129
    obtain ⟨cl131, Ar131, hin131, -⟩ := VM_120.at (j := iv) (k := i) hi0 hin hi3
    obtain ⟨T132, h132, X132, e132, W132, st132⟩ := stJ X122 hx hZ e122 Ar131 (j := iv) hin131 (g := (mkF m 140 #[vR a1, vR a2, vR a3, vI fl, vI us, vI iv, vJ q6, .second, vI bb] [(.long (own_mask bb)), (.int iv), (.ref b4)])) rfl rfl (hb hby d3_140)
    have N132 := Fr.snoc X132 N120 gb4
    rw [show (iv : Int32).toNatClampNeg = i from hin] at W132
    have VM_132 : AV Z h132 b4 .long 3 (fun j => .long ((own_set fm i (own_mask bb)) j)) := VM_120.setJ W132
    have Fw_132 := Fw_120.other W132 (Or.inl n1b4)
    have Fs_132 := Fs_120.other W132 (Or.inl n1b4)
    have Fm_132 := Fm_120.other W132 (Or.inl n1b4)
    have VW_132 := VW_120.other W132 n24
    have VS_132 := VS_120.other W132 n34
    clear Fw_120 Fs_120 Fm_120 VW_120 VS_120
    have Zs132 : n0 ≤ h132.size := Nat.le_trans Zs120 (Keep.of_wr W132).1
    have Kw132 : Keep h0 h132 [b2, b3, b4] := Keep.wr Kw120 W132 (Or.inl (List.mem_of_getElem? (i := 2) rfl))
    have R133 : ∀ tg, Steps p.tables e below (T132.setTop (mkF m 47 #[vR a1, vR a2, vR a3, vI fl, vI (us + bb), vI (iv + (1 : Int32)), vJ q6, .second, vI bb] [])) tg → Steps p.tables e below (T0.setTop (mkF m 93 #[vR a1, vR a2, vR a3, vI fl, vI us, vI iv, vJ q6, .second, vI bb] [])) tg := by
      intro tg kt
      refine R130 _ ?_
      refine st132 _ ?_
      refine XS.iload X132.here hx rfl (hb hby d3_141) rfl ?_
      refine XS.iload X132.here hx rfl (hb hby d3_143) rfl ?_
      show Steps p.tables e below (T132.setTop (mkF m 145 #[vR a1, vR a2, vR a3, vI fl, vI us, vI iv, vJ q6, .second, vI bb] [(.int bb), (.int us)])) _
      refine XS.iadd X132.here hx rfl (hb hby d3_145) rfl ?_
      show Steps p.tables e below (T132.setTop (mkF m 146 #[vR a1, vR a2, vR a3, vI fl, vI us, vI iv, vJ q6, .second, vI bb] [(.int (us + bb))])) _
      refine XS.istore X132.here hx rfl (hb hby d3_146) rfl (l' := #[vR a1, vR a2, vR a3, vI fl, vI (us + bb), vI iv, vJ q6, .second, vI bb]) rfl ?_
      show Steps p.tables e below (T132.setTop (mkF m 148 #[vR a1, vR a2, vR a3, vI fl, vI (us + bb), vI iv, vJ q6, .second, vI bb] [])) _
      refine XS.iinc X132.here hx rfl (hb hby d3_148) rfl (l' := #[vR a1, vR a2, vR a3, vI fl, vI (us + bb), vI (iv + (1 : Int32)), vJ q6, .second, vI bb]) rfl ?_
      show Steps p.tables e below (T132.setTop (mkF m 151 #[vR a1, vR a2, vR a3, vI fl, vI (us + bb), vI (iv + (1 : Int32)), vJ q6, .second, vI bb] [])) _
      refine XS.goto X132.here hx rfl (pc0 := 151) (pc' := 47) rfl (hb hby d3_151) (by decide) (by decide) ?_
      exact kt
    clear R130 st132
    exact ⟨_, _, _, X132, e132, N132, Kw132, VW_132, VS_132, VM_132, R133⟩
theorem pn_2 : plainName "com/example/inexact_odds/inexactodds/language/Encoding" = true := by first | (simp [plainName, overriddenIn]; done) | decide +kernel
theorem d3_0 : decode prog_37_method_1_code 0 = .ok (.aload_n 0, 1) := by decide +kernel
theorem d3_1 : decode prog_37_method_1_code 1 = .ok (.invokespecial 1, 3) := by decide +kernel
theorem d3_4 : decode prog_37_method_1_code 4 = .ok (.aload_n 0, 1) := by decide +kernel
theorem d3_5 : decode prog_37_method_1_code 5 = .ok (.aload_n 1, 1) := by decide +kernel
theorem d3_6 : decode prog_37_method_1_code 6 = .ok (.invokevirtual 7, 3) := by decide +kernel
theorem d3_9 : decode prog_37_method_1_code 9 = .ok (.checkcast 8, 3) := by decide +kernel
theorem d3_12 : decode prog_37_method_1_code 12 = .ok (.putfield 13, 3) := by decide +kernel
theorem d3_15 : decode prog_37_method_1_code 15 = .ok (.aload_n 0, 1) := by decide +kernel
theorem d3_16 : decode prog_37_method_1_code 16 = .ok (.aload_n 1, 1) := by decide +kernel
theorem d3_17 : decode prog_37_method_1_code 17 = .ok (.arraylength, 1) := by decide +kernel
theorem d3_18 : decode prog_37_method_1_code 18 = .ok (.newarray .int, 2) := by decide +kernel
theorem d3_20 : decode prog_37_method_1_code 20 = .ok (.putfield 18, 3) := by decide +kernel
theorem d3_23 : decode prog_37_method_1_code 23 = .ok (.aload_n 0, 1) := by decide +kernel
theorem d3_24 : decode prog_37_method_1_code 24 = .ok (.aload_n 1, 1) := by decide +kernel
theorem d3_25 : decode prog_37_method_1_code 25 = .ok (.arraylength, 1) := by decide +kernel
theorem d3_26 : decode prog_37_method_1_code 26 = .ok (.newarray .int, 2) := by decide +kernel
theorem d3_28 : decode prog_37_method_1_code 28 = .ok (.putfield 21, 3) := by decide +kernel
theorem d3_31 : decode prog_37_method_1_code 31 = .ok (.aload_n 0, 1) := by decide +kernel
theorem d3_32 : decode prog_37_method_1_code 32 = .ok (.aload_n 1, 1) := by decide +kernel
theorem d3_33 : decode prog_37_method_1_code 33 = .ok (.arraylength, 1) := by decide +kernel
theorem d3_34 : decode prog_37_method_1_code 34 = .ok (.newarray .long, 2) := by decide +kernel
theorem d3_36 : decode prog_37_method_1_code 36 = .ok (.putfield 24, 3) := by decide +kernel
theorem d3_39 : decode prog_37_method_1_code 39 = .ok (.iconst 0, 1) := by decide +kernel
theorem d3_40 : decode prog_37_method_1_code 40 = .ok (.istore_n 3, 1) := by decide +kernel
theorem d3_41 : decode prog_37_method_1_code 41 = .ok (.iconst 0, 1) := by decide +kernel
theorem d3_42 : decode prog_37_method_1_code 42 = .ok (.istore 4, 2) := by decide +kernel
theorem d3_44 : decode prog_37_method_1_code 44 = .ok (.iconst 0, 1) := by decide +kernel
theorem d3_45 : decode prog_37_method_1_code 45 = .ok (.istore 5, 2) := by decide +kernel
theorem d3_154 : decode prog_37_method_1_code 154 = .ok (.aload_n 0, 1) := by decide +kernel
theorem d3_155 : decode prog_37_method_1_code 155 = .ok (.iload_n 3, 1) := by decide +kernel
theorem d3_156 : decode prog_37_method_1_code 156 = .ok (.iconst 1, 1) := by decide +kernel
theorem d3_157 : decode prog_37_method_1_code 157 = .ok (.iadd, 1) := by decide +kernel
theorem d3_158 : decode prog_37_method_1_code 158 = .ok (.putfield 36, 3) := by decide +kernel
theorem d3_161 : decode prog_37_method_1_code 161 = .ok (.return_, 1) := by decide +kernel
theorem ef_rm_enc (m : MethodId) (a1 : Addr) (a2 : Addr) (a3 : Addr) : entryFrame m #[(.ref a1), (.ref a2), (.ref a3)] 9 = mkF m 0 #[vR a1, vR a2, vR a3, .unset, .unset, .unset, .unset, .unset, .unset] [] := by first | (simp [entryFrame, mkF, argsToLocals, Value.category]; done) | rfl
def Q_rm_enc (Z : State) (a1 : Addr) (a2 : Addr) (a3 : Addr) (lo : Nat → Int32) (hi : Nat → Int32) (h0 : Heap) (n0 : Nat) (v : Option Value) (h : Heap) (L : List Loc) : Prop := v = none ∧ Fr n0 L ∧ Keep h0 h [a1] ∧ Exa Z h a1 "com/example/inexact_odds/inexactodds/language/Encoding" ∧ ∃ b1 b2 b3 b4 : Addr, Fld Z h a1 "com/example/inexact_odds/inexactodds/language/Encoding" "low" "[I" (.ref b1) ∧ Fld Z h a1 "com/example/inexact_odds/inexactodds/language/Encoding" "word" "[I" (.ref b2) ∧ Fld Z h a1 "com/example/inexact_odds/inexactodds/language/Encoding" "shift" "[I" (.ref b3) ∧ Fld Z h a1 "com/example/inexact_odds/inexactodds/language/Encoding" "mask" "[J" (.ref b4) ∧ Fld Z h a1 "com/example/inexact_odds/inexactodds/language/Encoding" "words" "I" (.int ((own_F lo hi 3).1 + (1 : Int32))) ∧ AV Z h b1 .int 3 (fun j => .int (lo j)) ∧ AV Z h b2 .int 3 (fun j => .int ((own_wd lo hi) j)) ∧ AV Z h b3 .int 3 (fun j => .int ((own_sf lo hi) j)) ∧ AV Z h b4 .long 3 (fun j => .long ((own_mk lo hi) j))
set_option maxRecDepth 65536 in
set_option maxHeartbeats 40000000 in
theorem rm_enc (l : Launch) (Z : State) (a0 : Array Value) (hw : ∀ d ∈ tables_1, d.before a0 Z = true) (ws : List Jvm.Cond) (a1 : Addr) (a2 : Addr) (a3 : Addr) (lo : Nat → Int32) (hi : Nat → Int32) (h0 : Heap) (n0 : Nat) (Z0 : n0 ≤ h0.size) (E1 : Exa Z h0 a1 "com/example/inexact_odds/inexactodds/language/Encoding") (Fl : Fld Z h0 a1 "com/example/inexact_odds/inexactodds/language/Encoding" "low" "[I" .null) (Fw : Fld Z h0 a1 "com/example/inexact_odds/inexactodds/language/Encoding" "word" "[I" .null) (Fs : Fld Z h0 a1 "com/example/inexact_odds/inexactodds/language/Encoding" "shift" "[I" .null) (Fm : Fld Z h0 a1 "com/example/inexact_odds/inexactodds/language/Encoding" "mask" "[J" .null) (Fc : Fld Z h0 a1 "com/example/inexact_odds/inexactodds/language/Encoding" "words" "I" (.int (0 : Int32))) (VL : AV Z h0 a2 .int 3 (fun j => .int (lo j))) (VH : AV Z h0 a3 .int 3 (fun j => .int (hi j))) (EL : Exa Z h0 a2 "[I") (ga : n0 ≤ a1) (n12 : a1 ≠ a2) (n13 : a1 ≠ a3) :
    MetFree l (⟨"com/example/inexact_odds/inexactodds/language/Encoding", "<init>", "([I[I)V"⟩ : MethodName) (head1 (Jvm.Cond.code (⟨"com/example/inexact_odds/inexactodds/language/Encoding", "<init>", "([I[I)V"⟩ : MethodName) prog_37_method_1_code 9 none :: ws) ({ frames := 2, cells := 4, slots := 12, locals := 29 } : Room)) (fun a U => a = #[(.ref a1), (.ref a2), (.ref a3)] ∧ Z.Warmed39 U.vm ∧ U.heap = h0) (fun _ _ _ _ _ => True) (fun _ U oC U' => ∃ v L, oC = .returned v ∧ Q_rm_enc Z a1 a2 a3 lo hi h0 n0 v U'.heap L ∧ FrameEnd U oC U' L ({ frames := 2, cells := 4, slots := 12, locals := 29 } : Room).cells ({ frames := 2, cells := 4, slots := 12, locals := 29 } : Room).slots) := by
  refine MetFree.of_bodySF (plainFor_of_name pn_2) hisR ?_
  intro p e s m args below meth c s₁ Bd hml0 hP hK
  obtain ⟨rfl, hZ, hh⟩ := hP
  have hx := Bd.exec
  have hby := Bd.bytes
  have hml : c.maxLocals = 9 := hml0
  have hown : s.vm.findClass "com/example/inexact_odds/inexactodds/language/Encoding" = some m.cls := findClass_of_methodNamed Bd.named
  have hnm := (name_of_methodNamed Bd.named Bd.method).1
  have X0 : Stand p l e ({ frames := 2, cells := 4, slots := 12, locals := 29 } : Room) s m #[(.ref a1), (.ref a2), (.ref a3)] below meth c s₁ [] 0 0 := Stand.of_body Bd
  have e0 : s₁.heap = h0 := by rw [← hh, Bd.state]; rfl
  have N0 := Fr.nil n0
  have pre0 : ∀ tg, Steps p.tables e below (s₁.setTop (mkF m 0 #[vR a1, vR a2, vR a3, .unset, .unset, .unset, .unset, .unset, .unset] [])) tg → Steps p.tables e below (s₁.setTop (entryFrame m #[(.ref a1), (.ref a2), (.ref a3)] 9)) tg := fun t k => castTop (ef_rm_enc m a1 a2 a3) k
  have pre00 : ∀ tg, Steps p.tables e below (s₁.setTop (mkF m 0 #[vR a1, vR a2, vR a3, .unset, .unset, .unset, .unset, .unset, .unset] [])) tg → Steps p.tables e below (s₁.setTop (mkF m 0 #[vR a1, vR a2, vR a3, .unset, .unset, .unset, .unset, .unset, .unset] [])) tg := fun _ k => k
  have R134 : ∀ tg, Steps p.tables e below (s₁.setTop (mkF m 1 #[vR a1, vR a2, vR a3, .unset, .unset, .unset, .unset, .unset, .unset] [(.ref a1)])) tg → Steps p.tables e below (s₁.setTop (mkF m 0 #[vR a1, vR a2, vR a3, .unset, .unset, .unset, .unset, .unset, .unset] [])) tg := by
    intro tg kt
    refine pre00 _ ?_
    show Steps p.tables e below (s₁.setTop (mkF m 0 #[vR a1, vR a2, vR a3, .unset, .unset, .unset, .unset, .unset, .unset] [])) _
    refine XS.aloadN X0.here hx rfl (hb hby d3_0) rfl rfl ?_
    exact kt
  obtain ⟨T135, X135, e135, st135⟩ := initO X0 hx hZ hown (hw _ (List.mem_of_getElem? (i := 14) rfl)) (hw _ (List.mem_of_getElem? (i := 15) rfl)) (hw _ (List.mem_of_getElem? (i := 16) rfl)) e0 (g := (mkF m 1 #[vR a1, vR a2, vR a3, .unset, .unset, .unset, .unset, .unset, .unset] [(.ref a1)])) rfl (by rw [hml]; rfl) rfl (hb hby d3_1) (by decide) (W := 0) (by show 2 * 0 + _ ≤ _; exact Nat.le_of_eq rfl) (by decide)
  have R136 : ∀ tg, Steps p.tables e below (T135.setTop (mkF m 6 #[vR a1, vR a2, vR a3, .unset, .unset, .unset, .unset, .unset, .unset] [(.ref a2), (.ref a1)])) tg → Steps p.tables e below (s₁.setTop (mkF m 0 #[vR a1, vR a2, vR a3, .unset, .unset, .unset, .unset, .unset, .unset] [])) tg := by
    intro tg kt
    refine R134 _ ?_
    refine st135 _ ?_
    refine XS.aloadN X135.here hx rfl (hb hby d3_4) rfl rfl ?_
    refine XS.aloadN X135.here hx rfl (hb hby d3_5) rfl rfl ?_
    exact kt
  clear R134 st135
  obtain ⟨cl137, Ar137, Sz137, Hv137⟩ := id VL
  obtain ⟨T137, h137, X137, e137, E137, A137, Q137, st137⟩ := cloneA X135 hx hZ hown (ad := "[I") (hw _ (List.mem_of_getElem? (i := 17) rfl)) (hw _ (List.mem_of_getElem? (i := 18) rfl)) (hw _ (List.mem_of_getElem? (i := 22) rfl)) (hw _ (List.mem_of_getElem? (i := 20) rfl)) (hw _ (List.mem_of_getElem? (i := 21) rfl)) (hw _ (List.mem_of_getElem? (i := 23) rfl)) e135 Ar137 EL (fitC_of Ar137 fun i hi v hv => by rw [(Hv137 i (by omega)).1] at hv; cases hv; exact (Hv137 i (by omega)).2) (g := (mkF m 6 #[vR a1, vR a2, vR a3, .unset, .unset, .unset, .unset, .unset, .unset] [(.ref a2), (.ref a1)])) rfl (by rw [hml]; rfl) rfl (hb hby d3_6) (by decide) (W := 1) (cap := 3) (by show 2 * 0 + _ ≤ _; exact Nat.le_of_eq rfl) (by decide) (Nat.le_of_eq Sz137) (by decide) (by decide)
  obtain ⟨b1, g137⟩ : ∃ z, z = h0.size := ⟨_, rfl⟩
  rw [← g137] at A137 Q137 st137
  have g_b1 : n0 ≤ b1 := Nat.le_trans Z0 (Nat.le_of_eq g137.symm)
  have sz_b1 : h0.size ≤ b1 := Nat.le_trans (Keep.refl h0 [a1]).1 (Nat.le_of_eq g137.symm)
  have ne_a1_b1 : a1 ≠ b1 := Nat.ne_of_lt (Nat.lt_of_lt_of_le Fl.lt (Nat.le_of_eq g137.symm))
  have ne_a2_b1 : a2 ≠ b1 := Nat.ne_of_lt (Nat.lt_of_lt_of_le EL.lt (Nat.le_of_eq g137.symm))
  have ne_a3_b1 : a3 ≠ b1 := Nat.ne_of_lt (Nat.lt_of_lt_of_le VH.lt (Nat.le_of_eq g137.symm))
  have Fl_137 := Fl.ext E137
  have Fw_137 := Fw.ext E137
  have Fs_137 := Fs.ext E137
  have Fm_137 := Fm.ext E137
  have Fc_137 := Fc.ext E137
  have E_a1_137 := E1.ext E137
  have E_a2_137 := EL.ext E137
  have VL_137 := VL.ext E137
  have VH_137 := VH.ext E137
  have Zs137 : n0 ≤ h137.size := Nat.le_trans Z0 E137.1
  have Ke137 : Keep h0 h137 [a1] := Keep.ext (Keep.refl h0 [a1]) E137
  have VB1 : AV Z h137 b1 .int 3 (fun j => .int (lo j)) := ⟨_, A137, Sz137, Hv137⟩
  have E_b1 := Q137
  have R138 : ∀ tg, Steps p.tables e below (T137.setTop (mkF m 9 #[vR a1, vR a2, vR a3, .unset, .unset, .unset, .unset, .unset, .unset] [(.ref b1), (.ref a1)])) tg → Steps p.tables e below (s₁.setTop (mkF m 0 #[vR a1, vR a2, vR a3, .unset, .unset, .unset, .unset, .unset, .unset] [])) tg := by
    intro tg kt
    refine R136 _ ?_
    refine st137 _ ?_
    exact kt
  clear R136 st137
  obtain ⟨T139, X139, e139, st139⟩ := castY X137 hx hZ hown (hw _ (List.mem_of_getElem? (i := 24) rfl)) e137 (Ins.self E_b1) (g := (mkF m 9 #[vR a1, vR a2, vR a3, .unset, .unset, .unset, .unset, .unset, .unset] [(.ref b1), (.ref a1)])) rfl rfl (hb hby d3_9)
  have R140 : ∀ tg, Steps p.tables e below (T139.setTop (mkF m 12 #[vR a1, vR a2, vR a3, .unset, .unset, .unset, .unset, .unset, .unset] [(.ref b1), (.ref a1)])) tg → Steps p.tables e below (s₁.setTop (mkF m 0 #[vR a1, vR a2, vR a3, .unset, .unset, .unset, .unset, .unset, .unset] [])) tg := by
    intro tg kt
    refine R138 _ ?_
    refine st139 _ ?_
    exact kt
  clear R138 st139
  obtain ⟨T141, h141, X141, e141, W141, st141⟩ := putF X139 hx hZ hown (host := "") (Or.inl (hw _ (List.mem_of_getElem? (i := 26) rfl))) Via.refl e139 Fl_137 E_a1_137 (Or.inr ⟨(hw _ (List.mem_of_getElem? (i := 27) rfl)), rfl, hnm⟩) (hw _ (List.mem_of_getElem? (i := 9) rfl)) (ty := (.array .int)) (by decide) rfl rfl (g := (mkF m 12 #[vR a1, vR a2, vR a3, .unset, .unset, .unset, .unset, .unset, .unset] [(.ref b1), (.ref a1)])) rfl rfl (hb hby d3_12)
  have N141 := Fr.snoc X141 N0 ga
  have Fl_141 := Fl_137.same W141
  have Fw_141 := Fw_137.other W141 (Or.inr (slot_ne (Or.inr (hw _ (List.mem_of_getElem? (i := 29) rfl))) (Or.inr (hw _ (List.mem_of_getElem? (i := 27) rfl))) (by decide) (t := (.array .int)) (t' := (.array .int)) (by decide) (by decide)))
  have Fs_141 := Fs_137.other W141 (Or.inr (slot_ne (Or.inr (hw _ (List.mem_of_getElem? (i := 31) rfl))) (Or.inr (hw _ (List.mem_of_getElem? (i := 27) rfl))) (by decide) (t := (.array .int)) (t' := (.array .int)) (by decide) (by decide)))
  have Fm_141 := Fm_137.other W141 (Or.inr (slot_ne (Or.inr (hw _ (List.mem_of_getElem? (i := 34) rfl))) (Or.inr (hw _ (List.mem_of_getElem? (i := 27) rfl))) (by decide) (t := (.array .long)) (t' := (.array .int)) (by decide) (by decide)))
  have Fc_141 := Fc_137.other W141 (Or.inr (slot_ne (Or.inr (hw _ (List.mem_of_getElem? (i := 46) rfl))) (Or.inr (hw _ (List.mem_of_getElem? (i := 27) rfl))) (by decide) (t := .int) (t' := (.array .int)) (by decide) (by decide)))
  have E_a1_141 := E_a1_137.wr W141
  have E_a2_141 := E_a2_137.wr W141
  have VL_141 := VL_137.other W141 (Ne.symm n12)
  have VH_141 := VH_137.other W141 (Ne.symm n13)
  have VB1_141 := VB1.other W141 (Ne.symm ne_a1_b1)
  have E_b1_141 := E_b1.wr W141
  clear Fw_137 Fs_137 Fm_137 Fc_137 E_a1_137 E_a2_137 VL_137 VH_137
  have Zs141 : n0 ≤ h141.size := Nat.le_trans Zs137 (Keep.of_wr W141).1
  have Kw141 : Keep h0 h141 [a1] := Keep.wr Ke137 W141 (Or.inl (List.mem_of_getElem? (i := 0) rfl))
  have R142 : ∀ tg, Steps p.tables e below (T141.setTop (mkF m 17 #[vR a1, vR a2, vR a3, .unset, .unset, .unset, .unset, .unset, .unset] [(.ref a2), (.ref a1)])) tg → Steps p.tables e below (s₁.setTop (mkF m 0 #[vR a1, vR a2, vR a3, .unset, .unset, .unset, .unset, .unset, .unset] [])) tg := by
    intro tg kt
    refine R140 _ ?_
    refine st141 _ ?_
    show Steps p.tables e below (T141.setTop (mkF m 15 #[vR a1, vR a2, vR a3, .unset, .unset, .unset, .unset, .unset, .unset] [])) _
    refine XS.aloadN X141.here hx rfl (hb hby d3_15) rfl rfl ?_
    refine XS.aloadN X141.here hx rfl (hb hby d3_16) rfl rfl ?_
    exact kt
  clear R140 st141
  obtain ⟨cl143, Ar143, ln143⟩ := VL_141.len
  have R144 : ∀ tg, Steps p.tables e below (T141.setTop (mkF m 18 #[vR a1, vR a2, vR a3, .unset, .unset, .unset, .unset, .unset, .unset] [(.int (3 : Int32)), (.ref a1)])) tg → Steps p.tables e below (s₁.setTop (mkF m 0 #[vR a1, vR a2, vR a3, .unset, .unset, .unset, .unset, .unset, .unset] [])) tg := by
    intro tg kt
    refine R142 _ ?_
    show Steps p.tables e below (T141.setTop (mkF m 17 #[vR a1, vR a2, vR a3, .unset, .unset, .unset, .unset, .unset, .unset] [(.ref a2), (.ref a1)])) _
    refine X141.arraylength hx (by rw [e141]; exact Ar143.1) (State.isArrayOf_alike hZ.alike Ar143.2.1) (g := (mkF m 17 #[vR a1, vR a2, vR a3, .unset, .unset, .unset, .unset, .unset, .unset] [(.ref a2), (.ref a1)])) rfl rfl (hb hby d3_17) _ ?_
    rw [ln143]
    exact kt
  clear R142
  obtain ⟨T145, h145, k145, X145, e145, E145, A145, st145⟩ := newP X141 hx hZ (hw _ (List.mem_of_getElem? (i := 0) rfl)) e141 (g := (mkF m 18 #[vR a1, vR a2, vR a3, .unset, .unset, .unset, .unset, .unset, .unset] [(.int (3 : Int32)), (.ref a1)])) rfl (hb hby d3_18) rfl (by decide) (cap := 3) (by decide) (by decide) (by decide) (by decide)
  obtain ⟨b2, g145⟩ : ∃ z, z = h141.size := ⟨_, rfl⟩
  rw [← g145] at A145 st145
  have g_b2 : n0 ≤ b2 := Nat.le_trans Zs141 (Nat.le_of_eq g145.symm)
  have sz_b2 : h0.size ≤ b2 := Nat.le_trans Kw141.1 (Nat.le_of_eq g145.symm)
  have ne_a1_b2 : a1 ≠ b2 := Nat.ne_of_lt (Nat.lt_of_lt_of_le Fl_141.lt (Nat.le_of_eq g145.symm))
  have ne_a2_b2 : a2 ≠ b2 := Nat.ne_of_lt (Nat.lt_of_lt_of_le E_a2_141.lt (Nat.le_of_eq g145.symm))
  have ne_a3_b2 : a3 ≠ b2 := Nat.ne_of_lt (Nat.lt_of_lt_of_le VH_141.lt (Nat.le_of_eq g145.symm))
  have ne_b1_b2 : b1 ≠ b2 := Nat.ne_of_lt (Nat.lt_of_lt_of_le VB1_141.lt (Nat.le_of_eq g145.symm))
  have Fl_145 := Fl_141.ext E145
  have Fw_145 := Fw_141.ext E145
  have Fs_145 := Fs_141.ext E145
  have Fm_145 := Fm_141.ext E145
  have Fc_145 := Fc_141.ext E145
  have E_a1_145 := E_a1_141.ext E145
  have E_a2_145 := E_a2_141.ext E145
  have VL_145 := VL_141.ext E145
  have VH_145 := VH_141.ext E145
  have VB1_145 := VB1_141.ext E145
  have E_b1_145 := E_b1_141.ext E145
  clear Fl_141 Fw_141 Fs_141 Fm_141 Fc_141 E_a1_141 E_a2_141 VL_141 VH_141 VB1_141 E_b1_141
  have Zs145 : n0 ≤ h145.size := Nat.le_trans Zs141 E145.1
  have Ke145 : Keep h0 h145 [a1] := Keep.ext Kw141 E145
  have VWr : AV Z h145 b2 .int 3 (fun _ => defaultValue .int) := AV.new A145 rfl rfl
  have VW : AV Z h145 b2 .int 3 (fun j => .int ((fun _ => (0 : Int32)) j)) := VWr
  have R146 : ∀ tg, Steps p.tables e below (T145.setTop (mkF m 20 #[vR a1, vR a2, vR a3, .unset, .unset, .unset, .unset, .unset, .unset] [(.ref b2), (.ref a1)])) tg → Steps p.tables e below (s₁.setTop (mkF m 0 #[vR a1, vR a2, vR a3, .unset, .unset, .unset, .unset, .unset, .unset] [])) tg := by
    intro tg kt
    refine R144 _ ?_
    refine st145 _ ?_
    exact kt
  clear R144 st145
  obtain ⟨T147, h147, X147, e147, W147, st147⟩ := putF X145 hx hZ hown (host := "") (Or.inl (hw _ (List.mem_of_getElem? (i := 28) rfl))) Via.refl e145 Fw_145 E_a1_145 (Or.inr ⟨(hw _ (List.mem_of_getElem? (i := 29) rfl)), rfl, hnm⟩) (hw _ (List.mem_of_getElem? (i := 9) rfl)) (ty := (.array .int)) (by decide) rfl rfl (g := (mkF m 20 #[vR a1, vR a2, vR a3, .unset, .unset, .unset, .unset, .unset, .unset] [(.ref b2), (.ref a1)])) rfl rfl (hb hby d3_20)
  have N147 := Fr.snoc X147 N141 ga
  have Fw_147 := Fw_145.same W147
  have Fl_147 := Fl_145.other W147 (Or.inr (slot_ne (Or.inr (hw _ (List.mem_of_getElem? (i := 27) rfl))) (Or.inr (hw _ (List.mem_of_getElem? (i := 29) rfl))) (by decide) (t := (.array .int)) (t' := (.array .int)) (by decide) (by decide)))
  have Fs_147 := Fs_145.other W147 (Or.inr (slot_ne (Or.inr (hw _ (List.mem_of_getElem? (i := 31) rfl))) (Or.inr (hw _ (List.mem_of_getElem? (i := 29) rfl))) (by decide) (t := (.array .int)) (t' := (.array .int)) (by decide) (by decide)))
  have Fm_147 := Fm_145.other W147 (Or.inr (slot_ne (Or.inr (hw _ (List.mem_of_getElem? (i := 34) rfl))) (Or.inr (hw _ (List.mem_of_getElem? (i := 29) rfl))) (by decide) (t := (.array .long)) (t' := (.array .int)) (by decide) (by decide)))
  have Fc_147 := Fc_145.other W147 (Or.inr (slot_ne (Or.inr (hw _ (List.mem_of_getElem? (i := 46) rfl))) (Or.inr (hw _ (List.mem_of_getElem? (i := 29) rfl))) (by decide) (t := .int) (t' := (.array .int)) (by decide) (by decide)))
  have E_a1_147 := E_a1_145.wr W147
  have E_a2_147 := E_a2_145.wr W147
  have VL_147 := VL_145.other W147 (Ne.symm n12)
  have VH_147 := VH_145.other W147 (Ne.symm n13)
  have VB1_147 := VB1_145.other W147 (Ne.symm ne_a1_b1)
  have E_b1_147 := E_b1_145.wr W147
  have VW_147 := VW.other W147 (Ne.symm ne_a1_b2)
  clear Fl_145 Fs_145 Fm_145 Fc_145 E_a1_145 E_a2_145 VL_145 VH_145 VB1_145 E_b1_145
  have Zs147 : n0 ≤ h147.size := Nat.le_trans Zs145 (Keep.of_wr W147).1
  have Kw147 : Keep h0 h147 [a1] := Keep.wr Ke145 W147 (Or.inl (List.mem_of_getElem? (i := 0) rfl))
  have R148 : ∀ tg, Steps p.tables e below (T147.setTop (mkF m 25 #[vR a1, vR a2, vR a3, .unset, .unset, .unset, .unset, .unset, .unset] [(.ref a2), (.ref a1)])) tg → Steps p.tables e below (s₁.setTop (mkF m 0 #[vR a1, vR a2, vR a3, .unset, .unset, .unset, .unset, .unset, .unset] [])) tg := by
    intro tg kt
    refine R146 _ ?_
    refine st147 _ ?_
    refine XS.aloadN X147.here hx rfl (hb hby d3_23) rfl rfl ?_
    refine XS.aloadN X147.here hx rfl (hb hby d3_24) rfl rfl ?_
    exact kt
  clear R146 st147
  obtain ⟨cl149, Ar149, ln149⟩ := VL_147.len
  have R150 : ∀ tg, Steps p.tables e below (T147.setTop (mkF m 26 #[vR a1, vR a2, vR a3, .unset, .unset, .unset, .unset, .unset, .unset] [(.int (3 : Int32)), (.ref a1)])) tg → Steps p.tables e below (s₁.setTop (mkF m 0 #[vR a1, vR a2, vR a3, .unset, .unset, .unset, .unset, .unset, .unset] [])) tg := by
    intro tg kt
    refine R148 _ ?_
    show Steps p.tables e below (T147.setTop (mkF m 25 #[vR a1, vR a2, vR a3, .unset, .unset, .unset, .unset, .unset, .unset] [(.ref a2), (.ref a1)])) _
    refine X147.arraylength hx (by rw [e147]; exact Ar149.1) (State.isArrayOf_alike hZ.alike Ar149.2.1) (g := (mkF m 25 #[vR a1, vR a2, vR a3, .unset, .unset, .unset, .unset, .unset, .unset] [(.ref a2), (.ref a1)])) rfl rfl (hb hby d3_25) _ ?_
    rw [ln149]
    exact kt
  clear R148
  obtain ⟨T151, h151, k151, X151, e151, E151, A151, st151⟩ := newP X147 hx hZ (hw _ (List.mem_of_getElem? (i := 0) rfl)) e147 (g := (mkF m 26 #[vR a1, vR a2, vR a3, .unset, .unset, .unset, .unset, .unset, .unset] [(.int (3 : Int32)), (.ref a1)])) rfl (hb hby d3_26) rfl (by decide) (cap := 3) (by decide) (by decide) (by decide) (by decide)
  obtain ⟨b3, g151⟩ : ∃ z, z = h147.size := ⟨_, rfl⟩
  rw [← g151] at A151 st151
  have g_b3 : n0 ≤ b3 := Nat.le_trans Zs147 (Nat.le_of_eq g151.symm)
  have sz_b3 : h0.size ≤ b3 := Nat.le_trans Kw147.1 (Nat.le_of_eq g151.symm)
  have ne_a1_b3 : a1 ≠ b3 := Nat.ne_of_lt (Nat.lt_of_lt_of_le Fl_147.lt (Nat.le_of_eq g151.symm))
  have ne_a2_b3 : a2 ≠ b3 := Nat.ne_of_lt (Nat.lt_of_lt_of_le E_a2_147.lt (Nat.le_of_eq g151.symm))
  have ne_a3_b3 : a3 ≠ b3 := Nat.ne_of_lt (Nat.lt_of_lt_of_le VH_147.lt (Nat.le_of_eq g151.symm))
  have ne_b1_b3 : b1 ≠ b3 := Nat.ne_of_lt (Nat.lt_of_lt_of_le VB1_147.lt (Nat.le_of_eq g151.symm))
  have ne_b2_b3 : b2 ≠ b3 := Nat.ne_of_lt (Nat.lt_of_lt_of_le VW_147.lt (Nat.le_of_eq g151.symm))
  have Fl_151 := Fl_147.ext E151
  have Fw_151 := Fw_147.ext E151
  have Fs_151 := Fs_147.ext E151
  have Fm_151 := Fm_147.ext E151
  have Fc_151 := Fc_147.ext E151
  have E_a1_151 := E_a1_147.ext E151
  have E_a2_151 := E_a2_147.ext E151
  have VL_151 := VL_147.ext E151
  have VH_151 := VH_147.ext E151
  have VB1_151 := VB1_147.ext E151
  have E_b1_151 := E_b1_147.ext E151
  have VW_151 := VW_147.ext E151
  clear Fl_147 Fw_147 Fs_147 Fm_147 Fc_147 E_a1_147 E_a2_147 VL_147 VH_147 VB1_147 E_b1_147 VW_147
  have Zs151 : n0 ≤ h151.size := Nat.le_trans Zs147 E151.1
  have Ke151 : Keep h0 h151 [a1] := Keep.ext Kw147 E151
  have VSr : AV Z h151 b3 .int 3 (fun _ => defaultValue .int) := AV.new A151 rfl rfl
  have VS : AV Z h151 b3 .int 3 (fun j => .int ((fun _ => (0 : Int32)) j)) := VSr
  have R152 : ∀ tg, Steps p.tables e below (T151.setTop (mkF m 28 #[vR a1, vR a2, vR a3, .unset, .unset, .unset, .unset, .unset, .unset] [(.ref b3), (.ref a1)])) tg → Steps p.tables e below (s₁.setTop (mkF m 0 #[vR a1, vR a2, vR a3, .unset, .unset, .unset, .unset, .unset, .unset] [])) tg := by
    intro tg kt
    refine R150 _ ?_
    refine st151 _ ?_
    exact kt
  clear R150 st151
  obtain ⟨T153, h153, X153, e153, W153, st153⟩ := putF X151 hx hZ hown (host := "") (Or.inl (hw _ (List.mem_of_getElem? (i := 30) rfl))) Via.refl e151 Fs_151 E_a1_151 (Or.inr ⟨(hw _ (List.mem_of_getElem? (i := 31) rfl)), rfl, hnm⟩) (hw _ (List.mem_of_getElem? (i := 9) rfl)) (ty := (.array .int)) (by decide) rfl rfl (g := (mkF m 28 #[vR a1, vR a2, vR a3, .unset, .unset, .unset, .unset, .unset, .unset] [(.ref b3), (.ref a1)])) rfl rfl (hb hby d3_28)
  have N153 := Fr.snoc X153 N147 ga
  have Fs_153 := Fs_151.same W153
  have Fl_153 := Fl_151.other W153 (Or.inr (slot_ne (Or.inr (hw _ (List.mem_of_getElem? (i := 27) rfl))) (Or.inr (hw _ (List.mem_of_getElem? (i := 31) rfl))) (by decide) (t := (.array .int)) (t' := (.array .int)) (by decide) (by decide)))
  have Fw_153 := Fw_151.other W153 (Or.inr (slot_ne (Or.inr (hw _ (List.mem_of_getElem? (i := 29) rfl))) (Or.inr (hw _ (List.mem_of_getElem? (i := 31) rfl))) (by decide) (t := (.array .int)) (t' := (.array .int)) (by decide) (by decide)))
  have Fm_153 := Fm_151.other W153 (Or.inr (slot_ne (Or.inr (hw _ (List.mem_of_getElem? (i := 34) rfl))) (Or.inr (hw _ (List.mem_of_getElem? (i := 31) rfl))) (by decide) (t := (.array .long)) (t' := (.array .int)) (by decide) (by decide)))
  have Fc_153 := Fc_151.other W153 (Or.inr (slot_ne (Or.inr (hw _ (List.mem_of_getElem? (i := 46) rfl))) (Or.inr (hw _ (List.mem_of_getElem? (i := 31) rfl))) (by decide) (t := .int) (t' := (.array .int)) (by decide) (by decide)))
  have E_a1_153 := E_a1_151.wr W153
  have E_a2_153 := E_a2_151.wr W153
  have VL_153 := VL_151.other W153 (Ne.symm n12)
  have VH_153 := VH_151.other W153 (Ne.symm n13)
  have VB1_153 := VB1_151.other W153 (Ne.symm ne_a1_b1)
  have E_b1_153 := E_b1_151.wr W153
  have VW_153 := VW_151.other W153 (Ne.symm ne_a1_b2)
  have VS_153 := VS.other W153 (Ne.symm ne_a1_b3)
  clear Fl_151 Fw_151 Fm_151 Fc_151 E_a1_151 E_a2_151 VL_151 VH_151 VB1_151 E_b1_151 VW_151
  have Zs153 : n0 ≤ h153.size := Nat.le_trans Zs151 (Keep.of_wr W153).1
  have Kw153 : Keep h0 h153 [a1] := Keep.wr Ke151 W153 (Or.inl (List.mem_of_getElem? (i := 0) rfl))
  have R154 : ∀ tg, Steps p.tables e below (T153.setTop (mkF m 33 #[vR a1, vR a2, vR a3, .unset, .unset, .unset, .unset, .unset, .unset] [(.ref a2), (.ref a1)])) tg → Steps p.tables e below (s₁.setTop (mkF m 0 #[vR a1, vR a2, vR a3, .unset, .unset, .unset, .unset, .unset, .unset] [])) tg := by
    intro tg kt
    refine R152 _ ?_
    refine st153 _ ?_
    refine XS.aloadN X153.here hx rfl (hb hby d3_31) rfl rfl ?_
    refine XS.aloadN X153.here hx rfl (hb hby d3_32) rfl rfl ?_
    exact kt
  clear R152 st153
  obtain ⟨cl155, Ar155, ln155⟩ := VL_153.len
  have R156 : ∀ tg, Steps p.tables e below (T153.setTop (mkF m 34 #[vR a1, vR a2, vR a3, .unset, .unset, .unset, .unset, .unset, .unset] [(.int (3 : Int32)), (.ref a1)])) tg → Steps p.tables e below (s₁.setTop (mkF m 0 #[vR a1, vR a2, vR a3, .unset, .unset, .unset, .unset, .unset, .unset] [])) tg := by
    intro tg kt
    refine R154 _ ?_
    show Steps p.tables e below (T153.setTop (mkF m 33 #[vR a1, vR a2, vR a3, .unset, .unset, .unset, .unset, .unset, .unset] [(.ref a2), (.ref a1)])) _
    refine X153.arraylength hx (by rw [e153]; exact Ar155.1) (State.isArrayOf_alike hZ.alike Ar155.2.1) (g := (mkF m 33 #[vR a1, vR a2, vR a3, .unset, .unset, .unset, .unset, .unset, .unset] [(.ref a2), (.ref a1)])) rfl rfl (hb hby d3_33) _ ?_
    rw [ln155]
    exact kt
  clear R154
  obtain ⟨T157, h157, k157, X157, e157, E157, A157, st157⟩ := newP X153 hx hZ (hw _ (List.mem_of_getElem? (i := 32) rfl)) e153 (g := (mkF m 34 #[vR a1, vR a2, vR a3, .unset, .unset, .unset, .unset, .unset, .unset] [(.int (3 : Int32)), (.ref a1)])) rfl (hb hby d3_34) rfl (by decide) (cap := 3) (by decide) (by decide) (by decide) (by decide)
  obtain ⟨b4, g157⟩ : ∃ z, z = h153.size := ⟨_, rfl⟩
  rw [← g157] at A157 st157
  have g_b4 : n0 ≤ b4 := Nat.le_trans Zs153 (Nat.le_of_eq g157.symm)
  have sz_b4 : h0.size ≤ b4 := Nat.le_trans Kw153.1 (Nat.le_of_eq g157.symm)
  have ne_a1_b4 : a1 ≠ b4 := Nat.ne_of_lt (Nat.lt_of_lt_of_le Fl_153.lt (Nat.le_of_eq g157.symm))
  have ne_a2_b4 : a2 ≠ b4 := Nat.ne_of_lt (Nat.lt_of_lt_of_le E_a2_153.lt (Nat.le_of_eq g157.symm))
  have ne_a3_b4 : a3 ≠ b4 := Nat.ne_of_lt (Nat.lt_of_lt_of_le VH_153.lt (Nat.le_of_eq g157.symm))
  have ne_b1_b4 : b1 ≠ b4 := Nat.ne_of_lt (Nat.lt_of_lt_of_le VB1_153.lt (Nat.le_of_eq g157.symm))
  have ne_b2_b4 : b2 ≠ b4 := Nat.ne_of_lt (Nat.lt_of_lt_of_le VW_153.lt (Nat.le_of_eq g157.symm))
  have ne_b3_b4 : b3 ≠ b4 := Nat.ne_of_lt (Nat.lt_of_lt_of_le VS_153.lt (Nat.le_of_eq g157.symm))
  have Fl_157 := Fl_153.ext E157
  have Fw_157 := Fw_153.ext E157
  have Fs_157 := Fs_153.ext E157
  have Fm_157 := Fm_153.ext E157
  have Fc_157 := Fc_153.ext E157
  have E_a1_157 := E_a1_153.ext E157
  have E_a2_157 := E_a2_153.ext E157
  have VL_157 := VL_153.ext E157
  have VH_157 := VH_153.ext E157
  have VB1_157 := VB1_153.ext E157
  have E_b1_157 := E_b1_153.ext E157
  have VW_157 := VW_153.ext E157
  have VS_157 := VS_153.ext E157
  clear Fl_153 Fw_153 Fs_153 Fm_153 Fc_153 E_a1_153 E_a2_153 VL_153 VH_153 VB1_153 E_b1_153 VW_153 VS_153
  have Zs157 : n0 ≤ h157.size := Nat.le_trans Zs153 E157.1
  have Ke157 : Keep h0 h157 [a1] := Keep.ext Kw153 E157
  have VMr : AV Z h157 b4 .long 3 (fun _ => defaultValue .long) := AV.new A157 rfl rfl
  have VM : AV Z h157 b4 .long 3 (fun j => .long ((fun _ => (0 : Int64)) j)) := VMr
  have R158 : ∀ tg, Steps p.tables e below (T157.setTop (mkF m 36 #[vR a1, vR a2, vR a3, .unset, .unset, .unset, .unset, .unset, .unset] [(.ref b4), (.ref a1)])) tg → Steps p.tables e below (s₁.setTop (mkF m 0 #[vR a1, vR a2, vR a3, .unset, .unset, .unset, .unset, .unset, .unset] [])) tg := by
    intro tg kt
    refine R156 _ ?_
    refine st157 _ ?_
    exact kt
  clear R156 st157
  obtain ⟨T159, h159, X159, e159, W159, st159⟩ := putF X157 hx hZ hown (host := "") (Or.inl (hw _ (List.mem_of_getElem? (i := 33) rfl))) Via.refl e157 Fm_157 E_a1_157 (Or.inr ⟨(hw _ (List.mem_of_getElem? (i := 34) rfl)), rfl, hnm⟩) (hw _ (List.mem_of_getElem? (i := 9) rfl)) (ty := (.array .long)) (by decide) rfl rfl (g := (mkF m 36 #[vR a1, vR a2, vR a3, .unset, .unset, .unset, .unset, .unset, .unset] [(.ref b4), (.ref a1)])) rfl rfl (hb hby d3_36)
  have N159 := Fr.snoc X159 N153 ga
  have Fm_159 := Fm_157.same W159
  have Fl_159 := Fl_157.other W159 (Or.inr (slot_ne (Or.inr (hw _ (List.mem_of_getElem? (i := 27) rfl))) (Or.inr (hw _ (List.mem_of_getElem? (i := 34) rfl))) (by decide) (t := (.array .int)) (t' := (.array .long)) (by decide) (by decide)))
  have Fw_159 := Fw_157.other W159 (Or.inr (slot_ne (Or.inr (hw _ (List.mem_of_getElem? (i := 29) rfl))) (Or.inr (hw _ (List.mem_of_getElem? (i := 34) rfl))) (by decide) (t := (.array .int)) (t' := (.array .long)) (by decide) (by decide)))
  have Fs_159 := Fs_157.other W159 (Or.inr (slot_ne (Or.inr (hw _ (List.mem_of_getElem? (i := 31) rfl))) (Or.inr (hw _ (List.mem_of_getElem? (i := 34) rfl))) (by decide) (t := (.array .int)) (t' := (.array .long)) (by decide) (by decide)))
  have Fc_159 := Fc_157.other W159 (Or.inr (slot_ne (Or.inr (hw _ (List.mem_of_getElem? (i := 46) rfl))) (Or.inr (hw _ (List.mem_of_getElem? (i := 34) rfl))) (by decide) (t := .int) (t' := (.array .long)) (by decide) (by decide)))
  have E_a1_159 := E_a1_157.wr W159
  have E_a2_159 := E_a2_157.wr W159
  have VL_159 := VL_157.other W159 (Ne.symm n12)
  have VH_159 := VH_157.other W159 (Ne.symm n13)
  have VB1_159 := VB1_157.other W159 (Ne.symm ne_a1_b1)
  have E_b1_159 := E_b1_157.wr W159
  have VW_159 := VW_157.other W159 (Ne.symm ne_a1_b2)
  have VS_159 := VS_157.other W159 (Ne.symm ne_a1_b3)
  have VM_159 := VM.other W159 (Ne.symm ne_a1_b4)
  clear Fl_157 Fw_157 Fs_157 Fc_157 E_a1_157 E_a2_157 VL_157 VH_157 VB1_157 E_b1_157 VW_157 VS_157
  have Zs159 : n0 ≤ h159.size := Nat.le_trans Zs157 (Keep.of_wr W159).1
  have Kw159 : Keep h0 h159 [a1] := Keep.wr Ke157 W159 (Or.inl (List.mem_of_getElem? (i := 0) rfl))
  have R160 : ∀ tg, Steps p.tables e below (T159.setTop (mkF m 47 #[vR a1, vR a2, vR a3, vI (0 : Int32), vI (0 : Int32), vI (0 : Int32), .unset, .unset, .unset] [])) tg → Steps p.tables e below (s₁.setTop (mkF m 0 #[vR a1, vR a2, vR a3, .unset, .unset, .unset, .unset, .unset, .unset] [])) tg := by
    intro tg kt
    refine R158 _ ?_
    refine st159 _ ?_
    refine XS.iconst X159.here hx rfl (hb hby d3_39) ?_
    show Steps p.tables e below (T159.setTop (mkF m 40 #[vR a1, vR a2, vR a3, .unset, .unset, .unset, .unset, .unset, .unset] [(.int (0 : Int32))])) _
    refine XS.istoreN X159.here hx rfl (hb hby d3_40) rfl (l' := #[vR a1, vR a2, vR a3, vI (0 : Int32), .unset, .unset, .unset, .unset, .unset]) rfl ?_
    refine XS.iconst X159.here hx rfl (hb hby d3_41) ?_
    show Steps p.tables e below (T159.setTop (mkF m 42 #[vR a1, vR a2, vR a3, vI (0 : Int32), .unset, .unset, .unset, .unset, .unset] [(.int (0 : Int32))])) _
    refine XS.istore X159.here hx rfl (hb hby d3_42) rfl (l' := #[vR a1, vR a2, vR a3, vI (0 : Int32), vI (0 : Int32), .unset, .unset, .unset, .unset]) rfl ?_
    refine XS.iconst X159.here hx rfl (hb hby d3_44) ?_
    show Steps p.tables e below (T159.setTop (mkF m 45 #[vR a1, vR a2, vR a3, vI (0 : Int32), vI (0 : Int32), .unset, .unset, .unset, .unset] [(.int (0 : Int32))])) _
    refine XS.istore X159.here hx rfl (hb hby d3_45) rfl (l' := #[vR a1, vR a2, vR a3, vI (0 : Int32), vI (0 : Int32), vI (0 : Int32), .unset, .unset, .unset]) rfl ?_
    exact kt
  clear R158 st159
  have R161 : ∀ tg, Steps p.tables e below (T159.setTop (mkF m 47 #[vR a1, vR a2, vR a3, vI (own_F lo hi 0).1, vI (own_F lo hi 0).2, vI (0 : Int32), .unset, .unset, .unset] [])) tg → Steps p.tables e below (s₁.setTop (mkF m 0 #[vR a1, vR a2, vR a3, .unset, .unset, .unset, .unset, .unset, .unset] [])) tg := by exact R160
  obtain ⟨T162, L162, X162, e162, N162, st162⟩ := lp_c1A a1 a2 a3 (own_F lo hi 0).1 (own_F lo hi 0).2 (0 : Int32) 0 lo hi X159 hx hZ hw hby hml hown e159 N159 Zs159 VL_159 VH_159 (by decide) (by decide) (by decide) (by decide)
  have R163 : ∀ tg, Steps p.tables e below (T162.setTop (mkF m 93 #[vR a1, vR a2, vR a3, vI (own_fl (own_F lo hi 0).1 (own_F lo hi 0).2 (own_bits (lo 0) (hi 0))), vI (own_us (own_F lo hi 0).2 (own_bits (lo 0) (hi 0))), vI (0 : Int32), vJ ((hi 0).toInt64 - (lo 0).toInt64), .second, vI (own_bits (lo 0) (hi 0))] [])) tg → Steps p.tables e below (s₁.setTop (mkF m 0 #[vR a1, vR a2, vR a3, .unset, .unset, .unset, .unset, .unset, .unset] [])) tg := by
    intro tg kt
    refine R161 _ ?_
    refine st162 _ ?_
    exact kt
  clear R161 st162
  obtain ⟨T164, h164, L164, X164, e164, N164, K164, VW164, VS164, VM164, st164⟩ := lp_c2 a1 a2 a3 b2 b3 b4 (own_fl (own_F lo hi 0).1 (own_F lo hi 0).2 (own_bits (lo 0) (hi 0))) (own_us (own_F lo hi 0).2 (own_bits (lo 0) (hi 0))) (0 : Int32) ((hi 0).toInt64 - (lo 0).toInt64) (own_bits (lo 0) (hi 0)) 0 (fun _ => (0 : Int32)) (fun _ => (0 : Int32)) (fun _ => (0 : Int64)) X162 hx hZ hw hby hml hown e162 N162 Zs159 Fw_159 Fs_159 Fm_159 VW_159 VS_159 VM_159 g_b2 g_b3 g_b4 ne_a1_b2 ne_a1_b3 ne_a1_b4 ne_b2_b3 ne_b2_b4 ne_b3_b4 (by decide) (by decide) (by decide)
  have Fl_165 := Fl_159.keep K164 (own_notin3 ne_a1_b2 ne_a1_b3 ne_a1_b4)
  have Fw_165 := Fw_159.keep K164 (own_notin3 ne_a1_b2 ne_a1_b3 ne_a1_b4)
  have Fs_165 := Fs_159.keep K164 (own_notin3 ne_a1_b2 ne_a1_b3 ne_a1_b4)
  have Fm_165 := Fm_159.keep K164 (own_notin3 ne_a1_b2 ne_a1_b3 ne_a1_b4)
  have Fc_165 := Fc_159.keep K164 (own_notin3 ne_a1_b2 ne_a1_b3 ne_a1_b4)
  have E_a1_165 := E_a1_159.keep K164
  have E_a2_165 := E_a2_159.keep K164
  have VL_165 := VL_159.keep K164 (own_notin3 ne_a2_b2 ne_a2_b3 ne_a2_b4)
  have VH_165 := VH_159.keep K164 (own_notin3 ne_a3_b2 ne_a3_b3 ne_a3_b4)
  have VB1_165 := VB1_159.keep K164 (own_notin3 ne_b1_b2 ne_b1_b3 ne_b1_b4)
  clear Fl_159 Fw_159 Fs_159 Fm_159 Fc_159 E_a1_159 E_a2_159 VL_159 VH_159 VB1_159
  have Zs165 : n0 ≤ h164.size := Nat.le_trans Zs159 K164.1
  have Kk165 : Keep h0 h164 [a1] := Keep.trans Kw159 K164 (own_trans3 (Or.inr sz_b2) (Or.inr sz_b3) (Or.inr sz_b4))
  have R166 : ∀ tg, Steps p.tables e below (T164.setTop (mkF m 47 #[vR a1, vR a2, vR a3, vI (own_fl (own_F lo hi 0).1 (own_F lo hi 0).2 (own_bits (lo 0) (hi 0))), vI ((own_us (own_F lo hi 0).2 (own_bits (lo 0) (hi 0))) + (own_bits (lo 0) (hi 0))), vI ((0 : Int32) + (1 : Int32)), vJ ((hi 0).toInt64 - (lo 0).toInt64), .second, vI (own_bits (lo 0) (hi 0))] [])) tg → Steps p.tables e below (s₁.setTop (mkF m 0 #[vR a1, vR a2, vR a3, .unset, .unset, .unset, .unset, .unset, .unset] [])) tg := by
    intro tg kt
    refine R163 _ ?_
    refine st164 _ ?_
    exact kt
  clear R163 st164
  have R167 : ∀ tg, Steps p.tables e below (T164.setTop (mkF m 47 #[vR a1, vR a2, vR a3, vI (own_F lo hi 1).1, vI (own_F lo hi 1).2, vI ((0 : Int32) + (1 : Int32)), vJ ((hi 0).toInt64 - (lo 0).toInt64), .second, vI (own_bits (lo 0) (hi 0))] [])) tg → Steps p.tables e below (s₁.setTop (mkF m 0 #[vR a1, vR a2, vR a3, .unset, .unset, .unset, .unset, .unset, .unset] [])) tg := by exact R166
  obtain ⟨T168, L168, X168, e168, N168, st168⟩ := lp_c1B a1 a2 a3 (own_F lo hi 1).1 (own_F lo hi 1).2 ((0 : Int32) + (1 : Int32)) 1 lo hi ((hi 0).toInt64 - (lo 0).toInt64) (own_bits (lo 0) (hi 0)) X164 hx hZ hw hby hml hown e164 N164 Zs165 VL_165 VH_165 (by decide) (by decide) (by decide) (by decide)
  have R169 : ∀ tg, Steps p.tables e below (T168.setTop (mkF m 93 #[vR a1, vR a2, vR a3, vI (own_fl (own_F lo hi 1).1 (own_F lo hi 1).2 (own_bits (lo 1) (hi 1))), vI (own_us (own_F lo hi 1).2 (own_bits (lo 1) (hi 1))), vI ((0 : Int32) + (1 : Int32)), vJ ((hi 1).toInt64 - (lo 1).toInt64), .second, vI (own_bits (lo 1) (hi 1))] [])) tg → Steps p.tables e below (s₁.setTop (mkF m 0 #[vR a1, vR a2, vR a3, .unset, .unset, .unset, .unset, .unset, .unset] [])) tg := by
    intro tg kt
    refine R167 _ ?_
    refine st168 _ ?_
    exact kt
  clear R167 st168
  obtain ⟨T170, h170, L170, X170, e170, N170, K170, VW170, VS170, VM170, st170⟩ := lp_c2 a1 a2 a3 b2 b3 b4 (own_fl (own_F lo hi 1).1 (own_F lo hi 1).2 (own_bits (lo 1) (hi 1))) (own_us (own_F lo hi 1).2 (own_bits (lo 1) (hi 1))) ((0 : Int32) + (1 : Int32)) ((hi 1).toInt64 - (lo 1).toInt64) (own_bits (lo 1) (hi 1)) 1 (own_set (fun _ => (0 : Int32)) 0 (own_wd lo hi 0)) (own_set (fun _ => (0 : Int32)) 0 (own_sf lo hi 0)) (own_set (fun _ => (0 : Int64)) 0 (own_mk lo hi 0)) X168 hx hZ hw hby hml hown e168 N168 Zs165 Fw_165 Fs_165 Fm_165 VW164 VS164 VM164 g_b2 g_b3 g_b4 ne_a1_b2 ne_a1_b3 ne_a1_b4 ne_b2_b3 ne_b2_b4 ne_b3_b4 (by decide) (by decide) (by decide)
  have Fl_171 := Fl_165.keep K170 (own_notin3 ne_a1_b2 ne_a1_b3 ne_a1_b4)
  have Fw_171 := Fw_165.keep K170 (own_notin3 ne_a1_b2 ne_a1_b3 ne_a1_b4)
  have Fs_171 := Fs_165.keep K170 (own_notin3 ne_a1_b2 ne_a1_b3 ne_a1_b4)
  have Fm_171 := Fm_165.keep K170 (own_notin3 ne_a1_b2 ne_a1_b3 ne_a1_b4)
  have Fc_171 := Fc_165.keep K170 (own_notin3 ne_a1_b2 ne_a1_b3 ne_a1_b4)
  have E_a1_171 := E_a1_165.keep K170
  have E_a2_171 := E_a2_165.keep K170
  have VL_171 := VL_165.keep K170 (own_notin3 ne_a2_b2 ne_a2_b3 ne_a2_b4)
  have VH_171 := VH_165.keep K170 (own_notin3 ne_a3_b2 ne_a3_b3 ne_a3_b4)
  have VB1_171 := VB1_165.keep K170 (own_notin3 ne_b1_b2 ne_b1_b3 ne_b1_b4)
  clear Fl_165 Fw_165 Fs_165 Fm_165 Fc_165 E_a1_165 E_a2_165 VL_165 VH_165 VB1_165
  have Zs171 : n0 ≤ h170.size := Nat.le_trans Zs165 K170.1
  have Kk171 : Keep h0 h170 [a1] := Keep.trans Kk165 K170 (own_trans3 (Or.inr sz_b2) (Or.inr sz_b3) (Or.inr sz_b4))
  have R172 : ∀ tg, Steps p.tables e below (T170.setTop (mkF m 47 #[vR a1, vR a2, vR a3, vI (own_fl (own_F lo hi 1).1 (own_F lo hi 1).2 (own_bits (lo 1) (hi 1))), vI ((own_us (own_F lo hi 1).2 (own_bits (lo 1) (hi 1))) + (own_bits (lo 1) (hi 1))), vI (((0 : Int32) + (1 : Int32)) + (1 : Int32)), vJ ((hi 1).toInt64 - (lo 1).toInt64), .second, vI (own_bits (lo 1) (hi 1))] [])) tg → Steps p.tables e below (s₁.setTop (mkF m 0 #[vR a1, vR a2, vR a3, .unset, .unset, .unset, .unset, .unset, .unset] [])) tg := by
    intro tg kt
    refine R169 _ ?_
    refine st170 _ ?_
    exact kt
  clear R169 st170
  have R173 : ∀ tg, Steps p.tables e below (T170.setTop (mkF m 47 #[vR a1, vR a2, vR a3, vI (own_F lo hi 2).1, vI (own_F lo hi 2).2, vI (((0 : Int32) + (1 : Int32)) + (1 : Int32)), vJ ((hi 1).toInt64 - (lo 1).toInt64), .second, vI (own_bits (lo 1) (hi 1))] [])) tg → Steps p.tables e below (s₁.setTop (mkF m 0 #[vR a1, vR a2, vR a3, .unset, .unset, .unset, .unset, .unset, .unset] [])) tg := by exact R172
  obtain ⟨T174, L174, X174, e174, N174, st174⟩ := lp_c1B a1 a2 a3 (own_F lo hi 2).1 (own_F lo hi 2).2 (((0 : Int32) + (1 : Int32)) + (1 : Int32)) 2 lo hi ((hi 1).toInt64 - (lo 1).toInt64) (own_bits (lo 1) (hi 1)) X170 hx hZ hw hby hml hown e170 N170 Zs171 VL_171 VH_171 (by decide) (by decide) (by decide) (by decide)
  have R175 : ∀ tg, Steps p.tables e below (T174.setTop (mkF m 93 #[vR a1, vR a2, vR a3, vI (own_fl (own_F lo hi 2).1 (own_F lo hi 2).2 (own_bits (lo 2) (hi 2))), vI (own_us (own_F lo hi 2).2 (own_bits (lo 2) (hi 2))), vI (((0 : Int32) + (1 : Int32)) + (1 : Int32)), vJ ((hi 2).toInt64 - (lo 2).toInt64), .second, vI (own_bits (lo 2) (hi 2))] [])) tg → Steps p.tables e below (s₁.setTop (mkF m 0 #[vR a1, vR a2, vR a3, .unset, .unset, .unset, .unset, .unset, .unset] [])) tg := by
    intro tg kt
    refine R173 _ ?_
    refine st174 _ ?_
    exact kt
  clear R173 st174
  obtain ⟨T176, h176, L176, X176, e176, N176, K176, VW176, VS176, VM176, st176⟩ := lp_c2 a1 a2 a3 b2 b3 b4 (own_fl (own_F lo hi 2).1 (own_F lo hi 2).2 (own_bits (lo 2) (hi 2))) (own_us (own_F lo hi 2).2 (own_bits (lo 2) (hi 2))) (((0 : Int32) + (1 : Int32)) + (1 : Int32)) ((hi 2).toInt64 - (lo 2).toInt64) (own_bits (lo 2) (hi 2)) 2 (own_set (own_set (fun _ => (0 : Int32)) 0 (own_wd lo hi 0)) 1 (own_wd lo hi 1)) (own_set (own_set (fun _ => (0 : Int32)) 0 (own_sf lo hi 0)) 1 (own_sf lo hi 1)) (own_set (own_set (fun _ => (0 : Int64)) 0 (own_mk lo hi 0)) 1 (own_mk lo hi 1)) X174 hx hZ hw hby hml hown e174 N174 Zs171 Fw_171 Fs_171 Fm_171 VW170 VS170 VM170 g_b2 g_b3 g_b4 ne_a1_b2 ne_a1_b3 ne_a1_b4 ne_b2_b3 ne_b2_b4 ne_b3_b4 (by decide) (by decide) (by decide)
  have Fl_177 := Fl_171.keep K176 (own_notin3 ne_a1_b2 ne_a1_b3 ne_a1_b4)
  have Fw_177 := Fw_171.keep K176 (own_notin3 ne_a1_b2 ne_a1_b3 ne_a1_b4)
  have Fs_177 := Fs_171.keep K176 (own_notin3 ne_a1_b2 ne_a1_b3 ne_a1_b4)
  have Fm_177 := Fm_171.keep K176 (own_notin3 ne_a1_b2 ne_a1_b3 ne_a1_b4)
  have Fc_177 := Fc_171.keep K176 (own_notin3 ne_a1_b2 ne_a1_b3 ne_a1_b4)
  have E_a1_177 := E_a1_171.keep K176
  have E_a2_177 := E_a2_171.keep K176
  have VL_177 := VL_171.keep K176 (own_notin3 ne_a2_b2 ne_a2_b3 ne_a2_b4)
  have VH_177 := VH_171.keep K176 (own_notin3 ne_a3_b2 ne_a3_b3 ne_a3_b4)
  have VB1_177 := VB1_171.keep K176 (own_notin3 ne_b1_b2 ne_b1_b3 ne_b1_b4)
  clear Fl_171 Fw_171 Fs_171 Fm_171 Fc_171 E_a1_171 E_a2_171 VL_171 VH_171 VB1_171
  have Zs177 : n0 ≤ h176.size := Nat.le_trans Zs171 K176.1
  have Kk177 : Keep h0 h176 [a1] := Keep.trans Kk171 K176 (own_trans3 (Or.inr sz_b2) (Or.inr sz_b3) (Or.inr sz_b4))
  have R178 : ∀ tg, Steps p.tables e below (T176.setTop (mkF m 47 #[vR a1, vR a2, vR a3, vI (own_fl (own_F lo hi 2).1 (own_F lo hi 2).2 (own_bits (lo 2) (hi 2))), vI ((own_us (own_F lo hi 2).2 (own_bits (lo 2) (hi 2))) + (own_bits (lo 2) (hi 2))), vI ((((0 : Int32) + (1 : Int32)) + (1 : Int32)) + (1 : Int32)), vJ ((hi 2).toInt64 - (lo 2).toInt64), .second, vI (own_bits (lo 2) (hi 2))] [])) tg → Steps p.tables e below (s₁.setTop (mkF m 0 #[vR a1, vR a2, vR a3, .unset, .unset, .unset, .unset, .unset, .unset] [])) tg := by
    intro tg kt
    refine R175 _ ?_
    refine st176 _ ?_
    exact kt
  clear R175 st176
  have R179 : ∀ tg, Steps p.tables e below (T176.setTop (mkF m 47 #[vR a1, vR a2, vR a3, vI (own_F lo hi 3).1, vI (own_F lo hi 3).2, vI ((((0 : Int32) + (1 : Int32)) + (1 : Int32)) + (1 : Int32)), vJ ((hi 2).toInt64 - (lo 2).toInt64), .second, vI (own_bits (lo 2) (hi 2))] [])) tg → Steps p.tables e below (s₁.setTop (mkF m 0 #[vR a1, vR a2, vR a3, .unset, .unset, .unset, .unset, .unset, .unset] [])) tg := by exact R178
  have R180 : ∀ tg, Steps p.tables e below (T176.setTop (mkF m 50 #[vR a1, vR a2, vR a3, vI (own_F lo hi 3).1, vI (own_F lo hi 3).2, vI ((((0 : Int32) + (1 : Int32)) + (1 : Int32)) + (1 : Int32)), vJ ((hi 2).toInt64 - (lo 2).toInt64), .second, vI (own_bits (lo 2) (hi 2))] [(.ref a2), (.int ((((0 : Int32) + (1 : Int32)) + (1 : Int32)) + (1 : Int32)))])) tg → Steps p.tables e below (s₁.setTop (mkF m 0 #[vR a1, vR a2, vR a3, .unset, .unset, .unset, .unset, .unset, .unset] [])) tg := by
    intro tg kt
    refine R179 _ ?_
    show Steps p.tables e below (T176.setTop (mkF m 47 #[vR a1, vR a2, vR a3, vI (own_F lo hi 3).1, vI (own_F lo hi 3).2, vI ((((0 : Int32) + (1 : Int32)) + (1 : Int32)) + (1 : Int32)), vJ ((hi 2).toInt64 - (lo 2).toInt64), .second, vI (own_bits (lo 2) (hi 2))] [])) _
    refine XS.iload X176.here hx rfl (hb hby d3_47) rfl ?_
    refine XS.aloadN X176.here hx rfl (hb hby d3_49) rfl rfl ?_
    exact kt
  clear R179
  obtain ⟨cl181, Ar181, ln181⟩ := VL_177.len
  have R182 : ∀ tg, Steps p.tables e below (T176.setTop (mkF m 158 #[vR a1, vR a2, vR a3, vI (own_F lo hi 3).1, vI (own_F lo hi 3).2, vI ((((0 : Int32) + (1 : Int32)) + (1 : Int32)) + (1 : Int32)), vJ ((hi 2).toInt64 - (lo 2).toInt64), .second, vI (own_bits (lo 2) (hi 2))] [(.int ((own_F lo hi 3).1 + (1 : Int32))), (.ref a1)])) tg → Steps p.tables e below (s₁.setTop (mkF m 0 #[vR a1, vR a2, vR a3, .unset, .unset, .unset, .unset, .unset, .unset] [])) tg := by
    intro tg kt
    refine R180 _ ?_
    show Steps p.tables e below (T176.setTop (mkF m 50 #[vR a1, vR a2, vR a3, vI (own_F lo hi 3).1, vI (own_F lo hi 3).2, vI ((((0 : Int32) + (1 : Int32)) + (1 : Int32)) + (1 : Int32)), vJ ((hi 2).toInt64 - (lo 2).toInt64), .second, vI (own_bits (lo 2) (hi 2))] [(.ref a2), (.int ((((0 : Int32) + (1 : Int32)) + (1 : Int32)) + (1 : Int32)))])) _
    refine X176.arraylength hx (by rw [e176]; exact Ar181.1) (State.isArrayOf_alike hZ.alike Ar181.2.1) (g := (mkF m 50 #[vR a1, vR a2, vR a3, vI (own_F lo hi 3).1, vI (own_F lo hi 3).2, vI ((((0 : Int32) + (1 : Int32)) + (1 : Int32)) + (1 : Int32)), vJ ((hi 2).toInt64 - (lo 2).toInt64), .second, vI (own_bits (lo 2) (hi 2))] [(.ref a2), (.int ((((0 : Int32) + (1 : Int32)) + (1 : Int32)) + (1 : Int32)))])) rfl rfl (hb hby d3_50) _ ?_
    rw [ln181]
    show Steps p.tables e below (T176.setTop (mkF m 51 #[vR a1, vR a2, vR a3, vI (own_F lo hi 3).1, vI (own_F lo hi 3).2, vI ((((0 : Int32) + (1 : Int32)) + (1 : Int32)) + (1 : Int32)), vJ ((hi 2).toInt64 - (lo 2).toInt64), .second, vI (own_bits (lo 2) (hi 2))] [(.int (3 : Int32)), (.int ((((0 : Int32) + (1 : Int32)) + (1 : Int32)) + (1 : Int32)))])) _
    refine XS.icmpYes X176.here hx rfl (pc0 := 51) (pc' := 154) rfl (hb hby d3_51) rfl (flt (by decide : ¬ (((((0 : Int32) + (1 : Int32)) + (1 : Int32)) + (1 : Int32)) < (3 : Int32)))).2.1 (by decide) (by decide) ?_
    refine XS.aloadN X176.here hx rfl (hb hby d3_154) rfl rfl ?_
    refine XS.iloadN X176.here hx rfl (hb hby d3_155) rfl ?_
    show Steps p.tables e below (T176.setTop (mkF m 156 #[vR a1, vR a2, vR a3, vI (own_F lo hi 3).1, vI (own_F lo hi 3).2, vI ((((0 : Int32) + (1 : Int32)) + (1 : Int32)) + (1 : Int32)), vJ ((hi 2).toInt64 - (lo 2).toInt64), .second, vI (own_bits (lo 2) (hi 2))] [(.int (own_F lo hi 3).1), (.ref a1)])) _
    refine XS.iconst X176.here hx rfl (hb hby d3_156) ?_
    show Steps p.tables e below (T176.setTop (mkF m 157 #[vR a1, vR a2, vR a3, vI (own_F lo hi 3).1, vI (own_F lo hi 3).2, vI ((((0 : Int32) + (1 : Int32)) + (1 : Int32)) + (1 : Int32)), vJ ((hi 2).toInt64 - (lo 2).toInt64), .second, vI (own_bits (lo 2) (hi 2))] [(.int (1 : Int32)), (.int (own_F lo hi 3).1), (.ref a1)])) _
    refine XS.iadd X176.here hx rfl (hb hby d3_157) rfl ?_
    exact kt
  clear R180
  obtain ⟨T183, h183, X183, e183, W183, st183⟩ := putF X176 hx hZ hown (host := "") (Or.inl (hw _ (List.mem_of_getElem? (i := 45) rfl))) Via.refl e176 Fc_177 E_a1_177 (Or.inr ⟨(hw _ (List.mem_of_getElem? (i := 46) rfl)), rfl, hnm⟩) (hw _ (List.mem_of_getElem? (i := 9) rfl)) (ty := .int) (by decide) rfl rfl (g := (mkF m 158 #[vR a1, vR a2, vR a3, vI (own_F lo hi 3).1, vI (own_F lo hi 3).2, vI ((((0 : Int32) + (1 : Int32)) + (1 : Int32)) + (1 : Int32)), vJ ((hi 2).toInt64 - (lo 2).toInt64), .second, vI (own_bits (lo 2) (hi 2))] [(.int ((own_F lo hi 3).1 + (1 : Int32))), (.ref a1)])) rfl rfl (hb hby d3_158)
  have N183 := Fr.snoc X183 N176 ga
  have Fc_183 := Fc_177.same W183
  have Fl_183 := Fl_177.other W183 (Or.inr (slot_ne (Or.inr (hw _ (List.mem_of_getElem? (i := 27) rfl))) (Or.inr (hw _ (List.mem_of_getElem? (i := 46) rfl))) (by decide) (t := (.array .int)) (t' := .int) (by decide) (by decide)))
  have Fw_183 := Fw_177.other W183 (Or.inr (slot_ne (Or.inr (hw _ (List.mem_of_getElem? (i := 29) rfl))) (Or.inr (hw _ (List.mem_of_getElem? (i := 46) rfl))) (by decide) (t := (.array .int)) (t' := .int) (by decide) (by decide)))
  have Fs_183 := Fs_177.other W183 (Or.inr (slot_ne (Or.inr (hw _ (List.mem_of_getElem? (i := 31) rfl))) (Or.inr (hw _ (List.mem_of_getElem? (i := 46) rfl))) (by decide) (t := (.array .int)) (t' := .int) (by decide) (by decide)))
  have Fm_183 := Fm_177.other W183 (Or.inr (slot_ne (Or.inr (hw _ (List.mem_of_getElem? (i := 34) rfl))) (Or.inr (hw _ (List.mem_of_getElem? (i := 46) rfl))) (by decide) (t := (.array .long)) (t' := .int) (by decide) (by decide)))
  have E_a1_183 := E_a1_177.wr W183
  have E_a2_183 := E_a2_177.wr W183
  have VL_183 := VL_177.other W183 (Ne.symm n12)
  have VH_183 := VH_177.other W183 (Ne.symm n13)
  have VB1_183 := VB1_177.other W183 (Ne.symm ne_a1_b1)
  have VW_183 := VW176.other W183 (Ne.symm ne_a1_b2)
  have VS_183 := VS176.other W183 (Ne.symm ne_a1_b3)
  have VM_183 := VM176.other W183 (Ne.symm ne_a1_b4)
  clear Fl_177 Fw_177 Fs_177 Fm_177 E_a1_177 E_a2_177 VL_177 VH_177 VB1_177
  have Zs183 : n0 ≤ h183.size := Nat.le_trans Zs177 (Keep.of_wr W183).1
  have Kw183 : Keep h0 h183 [a1] := Keep.wr Kk177 W183 (Or.inl (List.mem_of_getElem? (i := 0) rfl))
  have R184 : ∀ tg, Steps p.tables e below (T183.setTop (mkF m 161 #[vR a1, vR a2, vR a3, vI (own_F lo hi 3).1, vI (own_F lo hi 3).2, vI ((((0 : Int32) + (1 : Int32)) + (1 : Int32)) + (1 : Int32)), vJ ((hi 2).toInt64 - (lo 2).toInt64), .second, vI (own_bits (lo 2) (hi 2))] [])) tg → Steps p.tables e below (s₁.setTop (mkF m 0 #[vR a1, vR a2, vR a3, .unset, .unset, .unset, .unset, .unset, .unset] [])) tg := by
    intro tg kt
    refine R182 _ ?_
    refine st183 _ ?_
    exact kt
  clear R182 st183
  have VWz : AV Z h183 b2 .int 3 (fun j => .int ((own_wd lo hi) j)) := AV.congr VW_183 (fun j hj => congrArg _ (own_three (own_wd lo hi) _ j hj))
  have VSz : AV Z h183 b3 .int 3 (fun j => .int ((own_sf lo hi) j)) := AV.congr VS_183 (fun j hj => congrArg _ (own_three (own_sf lo hi) _ j hj))
  have VMz : AV Z h183 b4 .long 3 (fun j => .long ((own_mk lo hi) j)) := AV.congr VM_183 (fun j hj => congrArg _ (own_three (own_mk lo hi) _ j hj))
  obtain ⟨fs, hr, hrun, hended, hW, hsame⟩ := X183.leave (v := none) (fun _ => rfl)
  refine ⟨_, _, pre0 _ (R184 _ ?_), hrun, hended, _, _, rfl, ?_, ⟨_, rfl⟩, hW, hsame.mono (by decide) (by decide)⟩
  · exact X183.returnOut hx Bd.returns (hb hby d3_161) hr
  · show Q_rm_enc Z a1 a2 a3 lo hi h0 n0 _ T183.heap _
    rw [e183]
    exact ⟨rfl, N183, Kw183, E_a1_183, b1, b2, b3, b4, Fl_183, Fw_183, Fs_183, Fm_183, Fc_183, VB1_183, VWz, VSz, VMz⟩
theorem d10_0 : decode prog_37_method_3_code 0 = .ok (.iconst 0, 1) := by decide +kernel
theorem d10_1 : decode prog_37_method_3_code 1 = .ok (.istore 4, 2) := by decide +kernel
theorem d10_3 : decode prog_37_method_3_code 3 = .ok (.iload 4, 2) := by decide +kernel
theorem d10_5 : decode prog_37_method_3_code 5 = .ok (.aload_n 0, 1) := by decide +kernel
theorem d10_6 : decode prog_37_method_3_code 6 = .ok (.getfield 36, 3) := by decide +kernel
theorem d10_9 : decode prog_37_method_3_code 9 = .ok (.if_icmp .ge 16, 3) := by decide +kernel
theorem d10_12 : decode prog_37_method_3_code 12 = .ok (.aload_n 2, 1) := by decide +kernel
theorem d10_13 : decode prog_37_method_3_code 13 = .ok (.iload_n 3, 1) := by decide +kernel
theorem d10_14 : decode prog_37_method_3_code 14 = .ok (.iload 4, 2) := by decide +kernel
theorem d10_16 : decode prog_37_method_3_code 16 = .ok (.iadd, 1) := by decide +kernel
theorem d10_17 : decode prog_37_method_3_code 17 = .ok (.lconst 0, 1) := by decide +kernel
theorem d10_18 : decode prog_37_method_3_code 18 = .ok (.lastore, 1) := by decide +kernel
theorem d10_19 : decode prog_37_method_3_code 19 = .ok (.iinc 4 1, 3) := by decide +kernel
theorem d10_22 : decode prog_37_method_3_code 22 = .ok (.goto (-19), 3) := by decide +kernel
theorem d10_25 : decode prog_37_method_3_code 25 = .ok (.iconst 0, 1) := by decide +kernel
theorem d10_26 : decode prog_37_method_3_code 26 = .ok (.istore 4, 2) := by decide +kernel
theorem d10_28 : decode prog_37_method_3_code 28 = .ok (.iload 4, 2) := by decide +kernel
theorem d10_30 : decode prog_37_method_3_code 30 = .ok (.aload_n 0, 1) := by decide +kernel
theorem d10_31 : decode prog_37_method_3_code 31 = .ok (.getfield 13, 3) := by decide +kernel
theorem d10_34 : decode prog_37_method_3_code 34 = .ok (.arraylength, 1) := by decide +kernel
theorem d10_35 : decode prog_37_method_3_code 35 = .ok (.if_icmp .ge 45, 3) := by decide +kernel
theorem d10_38 : decode prog_37_method_3_code 38 = .ok (.aload_n 2, 1) := by decide +kernel
theorem d10_39 : decode prog_37_method_3_code 39 = .ok (.iload_n 3, 1) := by decide +kernel
theorem d10_40 : decode prog_37_method_3_code 40 = .ok (.aload_n 0, 1) := by decide +kernel
theorem d10_41 : decode prog_37_method_3_code 41 = .ok (.getfield 18, 3) := by decide +kernel
theorem d10_44 : decode prog_37_method_3_code 44 = .ok (.iload 4, 2) := by decide +kernel
theorem d10_46 : decode prog_37_method_3_code 46 = .ok (.iaload, 1) := by decide +kernel
theorem d10_47 : decode prog_37_method_3_code 47 = .ok (.iadd, 1) := by decide +kernel
theorem d10_48 : decode prog_37_method_3_code 48 = .ok (.dup2, 1) := by decide +kernel
theorem d10_49 : decode prog_37_method_3_code 49 = .ok (.laload, 1) := by decide +kernel
theorem d10_50 : decode prog_37_method_3_code 50 = .ok (.aload_n 1, 1) := by decide +kernel
theorem d10_51 : decode prog_37_method_3_code 51 = .ok (.iload 4, 2) := by decide +kernel
theorem d10_53 : decode prog_37_method_3_code 53 = .ok (.iaload, 1) := by decide +kernel
theorem d10_54 : decode prog_37_method_3_code 54 = .ok (.i2l, 1) := by decide +kernel
theorem d10_55 : decode prog_37_method_3_code 55 = .ok (.aload_n 0, 1) := by decide +kernel
theorem d10_56 : decode prog_37_method_3_code 56 = .ok (.getfield 13, 3) := by decide +kernel
theorem d10_59 : decode prog_37_method_3_code 59 = .ok (.iload 4, 2) := by decide +kernel
theorem d10_61 : decode prog_37_method_3_code 61 = .ok (.iaload, 1) := by decide +kernel
theorem d10_62 : decode prog_37_method_3_code 62 = .ok (.i2l, 1) := by decide +kernel
theorem d10_63 : decode prog_37_method_3_code 63 = .ok (.lsub, 1) := by decide +kernel
theorem d10_64 : decode prog_37_method_3_code 64 = .ok (.aload_n 0, 1) := by decide +kernel
theorem d10_65 : decode prog_37_method_3_code 65 = .ok (.getfield 21, 3) := by decide +kernel
theorem d10_68 : decode prog_37_method_3_code 68 = .ok (.iload 4, 2) := by decide +kernel
theorem d10_70 : decode prog_37_method_3_code 70 = .ok (.iaload, 1) := by decide +kernel
theorem d10_71 : decode prog_37_method_3_code 71 = .ok (.lshl, 1) := by decide +kernel
theorem d10_72 : decode prog_37_method_3_code 72 = .ok (.lor, 1) := by decide +kernel
theorem d10_73 : decode prog_37_method_3_code 73 = .ok (.lastore, 1) := by decide +kernel
theorem d10_74 : decode prog_37_method_3_code 74 = .ok (.iinc 4 1, 3) := by decide +kernel
theorem d10_77 : decode prog_37_method_3_code 77 = .ok (.goto (-49), 3) := by decide +kernel
theorem d10_80 : decode prog_37_method_3_code 80 = .ok (.return_, 1) := by decide +kernel
theorem ef_rm_encode (m : MethodId) (a1 : Addr) (a2 : Addr) (a3 : Addr) (p4 : Int32) : entryFrame m #[(.ref a1), (.ref a2), (.ref a3), (.int p4)] 5 = mkF m 0 #[vR a1, vR a2, vR a3, vI p4, .unset] [] := by first | (simp [entryFrame, mkF, argsToLocals, Value.category]; done) | rfl
def Q_rm_encode (Z : State) (a1 : Addr) (a2 : Addr) (a3 : Addr) (p4 : Int32) (b1 : Addr) (b2 : Addr) (b3 : Addr) (words : Int32) (lo : Nat → Int32) (wd : Nat → Int32) (sh : Nat → Int32) (val : Nat → Int32) (fk : Nat → Int64) (NN : Nat) (o : Nat) (nw : Nat) (wn : Nat → Nat) (h0 : Heap) (n0 : Nat) (v : Option Value) (h : Heap) (L : List Loc) : Prop := v = none ∧ Fr n0 L ∧ Keep h0 h [a3] ∧ AV Z h a3 .long NN (fun j => .long ((own_enc fk o nw wn lo val sh) j))
set_option maxRecDepth 65536 in
set_option maxHeartbeats 40000000 in
theorem rm_encode (l : Launch) (Z : State) (a0 : Array Value) (hw : ∀ d ∈ tables_1, d.before a0 Z = true) (ws : List Jvm.Cond) (a1 : Addr) (a2 : Addr) (a3 : Addr) (p4 : Int32) (b1 : Addr) (b2 : Addr) (b3 : Addr) (words : Int32) (lo : Nat → Int32) (wd : Nat → Int32) (sh : Nat → Int32) (val : Nat → Int32) (fk : Nat → Int64) (NN : Nat) (o : Nat) (nw : Nat) (wn : Nat → Nat) (h0 : Heap) (n0 : Nat) (Z0 : n0 ≤ h0.size) (Fl : Fld Z h0 a1 "com/example/inexact_odds/inexactodds/language/Encoding" "low" "[I" (.ref b1)) (Fw : Fld Z h0 a1 "com/example/inexact_odds/inexactodds/language/Encoding" "word" "[I" (.ref b2)) (Fs : Fld Z h0 a1 "com/example/inexact_odds/inexactodds/language/Encoding" "shift" "[I" (.ref b3)) (Fc : Fld Z h0 a1 "com/example/inexact_odds/inexactodds/language/Encoding" "words" "I" (.int words)) (VL : AV Z h0 b1 .int 3 (fun j => .int (lo j))) (VW : AV Z h0 b2 .int 3 (fun j => .int (wd j))) (VS : AV Z h0 b3 .int 3 (fun j => .int (sh j))) (VV : AV Z h0 a2 .int 3 (fun j => .int (val j))) (VK : AV Z h0 a3 .long NN (fun j => .long (fk j))) (ga : n0 ≤ a3) (m1 : a1 ≠ a3) (m2 : a2 ≠ a3) (m3 : b1 ≠ a3) (m4 : b2 ≠ a3) (m5 : b3 ≠ a3) (ho : p4.toInt = o) (hnn : o + nw ≤ NN) (h8 : NN ≤ 8) (hwds : words.toInt = nw) (hnw : nw = 1 ∨ nw = 2) (hwn : ∀ j, j < 3 → (wd j).toInt = wn j ∧ wn j < nw) :
    MetFree l (⟨"com/example/inexact_odds/inexactodds/language/Encoding", "encode", "([I[JI)V"⟩ : MethodName) (head1 (Jvm.Cond.code (⟨"com/example/inexact_odds/inexactodds/language/Encoding", "encode", "([I[JI)V"⟩ : MethodName) prog_37_method_3_code 5 none :: ws) ({ frames := 0, cells := 0, slots := 0, locals := 0 } : Room)) (fun a U => a = #[(.ref a1), (.ref a2), (.ref a3), (.int p4)] ∧ Z.Warmed39 U.vm ∧ U.heap = h0) (fun _ _ _ _ _ => True) (fun _ U oC U' => ∃ v L, oC = .returned v ∧ Q_rm_encode Z a1 a2 a3 p4 b1 b2 b3 words lo wd sh val fk NN o nw wn h0 n0 v U'.heap L ∧ FrameEnd U oC U' L ({ frames := 0, cells := 0, slots := 0, locals := 0 } : Room).cells ({ frames := 0, cells := 0, slots := 0, locals := 0 } : Room).slots) := by
  refine MetFree.of_bodySF (plainFor_of_name pn_2) hisR ?_
  intro p e s m args below meth c s₁ Bd hml0 hP hK
  obtain ⟨rfl, hZ, hh⟩ := hP
  have hx := Bd.exec
  have hby := Bd.bytes
  have hml : c.maxLocals = 5 := hml0
  have hown : s.vm.findClass "com/example/inexact_odds/inexactodds/language/Encoding" = some m.cls := findClass_of_methodNamed Bd.named
  have hnm := (name_of_methodNamed Bd.named Bd.method).1
  have X0 : Stand p l e ({ frames := 0, cells := 0, slots := 0, locals := 0 } : Room) s m #[(.ref a1), (.ref a2), (.ref a3), (.int p4)] below meth c s₁ [] 0 0 := Stand.of_body Bd
  have e0 : s₁.heap = h0 := by rw [← hh, Bd.state]; rfl
  have N0 := Fr.nil n0
  have pre0 : ∀ tg, Steps p.tables e below (s₁.setTop (mkF m 0 #[vR a1, vR a2, vR a3, vI p4, .unset] [])) tg → Steps p.tables e below (s₁.setTop (entryFrame m #[(.ref a1), (.ref a2), (.ref a3), (.int p4)] 5)) tg := fun t k => castTop (ef_rm_encode m a1 a2 a3 p4) k
  have pre00 : ∀ tg, Steps p.tables e below (s₁.setTop (mkF m 0 #[vR a1, vR a2, vR a3, vI p4, .unset] [])) tg → Steps p.tables e below (s₁.setTop (mkF m 0 #[vR a1, vR a2, vR a3, vI p4, .unset] [])) tg := fun _ k => k
  obtain ⟨c0, d0⟩ := hwn 0 (by decide)
  obtain ⟨c1, d1⟩ := hwn 1 (by decide)
  obtain ⟨c2, d2⟩ := hwn 2 (by decide)
  rcases hnw with hn | hn
  · rw [hn] at hwds hnn d0 d1 d2
    have R185 : ∀ tg, Steps p.tables e below (s₁.setTop (mkF m 6 #[vR a1, vR a2, vR a3, vI p4, vI (0 : Int32)] [(.ref a1), (.int (0 : Int32))])) tg → Steps p.tables e below (s₁.setTop (mkF m 0 #[vR a1, vR a2, vR a3, vI p4, .unset] [])) tg := by
      intro tg kt
      refine pre00 _ ?_
      show Steps p.tables e below (s₁.setTop (mkF m 0 #[vR a1, vR a2, vR a3, vI p4, .unset] [])) _
      refine XS.iconst X0.here hx rfl (hb hby d10_0) ?_
      show Steps p.tables e below (s₁.setTop (mkF m 1 #[vR a1, vR a2, vR a3, vI p4, .unset] [(.int (0 : Int32))])) _
      refine XS.istore X0.here hx rfl (hb hby d10_1) rfl (l' := #[vR a1, vR a2, vR a3, vI p4, vI (0 : Int32)]) rfl ?_
      refine XS.iload X0.here hx rfl (hb hby d10_3) rfl ?_
      refine XS.aloadN X0.here hx rfl (hb hby d10_5) rfl rfl ?_
      exact kt
    obtain ⟨T186, X186, e186, st186⟩ := getF X0 hx hZ hown (host := "") (Or.inl (hw _ (List.mem_of_getElem? (i := 45) rfl))) Via.refl e0 Fc (g := (mkF m 6 #[vR a1, vR a2, vR a3, vI p4, vI (0 : Int32)] [(.ref a1), (.int (0 : Int32))])) rfl rfl (hb hby d10_6)
    have R187 : ∀ tg, Steps p.tables e below (T186.setTop (mkF m 18 #[vR a1, vR a2, vR a3, vI p4, vI (0 : Int32)] [(.long (0 : Int64)), (.int (p4 + (0 : Int32))), (.ref a3)])) tg → Steps p.tables e below (s₁.setTop (mkF m 0 #[vR a1, vR a2, vR a3, vI p4, .unset] [])) tg := by
      intro tg kt
      refine R185 _ ?_
      refine st186 _ ?_
      show Steps p.tables e below (T186.setTop (mkF m 9 #[vR a1, vR a2, vR a3, vI p4, vI (0 : Int32)] [(.int words), (.int (0 : Int32))])) _
      refine XS.icmpNo X186.here hx rfl (hb hby d10_9) rfl (tlt (own_lt_of (m := 0) (n := 1) rfl hwds (by decide) : (0 : Int32) < words)).2.1 ?_
      refine XS.aloadN X186.here hx rfl (hb hby d10_12) rfl rfl ?_
      refine XS.iloadN X186.here hx rfl (hb hby d10_13) rfl ?_
      show Steps p.tables e below (T186.setTop (mkF m 14 #[vR a1, vR a2, vR a3, vI p4, vI (0 : Int32)] [(.int p4), (.ref a3)])) _
      refine XS.iload X186.here hx rfl (hb hby d10_14) rfl ?_
      show Steps p.tables e below (T186.setTop (mkF m 16 #[vR a1, vR a2, vR a3, vI p4, vI (0 : Int32)] [(.int (0 : Int32)), (.int p4), (.ref a3)])) _
      refine XS.iadd X186.here hx rfl (hb hby d10_16) rfl ?_
      refine XS.lconst X186.here hx rfl (hb hby d10_17) ?_
      exact kt
    clear R185 st186
    have q1_0 := own_ix p4 (0 : Int32) o 0 NN ho rfl (Nat.lt_of_lt_of_le (Nat.add_lt_add_left (by decide : 0 < 1) o) hnn) h8
    obtain ⟨cl188, Ar188, hin188, -⟩ := VK.at (j := (p4 + (0 : Int32))) (k := o) q1_0.1 q1_0.2 (Nat.lt_of_lt_of_le (Nat.add_lt_add_left (by decide : 0 < 1) o) hnn)
    obtain ⟨T189, h189, X189, e189, W189, st189⟩ := stJ X186 hx hZ e186 Ar188 (j := (p4 + (0 : Int32))) hin188 (g := (mkF m 18 #[vR a1, vR a2, vR a3, vI p4, vI (0 : Int32)] [(.long (0 : Int64)), (.int (p4 + (0 : Int32))), (.ref a3)])) rfl rfl (hb hby d10_18)
    have N189 := Fr.snoc X189 N0 ga
    rw [show ((p4 + (0 : Int32)) : Int32).toNatClampNeg = o from q1_0.2] at W189
    have VK_189 : AV Z h189 a3 .long NN (fun j => .long ((own_set fk o (0 : Int64)) j)) := VK.setJ W189
    have Fl_189 := Fl.other W189 (Or.inl m1)
    have Fw_189 := Fw.other W189 (Or.inl m1)
    have Fs_189 := Fs.other W189 (Or.inl m1)
    have Fc_189 := Fc.other W189 (Or.inl m1)
    have VL_189 := VL.other W189 m3
    have VW_189 := VW.other W189 m4
    have VS_189 := VS.other W189 m5
    have VV_189 := VV.other W189 m2
    have Zs189 : n0 ≤ h189.size := Nat.le_trans Z0 (Keep.of_wr W189).1
    have Kw189 : Keep h0 h189 [a3] := Keep.wr (Keep.refl h0 [a3]) W189 (Or.inl (List.mem_of_getElem? (i := 0) rfl))
    have R190 : ∀ tg, Steps p.tables e below (T189.setTop (mkF m 6 #[vR a1, vR a2, vR a3, vI p4, vI ((0 : Int32) + (1 : Int32))] [(.ref a1), (.int ((0 : Int32) + (1 : Int32)))])) tg → Steps p.tables e below (s₁.setTop (mkF m 0 #[vR a1, vR a2, vR a3, vI p4, .unset] [])) tg := by
      intro tg kt
      refine R187 _ ?_
      refine st189 _ ?_
      show Steps p.tables e below (T189.setTop (mkF m 19 #[vR a1, vR a2, vR a3, vI p4, vI (0 : Int32)] [])) _
      refine XS.iinc X189.here hx rfl (hb hby d10_19) rfl (l' := #[vR a1, vR a2, vR a3, vI p4, vI ((0 : Int32) + (1 : Int32))]) rfl ?_
      show Steps p.tables e below (T189.setTop (mkF m 22 #[vR a1, vR a2, vR a3, vI p4, vI ((0 : Int32) + (1 : Int32))] [])) _
      refine XS.goto X189.here hx rfl (pc0 := 22) (pc' := 3) rfl (hb hby d10_22) (by decide) (by decide) ?_
      refine XS.iload X189.here hx rfl (hb hby d10_3) rfl ?_
      refine XS.aloadN X189.here hx rfl (hb hby d10_5) rfl rfl ?_
      exact kt
    clear R187 st189
    obtain ⟨T191, X191, e191, st191⟩ := getF X189 hx hZ hown (host := "") (Or.inl (hw _ (List.mem_of_getElem? (i := 45) rfl))) Via.refl e189 Fc_189 (g := (mkF m 6 #[vR a1, vR a2, vR a3, vI p4, vI ((0 : Int32) + (1 : Int32))] [(.ref a1), (.int ((0 : Int32) + (1 : Int32)))])) rfl rfl (hb hby d10_6)
    have R192 : ∀ tg, Steps p.tables e below (T191.setTop (mkF m 31 #[vR a1, vR a2, vR a3, vI p4, vI (0 : Int32)] [(.ref a1), (.int (0 : Int32))])) tg → Steps p.tables e below (s₁.setTop (mkF m 0 #[vR a1, vR a2, vR a3, vI p4, .unset] [])) tg := by
      intro tg kt
      refine R190 _ ?_
      refine st191 _ ?_
      show Steps p.tables e below (T191.setTop (mkF m 9 #[vR a1, vR a2, vR a3, vI p4, vI ((0 : Int32) + (1 : Int32))] [(.int words), (.int ((0 : Int32) + (1 : Int32)))])) _
      refine XS.icmpYes X191.here hx rfl (pc0 := 9) (pc' := 25) rfl (hb hby d10_9) rfl (flt (own_nlt_of (m := 1) (n := 1) rfl hwds (by decide) : ¬ (((0 : Int32) + (1 : Int32)) < words))).2.1 (by decide) (by decide) ?_
      refine XS.iconst X191.here hx rfl (hb hby d10_25) ?_
      show Steps p.tables e below (T191.setTop (mkF m 26 #[vR a1, vR a2, vR a3, vI p4, vI ((0 : Int32) + (1 : Int32))] [(.int (0 : Int32))])) _
      refine XS.istore X191.here hx rfl (hb hby d10_26) rfl (l' := #[vR a1, vR a2, vR a3, vI p4, vI (0 : Int32)]) rfl ?_
      refine XS.iload X191.here hx rfl (hb hby d10_28) rfl ?_
      refine XS.aloadN X191.here hx rfl (hb hby d10_30) rfl rfl ?_
      exact kt
    clear R190 st191
    have VK0_1 : AV Z h189 a3 .long NN (fun j => .long ((own_zero fk o nw) j)) := by rw [own_zero, hn]; exact VK_189
    obtain ⟨T193, X193, e193, st193⟩ := getF X191 hx hZ hown (host := "") (Or.inl (hw _ (List.mem_of_getElem? (i := 26) rfl))) Via.refl e191 Fl_189 (g := (mkF m 31 #[vR a1, vR a2, vR a3, vI p4, vI (0 : Int32)] [(.ref a1), (.int (0 : Int32))])) rfl rfl (hb hby d10_31)
    have R194 : ∀ tg, Steps p.tables e below (T193.setTop (mkF m 34 #[vR a1, vR a2, vR a3, vI p4, vI (0 : Int32)] [(.ref b1), (.int (0 : Int32))])) tg → Steps p.tables e below (s₁.setTop (mkF m 0 #[vR a1, vR a2, vR a3, vI p4, .unset] [])) tg := by
      intro tg kt
      refine R192 _ ?_
      refine st193 _ ?_
      exact kt
    clear R192 st193
    obtain ⟨cl195, Ar195, ln195⟩ := VL_189.len
    have R196 : ∀ tg, Steps p.tables e below (T193.setTop (mkF m 41 #[vR a1, vR a2, vR a3, vI p4, vI (0 : Int32)] [(.ref a1), (.int p4), (.ref a3)])) tg → Steps p.tables e below (s₁.setTop (mkF m 0 #[vR a1, vR a2, vR a3, vI p4, .unset] [])) tg := by
      intro tg kt
      refine R194 _ ?_
      show Steps p.tables e below (T193.setTop (mkF m 34 #[vR a1, vR a2, vR a3, vI p4, vI (0 : Int32)] [(.ref b1), (.int (0 : Int32))])) _
      refine X193.arraylength hx (by rw [e193]; exact Ar195.1) (State.isArrayOf_alike hZ.alike Ar195.2.1) (g := (mkF m 34 #[vR a1, vR a2, vR a3, vI p4, vI (0 : Int32)] [(.ref b1), (.int (0 : Int32))])) rfl rfl (hb hby d10_34) _ ?_
      rw [ln195]
      show Steps p.tables e below (T193.setTop (mkF m 35 #[vR a1, vR a2, vR a3, vI p4, vI (0 : Int32)] [(.int (3 : Int32)), (.int (0 : Int32))])) _
      refine XS.icmpNo X193.here hx rfl (hb hby d10_35) rfl (tlt (by decide : (0 : Int32) < (3 : Int32))).2.1 ?_
      refine XS.aloadN X193.here hx rfl (hb hby d10_38) rfl rfl ?_
      refine XS.iloadN X193.here hx rfl (hb hby d10_39) rfl ?_
      show Steps p.tables e below (T193.setTop (mkF m 40 #[vR a1, vR a2, vR a3, vI p4, vI (0 : Int32)] [(.int p4), (.ref a3)])) _
      refine XS.aloadN X193.here hx rfl (hb hby d10_40) rfl rfl ?_
      exact kt
    clear R194
    obtain ⟨T197, X197, e197, st197⟩ := getF X193 hx hZ hown (host := "") (Or.inl (hw _ (List.mem_of_getElem? (i := 28) rfl))) Via.refl e193 Fw_189 (g := (mkF m 41 #[vR a1, vR a2, vR a3, vI p4, vI (0 : Int32)] [(.ref a1), (.int p4), (.ref a3)])) rfl rfl (hb hby d10_41)
    have R198 : ∀ tg, Steps p.tables e below (T197.setTop (mkF m 46 #[vR a1, vR a2, vR a3, vI p4, vI (0 : Int32)] [(.int (0 : Int32)), (.ref b2), (.int p4), (.ref a3)])) tg → Steps p.tables e below (s₁.setTop (mkF m 0 #[vR a1, vR a2, vR a3, vI p4, .unset] [])) tg := by
      intro tg kt
      refine R196 _ ?_
      refine st197 _ ?_
      refine XS.iload X197.here hx rfl (hb hby d10_44) rfl ?_
      exact kt
    clear R196 st197
    obtain ⟨cl199, Ar199, hin199, hat199⟩ := VW_189.at (j := (0 : Int32)) (k := 0) (by decide) rfl (by decide)
    have R200 : ∀ tg, Steps p.tables e below (T197.setTop (mkF m 49 #[vR a1, vR a2, vR a3, vI p4, vI (0 : Int32)] [(.int (p4 + (wd 0))), (.ref a3), (.int (p4 + (wd 0))), (.ref a3)])) tg → Steps p.tables e below (s₁.setTop (mkF m 0 #[vR a1, vR a2, vR a3, vI p4, .unset] [])) tg := by
      intro tg kt
      refine R198 _ ?_
      show Steps p.tables e below (T197.setTop (mkF m 46 #[vR a1, vR a2, vR a3, vI p4, vI (0 : Int32)] [(.int (0 : Int32)), (.ref b2), (.int p4), (.ref a3)])) _
      refine X197.iaload hx (j := (0 : Int32)) (v := (.int (wd 0))) (by rw [e197]; exact Ar199.1) (State.isArrayOf_alike hZ.alike Ar199.2.1) Ar199.2.2 hin199 hat199 (g := (mkF m 46 #[vR a1, vR a2, vR a3, vI p4, vI (0 : Int32)] [(.int (0 : Int32)), (.ref b2), (.int p4), (.ref a3)])) rfl rfl (hb hby d10_46) _ ?_
      show Steps p.tables e below (T197.setTop (mkF m 47 #[vR a1, vR a2, vR a3, vI p4, vI (0 : Int32)] [(.int (wd 0)), (.int p4), (.ref a3)])) _
      refine XS.iadd X197.here hx rfl (hb hby d10_47) rfl ?_
      show Steps p.tables e below (T197.setTop (mkF m 48 #[vR a1, vR a2, vR a3, vI p4, vI (0 : Int32)] [(.int (p4 + (wd 0))), (.ref a3)])) _
      jvm_step X197.here [X197.here.top, hx, (hb hby d10_48), Value.category]
      exact kt
    clear R198
    have r1_0 := own_ix p4 (wd 0) o (wn 0) NN ho c0 (Nat.lt_of_lt_of_le (Nat.add_lt_add_left d0 o) hnn) h8
    obtain ⟨cl201, Ar201, hin201, hat201⟩ := VK0_1.at (j := (p4 + (wd 0))) (k := (o + wn 0)) r1_0.1 r1_0.2 (Nat.lt_of_lt_of_le (Nat.add_lt_add_left d0 o) hnn)
    have R202 : ∀ tg, Steps p.tables e below (T197.setTop (mkF m 53 #[vR a1, vR a2, vR a3, vI p4, vI (0 : Int32)] [(.int (0 : Int32)), (.ref a2), (.long ((own_zero fk o nw) (o + wn 0))), (.int (p4 + (wd 0))), (.ref a3)])) tg → Steps p.tables e below (s₁.setTop (mkF m 0 #[vR a1, vR a2, vR a3, vI p4, .unset] [])) tg := by
      intro tg kt
      refine R200 _ ?_
      show Steps p.tables e below (T197.setTop (mkF m 49 #[vR a1, vR a2, vR a3, vI p4, vI (0 : Int32)] [(.int (p4 + (wd 0))), (.ref a3), (.int (p4 + (wd 0))), (.ref a3)])) _
      refine X197.laload hx (j := (p4 + (wd 0))) (v := (.long ((own_zero fk o nw) (o + wn 0)))) (by rw [e197]; exact Ar201.1) (State.isArrayOf_alike hZ.alike Ar201.2.1) Ar201.2.2 hin201 hat201 (g := (mkF m 49 #[vR a1, vR a2, vR a3, vI p4, vI (0 : Int32)] [(.int (p4 + (wd 0))), (.ref a3), (.int (p4 + (wd 0))), (.ref a3)])) rfl rfl (hb hby d10_49) _ ?_
      refine XS.aloadN X197.here hx rfl (hb hby d10_50) rfl rfl ?_
      refine XS.iload X197.here hx rfl (hb hby d10_51) rfl ?_
      exact kt
    clear R200
    obtain ⟨cl203, Ar203, hin203, hat203⟩ := VV_189.at (j := (0 : Int32)) (k := 0) (by decide) rfl (by decide)
    have R204 : ∀ tg, Steps p.tables e below (T197.setTop (mkF m 56 #[vR a1, vR a2, vR a3, vI p4, vI (0 : Int32)] [(.ref a1), (.long ((val 0).toInt64)), (.long ((own_zero fk o nw) (o + wn 0))), (.int (p4 + (wd 0))), (.ref a3)])) tg → Steps p.tables e below (s₁.setTop (mkF m 0 #[vR a1, vR a2, vR a3, vI p4, .unset] [])) tg := by
      intro tg kt
      refine R202 _ ?_
      show Steps p.tables e below (T197.setTop (mkF m 53 #[vR a1, vR a2, vR a3, vI p4, vI (0 : Int32)] [(.int (0 : Int32)), (.ref a2), (.long ((own_zero fk o nw) (o + wn 0))), (.int (p4 + (wd 0))), (.ref a3)])) _
      refine X197.iaload hx (j := (0 : Int32)) (v := (.int (val 0))) (by rw [e197]; exact Ar203.1) (State.isArrayOf_alike hZ.alike Ar203.2.1) Ar203.2.2 hin203 hat203 (g := (mkF m 53 #[vR a1, vR a2, vR a3, vI p4, vI (0 : Int32)] [(.int (0 : Int32)), (.ref a2), (.long ((own_zero fk o nw) (o + wn 0))), (.int (p4 + (wd 0))), (.ref a3)])) rfl rfl (hb hby d10_53) _ ?_
      show Steps p.tables e below (T197.setTop (mkF m 54 #[vR a1, vR a2, vR a3, vI p4, vI (0 : Int32)] [(.int (val 0)), (.long ((own_zero fk o nw) (o + wn 0))), (.int (p4 + (wd 0))), (.ref a3)])) _
      refine XS.i2l X197.here hx rfl (hb hby d10_54) rfl ?_
      refine XS.aloadN X197.here hx rfl (hb hby d10_55) rfl rfl ?_
      exact kt
    clear R202
    obtain ⟨T205, X205, e205, st205⟩ := getF X197 hx hZ hown (host := "") (Or.inl (hw _ (List.mem_of_getElem? (i := 26) rfl))) Via.refl e197 Fl_189 (g := (mkF m 56 #[vR a1, vR a2, vR a3, vI p4, vI (0 : Int32)] [(.ref a1), (.long ((val 0).toInt64)), (.long ((own_zero fk o nw) (o + wn 0))), (.int (p4 + (wd 0))), (.ref a3)])) rfl rfl (hb hby d10_56)
    have R206 : ∀ tg, Steps p.tables e below (T205.setTop (mkF m 61 #[vR a1, vR a2, vR a3, vI p4, vI (0 : Int32)] [(.int (0 : Int32)), (.ref b1), (.long ((val 0).toInt64)), (.long ((own_zero fk o nw) (o + wn 0))), (.int (p4 + (wd 0))), (.ref a3)])) tg → Steps p.tables e below (s₁.setTop (mkF m 0 #[vR a1, vR a2, vR a3, vI p4, .unset] [])) tg := by
      intro tg kt
      refine R204 _ ?_
      refine st205 _ ?_
      refine XS.iload X205.here hx rfl (hb hby d10_59) rfl ?_
      exact kt
    clear R204 st205
    obtain ⟨cl207, Ar207, hin207, hat207⟩ := VL_189.at (j := (0 : Int32)) (k := 0) (by decide) rfl (by decide)
    have R208 : ∀ tg, Steps p.tables e below (T205.setTop (mkF m 65 #[vR a1, vR a2, vR a3, vI p4, vI (0 : Int32)] [(.ref a1), (.long (((val 0).toInt64) - ((lo 0).toInt64))), (.long ((own_zero fk o nw) (o + wn 0))), (.int (p4 + (wd 0))), (.ref a3)])) tg → Steps p.tables e below (s₁.setTop (mkF m 0 #[vR a1, vR a2, vR a3, vI p4, .unset] [])) tg := by
      intro tg kt
      refine R206 _ ?_
      show Steps p.tables e below (T205.setTop (mkF m 61 #[vR a1, vR a2, vR a3, vI p4, vI (0 : Int32)] [(.int (0 : Int32)), (.ref b1), (.long ((val 0).toInt64)), (.long ((own_zero fk o nw) (o + wn 0))), (.int (p4 + (wd 0))), (.ref a3)])) _
      refine X205.iaload hx (j := (0 : Int32)) (v := (.int (lo 0))) (by rw [e205]; exact Ar207.1) (State.isArrayOf_alike hZ.alike Ar207.2.1) Ar207.2.2 hin207 hat207 (g := (mkF m 61 #[vR a1, vR a2, vR a3, vI p4, vI (0 : Int32)] [(.int (0 : Int32)), (.ref b1), (.long ((val 0).toInt64)), (.long ((own_zero fk o nw) (o + wn 0))), (.int (p4 + (wd 0))), (.ref a3)])) rfl rfl (hb hby d10_61) _ ?_
      show Steps p.tables e below (T205.setTop (mkF m 62 #[vR a1, vR a2, vR a3, vI p4, vI (0 : Int32)] [(.int (lo 0)), (.long ((val 0).toInt64)), (.long ((own_zero fk o nw) (o + wn 0))), (.int (p4 + (wd 0))), (.ref a3)])) _
      refine XS.i2l X205.here hx rfl (hb hby d10_62) rfl ?_
      show Steps p.tables e below (T205.setTop (mkF m 63 #[vR a1, vR a2, vR a3, vI p4, vI (0 : Int32)] [(.long ((lo 0).toInt64)), (.long ((val 0).toInt64)), (.long ((own_zero fk o nw) (o + wn 0))), (.int (p4 + (wd 0))), (.ref a3)])) _
      refine XS.lsub X205.here hx rfl (hb hby d10_63) rfl ?_
      refine XS.aloadN X205.here hx rfl (hb hby d10_64) rfl rfl ?_
      exact kt
    clear R206
    obtain ⟨T209, X209, e209, st209⟩ := getF X205 hx hZ hown (host := "") (Or.inl (hw _ (List.mem_of_getElem? (i := 30) rfl))) Via.refl e205 Fs_189 (g := (mkF m 65 #[vR a1, vR a2, vR a3, vI p4, vI (0 : Int32)] [(.ref a1), (.long (((val 0).toInt64) - ((lo 0).toInt64))), (.long ((own_zero fk o nw) (o + wn 0))), (.int (p4 + (wd 0))), (.ref a3)])) rfl rfl (hb hby d10_65)
    have R210 : ∀ tg, Steps p.tables e below (T209.setTop (mkF m 70 #[vR a1, vR a2, vR a3, vI p4, vI (0 : Int32)] [(.int (0 : Int32)), (.ref b3), (.long (((val 0).toInt64) - ((lo 0).toInt64))), (.long ((own_zero fk o nw) (o + wn 0))), (.int (p4 + (wd 0))), (.ref a3)])) tg → Steps p.tables e below (s₁.setTop (mkF m 0 #[vR a1, vR a2, vR a3, vI p4, .unset] [])) tg := by
      intro tg kt
      refine R208 _ ?_
      refine st209 _ ?_
      refine XS.iload X209.here hx rfl (hb hby d10_68) rfl ?_
      exact kt
    clear R208 st209
    obtain ⟨cl211, Ar211, hin211, hat211⟩ := VS_189.at (j := (0 : Int32)) (k := 0) (by decide) rfl (by decide)
    have R212 : ∀ tg, Steps p.tables e below (T209.setTop (mkF m 73 #[vR a1, vR a2, vR a3, vI p4, vI (0 : Int32)] [(.long (((own_zero fk o nw) (o + wn 0)) ||| ((((val 0).toInt64) - ((lo 0).toInt64)) <<< ((sh 0) &&& 0x3f).toInt64))), (.int (p4 + (wd 0))), (.ref a3)])) tg → Steps p.tables e below (s₁.setTop (mkF m 0 #[vR a1, vR a2, vR a3, vI p4, .unset] [])) tg := by
      intro tg kt
      refine R210 _ ?_
      show Steps p.tables e below (T209.setTop (mkF m 70 #[vR a1, vR a2, vR a3, vI p4, vI (0 : Int32)] [(.int (0 : Int32)), (.ref b3), (.long (((val 0).toInt64) - ((lo 0).toInt64))), (.long ((own_zero fk o nw) (o + wn 0))), (.int (p4 + (wd 0))), (.ref a3)])) _
      refine X209.iaload hx (j := (0 : Int32)) (v := (.int (sh 0))) (by rw [e209]; exact Ar211.1) (State.isArrayOf_alike hZ.alike Ar211.2.1) Ar211.2.2 hin211 hat211 (g := (mkF m 70 #[vR a1, vR a2, vR a3, vI p4, vI (0 : Int32)] [(.int (0 : Int32)), (.ref b3), (.long (((val 0).toInt64) - ((lo 0).toInt64))), (.long ((own_zero fk o nw) (o + wn 0))), (.int (p4 + (wd 0))), (.ref a3)])) rfl rfl (hb hby d10_70) _ ?_
      show Steps p.tables e below (T209.setTop (mkF m 71 #[vR a1, vR a2, vR a3, vI p4, vI (0 : Int32)] [(.int (sh 0)), (.long (((val 0).toInt64) - ((lo 0).toInt64))), (.long ((own_zero fk o nw) (o + wn 0))), (.int (p4 + (wd 0))), (.ref a3)])) _
      refine XS.lshl X209.here hx rfl (hb hby d10_71) rfl ?_
      show Steps p.tables e below (T209.setTop (mkF m 72 #[vR a1, vR a2, vR a3, vI p4, vI (0 : Int32)] [(.long ((((val 0).toInt64) - ((lo 0).toInt64)) <<< ((sh 0) &&& 0x3f).toInt64)), (.long ((own_zero fk o nw) (o + wn 0))), (.int (p4 + (wd 0))), (.ref a3)])) _
      refine XS.lor X209.here hx rfl (hb hby d10_72) rfl ?_
      exact kt
    clear R210
    obtain ⟨cl213, Ar213, hin213, -⟩ := VK0_1.at (j := (p4 + (wd 0))) (k := (o + wn 0)) r1_0.1 r1_0.2 (Nat.lt_of_lt_of_le (Nat.add_lt_add_left d0 o) hnn)
    obtain ⟨T214, h214, X214, e214, W214, st214⟩ := stJ X209 hx hZ e209 Ar213 (j := (p4 + (wd 0))) hin213 (g := (mkF m 73 #[vR a1, vR a2, vR a3, vI p4, vI (0 : Int32)] [(.long (((own_zero fk o nw) (o + wn 0)) ||| ((((val 0).toInt64) - ((lo 0).toInt64)) <<< ((sh 0) &&& 0x3f).toInt64))), (.int (p4 + (wd 0))), (.ref a3)])) rfl rfl (hb hby d10_73)
    have N214 := Fr.snoc X214 N189 ga
    rw [show ((p4 + (wd 0)) : Int32).toNatClampNeg = (o + wn 0) from r1_0.2] at W214
    have VK_214 : AV Z h214 a3 .long NN (fun j => .long ((own_or (own_zero fk o nw) (o + wn 0) (own_shl (own_dd lo val 0) (sh 0))) j)) := VK0_1.setJ W214
    have Fl_214 := Fl_189.other W214 (Or.inl m1)
    have Fw_214 := Fw_189.other W214 (Or.inl m1)
    have Fs_214 := Fs_189.other W214 (Or.inl m1)
    have Fc_214 := Fc_189.other W214 (Or.inl m1)
    have VL_214 := VL_189.other W214 m3
    have VW_214 := VW_189.other W214 m4
    have VS_214 := VS_189.other W214 m5
    have VV_214 := VV_189.other W214 m2
    clear Fl_189 Fw_189 Fs_189 Fc_189 VL_189 VW_189 VS_189 VV_189
    have Zs214 : n0 ≤ h214.size := Nat.le_trans Zs189 (Keep.of_wr W214).1
    have Kw214 : Keep h0 h214 [a3] := Keep.wr Kw189 W214 (Or.inl (List.mem_of_getElem? (i := 0) rfl))
    have R215 : ∀ tg, Steps p.tables e below (T214.setTop (mkF m 31 #[vR a1, vR a2, vR a3, vI p4, vI ((0 : Int32) + (1 : Int32))] [(.ref a1), (.int ((0 : Int32) + (1 : Int32)))])) tg → Steps p.tables e below (s₁.setTop (mkF m 0 #[vR a1, vR a2, vR a3, vI p4, .unset] [])) tg := by
      intro tg kt
      refine R212 _ ?_
      refine st214 _ ?_
      show Steps p.tables e below (T214.setTop (mkF m 74 #[vR a1, vR a2, vR a3, vI p4, vI (0 : Int32)] [])) _
      refine XS.iinc X214.here hx rfl (hb hby d10_74) rfl (l' := #[vR a1, vR a2, vR a3, vI p4, vI ((0 : Int32) + (1 : Int32))]) rfl ?_
      show Steps p.tables e below (T214.setTop (mkF m 77 #[vR a1, vR a2, vR a3, vI p4, vI ((0 : Int32) + (1 : Int32))] [])) _
      refine XS.goto X214.here hx rfl (pc0 := 77) (pc' := 28) rfl (hb hby d10_77) (by decide) (by decide) ?_
      refine XS.iload X214.here hx rfl (hb hby d10_28) rfl ?_
      refine XS.aloadN X214.here hx rfl (hb hby d10_30) rfl rfl ?_
      exact kt
    clear R212 st214
    obtain ⟨T216, X216, e216, st216⟩ := getF X214 hx hZ hown (host := "") (Or.inl (hw _ (List.mem_of_getElem? (i := 26) rfl))) Via.refl e214 Fl_214 (g := (mkF m 31 #[vR a1, vR a2, vR a3, vI p4, vI ((0 : Int32) + (1 : Int32))] [(.ref a1), (.int ((0 : Int32) + (1 : Int32)))])) rfl rfl (hb hby d10_31)
    have R217 : ∀ tg, Steps p.tables e below (T216.setTop (mkF m 34 #[vR a1, vR a2, vR a3, vI p4, vI ((0 : Int32) + (1 : Int32))] [(.ref b1), (.int ((0 : Int32) + (1 : Int32)))])) tg → Steps p.tables e below (s₁.setTop (mkF m 0 #[vR a1, vR a2, vR a3, vI p4, .unset] [])) tg := by
      intro tg kt
      refine R215 _ ?_
      refine st216 _ ?_
      exact kt
    clear R215 st216
    obtain ⟨cl218, Ar218, ln218⟩ := VL_214.len
    have R219 : ∀ tg, Steps p.tables e below (T216.setTop (mkF m 41 #[vR a1, vR a2, vR a3, vI p4, vI ((0 : Int32) + (1 : Int32))] [(.ref a1), (.int p4), (.ref a3)])) tg → Steps p.tables e below (s₁.setTop (mkF m 0 #[vR a1, vR a2, vR a3, vI p4, .unset] [])) tg := by
      intro tg kt
      refine R217 _ ?_
      show Steps p.tables e below (T216.setTop (mkF m 34 #[vR a1, vR a2, vR a3, vI p4, vI ((0 : Int32) + (1 : Int32))] [(.ref b1), (.int ((0 : Int32) + (1 : Int32)))])) _
      refine X216.arraylength hx (by rw [e216]; exact Ar218.1) (State.isArrayOf_alike hZ.alike Ar218.2.1) (g := (mkF m 34 #[vR a1, vR a2, vR a3, vI p4, vI ((0 : Int32) + (1 : Int32))] [(.ref b1), (.int ((0 : Int32) + (1 : Int32)))])) rfl rfl (hb hby d10_34) _ ?_
      rw [ln218]
      show Steps p.tables e below (T216.setTop (mkF m 35 #[vR a1, vR a2, vR a3, vI p4, vI ((0 : Int32) + (1 : Int32))] [(.int (3 : Int32)), (.int ((0 : Int32) + (1 : Int32)))])) _
      refine XS.icmpNo X216.here hx rfl (hb hby d10_35) rfl (tlt (by decide : ((0 : Int32) + (1 : Int32)) < (3 : Int32))).2.1 ?_
      refine XS.aloadN X216.here hx rfl (hb hby d10_38) rfl rfl ?_
      refine XS.iloadN X216.here hx rfl (hb hby d10_39) rfl ?_
      show Steps p.tables e below (T216.setTop (mkF m 40 #[vR a1, vR a2, vR a3, vI p4, vI ((0 : Int32) + (1 : Int32))] [(.int p4), (.ref a3)])) _
      refine XS.aloadN X216.here hx rfl (hb hby d10_40) rfl rfl ?_
      exact kt
    clear R217
    obtain ⟨T220, X220, e220, st220⟩ := getF X216 hx hZ hown (host := "") (Or.inl (hw _ (List.mem_of_getElem? (i := 28) rfl))) Via.refl e216 Fw_214 (g := (mkF m 41 #[vR a1, vR a2, vR a3, vI p4, vI ((0 : Int32) + (1 : Int32))] [(.ref a1), (.int p4), (.ref a3)])) rfl rfl (hb hby d10_41)
    have R221 : ∀ tg, Steps p.tables e below (T220.setTop (mkF m 46 #[vR a1, vR a2, vR a3, vI p4, vI ((0 : Int32) + (1 : Int32))] [(.int ((0 : Int32) + (1 : Int32))), (.ref b2), (.int p4), (.ref a3)])) tg → Steps p.tables e below (s₁.setTop (mkF m 0 #[vR a1, vR a2, vR a3, vI p4, .unset] [])) tg := by
      intro tg kt
      refine R219 _ ?_
      refine st220 _ ?_
      refine XS.iload X220.here hx rfl (hb hby d10_44) rfl ?_
      exact kt
    clear R219 st220
    obtain ⟨cl222, Ar222, hin222, hat222⟩ := VW_214.at (j := ((0 : Int32) + (1 : Int32))) (k := 1) (by decide) rfl (by decide)
    have R223 : ∀ tg, Steps p.tables e below (T220.setTop (mkF m 49 #[vR a1, vR a2, vR a3, vI p4, vI ((0 : Int32) + (1 : Int32))] [(.int (p4 + (wd 1))), (.ref a3), (.int (p4 + (wd 1))), (.ref a3)])) tg → Steps p.tables e below (s₁.setTop (mkF m 0 #[vR a1, vR a2, vR a3, vI p4, .unset] [])) tg := by
      intro tg kt
      refine R221 _ ?_
      show Steps p.tables e below (T220.setTop (mkF m 46 #[vR a1, vR a2, vR a3, vI p4, vI ((0 : Int32) + (1 : Int32))] [(.int ((0 : Int32) + (1 : Int32))), (.ref b2), (.int p4), (.ref a3)])) _
      refine X220.iaload hx (j := ((0 : Int32) + (1 : Int32))) (v := (.int (wd 1))) (by rw [e220]; exact Ar222.1) (State.isArrayOf_alike hZ.alike Ar222.2.1) Ar222.2.2 hin222 hat222 (g := (mkF m 46 #[vR a1, vR a2, vR a3, vI p4, vI ((0 : Int32) + (1 : Int32))] [(.int ((0 : Int32) + (1 : Int32))), (.ref b2), (.int p4), (.ref a3)])) rfl rfl (hb hby d10_46) _ ?_
      show Steps p.tables e below (T220.setTop (mkF m 47 #[vR a1, vR a2, vR a3, vI p4, vI ((0 : Int32) + (1 : Int32))] [(.int (wd 1)), (.int p4), (.ref a3)])) _
      refine XS.iadd X220.here hx rfl (hb hby d10_47) rfl ?_
      show Steps p.tables e below (T220.setTop (mkF m 48 #[vR a1, vR a2, vR a3, vI p4, vI ((0 : Int32) + (1 : Int32))] [(.int (p4 + (wd 1))), (.ref a3)])) _
      jvm_step X220.here [X220.here.top, hx, (hb hby d10_48), Value.category]
      exact kt
    clear R221
    have r1_1 := own_ix p4 (wd 1) o (wn 1) NN ho c1 (Nat.lt_of_lt_of_le (Nat.add_lt_add_left d1 o) hnn) h8
    obtain ⟨cl224, Ar224, hin224, hat224⟩ := VK_214.at (j := (p4 + (wd 1))) (k := (o + wn 1)) r1_1.1 r1_1.2 (Nat.lt_of_lt_of_le (Nat.add_lt_add_left d1 o) hnn)
    have R225 : ∀ tg, Steps p.tables e below (T220.setTop (mkF m 53 #[vR a1, vR a2, vR a3, vI p4, vI ((0 : Int32) + (1 : Int32))] [(.int ((0 : Int32) + (1 : Int32))), (.ref a2), (.long ((own_or (own_zero fk o nw) (o + wn 0) (own_shl (own_dd lo val 0) (sh 0))) (o + wn 1))), (.int (p4 + (wd 1))), (.ref a3)])) tg → Steps p.tables e below (s₁.setTop (mkF m 0 #[vR a1, vR a2, vR a3, vI p4, .unset] [])) tg := by
      intro tg kt
      refine R223 _ ?_
      show Steps p.tables e below (T220.setTop (mkF m 49 #[vR a1, vR a2, vR a3, vI p4, vI ((0 : Int32) + (1 : Int32))] [(.int (p4 + (wd 1))), (.ref a3), (.int (p4 + (wd 1))), (.ref a3)])) _
      refine X220.laload hx (j := (p4 + (wd 1))) (v := (.long ((own_or (own_zero fk o nw) (o + wn 0) (own_shl (own_dd lo val 0) (sh 0))) (o + wn 1)))) (by rw [e220]; exact Ar224.1) (State.isArrayOf_alike hZ.alike Ar224.2.1) Ar224.2.2 hin224 hat224 (g := (mkF m 49 #[vR a1, vR a2, vR a3, vI p4, vI ((0 : Int32) + (1 : Int32))] [(.int (p4 + (wd 1))), (.ref a3), (.int (p4 + (wd 1))), (.ref a3)])) rfl rfl (hb hby d10_49) _ ?_
      refine XS.aloadN X220.here hx rfl (hb hby d10_50) rfl rfl ?_
      refine XS.iload X220.here hx rfl (hb hby d10_51) rfl ?_
      exact kt
    clear R223
    obtain ⟨cl226, Ar226, hin226, hat226⟩ := VV_214.at (j := ((0 : Int32) + (1 : Int32))) (k := 1) (by decide) rfl (by decide)
    have R227 : ∀ tg, Steps p.tables e below (T220.setTop (mkF m 56 #[vR a1, vR a2, vR a3, vI p4, vI ((0 : Int32) + (1 : Int32))] [(.ref a1), (.long ((val 1).toInt64)), (.long ((own_or (own_zero fk o nw) (o + wn 0) (own_shl (own_dd lo val 0) (sh 0))) (o + wn 1))), (.int (p4 + (wd 1))), (.ref a3)])) tg → Steps p.tables e below (s₁.setTop (mkF m 0 #[vR a1, vR a2, vR a3, vI p4, .unset] [])) tg := by
      intro tg kt
      refine R225 _ ?_
      show Steps p.tables e below (T220.setTop (mkF m 53 #[vR a1, vR a2, vR a3, vI p4, vI ((0 : Int32) + (1 : Int32))] [(.int ((0 : Int32) + (1 : Int32))), (.ref a2), (.long ((own_or (own_zero fk o nw) (o + wn 0) (own_shl (own_dd lo val 0) (sh 0))) (o + wn 1))), (.int (p4 + (wd 1))), (.ref a3)])) _
      refine X220.iaload hx (j := ((0 : Int32) + (1 : Int32))) (v := (.int (val 1))) (by rw [e220]; exact Ar226.1) (State.isArrayOf_alike hZ.alike Ar226.2.1) Ar226.2.2 hin226 hat226 (g := (mkF m 53 #[vR a1, vR a2, vR a3, vI p4, vI ((0 : Int32) + (1 : Int32))] [(.int ((0 : Int32) + (1 : Int32))), (.ref a2), (.long ((own_or (own_zero fk o nw) (o + wn 0) (own_shl (own_dd lo val 0) (sh 0))) (o + wn 1))), (.int (p4 + (wd 1))), (.ref a3)])) rfl rfl (hb hby d10_53) _ ?_
      show Steps p.tables e below (T220.setTop (mkF m 54 #[vR a1, vR a2, vR a3, vI p4, vI ((0 : Int32) + (1 : Int32))] [(.int (val 1)), (.long ((own_or (own_zero fk o nw) (o + wn 0) (own_shl (own_dd lo val 0) (sh 0))) (o + wn 1))), (.int (p4 + (wd 1))), (.ref a3)])) _
      refine XS.i2l X220.here hx rfl (hb hby d10_54) rfl ?_
      refine XS.aloadN X220.here hx rfl (hb hby d10_55) rfl rfl ?_
      exact kt
    clear R225
    obtain ⟨T228, X228, e228, st228⟩ := getF X220 hx hZ hown (host := "") (Or.inl (hw _ (List.mem_of_getElem? (i := 26) rfl))) Via.refl e220 Fl_214 (g := (mkF m 56 #[vR a1, vR a2, vR a3, vI p4, vI ((0 : Int32) + (1 : Int32))] [(.ref a1), (.long ((val 1).toInt64)), (.long ((own_or (own_zero fk o nw) (o + wn 0) (own_shl (own_dd lo val 0) (sh 0))) (o + wn 1))), (.int (p4 + (wd 1))), (.ref a3)])) rfl rfl (hb hby d10_56)
    have R229 : ∀ tg, Steps p.tables e below (T228.setTop (mkF m 61 #[vR a1, vR a2, vR a3, vI p4, vI ((0 : Int32) + (1 : Int32))] [(.int ((0 : Int32) + (1 : Int32))), (.ref b1), (.long ((val 1).toInt64)), (.long ((own_or (own_zero fk o nw) (o + wn 0) (own_shl (own_dd lo val 0) (sh 0))) (o + wn 1))), (.int (p4 + (wd 1))), (.ref a3)])) tg → Steps p.tables e below (s₁.setTop (mkF m 0 #[vR a1, vR a2, vR a3, vI p4, .unset] [])) tg := by
      intro tg kt
      refine R227 _ ?_
      refine st228 _ ?_
      refine XS.iload X228.here hx rfl (hb hby d10_59) rfl ?_
      exact kt
    clear R227 st228
    obtain ⟨cl230, Ar230, hin230, hat230⟩ := VL_214.at (j := ((0 : Int32) + (1 : Int32))) (k := 1) (by decide) rfl (by decide)
    have R231 : ∀ tg, Steps p.tables e below (T228.setTop (mkF m 65 #[vR a1, vR a2, vR a3, vI p4, vI ((0 : Int32) + (1 : Int32))] [(.ref a1), (.long (((val 1).toInt64) - ((lo 1).toInt64))), (.long ((own_or (own_zero fk o nw) (o + wn 0) (own_shl (own_dd lo val 0) (sh 0))) (o + wn 1))), (.int (p4 + (wd 1))), (.ref a3)])) tg → Steps p.tables e below (s₁.setTop (mkF m 0 #[vR a1, vR a2, vR a3, vI p4, .unset] [])) tg := by
      intro tg kt
      refine R229 _ ?_
      show Steps p.tables e below (T228.setTop (mkF m 61 #[vR a1, vR a2, vR a3, vI p4, vI ((0 : Int32) + (1 : Int32))] [(.int ((0 : Int32) + (1 : Int32))), (.ref b1), (.long ((val 1).toInt64)), (.long ((own_or (own_zero fk o nw) (o + wn 0) (own_shl (own_dd lo val 0) (sh 0))) (o + wn 1))), (.int (p4 + (wd 1))), (.ref a3)])) _
      refine X228.iaload hx (j := ((0 : Int32) + (1 : Int32))) (v := (.int (lo 1))) (by rw [e228]; exact Ar230.1) (State.isArrayOf_alike hZ.alike Ar230.2.1) Ar230.2.2 hin230 hat230 (g := (mkF m 61 #[vR a1, vR a2, vR a3, vI p4, vI ((0 : Int32) + (1 : Int32))] [(.int ((0 : Int32) + (1 : Int32))), (.ref b1), (.long ((val 1).toInt64)), (.long ((own_or (own_zero fk o nw) (o + wn 0) (own_shl (own_dd lo val 0) (sh 0))) (o + wn 1))), (.int (p4 + (wd 1))), (.ref a3)])) rfl rfl (hb hby d10_61) _ ?_
      show Steps p.tables e below (T228.setTop (mkF m 62 #[vR a1, vR a2, vR a3, vI p4, vI ((0 : Int32) + (1 : Int32))] [(.int (lo 1)), (.long ((val 1).toInt64)), (.long ((own_or (own_zero fk o nw) (o + wn 0) (own_shl (own_dd lo val 0) (sh 0))) (o + wn 1))), (.int (p4 + (wd 1))), (.ref a3)])) _
      refine XS.i2l X228.here hx rfl (hb hby d10_62) rfl ?_
      show Steps p.tables e below (T228.setTop (mkF m 63 #[vR a1, vR a2, vR a3, vI p4, vI ((0 : Int32) + (1 : Int32))] [(.long ((lo 1).toInt64)), (.long ((val 1).toInt64)), (.long ((own_or (own_zero fk o nw) (o + wn 0) (own_shl (own_dd lo val 0) (sh 0))) (o + wn 1))), (.int (p4 + (wd 1))), (.ref a3)])) _
      refine XS.lsub X228.here hx rfl (hb hby d10_63) rfl ?_
      refine XS.aloadN X228.here hx rfl (hb hby d10_64) rfl rfl ?_
      exact kt
    clear R229
    obtain ⟨T232, X232, e232, st232⟩ := getF X228 hx hZ hown (host := "") (Or.inl (hw _ (List.mem_of_getElem? (i := 30) rfl))) Via.refl e228 Fs_214 (g := (mkF m 65 #[vR a1, vR a2, vR a3, vI p4, vI ((0 : Int32) + (1 : Int32))] [(.ref a1), (.long (((val 1).toInt64) - ((lo 1).toInt64))), (.long ((own_or (own_zero fk o nw) (o + wn 0) (own_shl (own_dd lo val 0) (sh 0))) (o + wn 1))), (.int (p4 + (wd 1))), (.ref a3)])) rfl rfl (hb hby d10_65)
    have R233 : ∀ tg, Steps p.tables e below (T232.setTop (mkF m 70 #[vR a1, vR a2, vR a3, vI p4, vI ((0 : Int32) + (1 : Int32))] [(.int ((0 : Int32) + (1 : Int32))), (.ref b3), (.long (((val 1).toInt64) - ((lo 1).toInt64))), (.long ((own_or (own_zero fk o nw) (o + wn 0) (own_shl (own_dd lo val 0) (sh 0))) (o + wn 1))), (.int (p4 + (wd 1))), (.ref a3)])) tg → Steps p.tables e below (s₁.setTop (mkF m 0 #[vR a1, vR a2, vR a3, vI p4, .unset] [])) tg := by
      intro tg kt
      refine R231 _ ?_
      refine st232 _ ?_
      refine XS.iload X232.here hx rfl (hb hby d10_68) rfl ?_
      exact kt
    clear R231 st232
    obtain ⟨cl234, Ar234, hin234, hat234⟩ := VS_214.at (j := ((0 : Int32) + (1 : Int32))) (k := 1) (by decide) rfl (by decide)
    have R235 : ∀ tg, Steps p.tables e below (T232.setTop (mkF m 73 #[vR a1, vR a2, vR a3, vI p4, vI ((0 : Int32) + (1 : Int32))] [(.long (((own_or (own_zero fk o nw) (o + wn 0) (own_shl (own_dd lo val 0) (sh 0))) (o + wn 1)) ||| ((((val 1).toInt64) - ((lo 1).toInt64)) <<< ((sh 1) &&& 0x3f).toInt64))), (.int (p4 + (wd 1))), (.ref a3)])) tg → Steps p.tables e below (s₁.setTop (mkF m 0 #[vR a1, vR a2, vR a3, vI p4, .unset] [])) tg := by
      intro tg kt
      refine R233 _ ?_
      show Steps p.tables e below (T232.setTop (mkF m 70 #[vR a1, vR a2, vR a3, vI p4, vI ((0 : Int32) + (1 : Int32))] [(.int ((0 : Int32) + (1 : Int32))), (.ref b3), (.long (((val 1).toInt64) - ((lo 1).toInt64))), (.long ((own_or (own_zero fk o nw) (o + wn 0) (own_shl (own_dd lo val 0) (sh 0))) (o + wn 1))), (.int (p4 + (wd 1))), (.ref a3)])) _
      refine X232.iaload hx (j := ((0 : Int32) + (1 : Int32))) (v := (.int (sh 1))) (by rw [e232]; exact Ar234.1) (State.isArrayOf_alike hZ.alike Ar234.2.1) Ar234.2.2 hin234 hat234 (g := (mkF m 70 #[vR a1, vR a2, vR a3, vI p4, vI ((0 : Int32) + (1 : Int32))] [(.int ((0 : Int32) + (1 : Int32))), (.ref b3), (.long (((val 1).toInt64) - ((lo 1).toInt64))), (.long ((own_or (own_zero fk o nw) (o + wn 0) (own_shl (own_dd lo val 0) (sh 0))) (o + wn 1))), (.int (p4 + (wd 1))), (.ref a3)])) rfl rfl (hb hby d10_70) _ ?_
      show Steps p.tables e below (T232.setTop (mkF m 71 #[vR a1, vR a2, vR a3, vI p4, vI ((0 : Int32) + (1 : Int32))] [(.int (sh 1)), (.long (((val 1).toInt64) - ((lo 1).toInt64))), (.long ((own_or (own_zero fk o nw) (o + wn 0) (own_shl (own_dd lo val 0) (sh 0))) (o + wn 1))), (.int (p4 + (wd 1))), (.ref a3)])) _
      refine XS.lshl X232.here hx rfl (hb hby d10_71) rfl ?_
      show Steps p.tables e below (T232.setTop (mkF m 72 #[vR a1, vR a2, vR a3, vI p4, vI ((0 : Int32) + (1 : Int32))] [(.long ((((val 1).toInt64) - ((lo 1).toInt64)) <<< ((sh 1) &&& 0x3f).toInt64)), (.long ((own_or (own_zero fk o nw) (o + wn 0) (own_shl (own_dd lo val 0) (sh 0))) (o + wn 1))), (.int (p4 + (wd 1))), (.ref a3)])) _
      refine XS.lor X232.here hx rfl (hb hby d10_72) rfl ?_
      exact kt
    clear R233
    obtain ⟨cl236, Ar236, hin236, -⟩ := VK_214.at (j := (p4 + (wd 1))) (k := (o + wn 1)) r1_1.1 r1_1.2 (Nat.lt_of_lt_of_le (Nat.add_lt_add_left d1 o) hnn)
    obtain ⟨T237, h237, X237, e237, W237, st237⟩ := stJ X232 hx hZ e232 Ar236 (j := (p4 + (wd 1))) hin236 (g := (mkF m 73 #[vR a1, vR a2, vR a3, vI p4, vI ((0 : Int32) + (1 : Int32))] [(.long (((own_or (own_zero fk o nw) (o + wn 0) (own_shl (own_dd lo val 0) (sh 0))) (o + wn 1)) ||| ((((val 1).toInt64) - ((lo 1).toInt64)) <<< ((sh 1) &&& 0x3f).toInt64))), (.int (p4 + (wd 1))), (.ref a3)])) rfl rfl (hb hby d10_73)
    have N237 := Fr.snoc X237 N214 ga
    rw [show ((p4 + (wd 1)) : Int32).toNatClampNeg = (o + wn 1) from r1_1.2] at W237
    have VK_237 : AV Z h237 a3 .long NN (fun j => .long ((own_or (own_or (own_zero fk o nw) (o + wn 0) (own_shl (own_dd lo val 0) (sh 0))) (o + wn 1) (own_shl (own_dd lo val 1) (sh 1))) j)) := VK_214.setJ W237
    have Fl_237 := Fl_214.other W237 (Or.inl m1)
    have Fw_237 := Fw_214.other W237 (Or.inl m1)
    have Fs_237 := Fs_214.other W237 (Or.inl m1)
    have Fc_237 := Fc_214.other W237 (Or.inl m1)
    have VL_237 := VL_214.other W237 m3
    have VW_237 := VW_214.other W237 m4
    have VS_237 := VS_214.other W237 m5
    have VV_237 := VV_214.other W237 m2
    clear Fl_214 Fw_214 Fs_214 Fc_214 VL_214 VW_214 VS_214 VV_214
    have Zs237 : n0 ≤ h237.size := Nat.le_trans Zs214 (Keep.of_wr W237).1
    have Kw237 : Keep h0 h237 [a3] := Keep.wr Kw214 W237 (Or.inl (List.mem_of_getElem? (i := 0) rfl))
    have R238 : ∀ tg, Steps p.tables e below (T237.setTop (mkF m 31 #[vR a1, vR a2, vR a3, vI p4, vI (((0 : Int32) + (1 : Int32)) + (1 : Int32))] [(.ref a1), (.int (((0 : Int32) + (1 : Int32)) + (1 : Int32)))])) tg → Steps p.tables e below (s₁.setTop (mkF m 0 #[vR a1, vR a2, vR a3, vI p4, .unset] [])) tg := by
      intro tg kt
      refine R235 _ ?_
      refine st237 _ ?_
      show Steps p.tables e below (T237.setTop (mkF m 74 #[vR a1, vR a2, vR a3, vI p4, vI ((0 : Int32) + (1 : Int32))] [])) _
      refine XS.iinc X237.here hx rfl (hb hby d10_74) rfl (l' := #[vR a1, vR a2, vR a3, vI p4, vI (((0 : Int32) + (1 : Int32)) + (1 : Int32))]) rfl ?_
      show Steps p.tables e below (T237.setTop (mkF m 77 #[vR a1, vR a2, vR a3, vI p4, vI (((0 : Int32) + (1 : Int32)) + (1 : Int32))] [])) _
      refine XS.goto X237.here hx rfl (pc0 := 77) (pc' := 28) rfl (hb hby d10_77) (by decide) (by decide) ?_
      refine XS.iload X237.here hx rfl (hb hby d10_28) rfl ?_
      refine XS.aloadN X237.here hx rfl (hb hby d10_30) rfl rfl ?_
      exact kt
    clear R235 st237
    obtain ⟨T239, X239, e239, st239⟩ := getF X237 hx hZ hown (host := "") (Or.inl (hw _ (List.mem_of_getElem? (i := 26) rfl))) Via.refl e237 Fl_237 (g := (mkF m 31 #[vR a1, vR a2, vR a3, vI p4, vI (((0 : Int32) + (1 : Int32)) + (1 : Int32))] [(.ref a1), (.int (((0 : Int32) + (1 : Int32)) + (1 : Int32)))])) rfl rfl (hb hby d10_31)
    have R240 : ∀ tg, Steps p.tables e below (T239.setTop (mkF m 34 #[vR a1, vR a2, vR a3, vI p4, vI (((0 : Int32) + (1 : Int32)) + (1 : Int32))] [(.ref b1), (.int (((0 : Int32) + (1 : Int32)) + (1 : Int32)))])) tg → Steps p.tables e below (s₁.setTop (mkF m 0 #[vR a1, vR a2, vR a3, vI p4, .unset] [])) tg := by
      intro tg kt
      refine R238 _ ?_
      refine st239 _ ?_
      exact kt
    clear R238 st239
    obtain ⟨cl241, Ar241, ln241⟩ := VL_237.len
    have R242 : ∀ tg, Steps p.tables e below (T239.setTop (mkF m 41 #[vR a1, vR a2, vR a3, vI p4, vI (((0 : Int32) + (1 : Int32)) + (1 : Int32))] [(.ref a1), (.int p4), (.ref a3)])) tg → Steps p.tables e below (s₁.setTop (mkF m 0 #[vR a1, vR a2, vR a3, vI p4, .unset] [])) tg := by
      intro tg kt
      refine R240 _ ?_
      show Steps p.tables e below (T239.setTop (mkF m 34 #[vR a1, vR a2, vR a3, vI p4, vI (((0 : Int32) + (1 : Int32)) + (1 : Int32))] [(.ref b1), (.int (((0 : Int32) + (1 : Int32)) + (1 : Int32)))])) _
      refine X239.arraylength hx (by rw [e239]; exact Ar241.1) (State.isArrayOf_alike hZ.alike Ar241.2.1) (g := (mkF m 34 #[vR a1, vR a2, vR a3, vI p4, vI (((0 : Int32) + (1 : Int32)) + (1 : Int32))] [(.ref b1), (.int (((0 : Int32) + (1 : Int32)) + (1 : Int32)))])) rfl rfl (hb hby d10_34) _ ?_
      rw [ln241]
      show Steps p.tables e below (T239.setTop (mkF m 35 #[vR a1, vR a2, vR a3, vI p4, vI (((0 : Int32) + (1 : Int32)) + (1 : Int32))] [(.int (3 : Int32)), (.int (((0 : Int32) + (1 : Int32)) + (1 : Int32)))])) _
      refine XS.icmpNo X239.here hx rfl (hb hby d10_35) rfl (tlt (by decide : (((0 : Int32) + (1 : Int32)) + (1 : Int32)) < (3 : Int32))).2.1 ?_
      refine XS.aloadN X239.here hx rfl (hb hby d10_38) rfl rfl ?_
      refine XS.iloadN X239.here hx rfl (hb hby d10_39) rfl ?_
      show Steps p.tables e below (T239.setTop (mkF m 40 #[vR a1, vR a2, vR a3, vI p4, vI (((0 : Int32) + (1 : Int32)) + (1 : Int32))] [(.int p4), (.ref a3)])) _
      refine XS.aloadN X239.here hx rfl (hb hby d10_40) rfl rfl ?_
      exact kt
    clear R240
    obtain ⟨T243, X243, e243, st243⟩ := getF X239 hx hZ hown (host := "") (Or.inl (hw _ (List.mem_of_getElem? (i := 28) rfl))) Via.refl e239 Fw_237 (g := (mkF m 41 #[vR a1, vR a2, vR a3, vI p4, vI (((0 : Int32) + (1 : Int32)) + (1 : Int32))] [(.ref a1), (.int p4), (.ref a3)])) rfl rfl (hb hby d10_41)
    have R244 : ∀ tg, Steps p.tables e below (T243.setTop (mkF m 46 #[vR a1, vR a2, vR a3, vI p4, vI (((0 : Int32) + (1 : Int32)) + (1 : Int32))] [(.int (((0 : Int32) + (1 : Int32)) + (1 : Int32))), (.ref b2), (.int p4), (.ref a3)])) tg → Steps p.tables e below (s₁.setTop (mkF m 0 #[vR a1, vR a2, vR a3, vI p4, .unset] [])) tg := by
      intro tg kt
      refine R242 _ ?_
      refine st243 _ ?_
      refine XS.iload X243.here hx rfl (hb hby d10_44) rfl ?_
      exact kt
    clear R242 st243
    obtain ⟨cl245, Ar245, hin245, hat245⟩ := VW_237.at (j := (((0 : Int32) + (1 : Int32)) + (1 : Int32))) (k := 2) (by decide) rfl (by decide)
    have R246 : ∀ tg, Steps p.tables e below (T243.setTop (mkF m 49 #[vR a1, vR a2, vR a3, vI p4, vI (((0 : Int32) + (1 : Int32)) + (1 : Int32))] [(.int (p4 + (wd 2))), (.ref a3), (.int (p4 + (wd 2))), (.ref a3)])) tg → Steps p.tables e below (s₁.setTop (mkF m 0 #[vR a1, vR a2, vR a3, vI p4, .unset] [])) tg := by
      intro tg kt
      refine R244 _ ?_
      show Steps p.tables e below (T243.setTop (mkF m 46 #[vR a1, vR a2, vR a3, vI p4, vI (((0 : Int32) + (1 : Int32)) + (1 : Int32))] [(.int (((0 : Int32) + (1 : Int32)) + (1 : Int32))), (.ref b2), (.int p4), (.ref a3)])) _
      refine X243.iaload hx (j := (((0 : Int32) + (1 : Int32)) + (1 : Int32))) (v := (.int (wd 2))) (by rw [e243]; exact Ar245.1) (State.isArrayOf_alike hZ.alike Ar245.2.1) Ar245.2.2 hin245 hat245 (g := (mkF m 46 #[vR a1, vR a2, vR a3, vI p4, vI (((0 : Int32) + (1 : Int32)) + (1 : Int32))] [(.int (((0 : Int32) + (1 : Int32)) + (1 : Int32))), (.ref b2), (.int p4), (.ref a3)])) rfl rfl (hb hby d10_46) _ ?_
      show Steps p.tables e below (T243.setTop (mkF m 47 #[vR a1, vR a2, vR a3, vI p4, vI (((0 : Int32) + (1 : Int32)) + (1 : Int32))] [(.int (wd 2)), (.int p4), (.ref a3)])) _
      refine XS.iadd X243.here hx rfl (hb hby d10_47) rfl ?_
      show Steps p.tables e below (T243.setTop (mkF m 48 #[vR a1, vR a2, vR a3, vI p4, vI (((0 : Int32) + (1 : Int32)) + (1 : Int32))] [(.int (p4 + (wd 2))), (.ref a3)])) _
      jvm_step X243.here [X243.here.top, hx, (hb hby d10_48), Value.category]
      exact kt
    clear R244
    have r1_2 := own_ix p4 (wd 2) o (wn 2) NN ho c2 (Nat.lt_of_lt_of_le (Nat.add_lt_add_left d2 o) hnn) h8
    obtain ⟨cl247, Ar247, hin247, hat247⟩ := VK_237.at (j := (p4 + (wd 2))) (k := (o + wn 2)) r1_2.1 r1_2.2 (Nat.lt_of_lt_of_le (Nat.add_lt_add_left d2 o) hnn)
    have R248 : ∀ tg, Steps p.tables e below (T243.setTop (mkF m 53 #[vR a1, vR a2, vR a3, vI p4, vI (((0 : Int32) + (1 : Int32)) + (1 : Int32))] [(.int (((0 : Int32) + (1 : Int32)) + (1 : Int32))), (.ref a2), (.long ((own_or (own_or (own_zero fk o nw) (o + wn 0) (own_shl (own_dd lo val 0) (sh 0))) (o + wn 1) (own_shl (own_dd lo val 1) (sh 1))) (o + wn 2))), (.int (p4 + (wd 2))), (.ref a3)])) tg → Steps p.tables e below (s₁.setTop (mkF m 0 #[vR a1, vR a2, vR a3, vI p4, .unset] [])) tg := by
      intro tg kt
      refine R246 _ ?_
      show Steps p.tables e below (T243.setTop (mkF m 49 #[vR a1, vR a2, vR a3, vI p4, vI (((0 : Int32) + (1 : Int32)) + (1 : Int32))] [(.int (p4 + (wd 2))), (.ref a3), (.int (p4 + (wd 2))), (.ref a3)])) _
      refine X243.laload hx (j := (p4 + (wd 2))) (v := (.long ((own_or (own_or (own_zero fk o nw) (o + wn 0) (own_shl (own_dd lo val 0) (sh 0))) (o + wn 1) (own_shl (own_dd lo val 1) (sh 1))) (o + wn 2)))) (by rw [e243]; exact Ar247.1) (State.isArrayOf_alike hZ.alike Ar247.2.1) Ar247.2.2 hin247 hat247 (g := (mkF m 49 #[vR a1, vR a2, vR a3, vI p4, vI (((0 : Int32) + (1 : Int32)) + (1 : Int32))] [(.int (p4 + (wd 2))), (.ref a3), (.int (p4 + (wd 2))), (.ref a3)])) rfl rfl (hb hby d10_49) _ ?_
      refine XS.aloadN X243.here hx rfl (hb hby d10_50) rfl rfl ?_
      refine XS.iload X243.here hx rfl (hb hby d10_51) rfl ?_
      exact kt
    clear R246
    obtain ⟨cl249, Ar249, hin249, hat249⟩ := VV_237.at (j := (((0 : Int32) + (1 : Int32)) + (1 : Int32))) (k := 2) (by decide) rfl (by decide)
    have R250 : ∀ tg, Steps p.tables e below (T243.setTop (mkF m 56 #[vR a1, vR a2, vR a3, vI p4, vI (((0 : Int32) + (1 : Int32)) + (1 : Int32))] [(.ref a1), (.long ((val 2).toInt64)), (.long ((own_or (own_or (own_zero fk o nw) (o + wn 0) (own_shl (own_dd lo val 0) (sh 0))) (o + wn 1) (own_shl (own_dd lo val 1) (sh 1))) (o + wn 2))), (.int (p4 + (wd 2))), (.ref a3)])) tg → Steps p.tables e below (s₁.setTop (mkF m 0 #[vR a1, vR a2, vR a3, vI p4, .unset] [])) tg := by
      intro tg kt
      refine R248 _ ?_
      show Steps p.tables e below (T243.setTop (mkF m 53 #[vR a1, vR a2, vR a3, vI p4, vI (((0 : Int32) + (1 : Int32)) + (1 : Int32))] [(.int (((0 : Int32) + (1 : Int32)) + (1 : Int32))), (.ref a2), (.long ((own_or (own_or (own_zero fk o nw) (o + wn 0) (own_shl (own_dd lo val 0) (sh 0))) (o + wn 1) (own_shl (own_dd lo val 1) (sh 1))) (o + wn 2))), (.int (p4 + (wd 2))), (.ref a3)])) _
      refine X243.iaload hx (j := (((0 : Int32) + (1 : Int32)) + (1 : Int32))) (v := (.int (val 2))) (by rw [e243]; exact Ar249.1) (State.isArrayOf_alike hZ.alike Ar249.2.1) Ar249.2.2 hin249 hat249 (g := (mkF m 53 #[vR a1, vR a2, vR a3, vI p4, vI (((0 : Int32) + (1 : Int32)) + (1 : Int32))] [(.int (((0 : Int32) + (1 : Int32)) + (1 : Int32))), (.ref a2), (.long ((own_or (own_or (own_zero fk o nw) (o + wn 0) (own_shl (own_dd lo val 0) (sh 0))) (o + wn 1) (own_shl (own_dd lo val 1) (sh 1))) (o + wn 2))), (.int (p4 + (wd 2))), (.ref a3)])) rfl rfl (hb hby d10_53) _ ?_
      show Steps p.tables e below (T243.setTop (mkF m 54 #[vR a1, vR a2, vR a3, vI p4, vI (((0 : Int32) + (1 : Int32)) + (1 : Int32))] [(.int (val 2)), (.long ((own_or (own_or (own_zero fk o nw) (o + wn 0) (own_shl (own_dd lo val 0) (sh 0))) (o + wn 1) (own_shl (own_dd lo val 1) (sh 1))) (o + wn 2))), (.int (p4 + (wd 2))), (.ref a3)])) _
      refine XS.i2l X243.here hx rfl (hb hby d10_54) rfl ?_
      refine XS.aloadN X243.here hx rfl (hb hby d10_55) rfl rfl ?_
      exact kt
    clear R248
    obtain ⟨T251, X251, e251, st251⟩ := getF X243 hx hZ hown (host := "") (Or.inl (hw _ (List.mem_of_getElem? (i := 26) rfl))) Via.refl e243 Fl_237 (g := (mkF m 56 #[vR a1, vR a2, vR a3, vI p4, vI (((0 : Int32) + (1 : Int32)) + (1 : Int32))] [(.ref a1), (.long ((val 2).toInt64)), (.long ((own_or (own_or (own_zero fk o nw) (o + wn 0) (own_shl (own_dd lo val 0) (sh 0))) (o + wn 1) (own_shl (own_dd lo val 1) (sh 1))) (o + wn 2))), (.int (p4 + (wd 2))), (.ref a3)])) rfl rfl (hb hby d10_56)
    have R252 : ∀ tg, Steps p.tables e below (T251.setTop (mkF m 61 #[vR a1, vR a2, vR a3, vI p4, vI (((0 : Int32) + (1 : Int32)) + (1 : Int32))] [(.int (((0 : Int32) + (1 : Int32)) + (1 : Int32))), (.ref b1), (.long ((val 2).toInt64)), (.long ((own_or (own_or (own_zero fk o nw) (o + wn 0) (own_shl (own_dd lo val 0) (sh 0))) (o + wn 1) (own_shl (own_dd lo val 1) (sh 1))) (o + wn 2))), (.int (p4 + (wd 2))), (.ref a3)])) tg → Steps p.tables e below (s₁.setTop (mkF m 0 #[vR a1, vR a2, vR a3, vI p4, .unset] [])) tg := by
      intro tg kt
      refine R250 _ ?_
      refine st251 _ ?_
      refine XS.iload X251.here hx rfl (hb hby d10_59) rfl ?_
      exact kt
    clear R250 st251
    obtain ⟨cl253, Ar253, hin253, hat253⟩ := VL_237.at (j := (((0 : Int32) + (1 : Int32)) + (1 : Int32))) (k := 2) (by decide) rfl (by decide)
    have R254 : ∀ tg, Steps p.tables e below (T251.setTop (mkF m 65 #[vR a1, vR a2, vR a3, vI p4, vI (((0 : Int32) + (1 : Int32)) + (1 : Int32))] [(.ref a1), (.long (((val 2).toInt64) - ((lo 2).toInt64))), (.long ((own_or (own_or (own_zero fk o nw) (o + wn 0) (own_shl (own_dd lo val 0) (sh 0))) (o + wn 1) (own_shl (own_dd lo val 1) (sh 1))) (o + wn 2))), (.int (p4 + (wd 2))), (.ref a3)])) tg → Steps p.tables e below (s₁.setTop (mkF m 0 #[vR a1, vR a2, vR a3, vI p4, .unset] [])) tg := by
      intro tg kt
      refine R252 _ ?_
      show Steps p.tables e below (T251.setTop (mkF m 61 #[vR a1, vR a2, vR a3, vI p4, vI (((0 : Int32) + (1 : Int32)) + (1 : Int32))] [(.int (((0 : Int32) + (1 : Int32)) + (1 : Int32))), (.ref b1), (.long ((val 2).toInt64)), (.long ((own_or (own_or (own_zero fk o nw) (o + wn 0) (own_shl (own_dd lo val 0) (sh 0))) (o + wn 1) (own_shl (own_dd lo val 1) (sh 1))) (o + wn 2))), (.int (p4 + (wd 2))), (.ref a3)])) _
      refine X251.iaload hx (j := (((0 : Int32) + (1 : Int32)) + (1 : Int32))) (v := (.int (lo 2))) (by rw [e251]; exact Ar253.1) (State.isArrayOf_alike hZ.alike Ar253.2.1) Ar253.2.2 hin253 hat253 (g := (mkF m 61 #[vR a1, vR a2, vR a3, vI p4, vI (((0 : Int32) + (1 : Int32)) + (1 : Int32))] [(.int (((0 : Int32) + (1 : Int32)) + (1 : Int32))), (.ref b1), (.long ((val 2).toInt64)), (.long ((own_or (own_or (own_zero fk o nw) (o + wn 0) (own_shl (own_dd lo val 0) (sh 0))) (o + wn 1) (own_shl (own_dd lo val 1) (sh 1))) (o + wn 2))), (.int (p4 + (wd 2))), (.ref a3)])) rfl rfl (hb hby d10_61) _ ?_
      show Steps p.tables e below (T251.setTop (mkF m 62 #[vR a1, vR a2, vR a3, vI p4, vI (((0 : Int32) + (1 : Int32)) + (1 : Int32))] [(.int (lo 2)), (.long ((val 2).toInt64)), (.long ((own_or (own_or (own_zero fk o nw) (o + wn 0) (own_shl (own_dd lo val 0) (sh 0))) (o + wn 1) (own_shl (own_dd lo val 1) (sh 1))) (o + wn 2))), (.int (p4 + (wd 2))), (.ref a3)])) _
      refine XS.i2l X251.here hx rfl (hb hby d10_62) rfl ?_
      show Steps p.tables e below (T251.setTop (mkF m 63 #[vR a1, vR a2, vR a3, vI p4, vI (((0 : Int32) + (1 : Int32)) + (1 : Int32))] [(.long ((lo 2).toInt64)), (.long ((val 2).toInt64)), (.long ((own_or (own_or (own_zero fk o nw) (o + wn 0) (own_shl (own_dd lo val 0) (sh 0))) (o + wn 1) (own_shl (own_dd lo val 1) (sh 1))) (o + wn 2))), (.int (p4 + (wd 2))), (.ref a3)])) _
      refine XS.lsub X251.here hx rfl (hb hby d10_63) rfl ?_
      refine XS.aloadN X251.here hx rfl (hb hby d10_64) rfl rfl ?_
      exact kt
    clear R252
    obtain ⟨T255, X255, e255, st255⟩ := getF X251 hx hZ hown (host := "") (Or.inl (hw _ (List.mem_of_getElem? (i := 30) rfl))) Via.refl e251 Fs_237 (g := (mkF m 65 #[vR a1, vR a2, vR a3, vI p4, vI (((0 : Int32) + (1 : Int32)) + (1 : Int32))] [(.ref a1), (.long (((val 2).toInt64) - ((lo 2).toInt64))), (.long ((own_or (own_or (own_zero fk o nw) (o + wn 0) (own_shl (own_dd lo val 0) (sh 0))) (o + wn 1) (own_shl (own_dd lo val 1) (sh 1))) (o + wn 2))), (.int (p4 + (wd 2))), (.ref a3)])) rfl rfl (hb hby d10_65)
    have R256 : ∀ tg, Steps p.tables e below (T255.setTop (mkF m 70 #[vR a1, vR a2, vR a3, vI p4, vI (((0 : Int32) + (1 : Int32)) + (1 : Int32))] [(.int (((0 : Int32) + (1 : Int32)) + (1 : Int32))), (.ref b3), (.long (((val 2).toInt64) - ((lo 2).toInt64))), (.long ((own_or (own_or (own_zero fk o nw) (o + wn 0) (own_shl (own_dd lo val 0) (sh 0))) (o + wn 1) (own_shl (own_dd lo val 1) (sh 1))) (o + wn 2))), (.int (p4 + (wd 2))), (.ref a3)])) tg → Steps p.tables e below (s₁.setTop (mkF m 0 #[vR a1, vR a2, vR a3, vI p4, .unset] [])) tg := by
      intro tg kt
      refine R254 _ ?_
      refine st255 _ ?_
      refine XS.iload X255.here hx rfl (hb hby d10_68) rfl ?_
      exact kt
    clear R254 st255
    obtain ⟨cl257, Ar257, hin257, hat257⟩ := VS_237.at (j := (((0 : Int32) + (1 : Int32)) + (1 : Int32))) (k := 2) (by decide) rfl (by decide)
    have R258 : ∀ tg, Steps p.tables e below (T255.setTop (mkF m 73 #[vR a1, vR a2, vR a3, vI p4, vI (((0 : Int32) + (1 : Int32)) + (1 : Int32))] [(.long (((own_or (own_or (own_zero fk o nw) (o + wn 0) (own_shl (own_dd lo val 0) (sh 0))) (o + wn 1) (own_shl (own_dd lo val 1) (sh 1))) (o + wn 2)) ||| ((((val 2).toInt64) - ((lo 2).toInt64)) <<< ((sh 2) &&& 0x3f).toInt64))), (.int (p4 + (wd 2))), (.ref a3)])) tg → Steps p.tables e below (s₁.setTop (mkF m 0 #[vR a1, vR a2, vR a3, vI p4, .unset] [])) tg := by
      intro tg kt
      refine R256 _ ?_
      show Steps p.tables e below (T255.setTop (mkF m 70 #[vR a1, vR a2, vR a3, vI p4, vI (((0 : Int32) + (1 : Int32)) + (1 : Int32))] [(.int (((0 : Int32) + (1 : Int32)) + (1 : Int32))), (.ref b3), (.long (((val 2).toInt64) - ((lo 2).toInt64))), (.long ((own_or (own_or (own_zero fk o nw) (o + wn 0) (own_shl (own_dd lo val 0) (sh 0))) (o + wn 1) (own_shl (own_dd lo val 1) (sh 1))) (o + wn 2))), (.int (p4 + (wd 2))), (.ref a3)])) _
      refine X255.iaload hx (j := (((0 : Int32) + (1 : Int32)) + (1 : Int32))) (v := (.int (sh 2))) (by rw [e255]; exact Ar257.1) (State.isArrayOf_alike hZ.alike Ar257.2.1) Ar257.2.2 hin257 hat257 (g := (mkF m 70 #[vR a1, vR a2, vR a3, vI p4, vI (((0 : Int32) + (1 : Int32)) + (1 : Int32))] [(.int (((0 : Int32) + (1 : Int32)) + (1 : Int32))), (.ref b3), (.long (((val 2).toInt64) - ((lo 2).toInt64))), (.long ((own_or (own_or (own_zero fk o nw) (o + wn 0) (own_shl (own_dd lo val 0) (sh 0))) (o + wn 1) (own_shl (own_dd lo val 1) (sh 1))) (o + wn 2))), (.int (p4 + (wd 2))), (.ref a3)])) rfl rfl (hb hby d10_70) _ ?_
      show Steps p.tables e below (T255.setTop (mkF m 71 #[vR a1, vR a2, vR a3, vI p4, vI (((0 : Int32) + (1 : Int32)) + (1 : Int32))] [(.int (sh 2)), (.long (((val 2).toInt64) - ((lo 2).toInt64))), (.long ((own_or (own_or (own_zero fk o nw) (o + wn 0) (own_shl (own_dd lo val 0) (sh 0))) (o + wn 1) (own_shl (own_dd lo val 1) (sh 1))) (o + wn 2))), (.int (p4 + (wd 2))), (.ref a3)])) _
      refine XS.lshl X255.here hx rfl (hb hby d10_71) rfl ?_
      show Steps p.tables e below (T255.setTop (mkF m 72 #[vR a1, vR a2, vR a3, vI p4, vI (((0 : Int32) + (1 : Int32)) + (1 : Int32))] [(.long ((((val 2).toInt64) - ((lo 2).toInt64)) <<< ((sh 2) &&& 0x3f).toInt64)), (.long ((own_or (own_or (own_zero fk o nw) (o + wn 0) (own_shl (own_dd lo val 0) (sh 0))) (o + wn 1) (own_shl (own_dd lo val 1) (sh 1))) (o + wn 2))), (.int (p4 + (wd 2))), (.ref a3)])) _
      refine XS.lor X255.here hx rfl (hb hby d10_72) rfl ?_
      exact kt
    clear R256
    obtain ⟨cl259, Ar259, hin259, -⟩ := VK_237.at (j := (p4 + (wd 2))) (k := (o + wn 2)) r1_2.1 r1_2.2 (Nat.lt_of_lt_of_le (Nat.add_lt_add_left d2 o) hnn)
    obtain ⟨T260, h260, X260, e260, W260, st260⟩ := stJ X255 hx hZ e255 Ar259 (j := (p4 + (wd 2))) hin259 (g := (mkF m 73 #[vR a1, vR a2, vR a3, vI p4, vI (((0 : Int32) + (1 : Int32)) + (1 : Int32))] [(.long (((own_or (own_or (own_zero fk o nw) (o + wn 0) (own_shl (own_dd lo val 0) (sh 0))) (o + wn 1) (own_shl (own_dd lo val 1) (sh 1))) (o + wn 2)) ||| ((((val 2).toInt64) - ((lo 2).toInt64)) <<< ((sh 2) &&& 0x3f).toInt64))), (.int (p4 + (wd 2))), (.ref a3)])) rfl rfl (hb hby d10_73)
    have N260 := Fr.snoc X260 N237 ga
    rw [show ((p4 + (wd 2)) : Int32).toNatClampNeg = (o + wn 2) from r1_2.2] at W260
    have VK_260 : AV Z h260 a3 .long NN (fun j => .long ((own_or (own_or (own_or (own_zero fk o nw) (o + wn 0) (own_shl (own_dd lo val 0) (sh 0))) (o + wn 1) (own_shl (own_dd lo val 1) (sh 1))) (o + wn 2) (own_shl (own_dd lo val 2) (sh 2))) j)) := VK_237.setJ W260
    have Fl_260 := Fl_237.other W260 (Or.inl m1)
    have Fw_260 := Fw_237.other W260 (Or.inl m1)
    have Fs_260 := Fs_237.other W260 (Or.inl m1)
    have Fc_260 := Fc_237.other W260 (Or.inl m1)
    have VL_260 := VL_237.other W260 m3
    have VW_260 := VW_237.other W260 m4
    have VS_260 := VS_237.other W260 m5
    have VV_260 := VV_237.other W260 m2
    clear Fl_237 Fw_237 Fs_237 Fc_237 VL_237 VW_237 VS_237 VV_237
    have Zs260 : n0 ≤ h260.size := Nat.le_trans Zs237 (Keep.of_wr W260).1
    have Kw260 : Keep h0 h260 [a3] := Keep.wr Kw237 W260 (Or.inl (List.mem_of_getElem? (i := 0) rfl))
    have R261 : ∀ tg, Steps p.tables e below (T260.setTop (mkF m 31 #[vR a1, vR a2, vR a3, vI p4, vI ((((0 : Int32) + (1 : Int32)) + (1 : Int32)) + (1 : Int32))] [(.ref a1), (.int ((((0 : Int32) + (1 : Int32)) + (1 : Int32)) + (1 : Int32)))])) tg → Steps p.tables e below (s₁.setTop (mkF m 0 #[vR a1, vR a2, vR a3, vI p4, .unset] [])) tg := by
      intro tg kt
      refine R258 _ ?_
      refine st260 _ ?_
      show Steps p.tables e below (T260.setTop (mkF m 74 #[vR a1, vR a2, vR a3, vI p4, vI (((0 : Int32) + (1 : Int32)) + (1 : Int32))] [])) _
      refine XS.iinc X260.here hx rfl (hb hby d10_74) rfl (l' := #[vR a1, vR a2, vR a3, vI p4, vI ((((0 : Int32) + (1 : Int32)) + (1 : Int32)) + (1 : Int32))]) rfl ?_
      show Steps p.tables e below (T260.setTop (mkF m 77 #[vR a1, vR a2, vR a3, vI p4, vI ((((0 : Int32) + (1 : Int32)) + (1 : Int32)) + (1 : Int32))] [])) _
      refine XS.goto X260.here hx rfl (pc0 := 77) (pc' := 28) rfl (hb hby d10_77) (by decide) (by decide) ?_
      refine XS.iload X260.here hx rfl (hb hby d10_28) rfl ?_
      refine XS.aloadN X260.here hx rfl (hb hby d10_30) rfl rfl ?_
      exact kt
    clear R258 st260
    obtain ⟨T262, X262, e262, st262⟩ := getF X260 hx hZ hown (host := "") (Or.inl (hw _ (List.mem_of_getElem? (i := 26) rfl))) Via.refl e260 Fl_260 (g := (mkF m 31 #[vR a1, vR a2, vR a3, vI p4, vI ((((0 : Int32) + (1 : Int32)) + (1 : Int32)) + (1 : Int32))] [(.ref a1), (.int ((((0 : Int32) + (1 : Int32)) + (1 : Int32)) + (1 : Int32)))])) rfl rfl (hb hby d10_31)
    have R263 : ∀ tg, Steps p.tables e below (T262.setTop (mkF m 34 #[vR a1, vR a2, vR a3, vI p4, vI ((((0 : Int32) + (1 : Int32)) + (1 : Int32)) + (1 : Int32))] [(.ref b1), (.int ((((0 : Int32) + (1 : Int32)) + (1 : Int32)) + (1 : Int32)))])) tg → Steps p.tables e below (s₁.setTop (mkF m 0 #[vR a1, vR a2, vR a3, vI p4, .unset] [])) tg := by
      intro tg kt
      refine R261 _ ?_
      refine st262 _ ?_
      exact kt
    clear R261 st262
    obtain ⟨cl264, Ar264, ln264⟩ := VL_260.len
    have R265 : ∀ tg, Steps p.tables e below (T262.setTop (mkF m 80 #[vR a1, vR a2, vR a3, vI p4, vI ((((0 : Int32) + (1 : Int32)) + (1 : Int32)) + (1 : Int32))] [])) tg → Steps p.tables e below (s₁.setTop (mkF m 0 #[vR a1, vR a2, vR a3, vI p4, .unset] [])) tg := by
      intro tg kt
      refine R263 _ ?_
      show Steps p.tables e below (T262.setTop (mkF m 34 #[vR a1, vR a2, vR a3, vI p4, vI ((((0 : Int32) + (1 : Int32)) + (1 : Int32)) + (1 : Int32))] [(.ref b1), (.int ((((0 : Int32) + (1 : Int32)) + (1 : Int32)) + (1 : Int32)))])) _
      refine X262.arraylength hx (by rw [e262]; exact Ar264.1) (State.isArrayOf_alike hZ.alike Ar264.2.1) (g := (mkF m 34 #[vR a1, vR a2, vR a3, vI p4, vI ((((0 : Int32) + (1 : Int32)) + (1 : Int32)) + (1 : Int32))] [(.ref b1), (.int ((((0 : Int32) + (1 : Int32)) + (1 : Int32)) + (1 : Int32)))])) rfl rfl (hb hby d10_34) _ ?_
      rw [ln264]
      show Steps p.tables e below (T262.setTop (mkF m 35 #[vR a1, vR a2, vR a3, vI p4, vI ((((0 : Int32) + (1 : Int32)) + (1 : Int32)) + (1 : Int32))] [(.int (3 : Int32)), (.int ((((0 : Int32) + (1 : Int32)) + (1 : Int32)) + (1 : Int32)))])) _
      refine XS.icmpYes X262.here hx rfl (pc0 := 35) (pc' := 80) rfl (hb hby d10_35) rfl (flt (by decide : ¬ (((((0 : Int32) + (1 : Int32)) + (1 : Int32)) + (1 : Int32)) < (3 : Int32)))).2.1 (by decide) (by decide) ?_
      exact kt
    clear R263
    obtain ⟨fs, hr, hrun, hended, hW, hsame⟩ := X262.leave (v := none) (fun _ => rfl)
    refine ⟨_, _, pre0 _ (R265 _ ?_), hrun, hended, _, _, rfl, ?_, ⟨_, rfl⟩, hW, hsame.mono (by decide) (by decide)⟩
    · exact X262.returnOut hx Bd.returns (hb hby d10_80) hr
    · show Q_rm_encode Z a1 a2 a3 p4 b1 b2 b3 words lo wd sh val fk NN o nw wn h0 n0 _ T262.heap _
      rw [e262]
      exact ⟨rfl, N260, Kw260, VK_260⟩
  · rw [hn] at hwds hnn d0 d1 d2
    have R266 : ∀ tg, Steps p.tables e below (s₁.setTop (mkF m 6 #[vR a1, vR a2, vR a3, vI p4, vI (0 : Int32)] [(.ref a1), (.int (0 : Int32))])) tg → Steps p.tables e below (s₁.setTop (mkF m 0 #[vR a1, vR a2, vR a3, vI p4, .unset] [])) tg := by
      intro tg kt
      refine pre00 _ ?_
      show Steps p.tables e below (s₁.setTop (mkF m 0 #[vR a1, vR a2, vR a3, vI p4, .unset] [])) _
      refine XS.iconst X0.here hx rfl (hb hby d10_0) ?_
      show Steps p.tables e below (s₁.setTop (mkF m 1 #[vR a1, vR a2, vR a3, vI p4, .unset] [(.int (0 : Int32))])) _
      refine XS.istore X0.here hx rfl (hb hby d10_1) rfl (l' := #[vR a1, vR a2, vR a3, vI p4, vI (0 : Int32)]) rfl ?_
      refine XS.iload X0.here hx rfl (hb hby d10_3) rfl ?_
      refine XS.aloadN X0.here hx rfl (hb hby d10_5) rfl rfl ?_
      exact kt
    obtain ⟨T267, X267, e267, st267⟩ := getF X0 hx hZ hown (host := "") (Or.inl (hw _ (List.mem_of_getElem? (i := 45) rfl))) Via.refl e0 Fc (g := (mkF m 6 #[vR a1, vR a2, vR a3, vI p4, vI (0 : Int32)] [(.ref a1), (.int (0 : Int32))])) rfl rfl (hb hby d10_6)
    have R268 : ∀ tg, Steps p.tables e below (T267.setTop (mkF m 18 #[vR a1, vR a2, vR a3, vI p4, vI (0 : Int32)] [(.long (0 : Int64)), (.int (p4 + (0 : Int32))), (.ref a3)])) tg → Steps p.tables e below (s₁.setTop (mkF m 0 #[vR a1, vR a2, vR a3, vI p4, .unset] [])) tg := by
      intro tg kt
      refine R266 _ ?_
      refine st267 _ ?_
      show Steps p.tables e below (T267.setTop (mkF m 9 #[vR a1, vR a2, vR a3, vI p4, vI (0 : Int32)] [(.int words), (.int (0 : Int32))])) _
      refine XS.icmpNo X267.here hx rfl (hb hby d10_9) rfl (tlt (own_lt_of (m := 0) (n := 2) rfl hwds (by decide) : (0 : Int32) < words)).2.1 ?_
      refine XS.aloadN X267.here hx rfl (hb hby d10_12) rfl rfl ?_
      refine XS.iloadN X267.here hx rfl (hb hby d10_13) rfl ?_
      show Steps p.tables e below (T267.setTop (mkF m 14 #[vR a1, vR a2, vR a3, vI p4, vI (0 : Int32)] [(.int p4), (.ref a3)])) _
      refine XS.iload X267.here hx rfl (hb hby d10_14) rfl ?_
      show Steps p.tables e below (T267.setTop (mkF m 16 #[vR a1, vR a2, vR a3, vI p4, vI (0 : Int32)] [(.int (0 : Int32)), (.int p4), (.ref a3)])) _
      refine XS.iadd X267.here hx rfl (hb hby d10_16) rfl ?_
      refine XS.lconst X267.here hx rfl (hb hby d10_17) ?_
      exact kt
    clear R266 st267
    have q2_0 := own_ix p4 (0 : Int32) o 0 NN ho rfl (Nat.lt_of_lt_of_le (Nat.add_lt_add_left (by decide : 0 < 2) o) hnn) h8
    obtain ⟨cl269, Ar269, hin269, -⟩ := VK.at (j := (p4 + (0 : Int32))) (k := o) q2_0.1 q2_0.2 (Nat.lt_of_lt_of_le (Nat.add_lt_add_left (by decide : 0 < 2) o) hnn)
    obtain ⟨T270, h270, X270, e270, W270, st270⟩ := stJ X267 hx hZ e267 Ar269 (j := (p4 + (0 : Int32))) hin269 (g := (mkF m 18 #[vR a1, vR a2, vR a3, vI p4, vI (0 : Int32)] [(.long (0 : Int64)), (.int (p4 + (0 : Int32))), (.ref a3)])) rfl rfl (hb hby d10_18)
    have N270 := Fr.snoc X270 N0 ga
    rw [show ((p4 + (0 : Int32)) : Int32).toNatClampNeg = o from q2_0.2] at W270
    have VK_270 : AV Z h270 a3 .long NN (fun j => .long ((own_set fk o (0 : Int64)) j)) := VK.setJ W270
    have Fl_270 := Fl.other W270 (Or.inl m1)
    have Fw_270 := Fw.other W270 (Or.inl m1)
    have Fs_270 := Fs.other W270 (Or.inl m1)
    have Fc_270 := Fc.other W270 (Or.inl m1)
    have VL_270 := VL.other W270 m3
    have VW_270 := VW.other W270 m4
    have VS_270 := VS.other W270 m5
    have VV_270 := VV.other W270 m2
    have Zs270 : n0 ≤ h270.size := Nat.le_trans Z0 (Keep.of_wr W270).1
    have Kw270 : Keep h0 h270 [a3] := Keep.wr (Keep.refl h0 [a3]) W270 (Or.inl (List.mem_of_getElem? (i := 0) rfl))
    have R271 : ∀ tg, Steps p.tables e below (T270.setTop (mkF m 6 #[vR a1, vR a2, vR a3, vI p4, vI ((0 : Int32) + (1 : Int32))] [(.ref a1), (.int ((0 : Int32) + (1 : Int32)))])) tg → Steps p.tables e below (s₁.setTop (mkF m 0 #[vR a1, vR a2, vR a3, vI p4, .unset] [])) tg := by
      intro tg kt
      refine R268 _ ?_
      refine st270 _ ?_
      show Steps p.tables e below (T270.setTop (mkF m 19 #[vR a1, vR a2, vR a3, vI p4, vI (0 : Int32)] [])) _
      refine XS.iinc X270.here hx rfl (hb hby d10_19) rfl (l' := #[vR a1, vR a2, vR a3, vI p4, vI ((0 : Int32) + (1 : Int32))]) rfl ?_
      show Steps p.tables e below (T270.setTop (mkF m 22 #[vR a1, vR a2, vR a3, vI p4, vI ((0 : Int32) + (1 : Int32))] [])) _
      refine XS.goto X270.here hx rfl (pc0 := 22) (pc' := 3) rfl (hb hby d10_22) (by decide) (by decide) ?_
      refine XS.iload X270.here hx rfl (hb hby d10_3) rfl ?_
      refine XS.aloadN X270.here hx rfl (hb hby d10_5) rfl rfl ?_
      exact kt
    clear R268 st270
    obtain ⟨T272, X272, e272, st272⟩ := getF X270 hx hZ hown (host := "") (Or.inl (hw _ (List.mem_of_getElem? (i := 45) rfl))) Via.refl e270 Fc_270 (g := (mkF m 6 #[vR a1, vR a2, vR a3, vI p4, vI ((0 : Int32) + (1 : Int32))] [(.ref a1), (.int ((0 : Int32) + (1 : Int32)))])) rfl rfl (hb hby d10_6)
    have R273 : ∀ tg, Steps p.tables e below (T272.setTop (mkF m 18 #[vR a1, vR a2, vR a3, vI p4, vI ((0 : Int32) + (1 : Int32))] [(.long (0 : Int64)), (.int (p4 + ((0 : Int32) + (1 : Int32)))), (.ref a3)])) tg → Steps p.tables e below (s₁.setTop (mkF m 0 #[vR a1, vR a2, vR a3, vI p4, .unset] [])) tg := by
      intro tg kt
      refine R271 _ ?_
      refine st272 _ ?_
      show Steps p.tables e below (T272.setTop (mkF m 9 #[vR a1, vR a2, vR a3, vI p4, vI ((0 : Int32) + (1 : Int32))] [(.int words), (.int ((0 : Int32) + (1 : Int32)))])) _
      refine XS.icmpNo X272.here hx rfl (hb hby d10_9) rfl (tlt (own_lt_of (m := 1) (n := 2) rfl hwds (by decide) : ((0 : Int32) + (1 : Int32)) < words)).2.1 ?_
      refine XS.aloadN X272.here hx rfl (hb hby d10_12) rfl rfl ?_
      refine XS.iloadN X272.here hx rfl (hb hby d10_13) rfl ?_
      show Steps p.tables e below (T272.setTop (mkF m 14 #[vR a1, vR a2, vR a3, vI p4, vI ((0 : Int32) + (1 : Int32))] [(.int p4), (.ref a3)])) _
      refine XS.iload X272.here hx rfl (hb hby d10_14) rfl ?_
      show Steps p.tables e below (T272.setTop (mkF m 16 #[vR a1, vR a2, vR a3, vI p4, vI ((0 : Int32) + (1 : Int32))] [(.int ((0 : Int32) + (1 : Int32))), (.int p4), (.ref a3)])) _
      refine XS.iadd X272.here hx rfl (hb hby d10_16) rfl ?_
      refine XS.lconst X272.here hx rfl (hb hby d10_17) ?_
      exact kt
    clear R271 st272
    have q2_1 := own_ix p4 ((0 : Int32) + (1 : Int32)) o 1 NN ho rfl (Nat.lt_of_lt_of_le (Nat.add_lt_add_left (by decide : 1 < 2) o) hnn) h8
    obtain ⟨cl274, Ar274, hin274, -⟩ := VK_270.at (j := (p4 + ((0 : Int32) + (1 : Int32)))) (k := (o + 1)) q2_1.1 q2_1.2 (Nat.lt_of_lt_of_le (Nat.add_lt_add_left (by decide : 1 < 2) o) hnn)
    obtain ⟨T275, h275, X275, e275, W275, st275⟩ := stJ X272 hx hZ e272 Ar274 (j := (p4 + ((0 : Int32) + (1 : Int32)))) hin274 (g := (mkF m 18 #[vR a1, vR a2, vR a3, vI p4, vI ((0 : Int32) + (1 : Int32))] [(.long (0 : Int64)), (.int (p4 + ((0 : Int32) + (1 : Int32)))), (.ref a3)])) rfl rfl (hb hby d10_18)
    have N275 := Fr.snoc X275 N270 ga
    rw [show ((p4 + ((0 : Int32) + (1 : Int32))) : Int32).toNatClampNeg = (o + 1) from q2_1.2] at W275
    have VK_275 : AV Z h275 a3 .long NN (fun j => .long ((own_set (own_set fk o (0 : Int64)) (o + 1) (0 : Int64)) j)) := VK_270.setJ W275
    have Fl_275 := Fl_270.other W275 (Or.inl m1)
    have Fw_275 := Fw_270.other W275 (Or.inl m1)
    have Fs_275 := Fs_270.other W275 (Or.inl m1)
    have Fc_275 := Fc_270.other W275 (Or.inl m1)
    have VL_275 := VL_270.other W275 m3
    have VW_275 := VW_270.other W275 m4
    have VS_275 := VS_270.other W275 m5
    have VV_275 := VV_270.other W275 m2
    clear Fl_270 Fw_270 Fs_270 Fc_270 VL_270 VW_270 VS_270 VV_270
    have Zs275 : n0 ≤ h275.size := Nat.le_trans Zs270 (Keep.of_wr W275).1
    have Kw275 : Keep h0 h275 [a3] := Keep.wr Kw270 W275 (Or.inl (List.mem_of_getElem? (i := 0) rfl))
    have R276 : ∀ tg, Steps p.tables e below (T275.setTop (mkF m 6 #[vR a1, vR a2, vR a3, vI p4, vI (((0 : Int32) + (1 : Int32)) + (1 : Int32))] [(.ref a1), (.int (((0 : Int32) + (1 : Int32)) + (1 : Int32)))])) tg → Steps p.tables e below (s₁.setTop (mkF m 0 #[vR a1, vR a2, vR a3, vI p4, .unset] [])) tg := by
      intro tg kt
      refine R273 _ ?_
      refine st275 _ ?_
      show Steps p.tables e below (T275.setTop (mkF m 19 #[vR a1, vR a2, vR a3, vI p4, vI ((0 : Int32) + (1 : Int32))] [])) _
      refine XS.iinc X275.here hx rfl (hb hby d10_19) rfl (l' := #[vR a1, vR a2, vR a3, vI p4, vI (((0 : Int32) + (1 : Int32)) + (1 : Int32))]) rfl ?_
      show Steps p.tables e below (T275.setTop (mkF m 22 #[vR a1, vR a2, vR a3, vI p4, vI (((0 : Int32) + (1 : Int32)) + (1 : Int32))] [])) _
      refine XS.goto X275.here hx rfl (pc0 := 22) (pc' := 3) rfl (hb hby d10_22) (by decide) (by decide) ?_
      refine XS.iload X275.here hx rfl (hb hby d10_3) rfl ?_
      refine XS.aloadN X275.here hx rfl (hb hby d10_5) rfl rfl ?_
      exact kt
    clear R273 st275
    obtain ⟨T277, X277, e277, st277⟩ := getF X275 hx hZ hown (host := "") (Or.inl (hw _ (List.mem_of_getElem? (i := 45) rfl))) Via.refl e275 Fc_275 (g := (mkF m 6 #[vR a1, vR a2, vR a3, vI p4, vI (((0 : Int32) + (1 : Int32)) + (1 : Int32))] [(.ref a1), (.int (((0 : Int32) + (1 : Int32)) + (1 : Int32)))])) rfl rfl (hb hby d10_6)
    have R278 : ∀ tg, Steps p.tables e below (T277.setTop (mkF m 31 #[vR a1, vR a2, vR a3, vI p4, vI (0 : Int32)] [(.ref a1), (.int (0 : Int32))])) tg → Steps p.tables e below (s₁.setTop (mkF m 0 #[vR a1, vR a2, vR a3, vI p4, .unset] [])) tg := by
      intro tg kt
      refine R276 _ ?_
      refine st277 _ ?_
      show Steps p.tables e below (T277.setTop (mkF m 9 #[vR a1, vR a2, vR a3, vI p4, vI (((0 : Int32) + (1 : Int32)) + (1 : Int32))] [(.int words), (.int (((0 : Int32) + (1 : Int32)) + (1 : Int32)))])) _
      refine XS.icmpYes X277.here hx rfl (pc0 := 9) (pc' := 25) rfl (hb hby d10_9) rfl (flt (own_nlt_of (m := 2) (n := 2) rfl hwds (by decide) : ¬ ((((0 : Int32) + (1 : Int32)) + (1 : Int32)) < words))).2.1 (by decide) (by decide) ?_
      refine XS.iconst X277.here hx rfl (hb hby d10_25) ?_
      show Steps p.tables e below (T277.setTop (mkF m 26 #[vR a1, vR a2, vR a3, vI p4, vI (((0 : Int32) + (1 : Int32)) + (1 : Int32))] [(.int (0 : Int32))])) _
      refine XS.istore X277.here hx rfl (hb hby d10_26) rfl (l' := #[vR a1, vR a2, vR a3, vI p4, vI (0 : Int32)]) rfl ?_
      refine XS.iload X277.here hx rfl (hb hby d10_28) rfl ?_
      refine XS.aloadN X277.here hx rfl (hb hby d10_30) rfl rfl ?_
      exact kt
    clear R276 st277
    have VK0_2 : AV Z h275 a3 .long NN (fun j => .long ((own_zero fk o nw) j)) := by rw [own_zero, hn]; exact VK_275
    obtain ⟨T279, X279, e279, st279⟩ := getF X277 hx hZ hown (host := "") (Or.inl (hw _ (List.mem_of_getElem? (i := 26) rfl))) Via.refl e277 Fl_275 (g := (mkF m 31 #[vR a1, vR a2, vR a3, vI p4, vI (0 : Int32)] [(.ref a1), (.int (0 : Int32))])) rfl rfl (hb hby d10_31)
    have R280 : ∀ tg, Steps p.tables e below (T279.setTop (mkF m 34 #[vR a1, vR a2, vR a3, vI p4, vI (0 : Int32)] [(.ref b1), (.int (0 : Int32))])) tg → Steps p.tables e below (s₁.setTop (mkF m 0 #[vR a1, vR a2, vR a3, vI p4, .unset] [])) tg := by
      intro tg kt
      refine R278 _ ?_
      refine st279 _ ?_
      exact kt
    clear R278 st279
    obtain ⟨cl281, Ar281, ln281⟩ := VL_275.len
    have R282 : ∀ tg, Steps p.tables e below (T279.setTop (mkF m 41 #[vR a1, vR a2, vR a3, vI p4, vI (0 : Int32)] [(.ref a1), (.int p4), (.ref a3)])) tg → Steps p.tables e below (s₁.setTop (mkF m 0 #[vR a1, vR a2, vR a3, vI p4, .unset] [])) tg := by
      intro tg kt
      refine R280 _ ?_
      show Steps p.tables e below (T279.setTop (mkF m 34 #[vR a1, vR a2, vR a3, vI p4, vI (0 : Int32)] [(.ref b1), (.int (0 : Int32))])) _
      refine X279.arraylength hx (by rw [e279]; exact Ar281.1) (State.isArrayOf_alike hZ.alike Ar281.2.1) (g := (mkF m 34 #[vR a1, vR a2, vR a3, vI p4, vI (0 : Int32)] [(.ref b1), (.int (0 : Int32))])) rfl rfl (hb hby d10_34) _ ?_
      rw [ln281]
      show Steps p.tables e below (T279.setTop (mkF m 35 #[vR a1, vR a2, vR a3, vI p4, vI (0 : Int32)] [(.int (3 : Int32)), (.int (0 : Int32))])) _
      refine XS.icmpNo X279.here hx rfl (hb hby d10_35) rfl (tlt (by decide : (0 : Int32) < (3 : Int32))).2.1 ?_
      refine XS.aloadN X279.here hx rfl (hb hby d10_38) rfl rfl ?_
      refine XS.iloadN X279.here hx rfl (hb hby d10_39) rfl ?_
      show Steps p.tables e below (T279.setTop (mkF m 40 #[vR a1, vR a2, vR a3, vI p4, vI (0 : Int32)] [(.int p4), (.ref a3)])) _
      refine XS.aloadN X279.here hx rfl (hb hby d10_40) rfl rfl ?_
      exact kt
    clear R280
    obtain ⟨T283, X283, e283, st283⟩ := getF X279 hx hZ hown (host := "") (Or.inl (hw _ (List.mem_of_getElem? (i := 28) rfl))) Via.refl e279 Fw_275 (g := (mkF m 41 #[vR a1, vR a2, vR a3, vI p4, vI (0 : Int32)] [(.ref a1), (.int p4), (.ref a3)])) rfl rfl (hb hby d10_41)
    have R284 : ∀ tg, Steps p.tables e below (T283.setTop (mkF m 46 #[vR a1, vR a2, vR a3, vI p4, vI (0 : Int32)] [(.int (0 : Int32)), (.ref b2), (.int p4), (.ref a3)])) tg → Steps p.tables e below (s₁.setTop (mkF m 0 #[vR a1, vR a2, vR a3, vI p4, .unset] [])) tg := by
      intro tg kt
      refine R282 _ ?_
      refine st283 _ ?_
      refine XS.iload X283.here hx rfl (hb hby d10_44) rfl ?_
      exact kt
    clear R282 st283
    obtain ⟨cl285, Ar285, hin285, hat285⟩ := VW_275.at (j := (0 : Int32)) (k := 0) (by decide) rfl (by decide)
    have R286 : ∀ tg, Steps p.tables e below (T283.setTop (mkF m 49 #[vR a1, vR a2, vR a3, vI p4, vI (0 : Int32)] [(.int (p4 + (wd 0))), (.ref a3), (.int (p4 + (wd 0))), (.ref a3)])) tg → Steps p.tables e below (s₁.setTop (mkF m 0 #[vR a1, vR a2, vR a3, vI p4, .unset] [])) tg := by
      intro tg kt
      refine R284 _ ?_
      show Steps p.tables e below (T283.setTop (mkF m 46 #[vR a1, vR a2, vR a3, vI p4, vI (0 : Int32)] [(.int (0 : Int32)), (.ref b2), (.int p4), (.ref a3)])) _
      refine X283.iaload hx (j := (0 : Int32)) (v := (.int (wd 0))) (by rw [e283]; exact Ar285.1) (State.isArrayOf_alike hZ.alike Ar285.2.1) Ar285.2.2 hin285 hat285 (g := (mkF m 46 #[vR a1, vR a2, vR a3, vI p4, vI (0 : Int32)] [(.int (0 : Int32)), (.ref b2), (.int p4), (.ref a3)])) rfl rfl (hb hby d10_46) _ ?_
      show Steps p.tables e below (T283.setTop (mkF m 47 #[vR a1, vR a2, vR a3, vI p4, vI (0 : Int32)] [(.int (wd 0)), (.int p4), (.ref a3)])) _
      refine XS.iadd X283.here hx rfl (hb hby d10_47) rfl ?_
      show Steps p.tables e below (T283.setTop (mkF m 48 #[vR a1, vR a2, vR a3, vI p4, vI (0 : Int32)] [(.int (p4 + (wd 0))), (.ref a3)])) _
      jvm_step X283.here [X283.here.top, hx, (hb hby d10_48), Value.category]
      exact kt
    clear R284
    have r2_0 := own_ix p4 (wd 0) o (wn 0) NN ho c0 (Nat.lt_of_lt_of_le (Nat.add_lt_add_left d0 o) hnn) h8
    obtain ⟨cl287, Ar287, hin287, hat287⟩ := VK0_2.at (j := (p4 + (wd 0))) (k := (o + wn 0)) r2_0.1 r2_0.2 (Nat.lt_of_lt_of_le (Nat.add_lt_add_left d0 o) hnn)
    have R288 : ∀ tg, Steps p.tables e below (T283.setTop (mkF m 53 #[vR a1, vR a2, vR a3, vI p4, vI (0 : Int32)] [(.int (0 : Int32)), (.ref a2), (.long ((own_zero fk o nw) (o + wn 0))), (.int (p4 + (wd 0))), (.ref a3)])) tg → Steps p.tables e below (s₁.setTop (mkF m 0 #[vR a1, vR a2, vR a3, vI p4, .unset] [])) tg := by
      intro tg kt
      refine R286 _ ?_
      show Steps p.tables e below (T283.setTop (mkF m 49 #[vR a1, vR a2, vR a3, vI p4, vI (0 : Int32)] [(.int (p4 + (wd 0))), (.ref a3), (.int (p4 + (wd 0))), (.ref a3)])) _
      refine X283.laload hx (j := (p4 + (wd 0))) (v := (.long ((own_zero fk o nw) (o + wn 0)))) (by rw [e283]; exact Ar287.1) (State.isArrayOf_alike hZ.alike Ar287.2.1) Ar287.2.2 hin287 hat287 (g := (mkF m 49 #[vR a1, vR a2, vR a3, vI p4, vI (0 : Int32)] [(.int (p4 + (wd 0))), (.ref a3), (.int (p4 + (wd 0))), (.ref a3)])) rfl rfl (hb hby d10_49) _ ?_
      refine XS.aloadN X283.here hx rfl (hb hby d10_50) rfl rfl ?_
      refine XS.iload X283.here hx rfl (hb hby d10_51) rfl ?_
      exact kt
    clear R286
    obtain ⟨cl289, Ar289, hin289, hat289⟩ := VV_275.at (j := (0 : Int32)) (k := 0) (by decide) rfl (by decide)
    have R290 : ∀ tg, Steps p.tables e below (T283.setTop (mkF m 56 #[vR a1, vR a2, vR a3, vI p4, vI (0 : Int32)] [(.ref a1), (.long ((val 0).toInt64)), (.long ((own_zero fk o nw) (o + wn 0))), (.int (p4 + (wd 0))), (.ref a3)])) tg → Steps p.tables e below (s₁.setTop (mkF m 0 #[vR a1, vR a2, vR a3, vI p4, .unset] [])) tg := by
      intro tg kt
      refine R288 _ ?_
      show Steps p.tables e below (T283.setTop (mkF m 53 #[vR a1, vR a2, vR a3, vI p4, vI (0 : Int32)] [(.int (0 : Int32)), (.ref a2), (.long ((own_zero fk o nw) (o + wn 0))), (.int (p4 + (wd 0))), (.ref a3)])) _
      refine X283.iaload hx (j := (0 : Int32)) (v := (.int (val 0))) (by rw [e283]; exact Ar289.1) (State.isArrayOf_alike hZ.alike Ar289.2.1) Ar289.2.2 hin289 hat289 (g := (mkF m 53 #[vR a1, vR a2, vR a3, vI p4, vI (0 : Int32)] [(.int (0 : Int32)), (.ref a2), (.long ((own_zero fk o nw) (o + wn 0))), (.int (p4 + (wd 0))), (.ref a3)])) rfl rfl (hb hby d10_53) _ ?_
      show Steps p.tables e below (T283.setTop (mkF m 54 #[vR a1, vR a2, vR a3, vI p4, vI (0 : Int32)] [(.int (val 0)), (.long ((own_zero fk o nw) (o + wn 0))), (.int (p4 + (wd 0))), (.ref a3)])) _
      refine XS.i2l X283.here hx rfl (hb hby d10_54) rfl ?_
      refine XS.aloadN X283.here hx rfl (hb hby d10_55) rfl rfl ?_
      exact kt
    clear R288
    obtain ⟨T291, X291, e291, st291⟩ := getF X283 hx hZ hown (host := "") (Or.inl (hw _ (List.mem_of_getElem? (i := 26) rfl))) Via.refl e283 Fl_275 (g := (mkF m 56 #[vR a1, vR a2, vR a3, vI p4, vI (0 : Int32)] [(.ref a1), (.long ((val 0).toInt64)), (.long ((own_zero fk o nw) (o + wn 0))), (.int (p4 + (wd 0))), (.ref a3)])) rfl rfl (hb hby d10_56)
    have R292 : ∀ tg, Steps p.tables e below (T291.setTop (mkF m 61 #[vR a1, vR a2, vR a3, vI p4, vI (0 : Int32)] [(.int (0 : Int32)), (.ref b1), (.long ((val 0).toInt64)), (.long ((own_zero fk o nw) (o + wn 0))), (.int (p4 + (wd 0))), (.ref a3)])) tg → Steps p.tables e below (s₁.setTop (mkF m 0 #[vR a1, vR a2, vR a3, vI p4, .unset] [])) tg := by
      intro tg kt
      refine R290 _ ?_
      refine st291 _ ?_
      refine XS.iload X291.here hx rfl (hb hby d10_59) rfl ?_
      exact kt
    clear R290 st291
    obtain ⟨cl293, Ar293, hin293, hat293⟩ := VL_275.at (j := (0 : Int32)) (k := 0) (by decide) rfl (by decide)
    have R294 : ∀ tg, Steps p.tables e below (T291.setTop (mkF m 65 #[vR a1, vR a2, vR a3, vI p4, vI (0 : Int32)] [(.ref a1), (.long (((val 0).toInt64) - ((lo 0).toInt64))), (.long ((own_zero fk o nw) (o + wn 0))), (.int (p4 + (wd 0))), (.ref a3)])) tg → Steps p.tables e below (s₁.setTop (mkF m 0 #[vR a1, vR a2, vR a3, vI p4, .unset] [])) tg := by
      intro tg kt
      refine R292 _ ?_
      show Steps p.tables e below (T291.setTop (mkF m 61 #[vR a1, vR a2, vR a3, vI p4, vI (0 : Int32)] [(.int (0 : Int32)), (.ref b1), (.long ((val 0).toInt64)), (.long ((own_zero fk o nw) (o + wn 0))), (.int (p4 + (wd 0))), (.ref a3)])) _
      refine X291.iaload hx (j := (0 : Int32)) (v := (.int (lo 0))) (by rw [e291]; exact Ar293.1) (State.isArrayOf_alike hZ.alike Ar293.2.1) Ar293.2.2 hin293 hat293 (g := (mkF m 61 #[vR a1, vR a2, vR a3, vI p4, vI (0 : Int32)] [(.int (0 : Int32)), (.ref b1), (.long ((val 0).toInt64)), (.long ((own_zero fk o nw) (o + wn 0))), (.int (p4 + (wd 0))), (.ref a3)])) rfl rfl (hb hby d10_61) _ ?_
      show Steps p.tables e below (T291.setTop (mkF m 62 #[vR a1, vR a2, vR a3, vI p4, vI (0 : Int32)] [(.int (lo 0)), (.long ((val 0).toInt64)), (.long ((own_zero fk o nw) (o + wn 0))), (.int (p4 + (wd 0))), (.ref a3)])) _
      refine XS.i2l X291.here hx rfl (hb hby d10_62) rfl ?_
      show Steps p.tables e below (T291.setTop (mkF m 63 #[vR a1, vR a2, vR a3, vI p4, vI (0 : Int32)] [(.long ((lo 0).toInt64)), (.long ((val 0).toInt64)), (.long ((own_zero fk o nw) (o + wn 0))), (.int (p4 + (wd 0))), (.ref a3)])) _
      refine XS.lsub X291.here hx rfl (hb hby d10_63) rfl ?_
      refine XS.aloadN X291.here hx rfl (hb hby d10_64) rfl rfl ?_
      exact kt
    clear R292
    obtain ⟨T295, X295, e295, st295⟩ := getF X291 hx hZ hown (host := "") (Or.inl (hw _ (List.mem_of_getElem? (i := 30) rfl))) Via.refl e291 Fs_275 (g := (mkF m 65 #[vR a1, vR a2, vR a3, vI p4, vI (0 : Int32)] [(.ref a1), (.long (((val 0).toInt64) - ((lo 0).toInt64))), (.long ((own_zero fk o nw) (o + wn 0))), (.int (p4 + (wd 0))), (.ref a3)])) rfl rfl (hb hby d10_65)
    have R296 : ∀ tg, Steps p.tables e below (T295.setTop (mkF m 70 #[vR a1, vR a2, vR a3, vI p4, vI (0 : Int32)] [(.int (0 : Int32)), (.ref b3), (.long (((val 0).toInt64) - ((lo 0).toInt64))), (.long ((own_zero fk o nw) (o + wn 0))), (.int (p4 + (wd 0))), (.ref a3)])) tg → Steps p.tables e below (s₁.setTop (mkF m 0 #[vR a1, vR a2, vR a3, vI p4, .unset] [])) tg := by
      intro tg kt
      refine R294 _ ?_
      refine st295 _ ?_
      refine XS.iload X295.here hx rfl (hb hby d10_68) rfl ?_
      exact kt
    clear R294 st295
    obtain ⟨cl297, Ar297, hin297, hat297⟩ := VS_275.at (j := (0 : Int32)) (k := 0) (by decide) rfl (by decide)
    have R298 : ∀ tg, Steps p.tables e below (T295.setTop (mkF m 73 #[vR a1, vR a2, vR a3, vI p4, vI (0 : Int32)] [(.long (((own_zero fk o nw) (o + wn 0)) ||| ((((val 0).toInt64) - ((lo 0).toInt64)) <<< ((sh 0) &&& 0x3f).toInt64))), (.int (p4 + (wd 0))), (.ref a3)])) tg → Steps p.tables e below (s₁.setTop (mkF m 0 #[vR a1, vR a2, vR a3, vI p4, .unset] [])) tg := by
      intro tg kt
      refine R296 _ ?_
      show Steps p.tables e below (T295.setTop (mkF m 70 #[vR a1, vR a2, vR a3, vI p4, vI (0 : Int32)] [(.int (0 : Int32)), (.ref b3), (.long (((val 0).toInt64) - ((lo 0).toInt64))), (.long ((own_zero fk o nw) (o + wn 0))), (.int (p4 + (wd 0))), (.ref a3)])) _
      refine X295.iaload hx (j := (0 : Int32)) (v := (.int (sh 0))) (by rw [e295]; exact Ar297.1) (State.isArrayOf_alike hZ.alike Ar297.2.1) Ar297.2.2 hin297 hat297 (g := (mkF m 70 #[vR a1, vR a2, vR a3, vI p4, vI (0 : Int32)] [(.int (0 : Int32)), (.ref b3), (.long (((val 0).toInt64) - ((lo 0).toInt64))), (.long ((own_zero fk o nw) (o + wn 0))), (.int (p4 + (wd 0))), (.ref a3)])) rfl rfl (hb hby d10_70) _ ?_
      show Steps p.tables e below (T295.setTop (mkF m 71 #[vR a1, vR a2, vR a3, vI p4, vI (0 : Int32)] [(.int (sh 0)), (.long (((val 0).toInt64) - ((lo 0).toInt64))), (.long ((own_zero fk o nw) (o + wn 0))), (.int (p4 + (wd 0))), (.ref a3)])) _
      refine XS.lshl X295.here hx rfl (hb hby d10_71) rfl ?_
      show Steps p.tables e below (T295.setTop (mkF m 72 #[vR a1, vR a2, vR a3, vI p4, vI (0 : Int32)] [(.long ((((val 0).toInt64) - ((lo 0).toInt64)) <<< ((sh 0) &&& 0x3f).toInt64)), (.long ((own_zero fk o nw) (o + wn 0))), (.int (p4 + (wd 0))), (.ref a3)])) _
      refine XS.lor X295.here hx rfl (hb hby d10_72) rfl ?_
      exact kt
    clear R296
    obtain ⟨cl299, Ar299, hin299, -⟩ := VK0_2.at (j := (p4 + (wd 0))) (k := (o + wn 0)) r2_0.1 r2_0.2 (Nat.lt_of_lt_of_le (Nat.add_lt_add_left d0 o) hnn)
    obtain ⟨T300, h300, X300, e300, W300, st300⟩ := stJ X295 hx hZ e295 Ar299 (j := (p4 + (wd 0))) hin299 (g := (mkF m 73 #[vR a1, vR a2, vR a3, vI p4, vI (0 : Int32)] [(.long (((own_zero fk o nw) (o + wn 0)) ||| ((((val 0).toInt64) - ((lo 0).toInt64)) <<< ((sh 0) &&& 0x3f).toInt64))), (.int (p4 + (wd 0))), (.ref a3)])) rfl rfl (hb hby d10_73)
    have N300 := Fr.snoc X300 N275 ga
    rw [show ((p4 + (wd 0)) : Int32).toNatClampNeg = (o + wn 0) from r2_0.2] at W300
    have VK_300 : AV Z h300 a3 .long NN (fun j => .long ((own_or (own_zero fk o nw) (o + wn 0) (own_shl (own_dd lo val 0) (sh 0))) j)) := VK0_2.setJ W300
    have Fl_300 := Fl_275.other W300 (Or.inl m1)
    have Fw_300 := Fw_275.other W300 (Or.inl m1)
    have Fs_300 := Fs_275.other W300 (Or.inl m1)
    have Fc_300 := Fc_275.other W300 (Or.inl m1)
    have VL_300 := VL_275.other W300 m3
    have VW_300 := VW_275.other W300 m4
    have VS_300 := VS_275.other W300 m5
    have VV_300 := VV_275.other W300 m2
    clear Fl_275 Fw_275 Fs_275 Fc_275 VL_275 VW_275 VS_275 VV_275
    have Zs300 : n0 ≤ h300.size := Nat.le_trans Zs275 (Keep.of_wr W300).1
    have Kw300 : Keep h0 h300 [a3] := Keep.wr Kw275 W300 (Or.inl (List.mem_of_getElem? (i := 0) rfl))
    have R301 : ∀ tg, Steps p.tables e below (T300.setTop (mkF m 31 #[vR a1, vR a2, vR a3, vI p4, vI ((0 : Int32) + (1 : Int32))] [(.ref a1), (.int ((0 : Int32) + (1 : Int32)))])) tg → Steps p.tables e below (s₁.setTop (mkF m 0 #[vR a1, vR a2, vR a3, vI p4, .unset] [])) tg := by
      intro tg kt
      refine R298 _ ?_
      refine st300 _ ?_
      show Steps p.tables e below (T300.setTop (mkF m 74 #[vR a1, vR a2, vR a3, vI p4, vI (0 : Int32)] [])) _
      refine XS.iinc X300.here hx rfl (hb hby d10_74) rfl (l' := #[vR a1, vR a2, vR a3, vI p4, vI ((0 : Int32) + (1 : Int32))]) rfl ?_
      show Steps p.tables e below (T300.setTop (mkF m 77 #[vR a1, vR a2, vR a3, vI p4, vI ((0 : Int32) + (1 : Int32))] [])) _
      refine XS.goto X300.here hx rfl (pc0 := 77) (pc' := 28) rfl (hb hby d10_77) (by decide) (by decide) ?_
      refine XS.iload X300.here hx rfl (hb hby d10_28) rfl ?_
      refine XS.aloadN X300.here hx rfl (hb hby d10_30) rfl rfl ?_
      exact kt
    clear R298 st300
    obtain ⟨T302, X302, e302, st302⟩ := getF X300 hx hZ hown (host := "") (Or.inl (hw _ (List.mem_of_getElem? (i := 26) rfl))) Via.refl e300 Fl_300 (g := (mkF m 31 #[vR a1, vR a2, vR a3, vI p4, vI ((0 : Int32) + (1 : Int32))] [(.ref a1), (.int ((0 : Int32) + (1 : Int32)))])) rfl rfl (hb hby d10_31)
    have R303 : ∀ tg, Steps p.tables e below (T302.setTop (mkF m 34 #[vR a1, vR a2, vR a3, vI p4, vI ((0 : Int32) + (1 : Int32))] [(.ref b1), (.int ((0 : Int32) + (1 : Int32)))])) tg → Steps p.tables e below (s₁.setTop (mkF m 0 #[vR a1, vR a2, vR a3, vI p4, .unset] [])) tg := by
      intro tg kt
      refine R301 _ ?_
      refine st302 _ ?_
      exact kt
    clear R301 st302
    obtain ⟨cl304, Ar304, ln304⟩ := VL_300.len
    have R305 : ∀ tg, Steps p.tables e below (T302.setTop (mkF m 41 #[vR a1, vR a2, vR a3, vI p4, vI ((0 : Int32) + (1 : Int32))] [(.ref a1), (.int p4), (.ref a3)])) tg → Steps p.tables e below (s₁.setTop (mkF m 0 #[vR a1, vR a2, vR a3, vI p4, .unset] [])) tg := by
      intro tg kt
      refine R303 _ ?_
      show Steps p.tables e below (T302.setTop (mkF m 34 #[vR a1, vR a2, vR a3, vI p4, vI ((0 : Int32) + (1 : Int32))] [(.ref b1), (.int ((0 : Int32) + (1 : Int32)))])) _
      refine X302.arraylength hx (by rw [e302]; exact Ar304.1) (State.isArrayOf_alike hZ.alike Ar304.2.1) (g := (mkF m 34 #[vR a1, vR a2, vR a3, vI p4, vI ((0 : Int32) + (1 : Int32))] [(.ref b1), (.int ((0 : Int32) + (1 : Int32)))])) rfl rfl (hb hby d10_34) _ ?_
      rw [ln304]
      show Steps p.tables e below (T302.setTop (mkF m 35 #[vR a1, vR a2, vR a3, vI p4, vI ((0 : Int32) + (1 : Int32))] [(.int (3 : Int32)), (.int ((0 : Int32) + (1 : Int32)))])) _
      refine XS.icmpNo X302.here hx rfl (hb hby d10_35) rfl (tlt (by decide : ((0 : Int32) + (1 : Int32)) < (3 : Int32))).2.1 ?_
      refine XS.aloadN X302.here hx rfl (hb hby d10_38) rfl rfl ?_
      refine XS.iloadN X302.here hx rfl (hb hby d10_39) rfl ?_
      show Steps p.tables e below (T302.setTop (mkF m 40 #[vR a1, vR a2, vR a3, vI p4, vI ((0 : Int32) + (1 : Int32))] [(.int p4), (.ref a3)])) _
      refine XS.aloadN X302.here hx rfl (hb hby d10_40) rfl rfl ?_
      exact kt
    clear R303
    obtain ⟨T306, X306, e306, st306⟩ := getF X302 hx hZ hown (host := "") (Or.inl (hw _ (List.mem_of_getElem? (i := 28) rfl))) Via.refl e302 Fw_300 (g := (mkF m 41 #[vR a1, vR a2, vR a3, vI p4, vI ((0 : Int32) + (1 : Int32))] [(.ref a1), (.int p4), (.ref a3)])) rfl rfl (hb hby d10_41)
    have R307 : ∀ tg, Steps p.tables e below (T306.setTop (mkF m 46 #[vR a1, vR a2, vR a3, vI p4, vI ((0 : Int32) + (1 : Int32))] [(.int ((0 : Int32) + (1 : Int32))), (.ref b2), (.int p4), (.ref a3)])) tg → Steps p.tables e below (s₁.setTop (mkF m 0 #[vR a1, vR a2, vR a3, vI p4, .unset] [])) tg := by
      intro tg kt
      refine R305 _ ?_
      refine st306 _ ?_
      refine XS.iload X306.here hx rfl (hb hby d10_44) rfl ?_
      exact kt
    clear R305 st306
    obtain ⟨cl308, Ar308, hin308, hat308⟩ := VW_300.at (j := ((0 : Int32) + (1 : Int32))) (k := 1) (by decide) rfl (by decide)
    have R309 : ∀ tg, Steps p.tables e below (T306.setTop (mkF m 49 #[vR a1, vR a2, vR a3, vI p4, vI ((0 : Int32) + (1 : Int32))] [(.int (p4 + (wd 1))), (.ref a3), (.int (p4 + (wd 1))), (.ref a3)])) tg → Steps p.tables e below (s₁.setTop (mkF m 0 #[vR a1, vR a2, vR a3, vI p4, .unset] [])) tg := by
      intro tg kt
      refine R307 _ ?_
      show Steps p.tables e below (T306.setTop (mkF m 46 #[vR a1, vR a2, vR a3, vI p4, vI ((0 : Int32) + (1 : Int32))] [(.int ((0 : Int32) + (1 : Int32))), (.ref b2), (.int p4), (.ref a3)])) _
      refine X306.iaload hx (j := ((0 : Int32) + (1 : Int32))) (v := (.int (wd 1))) (by rw [e306]; exact Ar308.1) (State.isArrayOf_alike hZ.alike Ar308.2.1) Ar308.2.2 hin308 hat308 (g := (mkF m 46 #[vR a1, vR a2, vR a3, vI p4, vI ((0 : Int32) + (1 : Int32))] [(.int ((0 : Int32) + (1 : Int32))), (.ref b2), (.int p4), (.ref a3)])) rfl rfl (hb hby d10_46) _ ?_
      show Steps p.tables e below (T306.setTop (mkF m 47 #[vR a1, vR a2, vR a3, vI p4, vI ((0 : Int32) + (1 : Int32))] [(.int (wd 1)), (.int p4), (.ref a3)])) _
      refine XS.iadd X306.here hx rfl (hb hby d10_47) rfl ?_
      show Steps p.tables e below (T306.setTop (mkF m 48 #[vR a1, vR a2, vR a3, vI p4, vI ((0 : Int32) + (1 : Int32))] [(.int (p4 + (wd 1))), (.ref a3)])) _
      jvm_step X306.here [X306.here.top, hx, (hb hby d10_48), Value.category]
      exact kt
    clear R307
    have r2_1 := own_ix p4 (wd 1) o (wn 1) NN ho c1 (Nat.lt_of_lt_of_le (Nat.add_lt_add_left d1 o) hnn) h8
    obtain ⟨cl310, Ar310, hin310, hat310⟩ := VK_300.at (j := (p4 + (wd 1))) (k := (o + wn 1)) r2_1.1 r2_1.2 (Nat.lt_of_lt_of_le (Nat.add_lt_add_left d1 o) hnn)
    have R311 : ∀ tg, Steps p.tables e below (T306.setTop (mkF m 53 #[vR a1, vR a2, vR a3, vI p4, vI ((0 : Int32) + (1 : Int32))] [(.int ((0 : Int32) + (1 : Int32))), (.ref a2), (.long ((own_or (own_zero fk o nw) (o + wn 0) (own_shl (own_dd lo val 0) (sh 0))) (o + wn 1))), (.int (p4 + (wd 1))), (.ref a3)])) tg → Steps p.tables e below (s₁.setTop (mkF m 0 #[vR a1, vR a2, vR a3, vI p4, .unset] [])) tg := by
      intro tg kt
      refine R309 _ ?_
      show Steps p.tables e below (T306.setTop (mkF m 49 #[vR a1, vR a2, vR a3, vI p4, vI ((0 : Int32) + (1 : Int32))] [(.int (p4 + (wd 1))), (.ref a3), (.int (p4 + (wd 1))), (.ref a3)])) _
      refine X306.laload hx (j := (p4 + (wd 1))) (v := (.long ((own_or (own_zero fk o nw) (o + wn 0) (own_shl (own_dd lo val 0) (sh 0))) (o + wn 1)))) (by rw [e306]; exact Ar310.1) (State.isArrayOf_alike hZ.alike Ar310.2.1) Ar310.2.2 hin310 hat310 (g := (mkF m 49 #[vR a1, vR a2, vR a3, vI p4, vI ((0 : Int32) + (1 : Int32))] [(.int (p4 + (wd 1))), (.ref a3), (.int (p4 + (wd 1))), (.ref a3)])) rfl rfl (hb hby d10_49) _ ?_
      refine XS.aloadN X306.here hx rfl (hb hby d10_50) rfl rfl ?_
      refine XS.iload X306.here hx rfl (hb hby d10_51) rfl ?_
      exact kt
    clear R309
    obtain ⟨cl312, Ar312, hin312, hat312⟩ := VV_300.at (j := ((0 : Int32) + (1 : Int32))) (k := 1) (by decide) rfl (by decide)
    have R313 : ∀ tg, Steps p.tables e below (T306.setTop (mkF m 56 #[vR a1, vR a2, vR a3, vI p4, vI ((0 : Int32) + (1 : Int32))] [(.ref a1), (.long ((val 1).toInt64)), (.long ((own_or (own_zero fk o nw) (o + wn 0) (own_shl (own_dd lo val 0) (sh 0))) (o + wn 1))), (.int (p4 + (wd 1))), (.ref a3)])) tg → Steps p.tables e below (s₁.setTop (mkF m 0 #[vR a1, vR a2, vR a3, vI p4, .unset] [])) tg := by
      intro tg kt
      refine R311 _ ?_
      show Steps p.tables e below (T306.setTop (mkF m 53 #[vR a1, vR a2, vR a3, vI p4, vI ((0 : Int32) + (1 : Int32))] [(.int ((0 : Int32) + (1 : Int32))), (.ref a2), (.long ((own_or (own_zero fk o nw) (o + wn 0) (own_shl (own_dd lo val 0) (sh 0))) (o + wn 1))), (.int (p4 + (wd 1))), (.ref a3)])) _
      refine X306.iaload hx (j := ((0 : Int32) + (1 : Int32))) (v := (.int (val 1))) (by rw [e306]; exact Ar312.1) (State.isArrayOf_alike hZ.alike Ar312.2.1) Ar312.2.2 hin312 hat312 (g := (mkF m 53 #[vR a1, vR a2, vR a3, vI p4, vI ((0 : Int32) + (1 : Int32))] [(.int ((0 : Int32) + (1 : Int32))), (.ref a2), (.long ((own_or (own_zero fk o nw) (o + wn 0) (own_shl (own_dd lo val 0) (sh 0))) (o + wn 1))), (.int (p4 + (wd 1))), (.ref a3)])) rfl rfl (hb hby d10_53) _ ?_
      show Steps p.tables e below (T306.setTop (mkF m 54 #[vR a1, vR a2, vR a3, vI p4, vI ((0 : Int32) + (1 : Int32))] [(.int (val 1)), (.long ((own_or (own_zero fk o nw) (o + wn 0) (own_shl (own_dd lo val 0) (sh 0))) (o + wn 1))), (.int (p4 + (wd 1))), (.ref a3)])) _
      refine XS.i2l X306.here hx rfl (hb hby d10_54) rfl ?_
      refine XS.aloadN X306.here hx rfl (hb hby d10_55) rfl rfl ?_
      exact kt
    clear R311
    obtain ⟨T314, X314, e314, st314⟩ := getF X306 hx hZ hown (host := "") (Or.inl (hw _ (List.mem_of_getElem? (i := 26) rfl))) Via.refl e306 Fl_300 (g := (mkF m 56 #[vR a1, vR a2, vR a3, vI p4, vI ((0 : Int32) + (1 : Int32))] [(.ref a1), (.long ((val 1).toInt64)), (.long ((own_or (own_zero fk o nw) (o + wn 0) (own_shl (own_dd lo val 0) (sh 0))) (o + wn 1))), (.int (p4 + (wd 1))), (.ref a3)])) rfl rfl (hb hby d10_56)
    have R315 : ∀ tg, Steps p.tables e below (T314.setTop (mkF m 61 #[vR a1, vR a2, vR a3, vI p4, vI ((0 : Int32) + (1 : Int32))] [(.int ((0 : Int32) + (1 : Int32))), (.ref b1), (.long ((val 1).toInt64)), (.long ((own_or (own_zero fk o nw) (o + wn 0) (own_shl (own_dd lo val 0) (sh 0))) (o + wn 1))), (.int (p4 + (wd 1))), (.ref a3)])) tg → Steps p.tables e below (s₁.setTop (mkF m 0 #[vR a1, vR a2, vR a3, vI p4, .unset] [])) tg := by
      intro tg kt
      refine R313 _ ?_
      refine st314 _ ?_
      refine XS.iload X314.here hx rfl (hb hby d10_59) rfl ?_
      exact kt
    clear R313 st314
    obtain ⟨cl316, Ar316, hin316, hat316⟩ := VL_300.at (j := ((0 : Int32) + (1 : Int32))) (k := 1) (by decide) rfl (by decide)
    have R317 : ∀ tg, Steps p.tables e below (T314.setTop (mkF m 65 #[vR a1, vR a2, vR a3, vI p4, vI ((0 : Int32) + (1 : Int32))] [(.ref a1), (.long (((val 1).toInt64) - ((lo 1).toInt64))), (.long ((own_or (own_zero fk o nw) (o + wn 0) (own_shl (own_dd lo val 0) (sh 0))) (o + wn 1))), (.int (p4 + (wd 1))), (.ref a3)])) tg → Steps p.tables e below (s₁.setTop (mkF m 0 #[vR a1, vR a2, vR a3, vI p4, .unset] [])) tg := by
      intro tg kt
      refine R315 _ ?_
      show Steps p.tables e below (T314.setTop (mkF m 61 #[vR a1, vR a2, vR a3, vI p4, vI ((0 : Int32) + (1 : Int32))] [(.int ((0 : Int32) + (1 : Int32))), (.ref b1), (.long ((val 1).toInt64)), (.long ((own_or (own_zero fk o nw) (o + wn 0) (own_shl (own_dd lo val 0) (sh 0))) (o + wn 1))), (.int (p4 + (wd 1))), (.ref a3)])) _
      refine X314.iaload hx (j := ((0 : Int32) + (1 : Int32))) (v := (.int (lo 1))) (by rw [e314]; exact Ar316.1) (State.isArrayOf_alike hZ.alike Ar316.2.1) Ar316.2.2 hin316 hat316 (g := (mkF m 61 #[vR a1, vR a2, vR a3, vI p4, vI ((0 : Int32) + (1 : Int32))] [(.int ((0 : Int32) + (1 : Int32))), (.ref b1), (.long ((val 1).toInt64)), (.long ((own_or (own_zero fk o nw) (o + wn 0) (own_shl (own_dd lo val 0) (sh 0))) (o + wn 1))), (.int (p4 + (wd 1))), (.ref a3)])) rfl rfl (hb hby d10_61) _ ?_
      show Steps p.tables e below (T314.setTop (mkF m 62 #[vR a1, vR a2, vR a3, vI p4, vI ((0 : Int32) + (1 : Int32))] [(.int (lo 1)), (.long ((val 1).toInt64)), (.long ((own_or (own_zero fk o nw) (o + wn 0) (own_shl (own_dd lo val 0) (sh 0))) (o + wn 1))), (.int (p4 + (wd 1))), (.ref a3)])) _
      refine XS.i2l X314.here hx rfl (hb hby d10_62) rfl ?_
      show Steps p.tables e below (T314.setTop (mkF m 63 #[vR a1, vR a2, vR a3, vI p4, vI ((0 : Int32) + (1 : Int32))] [(.long ((lo 1).toInt64)), (.long ((val 1).toInt64)), (.long ((own_or (own_zero fk o nw) (o + wn 0) (own_shl (own_dd lo val 0) (sh 0))) (o + wn 1))), (.int (p4 + (wd 1))), (.ref a3)])) _
      refine XS.lsub X314.here hx rfl (hb hby d10_63) rfl ?_
      refine XS.aloadN X314.here hx rfl (hb hby d10_64) rfl rfl ?_
      exact kt
    clear R315
    obtain ⟨T318, X318, e318, st318⟩ := getF X314 hx hZ hown (host := "") (Or.inl (hw _ (List.mem_of_getElem? (i := 30) rfl))) Via.refl e314 Fs_300 (g := (mkF m 65 #[vR a1, vR a2, vR a3, vI p4, vI ((0 : Int32) + (1 : Int32))] [(.ref a1), (.long (((val 1).toInt64) - ((lo 1).toInt64))), (.long ((own_or (own_zero fk o nw) (o + wn 0) (own_shl (own_dd lo val 0) (sh 0))) (o + wn 1))), (.int (p4 + (wd 1))), (.ref a3)])) rfl rfl (hb hby d10_65)
    have R319 : ∀ tg, Steps p.tables e below (T318.setTop (mkF m 70 #[vR a1, vR a2, vR a3, vI p4, vI ((0 : Int32) + (1 : Int32))] [(.int ((0 : Int32) + (1 : Int32))), (.ref b3), (.long (((val 1).toInt64) - ((lo 1).toInt64))), (.long ((own_or (own_zero fk o nw) (o + wn 0) (own_shl (own_dd lo val 0) (sh 0))) (o + wn 1))), (.int (p4 + (wd 1))), (.ref a3)])) tg → Steps p.tables e below (s₁.setTop (mkF m 0 #[vR a1, vR a2, vR a3, vI p4, .unset] [])) tg := by
      intro tg kt
      refine R317 _ ?_
      refine st318 _ ?_
      refine XS.iload X318.here hx rfl (hb hby d10_68) rfl ?_
      exact kt
    clear R317 st318
    obtain ⟨cl320, Ar320, hin320, hat320⟩ := VS_300.at (j := ((0 : Int32) + (1 : Int32))) (k := 1) (by decide) rfl (by decide)
    have R321 : ∀ tg, Steps p.tables e below (T318.setTop (mkF m 73 #[vR a1, vR a2, vR a3, vI p4, vI ((0 : Int32) + (1 : Int32))] [(.long (((own_or (own_zero fk o nw) (o + wn 0) (own_shl (own_dd lo val 0) (sh 0))) (o + wn 1)) ||| ((((val 1).toInt64) - ((lo 1).toInt64)) <<< ((sh 1) &&& 0x3f).toInt64))), (.int (p4 + (wd 1))), (.ref a3)])) tg → Steps p.tables e below (s₁.setTop (mkF m 0 #[vR a1, vR a2, vR a3, vI p4, .unset] [])) tg := by
      intro tg kt
      refine R319 _ ?_
      show Steps p.tables e below (T318.setTop (mkF m 70 #[vR a1, vR a2, vR a3, vI p4, vI ((0 : Int32) + (1 : Int32))] [(.int ((0 : Int32) + (1 : Int32))), (.ref b3), (.long (((val 1).toInt64) - ((lo 1).toInt64))), (.long ((own_or (own_zero fk o nw) (o + wn 0) (own_shl (own_dd lo val 0) (sh 0))) (o + wn 1))), (.int (p4 + (wd 1))), (.ref a3)])) _
      refine X318.iaload hx (j := ((0 : Int32) + (1 : Int32))) (v := (.int (sh 1))) (by rw [e318]; exact Ar320.1) (State.isArrayOf_alike hZ.alike Ar320.2.1) Ar320.2.2 hin320 hat320 (g := (mkF m 70 #[vR a1, vR a2, vR a3, vI p4, vI ((0 : Int32) + (1 : Int32))] [(.int ((0 : Int32) + (1 : Int32))), (.ref b3), (.long (((val 1).toInt64) - ((lo 1).toInt64))), (.long ((own_or (own_zero fk o nw) (o + wn 0) (own_shl (own_dd lo val 0) (sh 0))) (o + wn 1))), (.int (p4 + (wd 1))), (.ref a3)])) rfl rfl (hb hby d10_70) _ ?_
      show Steps p.tables e below (T318.setTop (mkF m 71 #[vR a1, vR a2, vR a3, vI p4, vI ((0 : Int32) + (1 : Int32))] [(.int (sh 1)), (.long (((val 1).toInt64) - ((lo 1).toInt64))), (.long ((own_or (own_zero fk o nw) (o + wn 0) (own_shl (own_dd lo val 0) (sh 0))) (o + wn 1))), (.int (p4 + (wd 1))), (.ref a3)])) _
      refine XS.lshl X318.here hx rfl (hb hby d10_71) rfl ?_
      show Steps p.tables e below (T318.setTop (mkF m 72 #[vR a1, vR a2, vR a3, vI p4, vI ((0 : Int32) + (1 : Int32))] [(.long ((((val 1).toInt64) - ((lo 1).toInt64)) <<< ((sh 1) &&& 0x3f).toInt64)), (.long ((own_or (own_zero fk o nw) (o + wn 0) (own_shl (own_dd lo val 0) (sh 0))) (o + wn 1))), (.int (p4 + (wd 1))), (.ref a3)])) _
      refine XS.lor X318.here hx rfl (hb hby d10_72) rfl ?_
      exact kt
    clear R319
    obtain ⟨cl322, Ar322, hin322, -⟩ := VK_300.at (j := (p4 + (wd 1))) (k := (o + wn 1)) r2_1.1 r2_1.2 (Nat.lt_of_lt_of_le (Nat.add_lt_add_left d1 o) hnn)
    obtain ⟨T323, h323, X323, e323, W323, st323⟩ := stJ X318 hx hZ e318 Ar322 (j := (p4 + (wd 1))) hin322 (g := (mkF m 73 #[vR a1, vR a2, vR a3, vI p4, vI ((0 : Int32) + (1 : Int32))] [(.long (((own_or (own_zero fk o nw) (o + wn 0) (own_shl (own_dd lo val 0) (sh 0))) (o + wn 1)) ||| ((((val 1).toInt64) - ((lo 1).toInt64)) <<< ((sh 1) &&& 0x3f).toInt64))), (.int (p4 + (wd 1))), (.ref a3)])) rfl rfl (hb hby d10_73)
    have N323 := Fr.snoc X323 N300 ga
    rw [show ((p4 + (wd 1)) : Int32).toNatClampNeg = (o + wn 1) from r2_1.2] at W323
    have VK_323 : AV Z h323 a3 .long NN (fun j => .long ((own_or (own_or (own_zero fk o nw) (o + wn 0) (own_shl (own_dd lo val 0) (sh 0))) (o + wn 1) (own_shl (own_dd lo val 1) (sh 1))) j)) := VK_300.setJ W323
    have Fl_323 := Fl_300.other W323 (Or.inl m1)
    have Fw_323 := Fw_300.other W323 (Or.inl m1)
    have Fs_323 := Fs_300.other W323 (Or.inl m1)
    have Fc_323 := Fc_300.other W323 (Or.inl m1)
    have VL_323 := VL_300.other W323 m3
    have VW_323 := VW_300.other W323 m4
    have VS_323 := VS_300.other W323 m5
    have VV_323 := VV_300.other W323 m2
    clear Fl_300 Fw_300 Fs_300 Fc_300 VL_300 VW_300 VS_300 VV_300
    have Zs323 : n0 ≤ h323.size := Nat.le_trans Zs300 (Keep.of_wr W323).1
    have Kw323 : Keep h0 h323 [a3] := Keep.wr Kw300 W323 (Or.inl (List.mem_of_getElem? (i := 0) rfl))
    have R324 : ∀ tg, Steps p.tables e below (T323.setTop (mkF m 31 #[vR a1, vR a2, vR a3, vI p4, vI (((0 : Int32) + (1 : Int32)) + (1 : Int32))] [(.ref a1), (.int (((0 : Int32) + (1 : Int32)) + (1 : Int32)))])) tg → Steps p.tables e below (s₁.setTop (mkF m 0 #[vR a1, vR a2, vR a3, vI p4, .unset] [])) tg := by
      intro tg kt
      refine R321 _ ?_
      refine st323 _ ?_
      show Steps p.tables e below (T323.setTop (mkF m 74 #[vR a1, vR a2, vR a3, vI p4, vI ((0 : Int32) + (1 : Int32))] [])) _
      refine XS.iinc X323.here hx rfl (hb hby d10_74) rfl (l' := #[vR a1, vR a2, vR a3, vI p4, vI (((0 : Int32) + (1 : Int32)) + (1 : Int32))]) rfl ?_
      show Steps p.tables e below (T323.setTop (mkF m 77 #[vR a1, vR a2, vR a3, vI p4, vI (((0 : Int32) + (1 : Int32)) + (1 : Int32))] [])) _
      refine XS.goto X323.here hx rfl (pc0 := 77) (pc' := 28) rfl (hb hby d10_77) (by decide) (by decide) ?_
      refine XS.iload X323.here hx rfl (hb hby d10_28) rfl ?_
      refine XS.aloadN X323.here hx rfl (hb hby d10_30) rfl rfl ?_
      exact kt
    clear R321 st323
    obtain ⟨T325, X325, e325, st325⟩ := getF X323 hx hZ hown (host := "") (Or.inl (hw _ (List.mem_of_getElem? (i := 26) rfl))) Via.refl e323 Fl_323 (g := (mkF m 31 #[vR a1, vR a2, vR a3, vI p4, vI (((0 : Int32) + (1 : Int32)) + (1 : Int32))] [(.ref a1), (.int (((0 : Int32) + (1 : Int32)) + (1 : Int32)))])) rfl rfl (hb hby d10_31)
    have R326 : ∀ tg, Steps p.tables e below (T325.setTop (mkF m 34 #[vR a1, vR a2, vR a3, vI p4, vI (((0 : Int32) + (1 : Int32)) + (1 : Int32))] [(.ref b1), (.int (((0 : Int32) + (1 : Int32)) + (1 : Int32)))])) tg → Steps p.tables e below (s₁.setTop (mkF m 0 #[vR a1, vR a2, vR a3, vI p4, .unset] [])) tg := by
      intro tg kt
      refine R324 _ ?_
      refine st325 _ ?_
      exact kt
    clear R324 st325
    obtain ⟨cl327, Ar327, ln327⟩ := VL_323.len
    have R328 : ∀ tg, Steps p.tables e below (T325.setTop (mkF m 41 #[vR a1, vR a2, vR a3, vI p4, vI (((0 : Int32) + (1 : Int32)) + (1 : Int32))] [(.ref a1), (.int p4), (.ref a3)])) tg → Steps p.tables e below (s₁.setTop (mkF m 0 #[vR a1, vR a2, vR a3, vI p4, .unset] [])) tg := by
      intro tg kt
      refine R326 _ ?_
      show Steps p.tables e below (T325.setTop (mkF m 34 #[vR a1, vR a2, vR a3, vI p4, vI (((0 : Int32) + (1 : Int32)) + (1 : Int32))] [(.ref b1), (.int (((0 : Int32) + (1 : Int32)) + (1 : Int32)))])) _
      refine X325.arraylength hx (by rw [e325]; exact Ar327.1) (State.isArrayOf_alike hZ.alike Ar327.2.1) (g := (mkF m 34 #[vR a1, vR a2, vR a3, vI p4, vI (((0 : Int32) + (1 : Int32)) + (1 : Int32))] [(.ref b1), (.int (((0 : Int32) + (1 : Int32)) + (1 : Int32)))])) rfl rfl (hb hby d10_34) _ ?_
      rw [ln327]
      show Steps p.tables e below (T325.setTop (mkF m 35 #[vR a1, vR a2, vR a3, vI p4, vI (((0 : Int32) + (1 : Int32)) + (1 : Int32))] [(.int (3 : Int32)), (.int (((0 : Int32) + (1 : Int32)) + (1 : Int32)))])) _
      refine XS.icmpNo X325.here hx rfl (hb hby d10_35) rfl (tlt (by decide : (((0 : Int32) + (1 : Int32)) + (1 : Int32)) < (3 : Int32))).2.1 ?_
      refine XS.aloadN X325.here hx rfl (hb hby d10_38) rfl rfl ?_
      refine XS.iloadN X325.here hx rfl (hb hby d10_39) rfl ?_
      show Steps p.tables e below (T325.setTop (mkF m 40 #[vR a1, vR a2, vR a3, vI p4, vI (((0 : Int32) + (1 : Int32)) + (1 : Int32))] [(.int p4), (.ref a3)])) _
      refine XS.aloadN X325.here hx rfl (hb hby d10_40) rfl rfl ?_
      exact kt
    clear R326
    obtain ⟨T329, X329, e329, st329⟩ := getF X325 hx hZ hown (host := "") (Or.inl (hw _ (List.mem_of_getElem? (i := 28) rfl))) Via.refl e325 Fw_323 (g := (mkF m 41 #[vR a1, vR a2, vR a3, vI p4, vI (((0 : Int32) + (1 : Int32)) + (1 : Int32))] [(.ref a1), (.int p4), (.ref a3)])) rfl rfl (hb hby d10_41)
    have R330 : ∀ tg, Steps p.tables e below (T329.setTop (mkF m 46 #[vR a1, vR a2, vR a3, vI p4, vI (((0 : Int32) + (1 : Int32)) + (1 : Int32))] [(.int (((0 : Int32) + (1 : Int32)) + (1 : Int32))), (.ref b2), (.int p4), (.ref a3)])) tg → Steps p.tables e below (s₁.setTop (mkF m 0 #[vR a1, vR a2, vR a3, vI p4, .unset] [])) tg := by
      intro tg kt
      refine R328 _ ?_
      refine st329 _ ?_
      refine XS.iload X329.here hx rfl (hb hby d10_44) rfl ?_
      exact kt
    clear R328 st329
    obtain ⟨cl331, Ar331, hin331, hat331⟩ := VW_323.at (j := (((0 : Int32) + (1 : Int32)) + (1 : Int32))) (k := 2) (by decide) rfl (by decide)
    have R332 : ∀ tg, Steps p.tables e below (T329.setTop (mkF m 49 #[vR a1, vR a2, vR a3, vI p4, vI (((0 : Int32) + (1 : Int32)) + (1 : Int32))] [(.int (p4 + (wd 2))), (.ref a3), (.int (p4 + (wd 2))), (.ref a3)])) tg → Steps p.tables e below (s₁.setTop (mkF m 0 #[vR a1, vR a2, vR a3, vI p4, .unset] [])) tg := by
      intro tg kt
      refine R330 _ ?_
      show Steps p.tables e below (T329.setTop (mkF m 46 #[vR a1, vR a2, vR a3, vI p4, vI (((0 : Int32) + (1 : Int32)) + (1 : Int32))] [(.int (((0 : Int32) + (1 : Int32)) + (1 : Int32))), (.ref b2), (.int p4), (.ref a3)])) _
      refine X329.iaload hx (j := (((0 : Int32) + (1 : Int32)) + (1 : Int32))) (v := (.int (wd 2))) (by rw [e329]; exact Ar331.1) (State.isArrayOf_alike hZ.alike Ar331.2.1) Ar331.2.2 hin331 hat331 (g := (mkF m 46 #[vR a1, vR a2, vR a3, vI p4, vI (((0 : Int32) + (1 : Int32)) + (1 : Int32))] [(.int (((0 : Int32) + (1 : Int32)) + (1 : Int32))), (.ref b2), (.int p4), (.ref a3)])) rfl rfl (hb hby d10_46) _ ?_
      show Steps p.tables e below (T329.setTop (mkF m 47 #[vR a1, vR a2, vR a3, vI p4, vI (((0 : Int32) + (1 : Int32)) + (1 : Int32))] [(.int (wd 2)), (.int p4), (.ref a3)])) _
      refine XS.iadd X329.here hx rfl (hb hby d10_47) rfl ?_
      show Steps p.tables e below (T329.setTop (mkF m 48 #[vR a1, vR a2, vR a3, vI p4, vI (((0 : Int32) + (1 : Int32)) + (1 : Int32))] [(.int (p4 + (wd 2))), (.ref a3)])) _
      jvm_step X329.here [X329.here.top, hx, (hb hby d10_48), Value.category]
      exact kt
    clear R330
    have r2_2 := own_ix p4 (wd 2) o (wn 2) NN ho c2 (Nat.lt_of_lt_of_le (Nat.add_lt_add_left d2 o) hnn) h8
    obtain ⟨cl333, Ar333, hin333, hat333⟩ := VK_323.at (j := (p4 + (wd 2))) (k := (o + wn 2)) r2_2.1 r2_2.2 (Nat.lt_of_lt_of_le (Nat.add_lt_add_left d2 o) hnn)
    have R334 : ∀ tg, Steps p.tables e below (T329.setTop (mkF m 53 #[vR a1, vR a2, vR a3, vI p4, vI (((0 : Int32) + (1 : Int32)) + (1 : Int32))] [(.int (((0 : Int32) + (1 : Int32)) + (1 : Int32))), (.ref a2), (.long ((own_or (own_or (own_zero fk o nw) (o + wn 0) (own_shl (own_dd lo val 0) (sh 0))) (o + wn 1) (own_shl (own_dd lo val 1) (sh 1))) (o + wn 2))), (.int (p4 + (wd 2))), (.ref a3)])) tg → Steps p.tables e below (s₁.setTop (mkF m 0 #[vR a1, vR a2, vR a3, vI p4, .unset] [])) tg := by
      intro tg kt
      refine R332 _ ?_
      show Steps p.tables e below (T329.setTop (mkF m 49 #[vR a1, vR a2, vR a3, vI p4, vI (((0 : Int32) + (1 : Int32)) + (1 : Int32))] [(.int (p4 + (wd 2))), (.ref a3), (.int (p4 + (wd 2))), (.ref a3)])) _
      refine X329.laload hx (j := (p4 + (wd 2))) (v := (.long ((own_or (own_or (own_zero fk o nw) (o + wn 0) (own_shl (own_dd lo val 0) (sh 0))) (o + wn 1) (own_shl (own_dd lo val 1) (sh 1))) (o + wn 2)))) (by rw [e329]; exact Ar333.1) (State.isArrayOf_alike hZ.alike Ar333.2.1) Ar333.2.2 hin333 hat333 (g := (mkF m 49 #[vR a1, vR a2, vR a3, vI p4, vI (((0 : Int32) + (1 : Int32)) + (1 : Int32))] [(.int (p4 + (wd 2))), (.ref a3), (.int (p4 + (wd 2))), (.ref a3)])) rfl rfl (hb hby d10_49) _ ?_
      refine XS.aloadN X329.here hx rfl (hb hby d10_50) rfl rfl ?_
      refine XS.iload X329.here hx rfl (hb hby d10_51) rfl ?_
      exact kt
    clear R332
    obtain ⟨cl335, Ar335, hin335, hat335⟩ := VV_323.at (j := (((0 : Int32) + (1 : Int32)) + (1 : Int32))) (k := 2) (by decide) rfl (by decide)
    have R336 : ∀ tg, Steps p.tables e below (T329.setTop (mkF m 56 #[vR a1, vR a2, vR a3, vI p4, vI (((0 : Int32) + (1 : Int32)) + (1 : Int32))] [(.ref a1), (.long ((val 2).toInt64)), (.long ((own_or (own_or (own_zero fk o nw) (o + wn 0) (own_shl (own_dd lo val 0) (sh 0))) (o + wn 1) (own_shl (own_dd lo val 1) (sh 1))) (o + wn 2))), (.int (p4 + (wd 2))), (.ref a3)])) tg → Steps p.tables e below (s₁.setTop (mkF m 0 #[vR a1, vR a2, vR a3, vI p4, .unset] [])) tg := by
      intro tg kt
      refine R334 _ ?_
      show Steps p.tables e below (T329.setTop (mkF m 53 #[vR a1, vR a2, vR a3, vI p4, vI (((0 : Int32) + (1 : Int32)) + (1 : Int32))] [(.int (((0 : Int32) + (1 : Int32)) + (1 : Int32))), (.ref a2), (.long ((own_or (own_or (own_zero fk o nw) (o + wn 0) (own_shl (own_dd lo val 0) (sh 0))) (o + wn 1) (own_shl (own_dd lo val 1) (sh 1))) (o + wn 2))), (.int (p4 + (wd 2))), (.ref a3)])) _
      refine X329.iaload hx (j := (((0 : Int32) + (1 : Int32)) + (1 : Int32))) (v := (.int (val 2))) (by rw [e329]; exact Ar335.1) (State.isArrayOf_alike hZ.alike Ar335.2.1) Ar335.2.2 hin335 hat335 (g := (mkF m 53 #[vR a1, vR a2, vR a3, vI p4, vI (((0 : Int32) + (1 : Int32)) + (1 : Int32))] [(.int (((0 : Int32) + (1 : Int32)) + (1 : Int32))), (.ref a2), (.long ((own_or (own_or (own_zero fk o nw) (o + wn 0) (own_shl (own_dd lo val 0) (sh 0))) (o + wn 1) (own_shl (own_dd lo val 1) (sh 1))) (o + wn 2))), (.int (p4 + (wd 2))), (.ref a3)])) rfl rfl (hb hby d10_53) _ ?_
      show Steps p.tables e below (T329.setTop (mkF m 54 #[vR a1, vR a2, vR a3, vI p4, vI (((0 : Int32) + (1 : Int32)) + (1 : Int32))] [(.int (val 2)), (.long ((own_or (own_or (own_zero fk o nw) (o + wn 0) (own_shl (own_dd lo val 0) (sh 0))) (o + wn 1) (own_shl (own_dd lo val 1) (sh 1))) (o + wn 2))), (.int (p4 + (wd 2))), (.ref a3)])) _
      refine XS.i2l X329.here hx rfl (hb hby d10_54) rfl ?_
      refine XS.aloadN X329.here hx rfl (hb hby d10_55) rfl rfl ?_
      exact kt
    clear R334
    obtain ⟨T337, X337, e337, st337⟩ := getF X329 hx hZ hown (host := "") (Or.inl (hw _ (List.mem_of_getElem? (i := 26) rfl))) Via.refl e329 Fl_323 (g := (mkF m 56 #[vR a1, vR a2, vR a3, vI p4, vI (((0 : Int32) + (1 : Int32)) + (1 : Int32))] [(.ref a1), (.long ((val 2).toInt64)), (.long ((own_or (own_or (own_zero fk o nw) (o + wn 0) (own_shl (own_dd lo val 0) (sh 0))) (o + wn 1) (own_shl (own_dd lo val 1) (sh 1))) (o + wn 2))), (.int (p4 + (wd 2))), (.ref a3)])) rfl rfl (hb hby d10_56)
    have R338 : ∀ tg, Steps p.tables e below (T337.setTop (mkF m 61 #[vR a1, vR a2, vR a3, vI p4, vI (((0 : Int32) + (1 : Int32)) + (1 : Int32))] [(.int (((0 : Int32) + (1 : Int32)) + (1 : Int32))), (.ref b1), (.long ((val 2).toInt64)), (.long ((own_or (own_or (own_zero fk o nw) (o + wn 0) (own_shl (own_dd lo val 0) (sh 0))) (o + wn 1) (own_shl (own_dd lo val 1) (sh 1))) (o + wn 2))), (.int (p4 + (wd 2))), (.ref a3)])) tg → Steps p.tables e below (s₁.setTop (mkF m 0 #[vR a1, vR a2, vR a3, vI p4, .unset] [])) tg := by
      intro tg kt
      refine R336 _ ?_
      refine st337 _ ?_
      refine XS.iload X337.here hx rfl (hb hby d10_59) rfl ?_
      exact kt
    clear R336 st337
    obtain ⟨cl339, Ar339, hin339, hat339⟩ := VL_323.at (j := (((0 : Int32) + (1 : Int32)) + (1 : Int32))) (k := 2) (by decide) rfl (by decide)
    have R340 : ∀ tg, Steps p.tables e below (T337.setTop (mkF m 65 #[vR a1, vR a2, vR a3, vI p4, vI (((0 : Int32) + (1 : Int32)) + (1 : Int32))] [(.ref a1), (.long (((val 2).toInt64) - ((lo 2).toInt64))), (.long ((own_or (own_or (own_zero fk o nw) (o + wn 0) (own_shl (own_dd lo val 0) (sh 0))) (o + wn 1) (own_shl (own_dd lo val 1) (sh 1))) (o + wn 2))), (.int (p4 + (wd 2))), (.ref a3)])) tg → Steps p.tables e below (s₁.setTop (mkF m 0 #[vR a1, vR a2, vR a3, vI p4, .unset] [])) tg := by
      intro tg kt
      refine R338 _ ?_
      show Steps p.tables e below (T337.setTop (mkF m 61 #[vR a1, vR a2, vR a3, vI p4, vI (((0 : Int32) + (1 : Int32)) + (1 : Int32))] [(.int (((0 : Int32) + (1 : Int32)) + (1 : Int32))), (.ref b1), (.long ((val 2).toInt64)), (.long ((own_or (own_or (own_zero fk o nw) (o + wn 0) (own_shl (own_dd lo val 0) (sh 0))) (o + wn 1) (own_shl (own_dd lo val 1) (sh 1))) (o + wn 2))), (.int (p4 + (wd 2))), (.ref a3)])) _
      refine X337.iaload hx (j := (((0 : Int32) + (1 : Int32)) + (1 : Int32))) (v := (.int (lo 2))) (by rw [e337]; exact Ar339.1) (State.isArrayOf_alike hZ.alike Ar339.2.1) Ar339.2.2 hin339 hat339 (g := (mkF m 61 #[vR a1, vR a2, vR a3, vI p4, vI (((0 : Int32) + (1 : Int32)) + (1 : Int32))] [(.int (((0 : Int32) + (1 : Int32)) + (1 : Int32))), (.ref b1), (.long ((val 2).toInt64)), (.long ((own_or (own_or (own_zero fk o nw) (o + wn 0) (own_shl (own_dd lo val 0) (sh 0))) (o + wn 1) (own_shl (own_dd lo val 1) (sh 1))) (o + wn 2))), (.int (p4 + (wd 2))), (.ref a3)])) rfl rfl (hb hby d10_61) _ ?_
      show Steps p.tables e below (T337.setTop (mkF m 62 #[vR a1, vR a2, vR a3, vI p4, vI (((0 : Int32) + (1 : Int32)) + (1 : Int32))] [(.int (lo 2)), (.long ((val 2).toInt64)), (.long ((own_or (own_or (own_zero fk o nw) (o + wn 0) (own_shl (own_dd lo val 0) (sh 0))) (o + wn 1) (own_shl (own_dd lo val 1) (sh 1))) (o + wn 2))), (.int (p4 + (wd 2))), (.ref a3)])) _
      refine XS.i2l X337.here hx rfl (hb hby d10_62) rfl ?_
      show Steps p.tables e below (T337.setTop (mkF m 63 #[vR a1, vR a2, vR a3, vI p4, vI (((0 : Int32) + (1 : Int32)) + (1 : Int32))] [(.long ((lo 2).toInt64)), (.long ((val 2).toInt64)), (.long ((own_or (own_or (own_zero fk o nw) (o + wn 0) (own_shl (own_dd lo val 0) (sh 0))) (o + wn 1) (own_shl (own_dd lo val 1) (sh 1))) (o + wn 2))), (.int (p4 + (wd 2))), (.ref a3)])) _
      refine XS.lsub X337.here hx rfl (hb hby d10_63) rfl ?_
      refine XS.aloadN X337.here hx rfl (hb hby d10_64) rfl rfl ?_
      exact kt
    clear R338
    obtain ⟨T341, X341, e341, st341⟩ := getF X337 hx hZ hown (host := "") (Or.inl (hw _ (List.mem_of_getElem? (i := 30) rfl))) Via.refl e337 Fs_323 (g := (mkF m 65 #[vR a1, vR a2, vR a3, vI p4, vI (((0 : Int32) + (1 : Int32)) + (1 : Int32))] [(.ref a1), (.long (((val 2).toInt64) - ((lo 2).toInt64))), (.long ((own_or (own_or (own_zero fk o nw) (o + wn 0) (own_shl (own_dd lo val 0) (sh 0))) (o + wn 1) (own_shl (own_dd lo val 1) (sh 1))) (o + wn 2))), (.int (p4 + (wd 2))), (.ref a3)])) rfl rfl (hb hby d10_65)
    have R342 : ∀ tg, Steps p.tables e below (T341.setTop (mkF m 70 #[vR a1, vR a2, vR a3, vI p4, vI (((0 : Int32) + (1 : Int32)) + (1 : Int32))] [(.int (((0 : Int32) + (1 : Int32)) + (1 : Int32))), (.ref b3), (.long (((val 2).toInt64) - ((lo 2).toInt64))), (.long ((own_or (own_or (own_zero fk o nw) (o + wn 0) (own_shl (own_dd lo val 0) (sh 0))) (o + wn 1) (own_shl (own_dd lo val 1) (sh 1))) (o + wn 2))), (.int (p4 + (wd 2))), (.ref a3)])) tg → Steps p.tables e below (s₁.setTop (mkF m 0 #[vR a1, vR a2, vR a3, vI p4, .unset] [])) tg := by
      intro tg kt
      refine R340 _ ?_
      refine st341 _ ?_
      refine XS.iload X341.here hx rfl (hb hby d10_68) rfl ?_
      exact kt
    clear R340 st341
    obtain ⟨cl343, Ar343, hin343, hat343⟩ := VS_323.at (j := (((0 : Int32) + (1 : Int32)) + (1 : Int32))) (k := 2) (by decide) rfl (by decide)
    have R344 : ∀ tg, Steps p.tables e below (T341.setTop (mkF m 73 #[vR a1, vR a2, vR a3, vI p4, vI (((0 : Int32) + (1 : Int32)) + (1 : Int32))] [(.long (((own_or (own_or (own_zero fk o nw) (o + wn 0) (own_shl (own_dd lo val 0) (sh 0))) (o + wn 1) (own_shl (own_dd lo val 1) (sh 1))) (o + wn 2)) ||| ((((val 2).toInt64) - ((lo 2).toInt64)) <<< ((sh 2) &&& 0x3f).toInt64))), (.int (p4 + (wd 2))), (.ref a3)])) tg → Steps p.tables e below (s₁.setTop (mkF m 0 #[vR a1, vR a2, vR a3, vI p4, .unset] [])) tg := by
      intro tg kt
      refine R342 _ ?_
      show Steps p.tables e below (T341.setTop (mkF m 70 #[vR a1, vR a2, vR a3, vI p4, vI (((0 : Int32) + (1 : Int32)) + (1 : Int32))] [(.int (((0 : Int32) + (1 : Int32)) + (1 : Int32))), (.ref b3), (.long (((val 2).toInt64) - ((lo 2).toInt64))), (.long ((own_or (own_or (own_zero fk o nw) (o + wn 0) (own_shl (own_dd lo val 0) (sh 0))) (o + wn 1) (own_shl (own_dd lo val 1) (sh 1))) (o + wn 2))), (.int (p4 + (wd 2))), (.ref a3)])) _
      refine X341.iaload hx (j := (((0 : Int32) + (1 : Int32)) + (1 : Int32))) (v := (.int (sh 2))) (by rw [e341]; exact Ar343.1) (State.isArrayOf_alike hZ.alike Ar343.2.1) Ar343.2.2 hin343 hat343 (g := (mkF m 70 #[vR a1, vR a2, vR a3, vI p4, vI (((0 : Int32) + (1 : Int32)) + (1 : Int32))] [(.int (((0 : Int32) + (1 : Int32)) + (1 : Int32))), (.ref b3), (.long (((val 2).toInt64) - ((lo 2).toInt64))), (.long ((own_or (own_or (own_zero fk o nw) (o + wn 0) (own_shl (own_dd lo val 0) (sh 0))) (o + wn 1) (own_shl (own_dd lo val 1) (sh 1))) (o + wn 2))), (.int (p4 + (wd 2))), (.ref a3)])) rfl rfl (hb hby d10_70) _ ?_
      show Steps p.tables e below (T341.setTop (mkF m 71 #[vR a1, vR a2, vR a3, vI p4, vI (((0 : Int32) + (1 : Int32)) + (1 : Int32))] [(.int (sh 2)), (.long (((val 2).toInt64) - ((lo 2).toInt64))), (.long ((own_or (own_or (own_zero fk o nw) (o + wn 0) (own_shl (own_dd lo val 0) (sh 0))) (o + wn 1) (own_shl (own_dd lo val 1) (sh 1))) (o + wn 2))), (.int (p4 + (wd 2))), (.ref a3)])) _
      refine XS.lshl X341.here hx rfl (hb hby d10_71) rfl ?_
      show Steps p.tables e below (T341.setTop (mkF m 72 #[vR a1, vR a2, vR a3, vI p4, vI (((0 : Int32) + (1 : Int32)) + (1 : Int32))] [(.long ((((val 2).toInt64) - ((lo 2).toInt64)) <<< ((sh 2) &&& 0x3f).toInt64)), (.long ((own_or (own_or (own_zero fk o nw) (o + wn 0) (own_shl (own_dd lo val 0) (sh 0))) (o + wn 1) (own_shl (own_dd lo val 1) (sh 1))) (o + wn 2))), (.int (p4 + (wd 2))), (.ref a3)])) _
      refine XS.lor X341.here hx rfl (hb hby d10_72) rfl ?_
      exact kt
    clear R342
    obtain ⟨cl345, Ar345, hin345, -⟩ := VK_323.at (j := (p4 + (wd 2))) (k := (o + wn 2)) r2_2.1 r2_2.2 (Nat.lt_of_lt_of_le (Nat.add_lt_add_left d2 o) hnn)
    obtain ⟨T346, h346, X346, e346, W346, st346⟩ := stJ X341 hx hZ e341 Ar345 (j := (p4 + (wd 2))) hin345 (g := (mkF m 73 #[vR a1, vR a2, vR a3, vI p4, vI (((0 : Int32) + (1 : Int32)) + (1 : Int32))] [(.long (((own_or (own_or (own_zero fk o nw) (o + wn 0) (own_shl (own_dd lo val 0) (sh 0))) (o + wn 1) (own_shl (own_dd lo val 1) (sh 1))) (o + wn 2)) ||| ((((val 2).toInt64) - ((lo 2).toInt64)) <<< ((sh 2) &&& 0x3f).toInt64))), (.int (p4 + (wd 2))), (.ref a3)])) rfl rfl (hb hby d10_73)
    have N346 := Fr.snoc X346 N323 ga
    rw [show ((p4 + (wd 2)) : Int32).toNatClampNeg = (o + wn 2) from r2_2.2] at W346
    have VK_346 : AV Z h346 a3 .long NN (fun j => .long ((own_or (own_or (own_or (own_zero fk o nw) (o + wn 0) (own_shl (own_dd lo val 0) (sh 0))) (o + wn 1) (own_shl (own_dd lo val 1) (sh 1))) (o + wn 2) (own_shl (own_dd lo val 2) (sh 2))) j)) := VK_323.setJ W346
    have Fl_346 := Fl_323.other W346 (Or.inl m1)
    have Fw_346 := Fw_323.other W346 (Or.inl m1)
    have Fs_346 := Fs_323.other W346 (Or.inl m1)
    have Fc_346 := Fc_323.other W346 (Or.inl m1)
    have VL_346 := VL_323.other W346 m3
    have VW_346 := VW_323.other W346 m4
    have VS_346 := VS_323.other W346 m5
    have VV_346 := VV_323.other W346 m2
    clear Fl_323 Fw_323 Fs_323 Fc_323 VL_323 VW_323 VS_323 VV_323
    have Zs346 : n0 ≤ h346.size := Nat.le_trans Zs323 (Keep.of_wr W346).1
    have Kw346 : Keep h0 h346 [a3] := Keep.wr Kw323 W346 (Or.inl (List.mem_of_getElem? (i := 0) rfl))
    have R347 : ∀ tg, Steps p.tables e below (T346.setTop (mkF m 31 #[vR a1, vR a2, vR a3, vI p4, vI ((((0 : Int32) + (1 : Int32)) + (1 : Int32)) + (1 : Int32))] [(.ref a1), (.int ((((0 : Int32) + (1 : Int32)) + (1 : Int32)) + (1 : Int32)))])) tg → Steps p.tables e below (s₁.setTop (mkF m 0 #[vR a1, vR a2, vR a3, vI p4, .unset] [])) tg := by
      intro tg kt
      refine R344 _ ?_
      refine st346 _ ?_
      show Steps p.tables e below (T346.setTop (mkF m 74 #[vR a1, vR a2, vR a3, vI p4, vI (((0 : Int32) + (1 : Int32)) + (1 : Int32))] [])) _
      refine XS.iinc X346.here hx rfl (hb hby d10_74) rfl (l' := #[vR a1, vR a2, vR a3, vI p4, vI ((((0 : Int32) + (1 : Int32)) + (1 : Int32)) + (1 : Int32))]) rfl ?_
      show Steps p.tables e below (T346.setTop (mkF m 77 #[vR a1, vR a2, vR a3, vI p4, vI ((((0 : Int32) + (1 : Int32)) + (1 : Int32)) + (1 : Int32))] [])) _
      refine XS.goto X346.here hx rfl (pc0 := 77) (pc' := 28) rfl (hb hby d10_77) (by decide) (by decide) ?_
      refine XS.iload X346.here hx rfl (hb hby d10_28) rfl ?_
      refine XS.aloadN X346.here hx rfl (hb hby d10_30) rfl rfl ?_
      exact kt
    clear R344 st346
    obtain ⟨T348, X348, e348, st348⟩ := getF X346 hx hZ hown (host := "") (Or.inl (hw _ (List.mem_of_getElem? (i := 26) rfl))) Via.refl e346 Fl_346 (g := (mkF m 31 #[vR a1, vR a2, vR a3, vI p4, vI ((((0 : Int32) + (1 : Int32)) + (1 : Int32)) + (1 : Int32))] [(.ref a1), (.int ((((0 : Int32) + (1 : Int32)) + (1 : Int32)) + (1 : Int32)))])) rfl rfl (hb hby d10_31)
    have R349 : ∀ tg, Steps p.tables e below (T348.setTop (mkF m 34 #[vR a1, vR a2, vR a3, vI p4, vI ((((0 : Int32) + (1 : Int32)) + (1 : Int32)) + (1 : Int32))] [(.ref b1), (.int ((((0 : Int32) + (1 : Int32)) + (1 : Int32)) + (1 : Int32)))])) tg → Steps p.tables e below (s₁.setTop (mkF m 0 #[vR a1, vR a2, vR a3, vI p4, .unset] [])) tg := by
      intro tg kt
      refine R347 _ ?_
      refine st348 _ ?_
      exact kt
    clear R347 st348
    obtain ⟨cl350, Ar350, ln350⟩ := VL_346.len
    have R351 : ∀ tg, Steps p.tables e below (T348.setTop (mkF m 80 #[vR a1, vR a2, vR a3, vI p4, vI ((((0 : Int32) + (1 : Int32)) + (1 : Int32)) + (1 : Int32))] [])) tg → Steps p.tables e below (s₁.setTop (mkF m 0 #[vR a1, vR a2, vR a3, vI p4, .unset] [])) tg := by
      intro tg kt
      refine R349 _ ?_
      show Steps p.tables e below (T348.setTop (mkF m 34 #[vR a1, vR a2, vR a3, vI p4, vI ((((0 : Int32) + (1 : Int32)) + (1 : Int32)) + (1 : Int32))] [(.ref b1), (.int ((((0 : Int32) + (1 : Int32)) + (1 : Int32)) + (1 : Int32)))])) _
      refine X348.arraylength hx (by rw [e348]; exact Ar350.1) (State.isArrayOf_alike hZ.alike Ar350.2.1) (g := (mkF m 34 #[vR a1, vR a2, vR a3, vI p4, vI ((((0 : Int32) + (1 : Int32)) + (1 : Int32)) + (1 : Int32))] [(.ref b1), (.int ((((0 : Int32) + (1 : Int32)) + (1 : Int32)) + (1 : Int32)))])) rfl rfl (hb hby d10_34) _ ?_
      rw [ln350]
      show Steps p.tables e below (T348.setTop (mkF m 35 #[vR a1, vR a2, vR a3, vI p4, vI ((((0 : Int32) + (1 : Int32)) + (1 : Int32)) + (1 : Int32))] [(.int (3 : Int32)), (.int ((((0 : Int32) + (1 : Int32)) + (1 : Int32)) + (1 : Int32)))])) _
      refine XS.icmpYes X348.here hx rfl (pc0 := 35) (pc' := 80) rfl (hb hby d10_35) rfl (flt (by decide : ¬ (((((0 : Int32) + (1 : Int32)) + (1 : Int32)) + (1 : Int32)) < (3 : Int32)))).2.1 (by decide) (by decide) ?_
      exact kt
    clear R349
    obtain ⟨fs, hr, hrun, hended, hW, hsame⟩ := X348.leave (v := none) (fun _ => rfl)
    refine ⟨_, _, pre0 _ (R351 _ ?_), hrun, hended, _, _, rfl, ?_, ⟨_, rfl⟩, hW, hsame.mono (by decide) (by decide)⟩
    · exact X348.returnOut hx Bd.returns (hb hby d10_80) hr
    · show Q_rm_encode Z a1 a2 a3 p4 b1 b2 b3 words lo wd sh val fk NN o nw wn h0 n0 _ T348.heap _
      rw [e348]
      exact ⟨rfl, N346, Kw346, VK_346⟩
theorem d11_0 : decode prog_37_method_4_code 0 = .ok (.iconst 0, 1) := by decide +kernel
theorem d11_1 : decode prog_37_method_4_code 1 = .ok (.istore 4, 2) := by decide +kernel
theorem d11_3 : decode prog_37_method_4_code 3 = .ok (.iload 4, 2) := by decide +kernel
theorem d11_5 : decode prog_37_method_4_code 5 = .ok (.aload_n 0, 1) := by decide +kernel
theorem d11_6 : decode prog_37_method_4_code 6 = .ok (.getfield 13, 3) := by decide +kernel
theorem d11_9 : decode prog_37_method_4_code 9 = .ok (.arraylength, 1) := by decide +kernel
theorem d11_10 : decode prog_37_method_4_code 10 = .ok (.if_icmp .ge 50, 3) := by decide +kernel
theorem d11_13 : decode prog_37_method_4_code 13 = .ok (.aload_n 3, 1) := by decide +kernel
theorem d11_14 : decode prog_37_method_4_code 14 = .ok (.iload 4, 2) := by decide +kernel
theorem d11_16 : decode prog_37_method_4_code 16 = .ok (.aload_n 1, 1) := by decide +kernel
theorem d11_17 : decode prog_37_method_4_code 17 = .ok (.iload_n 2, 1) := by decide +kernel
theorem d11_18 : decode prog_37_method_4_code 18 = .ok (.aload_n 0, 1) := by decide +kernel
theorem d11_19 : decode prog_37_method_4_code 19 = .ok (.getfield 18, 3) := by decide +kernel
theorem d11_22 : decode prog_37_method_4_code 22 = .ok (.iload 4, 2) := by decide +kernel
theorem d11_24 : decode prog_37_method_4_code 24 = .ok (.iaload, 1) := by decide +kernel
theorem d11_25 : decode prog_37_method_4_code 25 = .ok (.iadd, 1) := by decide +kernel
theorem d11_26 : decode prog_37_method_4_code 26 = .ok (.laload, 1) := by decide +kernel
theorem d11_27 : decode prog_37_method_4_code 27 = .ok (.aload_n 0, 1) := by decide +kernel
theorem d11_28 : decode prog_37_method_4_code 28 = .ok (.getfield 21, 3) := by decide +kernel
theorem d11_31 : decode prog_37_method_4_code 31 = .ok (.iload 4, 2) := by decide +kernel
theorem d11_33 : decode prog_37_method_4_code 33 = .ok (.iaload, 1) := by decide +kernel
theorem d11_34 : decode prog_37_method_4_code 34 = .ok (.lushr, 1) := by decide +kernel
theorem d11_35 : decode prog_37_method_4_code 35 = .ok (.aload_n 0, 1) := by decide +kernel
theorem d11_36 : decode prog_37_method_4_code 36 = .ok (.getfield 24, 3) := by decide +kernel
theorem d11_39 : decode prog_37_method_4_code 39 = .ok (.iload 4, 2) := by decide +kernel
theorem d11_41 : decode prog_37_method_4_code 41 = .ok (.laload, 1) := by decide +kernel
theorem d11_42 : decode prog_37_method_4_code 42 = .ok (.land, 1) := by decide +kernel
theorem d11_43 : decode prog_37_method_4_code 43 = .ok (.aload_n 0, 1) := by decide +kernel
theorem d11_44 : decode prog_37_method_4_code 44 = .ok (.getfield 13, 3) := by decide +kernel
theorem d11_47 : decode prog_37_method_4_code 47 = .ok (.iload 4, 2) := by decide +kernel
theorem d11_49 : decode prog_37_method_4_code 49 = .ok (.iaload, 1) := by decide +kernel
theorem d11_50 : decode prog_37_method_4_code 50 = .ok (.i2l, 1) := by decide +kernel
theorem d11_51 : decode prog_37_method_4_code 51 = .ok (.ladd, 1) := by decide +kernel
theorem d11_52 : decode prog_37_method_4_code 52 = .ok (.l2i, 1) := by decide +kernel
theorem d11_53 : decode prog_37_method_4_code 53 = .ok (.iastore, 1) := by decide +kernel
theorem d11_54 : decode prog_37_method_4_code 54 = .ok (.iinc 4 1, 3) := by decide +kernel
theorem d11_57 : decode prog_37_method_4_code 57 = .ok (.goto (-54), 3) := by decide +kernel
theorem d11_60 : decode prog_37_method_4_code 60 = .ok (.return_, 1) := by decide +kernel
theorem ef_rm_decode (m : MethodId) (a1 : Addr) (a2 : Addr) (p3 : Int32) (a4 : Addr) : entryFrame m #[(.ref a1), (.ref a2), (.int p3), (.ref a4)] 5 = mkF m 0 #[vR a1, vR a2, vI p3, vR a4, .unset] [] := by first | (simp [entryFrame, mkF, argsToLocals, Value.category]; done) | rfl
def Q_rm_decode (Z : State) (a1 : Addr) (a2 : Addr) (p3 : Int32) (a4 : Addr) (b1 : Addr) (b2 : Addr) (b3 : Addr) (b4 : Addr) (lo : Nat → Int32) (wd : Nat → Int32) (sh : Nat → Int32) (mk : Nat → Int64) (fo : Nat → Int32) (fk : Nat → Int64) (NN : Nat) (o : Nat) (nw : Nat) (wn : Nat → Nat) (h0 : Heap) (n0 : Nat) (v : Option Value) (h : Heap) (L : List Loc) : Prop := v = none ∧ Fr n0 L ∧ Keep h0 h [a4] ∧ AV Z h a4 .int 3 (fun j => .int ((own_dec fk o wn lo sh mk) j))
set_option maxRecDepth 65536 in
set_option maxHeartbeats 40000000 in
theorem rm_decode (l : Launch) (Z : State) (a0 : Array Value) (hw : ∀ d ∈ tables_1, d.before a0 Z = true) (ws : List Jvm.Cond) (a1 : Addr) (a2 : Addr) (p3 : Int32) (a4 : Addr) (b1 : Addr) (b2 : Addr) (b3 : Addr) (b4 : Addr) (lo : Nat → Int32) (wd : Nat → Int32) (sh : Nat → Int32) (mk : Nat → Int64) (fo : Nat → Int32) (fk : Nat → Int64) (NN : Nat) (o : Nat) (nw : Nat) (wn : Nat → Nat) (h0 : Heap) (n0 : Nat) (Z0 : n0 ≤ h0.size) (Fl : Fld Z h0 a1 "com/example/inexact_odds/inexactodds/language/Encoding" "low" "[I" (.ref b1)) (Fw : Fld Z h0 a1 "com/example/inexact_odds/inexactodds/language/Encoding" "word" "[I" (.ref b2)) (Fs : Fld Z h0 a1 "com/example/inexact_odds/inexactodds/language/Encoding" "shift" "[I" (.ref b3)) (Fm : Fld Z h0 a1 "com/example/inexact_odds/inexactodds/language/Encoding" "mask" "[J" (.ref b4)) (VL : AV Z h0 b1 .int 3 (fun j => .int (lo j))) (VW : AV Z h0 b2 .int 3 (fun j => .int (wd j))) (VS : AV Z h0 b3 .int 3 (fun j => .int (sh j))) (VM : AV Z h0 b4 .long 3 (fun j => .long (mk j))) (VO : AV Z h0 a4 .int 3 (fun j => .int (fo j))) (VK : AV Z h0 a2 .long NN (fun j => .long (fk j))) (ga : n0 ≤ a4) (m1 : a1 ≠ a4) (m2 : a2 ≠ a4) (m3 : b1 ≠ a4) (m4 : b2 ≠ a4) (m5 : b3 ≠ a4) (m6 : b4 ≠ a4) (ho : p3.toInt = o) (hnn : o + nw ≤ NN) (h8 : NN ≤ 8) (hwn : ∀ j, j < 3 → (wd j).toInt = wn j ∧ wn j < nw) :
    MetFree l (⟨"com/example/inexact_odds/inexactodds/language/Encoding", "decode", "([JI[I)V"⟩ : MethodName) (head1 (Jvm.Cond.code (⟨"com/example/inexact_odds/inexactodds/language/Encoding", "decode", "([JI[I)V"⟩ : MethodName) prog_37_method_4_code 5 none :: ws) ({ frames := 0, cells := 0, slots := 0, locals := 0 } : Room)) (fun a U => a = #[(.ref a1), (.ref a2), (.int p3), (.ref a4)] ∧ Z.Warmed39 U.vm ∧ U.heap = h0) (fun _ _ _ _ _ => True) (fun _ U oC U' => ∃ v L, oC = .returned v ∧ Q_rm_decode Z a1 a2 p3 a4 b1 b2 b3 b4 lo wd sh mk fo fk NN o nw wn h0 n0 v U'.heap L ∧ FrameEnd U oC U' L ({ frames := 0, cells := 0, slots := 0, locals := 0 } : Room).cells ({ frames := 0, cells := 0, slots := 0, locals := 0 } : Room).slots) := by
  refine MetFree.of_bodySF (plainFor_of_name pn_2) hisR ?_
  intro p e s m args below meth c s₁ Bd hml0 hP hK
  obtain ⟨rfl, hZ, hh⟩ := hP
  have hx := Bd.exec
  have hby := Bd.bytes
  have hml : c.maxLocals = 5 := hml0
  have hown : s.vm.findClass "com/example/inexact_odds/inexactodds/language/Encoding" = some m.cls := findClass_of_methodNamed Bd.named
  have hnm := (name_of_methodNamed Bd.named Bd.method).1
  have X0 : Stand p l e ({ frames := 0, cells := 0, slots := 0, locals := 0 } : Room) s m #[(.ref a1), (.ref a2), (.int p3), (.ref a4)] below meth c s₁ [] 0 0 := Stand.of_body Bd
  have e0 : s₁.heap = h0 := by rw [← hh, Bd.state]; rfl
  have N0 := Fr.nil n0
  have pre0 : ∀ tg, Steps p.tables e below (s₁.setTop (mkF m 0 #[vR a1, vR a2, vI p3, vR a4, .unset] [])) tg → Steps p.tables e below (s₁.setTop (entryFrame m #[(.ref a1), (.ref a2), (.int p3), (.ref a4)] 5)) tg := fun t k => castTop (ef_rm_decode m a1 a2 p3 a4) k
  have pre00 : ∀ tg, Steps p.tables e below (s₁.setTop (mkF m 0 #[vR a1, vR a2, vI p3, vR a4, .unset] [])) tg → Steps p.tables e below (s₁.setTop (mkF m 0 #[vR a1, vR a2, vI p3, vR a4, .unset] [])) tg := fun _ k => k
  obtain ⟨c0, d0⟩ := hwn 0 (by decide)
  obtain ⟨c1, d1⟩ := hwn 1 (by decide)
  obtain ⟨c2, d2⟩ := hwn 2 (by decide)
  have R352 : ∀ tg, Steps p.tables e below (s₁.setTop (mkF m 6 #[vR a1, vR a2, vI p3, vR a4, vI (0 : Int32)] [(.ref a1), (.int (0 : Int32))])) tg → Steps p.tables e below (s₁.setTop (mkF m 0 #[vR a1, vR a2, vI p3, vR a4, .unset] [])) tg := by
    intro tg kt
    refine pre00 _ ?_
    show Steps p.tables e below (s₁.setTop (mkF m 0 #[vR a1, vR a2, vI p3, vR a4, .unset] [])) _
    refine XS.iconst X0.here hx rfl (hb hby d11_0) ?_
    show Steps p.tables e below (s₁.setTop (mkF m 1 #[vR a1, vR a2, vI p3, vR a4, .unset] [(.int (0 : Int32))])) _
    refine XS.istore X0.here hx rfl (hb hby d11_1) rfl (l' := #[vR a1, vR a2, vI p3, vR a4, vI (0 : Int32)]) rfl ?_
    refine XS.iload X0.here hx rfl (hb hby d11_3) rfl ?_
    refine XS.aloadN X0.here hx rfl (hb hby d11_5) rfl rfl ?_
    exact kt
  obtain ⟨T353, X353, e353, st353⟩ := getF X0 hx hZ hown (host := "") (Or.inl (hw _ (List.mem_of_getElem? (i := 26) rfl))) Via.refl e0 Fl (g := (mkF m 6 #[vR a1, vR a2, vI p3, vR a4, vI (0 : Int32)] [(.ref a1), (.int (0 : Int32))])) rfl rfl (hb hby d11_6)
  have R354 : ∀ tg, Steps p.tables e below (T353.setTop (mkF m 9 #[vR a1, vR a2, vI p3, vR a4, vI (0 : Int32)] [(.ref b1), (.int (0 : Int32))])) tg → Steps p.tables e below (s₁.setTop (mkF m 0 #[vR a1, vR a2, vI p3, vR a4, .unset] [])) tg := by
    intro tg kt
    refine R352 _ ?_
    refine st353 _ ?_
    exact kt
  clear R352 st353
  obtain ⟨cl355, Ar355, ln355⟩ := VL.len
  have R356 : ∀ tg, Steps p.tables e below (T353.setTop (mkF m 19 #[vR a1, vR a2, vI p3, vR a4, vI (0 : Int32)] [(.ref a1), (.int p3), (.ref a2), (.int (0 : Int32)), (.ref a4)])) tg → Steps p.tables e below (s₁.setTop (mkF m 0 #[vR a1, vR a2, vI p3, vR a4, .unset] [])) tg := by
    intro tg kt
    refine R354 _ ?_
    show Steps p.tables e below (T353.setTop (mkF m 9 #[vR a1, vR a2, vI p3, vR a4, vI (0 : Int32)] [(.ref b1), (.int (0 : Int32))])) _
    refine X353.arraylength hx (by rw [e353]; exact Ar355.1) (State.isArrayOf_alike hZ.alike Ar355.2.1) (g := (mkF m 9 #[vR a1, vR a2, vI p3, vR a4, vI (0 : Int32)] [(.ref b1), (.int (0 : Int32))])) rfl rfl (hb hby d11_9) _ ?_
    rw [ln355]
    show Steps p.tables e below (T353.setTop (mkF m 10 #[vR a1, vR a2, vI p3, vR a4, vI (0 : Int32)] [(.int (3 : Int32)), (.int (0 : Int32))])) _
    refine XS.icmpNo X353.here hx rfl (hb hby d11_10) rfl (tlt (by decide : (0 : Int32) < (3 : Int32))).2.1 ?_
    refine XS.aloadN X353.here hx rfl (hb hby d11_13) rfl rfl ?_
    refine XS.iload X353.here hx rfl (hb hby d11_14) rfl ?_
    show Steps p.tables e below (T353.setTop (mkF m 16 #[vR a1, vR a2, vI p3, vR a4, vI (0 : Int32)] [(.int (0 : Int32)), (.ref a4)])) _
    refine XS.aloadN X353.here hx rfl (hb hby d11_16) rfl rfl ?_
    refine XS.iloadN X353.here hx rfl (hb hby d11_17) rfl ?_
    refine XS.aloadN X353.here hx rfl (hb hby d11_18) rfl rfl ?_
    exact kt
  clear R354
  obtain ⟨T357, X357, e357, st357⟩ := getF X353 hx hZ hown (host := "") (Or.inl (hw _ (List.mem_of_getElem? (i := 28) rfl))) Via.refl e353 Fw (g := (mkF m 19 #[vR a1, vR a2, vI p3, vR a4, vI (0 : Int32)] [(.ref a1), (.int p3), (.ref a2), (.int (0 : Int32)), (.ref a4)])) rfl rfl (hb hby d11_19)
  have R358 : ∀ tg, Steps p.tables e below (T357.setTop (mkF m 24 #[vR a1, vR a2, vI p3, vR a4, vI (0 : Int32)] [(.int (0 : Int32)), (.ref b2), (.int p3), (.ref a2), (.int (0 : Int32)), (.ref a4)])) tg → Steps p.tables e below (s₁.setTop (mkF m 0 #[vR a1, vR a2, vI p3, vR a4, .unset] [])) tg := by
    intro tg kt
    refine R356 _ ?_
    refine st357 _ ?_
    show Steps p.tables e below (T357.setTop (mkF m 22 #[vR a1, vR a2, vI p3, vR a4, vI (0 : Int32)] [(.ref b2), (.int p3), (.ref a2), (.int (0 : Int32)), (.ref a4)])) _
    refine XS.iload X357.here hx rfl (hb hby d11_22) rfl ?_
    exact kt
  clear R356 st357
  obtain ⟨cl359, Ar359, hin359, hat359⟩ := VW.at (j := (0 : Int32)) (k := 0) (by decide) rfl (by decide)
  have R360 : ∀ tg, Steps p.tables e below (T357.setTop (mkF m 26 #[vR a1, vR a2, vI p3, vR a4, vI (0 : Int32)] [(.int (p3 + (wd 0))), (.ref a2), (.int (0 : Int32)), (.ref a4)])) tg → Steps p.tables e below (s₁.setTop (mkF m 0 #[vR a1, vR a2, vI p3, vR a4, .unset] [])) tg := by
    intro tg kt
    refine R358 _ ?_
    show Steps p.tables e below (T357.setTop (mkF m 24 #[vR a1, vR a2, vI p3, vR a4, vI (0 : Int32)] [(.int (0 : Int32)), (.ref b2), (.int p3), (.ref a2), (.int (0 : Int32)), (.ref a4)])) _
    refine X357.iaload hx (j := (0 : Int32)) (v := (.int (wd 0))) (by rw [e357]; exact Ar359.1) (State.isArrayOf_alike hZ.alike Ar359.2.1) Ar359.2.2 hin359 hat359 (g := (mkF m 24 #[vR a1, vR a2, vI p3, vR a4, vI (0 : Int32)] [(.int (0 : Int32)), (.ref b2), (.int p3), (.ref a2), (.int (0 : Int32)), (.ref a4)])) rfl rfl (hb hby d11_24) _ ?_
    show Steps p.tables e below (T357.setTop (mkF m 25 #[vR a1, vR a2, vI p3, vR a4, vI (0 : Int32)] [(.int (wd 0)), (.int p3), (.ref a2), (.int (0 : Int32)), (.ref a4)])) _
    refine XS.iadd X357.here hx rfl (hb hby d11_25) rfl ?_
    exact kt
  clear R358
  have r_0 := own_ix p3 (wd 0) o (wn 0) NN ho c0 (Nat.lt_of_lt_of_le (Nat.add_lt_add_left d0 o) hnn) h8
  obtain ⟨cl361, Ar361, hin361, hat361⟩ := VK.at (j := (p3 + (wd 0))) (k := (o + wn 0)) r_0.1 r_0.2 (Nat.lt_of_lt_of_le (Nat.add_lt_add_left d0 o) hnn)
  have R362 : ∀ tg, Steps p.tables e below (T357.setTop (mkF m 28 #[vR a1, vR a2, vI p3, vR a4, vI (0 : Int32)] [(.ref a1), (.long (fk (o + wn 0))), (.int (0 : Int32)), (.ref a4)])) tg → Steps p.tables e below (s₁.setTop (mkF m 0 #[vR a1, vR a2, vI p3, vR a4, .unset] [])) tg := by
    intro tg kt
    refine R360 _ ?_
    show Steps p.tables e below (T357.setTop (mkF m 26 #[vR a1, vR a2, vI p3, vR a4, vI (0 : Int32)] [(.int (p3 + (wd 0))), (.ref a2), (.int (0 : Int32)), (.ref a4)])) _
    refine X357.laload hx (j := (p3 + (wd 0))) (v := (.long (fk (o + wn 0)))) (by rw [e357]; exact Ar361.1) (State.isArrayOf_alike hZ.alike Ar361.2.1) Ar361.2.2 hin361 hat361 (g := (mkF m 26 #[vR a1, vR a2, vI p3, vR a4, vI (0 : Int32)] [(.int (p3 + (wd 0))), (.ref a2), (.int (0 : Int32)), (.ref a4)])) rfl rfl (hb hby d11_26) _ ?_
    refine XS.aloadN X357.here hx rfl (hb hby d11_27) rfl rfl ?_
    exact kt
  clear R360
  obtain ⟨T363, X363, e363, st363⟩ := getF X357 hx hZ hown (host := "") (Or.inl (hw _ (List.mem_of_getElem? (i := 30) rfl))) Via.refl e357 Fs (g := (mkF m 28 #[vR a1, vR a2, vI p3, vR a4, vI (0 : Int32)] [(.ref a1), (.long (fk (o + wn 0))), (.int (0 : Int32)), (.ref a4)])) rfl rfl (hb hby d11_28)
  have R364 : ∀ tg, Steps p.tables e below (T363.setTop (mkF m 33 #[vR a1, vR a2, vI p3, vR a4, vI (0 : Int32)] [(.int (0 : Int32)), (.ref b3), (.long (fk (o + wn 0))), (.int (0 : Int32)), (.ref a4)])) tg → Steps p.tables e below (s₁.setTop (mkF m 0 #[vR a1, vR a2, vI p3, vR a4, .unset] [])) tg := by
    intro tg kt
    refine R362 _ ?_
    refine st363 _ ?_
    refine XS.iload X363.here hx rfl (hb hby d11_31) rfl ?_
    exact kt
  clear R362 st363
  obtain ⟨cl365, Ar365, hin365, hat365⟩ := VS.at (j := (0 : Int32)) (k := 0) (by decide) rfl (by decide)
  have R366 : ∀ tg, Steps p.tables e below (T363.setTop (mkF m 36 #[vR a1, vR a2, vI p3, vR a4, vI (0 : Int32)] [(.ref a1), (.long (((fk (o + wn 0)).toUInt64 >>> ((sh 0) &&& 0x3f).toInt64.toUInt64).toInt64)), (.int (0 : Int32)), (.ref a4)])) tg → Steps p.tables e below (s₁.setTop (mkF m 0 #[vR a1, vR a2, vI p3, vR a4, .unset] [])) tg := by
    intro tg kt
    refine R364 _ ?_
    show Steps p.tables e below (T363.setTop (mkF m 33 #[vR a1, vR a2, vI p3, vR a4, vI (0 : Int32)] [(.int (0 : Int32)), (.ref b3), (.long (fk (o + wn 0))), (.int (0 : Int32)), (.ref a4)])) _
    refine X363.iaload hx (j := (0 : Int32)) (v := (.int (sh 0))) (by rw [e363]; exact Ar365.1) (State.isArrayOf_alike hZ.alike Ar365.2.1) Ar365.2.2 hin365 hat365 (g := (mkF m 33 #[vR a1, vR a2, vI p3, vR a4, vI (0 : Int32)] [(.int (0 : Int32)), (.ref b3), (.long (fk (o + wn 0))), (.int (0 : Int32)), (.ref a4)])) rfl rfl (hb hby d11_33) _ ?_
    show Steps p.tables e below (T363.setTop (mkF m 34 #[vR a1, vR a2, vI p3, vR a4, vI (0 : Int32)] [(.int (sh 0)), (.long (fk (o + wn 0))), (.int (0 : Int32)), (.ref a4)])) _
    refine XS.lushr X363.here hx rfl (hb hby d11_34) rfl ?_
    refine XS.aloadN X363.here hx rfl (hb hby d11_35) rfl rfl ?_
    exact kt
  clear R364
  obtain ⟨T367, X367, e367, st367⟩ := getF X363 hx hZ hown (host := "") (Or.inl (hw _ (List.mem_of_getElem? (i := 33) rfl))) Via.refl e363 Fm (g := (mkF m 36 #[vR a1, vR a2, vI p3, vR a4, vI (0 : Int32)] [(.ref a1), (.long (((fk (o + wn 0)).toUInt64 >>> ((sh 0) &&& 0x3f).toInt64.toUInt64).toInt64)), (.int (0 : Int32)), (.ref a4)])) rfl rfl (hb hby d11_36)
  have R368 : ∀ tg, Steps p.tables e below (T367.setTop (mkF m 41 #[vR a1, vR a2, vI p3, vR a4, vI (0 : Int32)] [(.int (0 : Int32)), (.ref b4), (.long (((fk (o + wn 0)).toUInt64 >>> ((sh 0) &&& 0x3f).toInt64.toUInt64).toInt64)), (.int (0 : Int32)), (.ref a4)])) tg → Steps p.tables e below (s₁.setTop (mkF m 0 #[vR a1, vR a2, vI p3, vR a4, .unset] [])) tg := by
    intro tg kt
    refine R366 _ ?_
    refine st367 _ ?_
    refine XS.iload X367.here hx rfl (hb hby d11_39) rfl ?_
    exact kt
  clear R366 st367
  obtain ⟨cl369, Ar369, hin369, hat369⟩ := VM.at (j := (0 : Int32)) (k := 0) (by decide) rfl (by decide)
  have R370 : ∀ tg, Steps p.tables e below (T367.setTop (mkF m 44 #[vR a1, vR a2, vI p3, vR a4, vI (0 : Int32)] [(.ref a1), (.long ((((fk (o + wn 0)).toUInt64 >>> ((sh 0) &&& 0x3f).toInt64.toUInt64).toInt64) &&& (mk 0))), (.int (0 : Int32)), (.ref a4)])) tg → Steps p.tables e below (s₁.setTop (mkF m 0 #[vR a1, vR a2, vI p3, vR a4, .unset] [])) tg := by
    intro tg kt
    refine R368 _ ?_
    show Steps p.tables e below (T367.setTop (mkF m 41 #[vR a1, vR a2, vI p3, vR a4, vI (0 : Int32)] [(.int (0 : Int32)), (.ref b4), (.long (((fk (o + wn 0)).toUInt64 >>> ((sh 0) &&& 0x3f).toInt64.toUInt64).toInt64)), (.int (0 : Int32)), (.ref a4)])) _
    refine X367.laload hx (j := (0 : Int32)) (v := (.long (mk 0))) (by rw [e367]; exact Ar369.1) (State.isArrayOf_alike hZ.alike Ar369.2.1) Ar369.2.2 hin369 hat369 (g := (mkF m 41 #[vR a1, vR a2, vI p3, vR a4, vI (0 : Int32)] [(.int (0 : Int32)), (.ref b4), (.long (((fk (o + wn 0)).toUInt64 >>> ((sh 0) &&& 0x3f).toInt64.toUInt64).toInt64)), (.int (0 : Int32)), (.ref a4)])) rfl rfl (hb hby d11_41) _ ?_
    show Steps p.tables e below (T367.setTop (mkF m 42 #[vR a1, vR a2, vI p3, vR a4, vI (0 : Int32)] [(.long (mk 0)), (.long (((fk (o + wn 0)).toUInt64 >>> ((sh 0) &&& 0x3f).toInt64.toUInt64).toInt64)), (.int (0 : Int32)), (.ref a4)])) _
    refine XS.land X367.here hx rfl (hb hby d11_42) rfl ?_
    refine XS.aloadN X367.here hx rfl (hb hby d11_43) rfl rfl ?_
    exact kt
  clear R368
  obtain ⟨T371, X371, e371, st371⟩ := getF X367 hx hZ hown (host := "") (Or.inl (hw _ (List.mem_of_getElem? (i := 26) rfl))) Via.refl e367 Fl (g := (mkF m 44 #[vR a1, vR a2, vI p3, vR a4, vI (0 : Int32)] [(.ref a1), (.long ((((fk (o + wn 0)).toUInt64 >>> ((sh 0) &&& 0x3f).toInt64.toUInt64).toInt64) &&& (mk 0))), (.int (0 : Int32)), (.ref a4)])) rfl rfl (hb hby d11_44)
  have R372 : ∀ tg, Steps p.tables e below (T371.setTop (mkF m 49 #[vR a1, vR a2, vI p3, vR a4, vI (0 : Int32)] [(.int (0 : Int32)), (.ref b1), (.long ((((fk (o + wn 0)).toUInt64 >>> ((sh 0) &&& 0x3f).toInt64.toUInt64).toInt64) &&& (mk 0))), (.int (0 : Int32)), (.ref a4)])) tg → Steps p.tables e below (s₁.setTop (mkF m 0 #[vR a1, vR a2, vI p3, vR a4, .unset] [])) tg := by
    intro tg kt
    refine R370 _ ?_
    refine st371 _ ?_
    refine XS.iload X371.here hx rfl (hb hby d11_47) rfl ?_
    exact kt
  clear R370 st371
  obtain ⟨cl373, Ar373, hin373, hat373⟩ := VL.at (j := (0 : Int32)) (k := 0) (by decide) rfl (by decide)
  have R374 : ∀ tg, Steps p.tables e below (T371.setTop (mkF m 53 #[vR a1, vR a2, vI p3, vR a4, vI (0 : Int32)] [(.int ((((((fk (o + wn 0)).toUInt64 >>> ((sh 0) &&& 0x3f).toInt64.toUInt64).toInt64) &&& (mk 0)) + ((lo 0).toInt64)).toInt32)), (.int (0 : Int32)), (.ref a4)])) tg → Steps p.tables e below (s₁.setTop (mkF m 0 #[vR a1, vR a2, vI p3, vR a4, .unset] [])) tg := by
    intro tg kt
    refine R372 _ ?_
    show Steps p.tables e below (T371.setTop (mkF m 49 #[vR a1, vR a2, vI p3, vR a4, vI (0 : Int32)] [(.int (0 : Int32)), (.ref b1), (.long ((((fk (o + wn 0)).toUInt64 >>> ((sh 0) &&& 0x3f).toInt64.toUInt64).toInt64) &&& (mk 0))), (.int (0 : Int32)), (.ref a4)])) _
    refine X371.iaload hx (j := (0 : Int32)) (v := (.int (lo 0))) (by rw [e371]; exact Ar373.1) (State.isArrayOf_alike hZ.alike Ar373.2.1) Ar373.2.2 hin373 hat373 (g := (mkF m 49 #[vR a1, vR a2, vI p3, vR a4, vI (0 : Int32)] [(.int (0 : Int32)), (.ref b1), (.long ((((fk (o + wn 0)).toUInt64 >>> ((sh 0) &&& 0x3f).toInt64.toUInt64).toInt64) &&& (mk 0))), (.int (0 : Int32)), (.ref a4)])) rfl rfl (hb hby d11_49) _ ?_
    show Steps p.tables e below (T371.setTop (mkF m 50 #[vR a1, vR a2, vI p3, vR a4, vI (0 : Int32)] [(.int (lo 0)), (.long ((((fk (o + wn 0)).toUInt64 >>> ((sh 0) &&& 0x3f).toInt64.toUInt64).toInt64) &&& (mk 0))), (.int (0 : Int32)), (.ref a4)])) _
    refine XS.i2l X371.here hx rfl (hb hby d11_50) rfl ?_
    show Steps p.tables e below (T371.setTop (mkF m 51 #[vR a1, vR a2, vI p3, vR a4, vI (0 : Int32)] [(.long ((lo 0).toInt64)), (.long ((((fk (o + wn 0)).toUInt64 >>> ((sh 0) &&& 0x3f).toInt64.toUInt64).toInt64) &&& (mk 0))), (.int (0 : Int32)), (.ref a4)])) _
    refine XS.ladd X371.here hx rfl (hb hby d11_51) rfl ?_
    show Steps p.tables e below (T371.setTop (mkF m 52 #[vR a1, vR a2, vI p3, vR a4, vI (0 : Int32)] [(.long (((((fk (o + wn 0)).toUInt64 >>> ((sh 0) &&& 0x3f).toInt64.toUInt64).toInt64) &&& (mk 0)) + ((lo 0).toInt64))), (.int (0 : Int32)), (.ref a4)])) _
    refine XS.l2i X371.here hx rfl (hb hby d11_52) rfl ?_
    exact kt
  clear R372
  obtain ⟨cl375, Ar375, hin375, -⟩ := VO.at (j := (0 : Int32)) (k := 0) (by decide) rfl (by decide)
  obtain ⟨T376, h376, X376, e376, W376, st376⟩ := stI X371 hx hZ e371 Ar375 (j := (0 : Int32)) hin375 (g := (mkF m 53 #[vR a1, vR a2, vI p3, vR a4, vI (0 : Int32)] [(.int ((((((fk (o + wn 0)).toUInt64 >>> ((sh 0) &&& 0x3f).toInt64.toUInt64).toInt64) &&& (mk 0)) + ((lo 0).toInt64)).toInt32)), (.int (0 : Int32)), (.ref a4)])) rfl rfl (hb hby d11_53)
  have N376 := Fr.snoc X376 N0 ga
  rw [show ((0 : Int32) : Int32).toNatClampNeg = 0 from rfl] at W376
  have VO_376 : AV Z h376 a4 .int 3 (fun j => .int ((own_set fo 0 (own_dec fk o wn lo sh mk 0)) j)) := VO.setI W376
  have Fl_376 := Fl.other W376 (Or.inl m1)
  have Fw_376 := Fw.other W376 (Or.inl m1)
  have Fs_376 := Fs.other W376 (Or.inl m1)
  have Fm_376 := Fm.other W376 (Or.inl m1)
  have VL_376 := VL.other W376 m3
  have VW_376 := VW.other W376 m4
  have VS_376 := VS.other W376 m5
  have VM_376 := VM.other W376 m6
  have VK_376 := VK.other W376 m2
  have Zs376 : n0 ≤ h376.size := Nat.le_trans Z0 (Keep.of_wr W376).1
  have Kw376 : Keep h0 h376 [a4] := Keep.wr (Keep.refl h0 [a4]) W376 (Or.inl (List.mem_of_getElem? (i := 0) rfl))
  have R377 : ∀ tg, Steps p.tables e below (T376.setTop (mkF m 6 #[vR a1, vR a2, vI p3, vR a4, vI ((0 : Int32) + (1 : Int32))] [(.ref a1), (.int ((0 : Int32) + (1 : Int32)))])) tg → Steps p.tables e below (s₁.setTop (mkF m 0 #[vR a1, vR a2, vI p3, vR a4, .unset] [])) tg := by
    intro tg kt
    refine R374 _ ?_
    refine st376 _ ?_
    show Steps p.tables e below (T376.setTop (mkF m 54 #[vR a1, vR a2, vI p3, vR a4, vI (0 : Int32)] [])) _
    refine XS.iinc X376.here hx rfl (hb hby d11_54) rfl (l' := #[vR a1, vR a2, vI p3, vR a4, vI ((0 : Int32) + (1 : Int32))]) rfl ?_
    show Steps p.tables e below (T376.setTop (mkF m 57 #[vR a1, vR a2, vI p3, vR a4, vI ((0 : Int32) + (1 : Int32))] [])) _
    refine XS.goto X376.here hx rfl (pc0 := 57) (pc' := 3) rfl (hb hby d11_57) (by decide) (by decide) ?_
    refine XS.iload X376.here hx rfl (hb hby d11_3) rfl ?_
    refine XS.aloadN X376.here hx rfl (hb hby d11_5) rfl rfl ?_
    exact kt
  clear R374 st376
  obtain ⟨T378, X378, e378, st378⟩ := getF X376 hx hZ hown (host := "") (Or.inl (hw _ (List.mem_of_getElem? (i := 26) rfl))) Via.refl e376 Fl_376 (g := (mkF m 6 #[vR a1, vR a2, vI p3, vR a4, vI ((0 : Int32) + (1 : Int32))] [(.ref a1), (.int ((0 : Int32) + (1 : Int32)))])) rfl rfl (hb hby d11_6)
  have R379 : ∀ tg, Steps p.tables e below (T378.setTop (mkF m 9 #[vR a1, vR a2, vI p3, vR a4, vI ((0 : Int32) + (1 : Int32))] [(.ref b1), (.int ((0 : Int32) + (1 : Int32)))])) tg → Steps p.tables e below (s₁.setTop (mkF m 0 #[vR a1, vR a2, vI p3, vR a4, .unset] [])) tg := by
    intro tg kt
    refine R377 _ ?_
    refine st378 _ ?_
    exact kt
  clear R377 st378
  obtain ⟨cl380, Ar380, ln380⟩ := VL_376.len
  have R381 : ∀ tg, Steps p.tables e below (T378.setTop (mkF m 19 #[vR a1, vR a2, vI p3, vR a4, vI ((0 : Int32) + (1 : Int32))] [(.ref a1), (.int p3), (.ref a2), (.int ((0 : Int32) + (1 : Int32))), (.ref a4)])) tg → Steps p.tables e below (s₁.setTop (mkF m 0 #[vR a1, vR a2, vI p3, vR a4, .unset] [])) tg := by
    intro tg kt
    refine R379 _ ?_
    show Steps p.tables e below (T378.setTop (mkF m 9 #[vR a1, vR a2, vI p3, vR a4, vI ((0 : Int32) + (1 : Int32))] [(.ref b1), (.int ((0 : Int32) + (1 : Int32)))])) _
    refine X378.arraylength hx (by rw [e378]; exact Ar380.1) (State.isArrayOf_alike hZ.alike Ar380.2.1) (g := (mkF m 9 #[vR a1, vR a2, vI p3, vR a4, vI ((0 : Int32) + (1 : Int32))] [(.ref b1), (.int ((0 : Int32) + (1 : Int32)))])) rfl rfl (hb hby d11_9) _ ?_
    rw [ln380]
    show Steps p.tables e below (T378.setTop (mkF m 10 #[vR a1, vR a2, vI p3, vR a4, vI ((0 : Int32) + (1 : Int32))] [(.int (3 : Int32)), (.int ((0 : Int32) + (1 : Int32)))])) _
    refine XS.icmpNo X378.here hx rfl (hb hby d11_10) rfl (tlt (by decide : ((0 : Int32) + (1 : Int32)) < (3 : Int32))).2.1 ?_
    refine XS.aloadN X378.here hx rfl (hb hby d11_13) rfl rfl ?_
    refine XS.iload X378.here hx rfl (hb hby d11_14) rfl ?_
    show Steps p.tables e below (T378.setTop (mkF m 16 #[vR a1, vR a2, vI p3, vR a4, vI ((0 : Int32) + (1 : Int32))] [(.int ((0 : Int32) + (1 : Int32))), (.ref a4)])) _
    refine XS.aloadN X378.here hx rfl (hb hby d11_16) rfl rfl ?_
    refine XS.iloadN X378.here hx rfl (hb hby d11_17) rfl ?_
    refine XS.aloadN X378.here hx rfl (hb hby d11_18) rfl rfl ?_
    exact kt
  clear R379
  obtain ⟨T382, X382, e382, st382⟩ := getF X378 hx hZ hown (host := "") (Or.inl (hw _ (List.mem_of_getElem? (i := 28) rfl))) Via.refl e378 Fw_376 (g := (mkF m 19 #[vR a1, vR a2, vI p3, vR a4, vI ((0 : Int32) + (1 : Int32))] [(.ref a1), (.int p3), (.ref a2), (.int ((0 : Int32) + (1 : Int32))), (.ref a4)])) rfl rfl (hb hby d11_19)
  have R383 : ∀ tg, Steps p.tables e below (T382.setTop (mkF m 24 #[vR a1, vR a2, vI p3, vR a4, vI ((0 : Int32) + (1 : Int32))] [(.int ((0 : Int32) + (1 : Int32))), (.ref b2), (.int p3), (.ref a2), (.int ((0 : Int32) + (1 : Int32))), (.ref a4)])) tg → Steps p.tables e below (s₁.setTop (mkF m 0 #[vR a1, vR a2, vI p3, vR a4, .unset] [])) tg := by
    intro tg kt
    refine R381 _ ?_
    refine st382 _ ?_
    show Steps p.tables e below (T382.setTop (mkF m 22 #[vR a1, vR a2, vI p3, vR a4, vI ((0 : Int32) + (1 : Int32))] [(.ref b2), (.int p3), (.ref a2), (.int ((0 : Int32) + (1 : Int32))), (.ref a4)])) _
    refine XS.iload X382.here hx rfl (hb hby d11_22) rfl ?_
    exact kt
  clear R381 st382
  obtain ⟨cl384, Ar384, hin384, hat384⟩ := VW_376.at (j := ((0 : Int32) + (1 : Int32))) (k := 1) (by decide) rfl (by decide)
  have R385 : ∀ tg, Steps p.tables e below (T382.setTop (mkF m 26 #[vR a1, vR a2, vI p3, vR a4, vI ((0 : Int32) + (1 : Int32))] [(.int (p3 + (wd 1))), (.ref a2), (.int ((0 : Int32) + (1 : Int32))), (.ref a4)])) tg → Steps p.tables e below (s₁.setTop (mkF m 0 #[vR a1, vR a2, vI p3, vR a4, .unset] [])) tg := by
    intro tg kt
    refine R383 _ ?_
    show Steps p.tables e below (T382.setTop (mkF m 24 #[vR a1, vR a2, vI p3, vR a4, vI ((0 : Int32) + (1 : Int32))] [(.int ((0 : Int32) + (1 : Int32))), (.ref b2), (.int p3), (.ref a2), (.int ((0 : Int32) + (1 : Int32))), (.ref a4)])) _
    refine X382.iaload hx (j := ((0 : Int32) + (1 : Int32))) (v := (.int (wd 1))) (by rw [e382]; exact Ar384.1) (State.isArrayOf_alike hZ.alike Ar384.2.1) Ar384.2.2 hin384 hat384 (g := (mkF m 24 #[vR a1, vR a2, vI p3, vR a4, vI ((0 : Int32) + (1 : Int32))] [(.int ((0 : Int32) + (1 : Int32))), (.ref b2), (.int p3), (.ref a2), (.int ((0 : Int32) + (1 : Int32))), (.ref a4)])) rfl rfl (hb hby d11_24) _ ?_
    show Steps p.tables e below (T382.setTop (mkF m 25 #[vR a1, vR a2, vI p3, vR a4, vI ((0 : Int32) + (1 : Int32))] [(.int (wd 1)), (.int p3), (.ref a2), (.int ((0 : Int32) + (1 : Int32))), (.ref a4)])) _
    refine XS.iadd X382.here hx rfl (hb hby d11_25) rfl ?_
    exact kt
  clear R383
  have r_1 := own_ix p3 (wd 1) o (wn 1) NN ho c1 (Nat.lt_of_lt_of_le (Nat.add_lt_add_left d1 o) hnn) h8
  obtain ⟨cl386, Ar386, hin386, hat386⟩ := VK_376.at (j := (p3 + (wd 1))) (k := (o + wn 1)) r_1.1 r_1.2 (Nat.lt_of_lt_of_le (Nat.add_lt_add_left d1 o) hnn)
  have R387 : ∀ tg, Steps p.tables e below (T382.setTop (mkF m 28 #[vR a1, vR a2, vI p3, vR a4, vI ((0 : Int32) + (1 : Int32))] [(.ref a1), (.long (fk (o + wn 1))), (.int ((0 : Int32) + (1 : Int32))), (.ref a4)])) tg → Steps p.tables e below (s₁.setTop (mkF m 0 #[vR a1, vR a2, vI p3, vR a4, .unset] [])) tg := by
    intro tg kt
    refine R385 _ ?_
    show Steps p.tables e below (T382.setTop (mkF m 26 #[vR a1, vR a2, vI p3, vR a4, vI ((0 : Int32) + (1 : Int32))] [(.int (p3 + (wd 1))), (.ref a2), (.int ((0 : Int32) + (1 : Int32))), (.ref a4)])) _
    refine X382.laload hx (j := (p3 + (wd 1))) (v := (.long (fk (o + wn 1)))) (by rw [e382]; exact Ar386.1) (State.isArrayOf_alike hZ.alike Ar386.2.1) Ar386.2.2 hin386 hat386 (g := (mkF m 26 #[vR a1, vR a2, vI p3, vR a4, vI ((0 : Int32) + (1 : Int32))] [(.int (p3 + (wd 1))), (.ref a2), (.int ((0 : Int32) + (1 : Int32))), (.ref a4)])) rfl rfl (hb hby d11_26) _ ?_
    refine XS.aloadN X382.here hx rfl (hb hby d11_27) rfl rfl ?_
    exact kt
  clear R385
  obtain ⟨T388, X388, e388, st388⟩ := getF X382 hx hZ hown (host := "") (Or.inl (hw _ (List.mem_of_getElem? (i := 30) rfl))) Via.refl e382 Fs_376 (g := (mkF m 28 #[vR a1, vR a2, vI p3, vR a4, vI ((0 : Int32) + (1 : Int32))] [(.ref a1), (.long (fk (o + wn 1))), (.int ((0 : Int32) + (1 : Int32))), (.ref a4)])) rfl rfl (hb hby d11_28)
  have R389 : ∀ tg, Steps p.tables e below (T388.setTop (mkF m 33 #[vR a1, vR a2, vI p3, vR a4, vI ((0 : Int32) + (1 : Int32))] [(.int ((0 : Int32) + (1 : Int32))), (.ref b3), (.long (fk (o + wn 1))), (.int ((0 : Int32) + (1 : Int32))), (.ref a4)])) tg → Steps p.tables e below (s₁.setTop (mkF m 0 #[vR a1, vR a2, vI p3, vR a4, .unset] [])) tg := by
    intro tg kt
    refine R387 _ ?_
    refine st388 _ ?_
    refine XS.iload X388.here hx rfl (hb hby d11_31) rfl ?_
    exact kt
  clear R387 st388
  obtain ⟨cl390, Ar390, hin390, hat390⟩ := VS_376.at (j := ((0 : Int32) + (1 : Int32))) (k := 1) (by decide) rfl (by decide)
  have R391 : ∀ tg, Steps p.tables e below (T388.setTop (mkF m 36 #[vR a1, vR a2, vI p3, vR a4, vI ((0 : Int32) + (1 : Int32))] [(.ref a1), (.long (((fk (o + wn 1)).toUInt64 >>> ((sh 1) &&& 0x3f).toInt64.toUInt64).toInt64)), (.int ((0 : Int32) + (1 : Int32))), (.ref a4)])) tg → Steps p.tables e below (s₁.setTop (mkF m 0 #[vR a1, vR a2, vI p3, vR a4, .unset] [])) tg := by
    intro tg kt
    refine R389 _ ?_
    show Steps p.tables e below (T388.setTop (mkF m 33 #[vR a1, vR a2, vI p3, vR a4, vI ((0 : Int32) + (1 : Int32))] [(.int ((0 : Int32) + (1 : Int32))), (.ref b3), (.long (fk (o + wn 1))), (.int ((0 : Int32) + (1 : Int32))), (.ref a4)])) _
    refine X388.iaload hx (j := ((0 : Int32) + (1 : Int32))) (v := (.int (sh 1))) (by rw [e388]; exact Ar390.1) (State.isArrayOf_alike hZ.alike Ar390.2.1) Ar390.2.2 hin390 hat390 (g := (mkF m 33 #[vR a1, vR a2, vI p3, vR a4, vI ((0 : Int32) + (1 : Int32))] [(.int ((0 : Int32) + (1 : Int32))), (.ref b3), (.long (fk (o + wn 1))), (.int ((0 : Int32) + (1 : Int32))), (.ref a4)])) rfl rfl (hb hby d11_33) _ ?_
    show Steps p.tables e below (T388.setTop (mkF m 34 #[vR a1, vR a2, vI p3, vR a4, vI ((0 : Int32) + (1 : Int32))] [(.int (sh 1)), (.long (fk (o + wn 1))), (.int ((0 : Int32) + (1 : Int32))), (.ref a4)])) _
    refine XS.lushr X388.here hx rfl (hb hby d11_34) rfl ?_
    refine XS.aloadN X388.here hx rfl (hb hby d11_35) rfl rfl ?_
    exact kt
  clear R389
  obtain ⟨T392, X392, e392, st392⟩ := getF X388 hx hZ hown (host := "") (Or.inl (hw _ (List.mem_of_getElem? (i := 33) rfl))) Via.refl e388 Fm_376 (g := (mkF m 36 #[vR a1, vR a2, vI p3, vR a4, vI ((0 : Int32) + (1 : Int32))] [(.ref a1), (.long (((fk (o + wn 1)).toUInt64 >>> ((sh 1) &&& 0x3f).toInt64.toUInt64).toInt64)), (.int ((0 : Int32) + (1 : Int32))), (.ref a4)])) rfl rfl (hb hby d11_36)
  have R393 : ∀ tg, Steps p.tables e below (T392.setTop (mkF m 41 #[vR a1, vR a2, vI p3, vR a4, vI ((0 : Int32) + (1 : Int32))] [(.int ((0 : Int32) + (1 : Int32))), (.ref b4), (.long (((fk (o + wn 1)).toUInt64 >>> ((sh 1) &&& 0x3f).toInt64.toUInt64).toInt64)), (.int ((0 : Int32) + (1 : Int32))), (.ref a4)])) tg → Steps p.tables e below (s₁.setTop (mkF m 0 #[vR a1, vR a2, vI p3, vR a4, .unset] [])) tg := by
    intro tg kt
    refine R391 _ ?_
    refine st392 _ ?_
    refine XS.iload X392.here hx rfl (hb hby d11_39) rfl ?_
    exact kt
  clear R391 st392
  obtain ⟨cl394, Ar394, hin394, hat394⟩ := VM_376.at (j := ((0 : Int32) + (1 : Int32))) (k := 1) (by decide) rfl (by decide)
  have R395 : ∀ tg, Steps p.tables e below (T392.setTop (mkF m 44 #[vR a1, vR a2, vI p3, vR a4, vI ((0 : Int32) + (1 : Int32))] [(.ref a1), (.long ((((fk (o + wn 1)).toUInt64 >>> ((sh 1) &&& 0x3f).toInt64.toUInt64).toInt64) &&& (mk 1))), (.int ((0 : Int32) + (1 : Int32))), (.ref a4)])) tg → Steps p.tables e below (s₁.setTop (mkF m 0 #[vR a1, vR a2, vI p3, vR a4, .unset] [])) tg := by
    intro tg kt
    refine R393 _ ?_
    show Steps p.tables e below (T392.setTop (mkF m 41 #[vR a1, vR a2, vI p3, vR a4, vI ((0 : Int32) + (1 : Int32))] [(.int ((0 : Int32) + (1 : Int32))), (.ref b4), (.long (((fk (o + wn 1)).toUInt64 >>> ((sh 1) &&& 0x3f).toInt64.toUInt64).toInt64)), (.int ((0 : Int32) + (1 : Int32))), (.ref a4)])) _
    refine X392.laload hx (j := ((0 : Int32) + (1 : Int32))) (v := (.long (mk 1))) (by rw [e392]; exact Ar394.1) (State.isArrayOf_alike hZ.alike Ar394.2.1) Ar394.2.2 hin394 hat394 (g := (mkF m 41 #[vR a1, vR a2, vI p3, vR a4, vI ((0 : Int32) + (1 : Int32))] [(.int ((0 : Int32) + (1 : Int32))), (.ref b4), (.long (((fk (o + wn 1)).toUInt64 >>> ((sh 1) &&& 0x3f).toInt64.toUInt64).toInt64)), (.int ((0 : Int32) + (1 : Int32))), (.ref a4)])) rfl rfl (hb hby d11_41) _ ?_
    show Steps p.tables e below (T392.setTop (mkF m 42 #[vR a1, vR a2, vI p3, vR a4, vI ((0 : Int32) + (1 : Int32))] [(.long (mk 1)), (.long (((fk (o + wn 1)).toUInt64 >>> ((sh 1) &&& 0x3f).toInt64.toUInt64).toInt64)), (.int ((0 : Int32) + (1 : Int32))), (.ref a4)])) _
    refine XS.land X392.here hx rfl (hb hby d11_42) rfl ?_
    refine XS.aloadN X392.here hx rfl (hb hby d11_43) rfl rfl ?_
    exact kt
  clear R393
  obtain ⟨T396, X396, e396, st396⟩ := getF X392 hx hZ hown (host := "") (Or.inl (hw _ (List.mem_of_getElem? (i := 26) rfl))) Via.refl e392 Fl_376 (g := (mkF m 44 #[vR a1, vR a2, vI p3, vR a4, vI ((0 : Int32) + (1 : Int32))] [(.ref a1), (.long ((((fk (o + wn 1)).toUInt64 >>> ((sh 1) &&& 0x3f).toInt64.toUInt64).toInt64) &&& (mk 1))), (.int ((0 : Int32) + (1 : Int32))), (.ref a4)])) rfl rfl (hb hby d11_44)
  have R397 : ∀ tg, Steps p.tables e below (T396.setTop (mkF m 49 #[vR a1, vR a2, vI p3, vR a4, vI ((0 : Int32) + (1 : Int32))] [(.int ((0 : Int32) + (1 : Int32))), (.ref b1), (.long ((((fk (o + wn 1)).toUInt64 >>> ((sh 1) &&& 0x3f).toInt64.toUInt64).toInt64) &&& (mk 1))), (.int ((0 : Int32) + (1 : Int32))), (.ref a4)])) tg → Steps p.tables e below (s₁.setTop (mkF m 0 #[vR a1, vR a2, vI p3, vR a4, .unset] [])) tg := by
    intro tg kt
    refine R395 _ ?_
    refine st396 _ ?_
    refine XS.iload X396.here hx rfl (hb hby d11_47) rfl ?_
    exact kt
  clear R395 st396
  obtain ⟨cl398, Ar398, hin398, hat398⟩ := VL_376.at (j := ((0 : Int32) + (1 : Int32))) (k := 1) (by decide) rfl (by decide)
  have R399 : ∀ tg, Steps p.tables e below (T396.setTop (mkF m 53 #[vR a1, vR a2, vI p3, vR a4, vI ((0 : Int32) + (1 : Int32))] [(.int ((((((fk (o + wn 1)).toUInt64 >>> ((sh 1) &&& 0x3f).toInt64.toUInt64).toInt64) &&& (mk 1)) + ((lo 1).toInt64)).toInt32)), (.int ((0 : Int32) + (1 : Int32))), (.ref a4)])) tg → Steps p.tables e below (s₁.setTop (mkF m 0 #[vR a1, vR a2, vI p3, vR a4, .unset] [])) tg := by
    intro tg kt
    refine R397 _ ?_
    show Steps p.tables e below (T396.setTop (mkF m 49 #[vR a1, vR a2, vI p3, vR a4, vI ((0 : Int32) + (1 : Int32))] [(.int ((0 : Int32) + (1 : Int32))), (.ref b1), (.long ((((fk (o + wn 1)).toUInt64 >>> ((sh 1) &&& 0x3f).toInt64.toUInt64).toInt64) &&& (mk 1))), (.int ((0 : Int32) + (1 : Int32))), (.ref a4)])) _
    refine X396.iaload hx (j := ((0 : Int32) + (1 : Int32))) (v := (.int (lo 1))) (by rw [e396]; exact Ar398.1) (State.isArrayOf_alike hZ.alike Ar398.2.1) Ar398.2.2 hin398 hat398 (g := (mkF m 49 #[vR a1, vR a2, vI p3, vR a4, vI ((0 : Int32) + (1 : Int32))] [(.int ((0 : Int32) + (1 : Int32))), (.ref b1), (.long ((((fk (o + wn 1)).toUInt64 >>> ((sh 1) &&& 0x3f).toInt64.toUInt64).toInt64) &&& (mk 1))), (.int ((0 : Int32) + (1 : Int32))), (.ref a4)])) rfl rfl (hb hby d11_49) _ ?_
    show Steps p.tables e below (T396.setTop (mkF m 50 #[vR a1, vR a2, vI p3, vR a4, vI ((0 : Int32) + (1 : Int32))] [(.int (lo 1)), (.long ((((fk (o + wn 1)).toUInt64 >>> ((sh 1) &&& 0x3f).toInt64.toUInt64).toInt64) &&& (mk 1))), (.int ((0 : Int32) + (1 : Int32))), (.ref a4)])) _
    refine XS.i2l X396.here hx rfl (hb hby d11_50) rfl ?_
    show Steps p.tables e below (T396.setTop (mkF m 51 #[vR a1, vR a2, vI p3, vR a4, vI ((0 : Int32) + (1 : Int32))] [(.long ((lo 1).toInt64)), (.long ((((fk (o + wn 1)).toUInt64 >>> ((sh 1) &&& 0x3f).toInt64.toUInt64).toInt64) &&& (mk 1))), (.int ((0 : Int32) + (1 : Int32))), (.ref a4)])) _
    refine XS.ladd X396.here hx rfl (hb hby d11_51) rfl ?_
    show Steps p.tables e below (T396.setTop (mkF m 52 #[vR a1, vR a2, vI p3, vR a4, vI ((0 : Int32) + (1 : Int32))] [(.long (((((fk (o + wn 1)).toUInt64 >>> ((sh 1) &&& 0x3f).toInt64.toUInt64).toInt64) &&& (mk 1)) + ((lo 1).toInt64))), (.int ((0 : Int32) + (1 : Int32))), (.ref a4)])) _
    refine XS.l2i X396.here hx rfl (hb hby d11_52) rfl ?_
    exact kt
  clear R397
  obtain ⟨cl400, Ar400, hin400, -⟩ := VO_376.at (j := ((0 : Int32) + (1 : Int32))) (k := 1) (by decide) rfl (by decide)
  obtain ⟨T401, h401, X401, e401, W401, st401⟩ := stI X396 hx hZ e396 Ar400 (j := ((0 : Int32) + (1 : Int32))) hin400 (g := (mkF m 53 #[vR a1, vR a2, vI p3, vR a4, vI ((0 : Int32) + (1 : Int32))] [(.int ((((((fk (o + wn 1)).toUInt64 >>> ((sh 1) &&& 0x3f).toInt64.toUInt64).toInt64) &&& (mk 1)) + ((lo 1).toInt64)).toInt32)), (.int ((0 : Int32) + (1 : Int32))), (.ref a4)])) rfl rfl (hb hby d11_53)
  have N401 := Fr.snoc X401 N376 ga
  rw [show (((0 : Int32) + (1 : Int32)) : Int32).toNatClampNeg = 1 from rfl] at W401
  have VO_401 : AV Z h401 a4 .int 3 (fun j => .int ((own_set (own_set fo 0 (own_dec fk o wn lo sh mk 0)) 1 (own_dec fk o wn lo sh mk 1)) j)) := VO_376.setI W401
  have Fl_401 := Fl_376.other W401 (Or.inl m1)
  have Fw_401 := Fw_376.other W401 (Or.inl m1)
  have Fs_401 := Fs_376.other W401 (Or.inl m1)
  have Fm_401 := Fm_376.other W401 (Or.inl m1)
  have VL_401 := VL_376.other W401 m3
  have VW_401 := VW_376.other W401 m4
  have VS_401 := VS_376.other W401 m5
  have VM_401 := VM_376.other W401 m6
  have VK_401 := VK_376.other W401 m2
  clear Fl_376 Fw_376 Fs_376 Fm_376 VL_376 VW_376 VS_376 VM_376 VK_376
  have Zs401 : n0 ≤ h401.size := Nat.le_trans Zs376 (Keep.of_wr W401).1
  have Kw401 : Keep h0 h401 [a4] := Keep.wr Kw376 W401 (Or.inl (List.mem_of_getElem? (i := 0) rfl))
  have R402 : ∀ tg, Steps p.tables e below (T401.setTop (mkF m 6 #[vR a1, vR a2, vI p3, vR a4, vI (((0 : Int32) + (1 : Int32)) + (1 : Int32))] [(.ref a1), (.int (((0 : Int32) + (1 : Int32)) + (1 : Int32)))])) tg → Steps p.tables e below (s₁.setTop (mkF m 0 #[vR a1, vR a2, vI p3, vR a4, .unset] [])) tg := by
    intro tg kt
    refine R399 _ ?_
    refine st401 _ ?_
    show Steps p.tables e below (T401.setTop (mkF m 54 #[vR a1, vR a2, vI p3, vR a4, vI ((0 : Int32) + (1 : Int32))] [])) _
    refine XS.iinc X401.here hx rfl (hb hby d11_54) rfl (l' := #[vR a1, vR a2, vI p3, vR a4, vI (((0 : Int32) + (1 : Int32)) + (1 : Int32))]) rfl ?_
    show Steps p.tables e below (T401.setTop (mkF m 57 #[vR a1, vR a2, vI p3, vR a4, vI (((0 : Int32) + (1 : Int32)) + (1 : Int32))] [])) _
    refine XS.goto X401.here hx rfl (pc0 := 57) (pc' := 3) rfl (hb hby d11_57) (by decide) (by decide) ?_
    refine XS.iload X401.here hx rfl (hb hby d11_3) rfl ?_
    refine XS.aloadN X401.here hx rfl (hb hby d11_5) rfl rfl ?_
    exact kt
  clear R399 st401
  obtain ⟨T403, X403, e403, st403⟩ := getF X401 hx hZ hown (host := "") (Or.inl (hw _ (List.mem_of_getElem? (i := 26) rfl))) Via.refl e401 Fl_401 (g := (mkF m 6 #[vR a1, vR a2, vI p3, vR a4, vI (((0 : Int32) + (1 : Int32)) + (1 : Int32))] [(.ref a1), (.int (((0 : Int32) + (1 : Int32)) + (1 : Int32)))])) rfl rfl (hb hby d11_6)
  have R404 : ∀ tg, Steps p.tables e below (T403.setTop (mkF m 9 #[vR a1, vR a2, vI p3, vR a4, vI (((0 : Int32) + (1 : Int32)) + (1 : Int32))] [(.ref b1), (.int (((0 : Int32) + (1 : Int32)) + (1 : Int32)))])) tg → Steps p.tables e below (s₁.setTop (mkF m 0 #[vR a1, vR a2, vI p3, vR a4, .unset] [])) tg := by
    intro tg kt
    refine R402 _ ?_
    refine st403 _ ?_
    exact kt
  clear R402 st403
  obtain ⟨cl405, Ar405, ln405⟩ := VL_401.len
  have R406 : ∀ tg, Steps p.tables e below (T403.setTop (mkF m 19 #[vR a1, vR a2, vI p3, vR a4, vI (((0 : Int32) + (1 : Int32)) + (1 : Int32))] [(.ref a1), (.int p3), (.ref a2), (.int (((0 : Int32) + (1 : Int32)) + (1 : Int32))), (.ref a4)])) tg → Steps p.tables e below (s₁.setTop (mkF m 0 #[vR a1, vR a2, vI p3, vR a4, .unset] [])) tg := by
    intro tg kt
    refine R404 _ ?_
    show Steps p.tables e below (T403.setTop (mkF m 9 #[vR a1, vR a2, vI p3, vR a4, vI (((0 : Int32) + (1 : Int32)) + (1 : Int32))] [(.ref b1), (.int (((0 : Int32) + (1 : Int32)) + (1 : Int32)))])) _
    refine X403.arraylength hx (by rw [e403]; exact Ar405.1) (State.isArrayOf_alike hZ.alike Ar405.2.1) (g := (mkF m 9 #[vR a1, vR a2, vI p3, vR a4, vI (((0 : Int32) + (1 : Int32)) + (1 : Int32))] [(.ref b1), (.int (((0 : Int32) + (1 : Int32)) + (1 : Int32)))])) rfl rfl (hb hby d11_9) _ ?_
    rw [ln405]
    show Steps p.tables e below (T403.setTop (mkF m 10 #[vR a1, vR a2, vI p3, vR a4, vI (((0 : Int32) + (1 : Int32)) + (1 : Int32))] [(.int (3 : Int32)), (.int (((0 : Int32) + (1 : Int32)) + (1 : Int32)))])) _
    refine XS.icmpNo X403.here hx rfl (hb hby d11_10) rfl (tlt (by decide : (((0 : Int32) + (1 : Int32)) + (1 : Int32)) < (3 : Int32))).2.1 ?_
    refine XS.aloadN X403.here hx rfl (hb hby d11_13) rfl rfl ?_
    refine XS.iload X403.here hx rfl (hb hby d11_14) rfl ?_
    show Steps p.tables e below (T403.setTop (mkF m 16 #[vR a1, vR a2, vI p3, vR a4, vI (((0 : Int32) + (1 : Int32)) + (1 : Int32))] [(.int (((0 : Int32) + (1 : Int32)) + (1 : Int32))), (.ref a4)])) _
    refine XS.aloadN X403.here hx rfl (hb hby d11_16) rfl rfl ?_
    refine XS.iloadN X403.here hx rfl (hb hby d11_17) rfl ?_
    refine XS.aloadN X403.here hx rfl (hb hby d11_18) rfl rfl ?_
    exact kt
  clear R404
  obtain ⟨T407, X407, e407, st407⟩ := getF X403 hx hZ hown (host := "") (Or.inl (hw _ (List.mem_of_getElem? (i := 28) rfl))) Via.refl e403 Fw_401 (g := (mkF m 19 #[vR a1, vR a2, vI p3, vR a4, vI (((0 : Int32) + (1 : Int32)) + (1 : Int32))] [(.ref a1), (.int p3), (.ref a2), (.int (((0 : Int32) + (1 : Int32)) + (1 : Int32))), (.ref a4)])) rfl rfl (hb hby d11_19)
  have R408 : ∀ tg, Steps p.tables e below (T407.setTop (mkF m 24 #[vR a1, vR a2, vI p3, vR a4, vI (((0 : Int32) + (1 : Int32)) + (1 : Int32))] [(.int (((0 : Int32) + (1 : Int32)) + (1 : Int32))), (.ref b2), (.int p3), (.ref a2), (.int (((0 : Int32) + (1 : Int32)) + (1 : Int32))), (.ref a4)])) tg → Steps p.tables e below (s₁.setTop (mkF m 0 #[vR a1, vR a2, vI p3, vR a4, .unset] [])) tg := by
    intro tg kt
    refine R406 _ ?_
    refine st407 _ ?_
    show Steps p.tables e below (T407.setTop (mkF m 22 #[vR a1, vR a2, vI p3, vR a4, vI (((0 : Int32) + (1 : Int32)) + (1 : Int32))] [(.ref b2), (.int p3), (.ref a2), (.int (((0 : Int32) + (1 : Int32)) + (1 : Int32))), (.ref a4)])) _
    refine XS.iload X407.here hx rfl (hb hby d11_22) rfl ?_
    exact kt
  clear R406 st407
  obtain ⟨cl409, Ar409, hin409, hat409⟩ := VW_401.at (j := (((0 : Int32) + (1 : Int32)) + (1 : Int32))) (k := 2) (by decide) rfl (by decide)
  have R410 : ∀ tg, Steps p.tables e below (T407.setTop (mkF m 26 #[vR a1, vR a2, vI p3, vR a4, vI (((0 : Int32) + (1 : Int32)) + (1 : Int32))] [(.int (p3 + (wd 2))), (.ref a2), (.int (((0 : Int32) + (1 : Int32)) + (1 : Int32))), (.ref a4)])) tg → Steps p.tables e below (s₁.setTop (mkF m 0 #[vR a1, vR a2, vI p3, vR a4, .unset] [])) tg := by
    intro tg kt
    refine R408 _ ?_
    show Steps p.tables e below (T407.setTop (mkF m 24 #[vR a1, vR a2, vI p3, vR a4, vI (((0 : Int32) + (1 : Int32)) + (1 : Int32))] [(.int (((0 : Int32) + (1 : Int32)) + (1 : Int32))), (.ref b2), (.int p3), (.ref a2), (.int (((0 : Int32) + (1 : Int32)) + (1 : Int32))), (.ref a4)])) _
    refine X407.iaload hx (j := (((0 : Int32) + (1 : Int32)) + (1 : Int32))) (v := (.int (wd 2))) (by rw [e407]; exact Ar409.1) (State.isArrayOf_alike hZ.alike Ar409.2.1) Ar409.2.2 hin409 hat409 (g := (mkF m 24 #[vR a1, vR a2, vI p3, vR a4, vI (((0 : Int32) + (1 : Int32)) + (1 : Int32))] [(.int (((0 : Int32) + (1 : Int32)) + (1 : Int32))), (.ref b2), (.int p3), (.ref a2), (.int (((0 : Int32) + (1 : Int32)) + (1 : Int32))), (.ref a4)])) rfl rfl (hb hby d11_24) _ ?_
    show Steps p.tables e below (T407.setTop (mkF m 25 #[vR a1, vR a2, vI p3, vR a4, vI (((0 : Int32) + (1 : Int32)) + (1 : Int32))] [(.int (wd 2)), (.int p3), (.ref a2), (.int (((0 : Int32) + (1 : Int32)) + (1 : Int32))), (.ref a4)])) _
    refine XS.iadd X407.here hx rfl (hb hby d11_25) rfl ?_
    exact kt
  clear R408
  have r_2 := own_ix p3 (wd 2) o (wn 2) NN ho c2 (Nat.lt_of_lt_of_le (Nat.add_lt_add_left d2 o) hnn) h8
  obtain ⟨cl411, Ar411, hin411, hat411⟩ := VK_401.at (j := (p3 + (wd 2))) (k := (o + wn 2)) r_2.1 r_2.2 (Nat.lt_of_lt_of_le (Nat.add_lt_add_left d2 o) hnn)
  have R412 : ∀ tg, Steps p.tables e below (T407.setTop (mkF m 28 #[vR a1, vR a2, vI p3, vR a4, vI (((0 : Int32) + (1 : Int32)) + (1 : Int32))] [(.ref a1), (.long (fk (o + wn 2))), (.int (((0 : Int32) + (1 : Int32)) + (1 : Int32))), (.ref a4)])) tg → Steps p.tables e below (s₁.setTop (mkF m 0 #[vR a1, vR a2, vI p3, vR a4, .unset] [])) tg := by
    intro tg kt
    refine R410 _ ?_
    show Steps p.tables e below (T407.setTop (mkF m 26 #[vR a1, vR a2, vI p3, vR a4, vI (((0 : Int32) + (1 : Int32)) + (1 : Int32))] [(.int (p3 + (wd 2))), (.ref a2), (.int (((0 : Int32) + (1 : Int32)) + (1 : Int32))), (.ref a4)])) _
    refine X407.laload hx (j := (p3 + (wd 2))) (v := (.long (fk (o + wn 2)))) (by rw [e407]; exact Ar411.1) (State.isArrayOf_alike hZ.alike Ar411.2.1) Ar411.2.2 hin411 hat411 (g := (mkF m 26 #[vR a1, vR a2, vI p3, vR a4, vI (((0 : Int32) + (1 : Int32)) + (1 : Int32))] [(.int (p3 + (wd 2))), (.ref a2), (.int (((0 : Int32) + (1 : Int32)) + (1 : Int32))), (.ref a4)])) rfl rfl (hb hby d11_26) _ ?_
    refine XS.aloadN X407.here hx rfl (hb hby d11_27) rfl rfl ?_
    exact kt
  clear R410
  obtain ⟨T413, X413, e413, st413⟩ := getF X407 hx hZ hown (host := "") (Or.inl (hw _ (List.mem_of_getElem? (i := 30) rfl))) Via.refl e407 Fs_401 (g := (mkF m 28 #[vR a1, vR a2, vI p3, vR a4, vI (((0 : Int32) + (1 : Int32)) + (1 : Int32))] [(.ref a1), (.long (fk (o + wn 2))), (.int (((0 : Int32) + (1 : Int32)) + (1 : Int32))), (.ref a4)])) rfl rfl (hb hby d11_28)
  have R414 : ∀ tg, Steps p.tables e below (T413.setTop (mkF m 33 #[vR a1, vR a2, vI p3, vR a4, vI (((0 : Int32) + (1 : Int32)) + (1 : Int32))] [(.int (((0 : Int32) + (1 : Int32)) + (1 : Int32))), (.ref b3), (.long (fk (o + wn 2))), (.int (((0 : Int32) + (1 : Int32)) + (1 : Int32))), (.ref a4)])) tg → Steps p.tables e below (s₁.setTop (mkF m 0 #[vR a1, vR a2, vI p3, vR a4, .unset] [])) tg := by
    intro tg kt
    refine R412 _ ?_
    refine st413 _ ?_
    refine XS.iload X413.here hx rfl (hb hby d11_31) rfl ?_
    exact kt
  clear R412 st413
  obtain ⟨cl415, Ar415, hin415, hat415⟩ := VS_401.at (j := (((0 : Int32) + (1 : Int32)) + (1 : Int32))) (k := 2) (by decide) rfl (by decide)
  have R416 : ∀ tg, Steps p.tables e below (T413.setTop (mkF m 36 #[vR a1, vR a2, vI p3, vR a4, vI (((0 : Int32) + (1 : Int32)) + (1 : Int32))] [(.ref a1), (.long (((fk (o + wn 2)).toUInt64 >>> ((sh 2) &&& 0x3f).toInt64.toUInt64).toInt64)), (.int (((0 : Int32) + (1 : Int32)) + (1 : Int32))), (.ref a4)])) tg → Steps p.tables e below (s₁.setTop (mkF m 0 #[vR a1, vR a2, vI p3, vR a4, .unset] [])) tg := by
    intro tg kt
    refine R414 _ ?_
    show Steps p.tables e below (T413.setTop (mkF m 33 #[vR a1, vR a2, vI p3, vR a4, vI (((0 : Int32) + (1 : Int32)) + (1 : Int32))] [(.int (((0 : Int32) + (1 : Int32)) + (1 : Int32))), (.ref b3), (.long (fk (o + wn 2))), (.int (((0 : Int32) + (1 : Int32)) + (1 : Int32))), (.ref a4)])) _
    refine X413.iaload hx (j := (((0 : Int32) + (1 : Int32)) + (1 : Int32))) (v := (.int (sh 2))) (by rw [e413]; exact Ar415.1) (State.isArrayOf_alike hZ.alike Ar415.2.1) Ar415.2.2 hin415 hat415 (g := (mkF m 33 #[vR a1, vR a2, vI p3, vR a4, vI (((0 : Int32) + (1 : Int32)) + (1 : Int32))] [(.int (((0 : Int32) + (1 : Int32)) + (1 : Int32))), (.ref b3), (.long (fk (o + wn 2))), (.int (((0 : Int32) + (1 : Int32)) + (1 : Int32))), (.ref a4)])) rfl rfl (hb hby d11_33) _ ?_
    show Steps p.tables e below (T413.setTop (mkF m 34 #[vR a1, vR a2, vI p3, vR a4, vI (((0 : Int32) + (1 : Int32)) + (1 : Int32))] [(.int (sh 2)), (.long (fk (o + wn 2))), (.int (((0 : Int32) + (1 : Int32)) + (1 : Int32))), (.ref a4)])) _
    refine XS.lushr X413.here hx rfl (hb hby d11_34) rfl ?_
    refine XS.aloadN X413.here hx rfl (hb hby d11_35) rfl rfl ?_
    exact kt
  clear R414
  obtain ⟨T417, X417, e417, st417⟩ := getF X413 hx hZ hown (host := "") (Or.inl (hw _ (List.mem_of_getElem? (i := 33) rfl))) Via.refl e413 Fm_401 (g := (mkF m 36 #[vR a1, vR a2, vI p3, vR a4, vI (((0 : Int32) + (1 : Int32)) + (1 : Int32))] [(.ref a1), (.long (((fk (o + wn 2)).toUInt64 >>> ((sh 2) &&& 0x3f).toInt64.toUInt64).toInt64)), (.int (((0 : Int32) + (1 : Int32)) + (1 : Int32))), (.ref a4)])) rfl rfl (hb hby d11_36)
  have R418 : ∀ tg, Steps p.tables e below (T417.setTop (mkF m 41 #[vR a1, vR a2, vI p3, vR a4, vI (((0 : Int32) + (1 : Int32)) + (1 : Int32))] [(.int (((0 : Int32) + (1 : Int32)) + (1 : Int32))), (.ref b4), (.long (((fk (o + wn 2)).toUInt64 >>> ((sh 2) &&& 0x3f).toInt64.toUInt64).toInt64)), (.int (((0 : Int32) + (1 : Int32)) + (1 : Int32))), (.ref a4)])) tg → Steps p.tables e below (s₁.setTop (mkF m 0 #[vR a1, vR a2, vI p3, vR a4, .unset] [])) tg := by
    intro tg kt
    refine R416 _ ?_
    refine st417 _ ?_
    refine XS.iload X417.here hx rfl (hb hby d11_39) rfl ?_
    exact kt
  clear R416 st417
  obtain ⟨cl419, Ar419, hin419, hat419⟩ := VM_401.at (j := (((0 : Int32) + (1 : Int32)) + (1 : Int32))) (k := 2) (by decide) rfl (by decide)
  have R420 : ∀ tg, Steps p.tables e below (T417.setTop (mkF m 44 #[vR a1, vR a2, vI p3, vR a4, vI (((0 : Int32) + (1 : Int32)) + (1 : Int32))] [(.ref a1), (.long ((((fk (o + wn 2)).toUInt64 >>> ((sh 2) &&& 0x3f).toInt64.toUInt64).toInt64) &&& (mk 2))), (.int (((0 : Int32) + (1 : Int32)) + (1 : Int32))), (.ref a4)])) tg → Steps p.tables e below (s₁.setTop (mkF m 0 #[vR a1, vR a2, vI p3, vR a4, .unset] [])) tg := by
    intro tg kt
    refine R418 _ ?_
    show Steps p.tables e below (T417.setTop (mkF m 41 #[vR a1, vR a2, vI p3, vR a4, vI (((0 : Int32) + (1 : Int32)) + (1 : Int32))] [(.int (((0 : Int32) + (1 : Int32)) + (1 : Int32))), (.ref b4), (.long (((fk (o + wn 2)).toUInt64 >>> ((sh 2) &&& 0x3f).toInt64.toUInt64).toInt64)), (.int (((0 : Int32) + (1 : Int32)) + (1 : Int32))), (.ref a4)])) _
    refine X417.laload hx (j := (((0 : Int32) + (1 : Int32)) + (1 : Int32))) (v := (.long (mk 2))) (by rw [e417]; exact Ar419.1) (State.isArrayOf_alike hZ.alike Ar419.2.1) Ar419.2.2 hin419 hat419 (g := (mkF m 41 #[vR a1, vR a2, vI p3, vR a4, vI (((0 : Int32) + (1 : Int32)) + (1 : Int32))] [(.int (((0 : Int32) + (1 : Int32)) + (1 : Int32))), (.ref b4), (.long (((fk (o + wn 2)).toUInt64 >>> ((sh 2) &&& 0x3f).toInt64.toUInt64).toInt64)), (.int (((0 : Int32) + (1 : Int32)) + (1 : Int32))), (.ref a4)])) rfl rfl (hb hby d11_41) _ ?_
    show Steps p.tables e below (T417.setTop (mkF m 42 #[vR a1, vR a2, vI p3, vR a4, vI (((0 : Int32) + (1 : Int32)) + (1 : Int32))] [(.long (mk 2)), (.long (((fk (o + wn 2)).toUInt64 >>> ((sh 2) &&& 0x3f).toInt64.toUInt64).toInt64)), (.int (((0 : Int32) + (1 : Int32)) + (1 : Int32))), (.ref a4)])) _
    refine XS.land X417.here hx rfl (hb hby d11_42) rfl ?_
    refine XS.aloadN X417.here hx rfl (hb hby d11_43) rfl rfl ?_
    exact kt
  clear R418
  obtain ⟨T421, X421, e421, st421⟩ := getF X417 hx hZ hown (host := "") (Or.inl (hw _ (List.mem_of_getElem? (i := 26) rfl))) Via.refl e417 Fl_401 (g := (mkF m 44 #[vR a1, vR a2, vI p3, vR a4, vI (((0 : Int32) + (1 : Int32)) + (1 : Int32))] [(.ref a1), (.long ((((fk (o + wn 2)).toUInt64 >>> ((sh 2) &&& 0x3f).toInt64.toUInt64).toInt64) &&& (mk 2))), (.int (((0 : Int32) + (1 : Int32)) + (1 : Int32))), (.ref a4)])) rfl rfl (hb hby d11_44)
  have R422 : ∀ tg, Steps p.tables e below (T421.setTop (mkF m 49 #[vR a1, vR a2, vI p3, vR a4, vI (((0 : Int32) + (1 : Int32)) + (1 : Int32))] [(.int (((0 : Int32) + (1 : Int32)) + (1 : Int32))), (.ref b1), (.long ((((fk (o + wn 2)).toUInt64 >>> ((sh 2) &&& 0x3f).toInt64.toUInt64).toInt64) &&& (mk 2))), (.int (((0 : Int32) + (1 : Int32)) + (1 : Int32))), (.ref a4)])) tg → Steps p.tables e below (s₁.setTop (mkF m 0 #[vR a1, vR a2, vI p3, vR a4, .unset] [])) tg := by
    intro tg kt
    refine R420 _ ?_
    refine st421 _ ?_
    refine XS.iload X421.here hx rfl (hb hby d11_47) rfl ?_
    exact kt
  clear R420 st421
  obtain ⟨cl423, Ar423, hin423, hat423⟩ := VL_401.at (j := (((0 : Int32) + (1 : Int32)) + (1 : Int32))) (k := 2) (by decide) rfl (by decide)
  have R424 : ∀ tg, Steps p.tables e below (T421.setTop (mkF m 53 #[vR a1, vR a2, vI p3, vR a4, vI (((0 : Int32) + (1 : Int32)) + (1 : Int32))] [(.int ((((((fk (o + wn 2)).toUInt64 >>> ((sh 2) &&& 0x3f).toInt64.toUInt64).toInt64) &&& (mk 2)) + ((lo 2).toInt64)).toInt32)), (.int (((0 : Int32) + (1 : Int32)) + (1 : Int32))), (.ref a4)])) tg → Steps p.tables e below (s₁.setTop (mkF m 0 #[vR a1, vR a2, vI p3, vR a4, .unset] [])) tg := by
    intro tg kt
    refine R422 _ ?_
    show Steps p.tables e below (T421.setTop (mkF m 49 #[vR a1, vR a2, vI p3, vR a4, vI (((0 : Int32) + (1 : Int32)) + (1 : Int32))] [(.int (((0 : Int32) + (1 : Int32)) + (1 : Int32))), (.ref b1), (.long ((((fk (o + wn 2)).toUInt64 >>> ((sh 2) &&& 0x3f).toInt64.toUInt64).toInt64) &&& (mk 2))), (.int (((0 : Int32) + (1 : Int32)) + (1 : Int32))), (.ref a4)])) _
    refine X421.iaload hx (j := (((0 : Int32) + (1 : Int32)) + (1 : Int32))) (v := (.int (lo 2))) (by rw [e421]; exact Ar423.1) (State.isArrayOf_alike hZ.alike Ar423.2.1) Ar423.2.2 hin423 hat423 (g := (mkF m 49 #[vR a1, vR a2, vI p3, vR a4, vI (((0 : Int32) + (1 : Int32)) + (1 : Int32))] [(.int (((0 : Int32) + (1 : Int32)) + (1 : Int32))), (.ref b1), (.long ((((fk (o + wn 2)).toUInt64 >>> ((sh 2) &&& 0x3f).toInt64.toUInt64).toInt64) &&& (mk 2))), (.int (((0 : Int32) + (1 : Int32)) + (1 : Int32))), (.ref a4)])) rfl rfl (hb hby d11_49) _ ?_
    show Steps p.tables e below (T421.setTop (mkF m 50 #[vR a1, vR a2, vI p3, vR a4, vI (((0 : Int32) + (1 : Int32)) + (1 : Int32))] [(.int (lo 2)), (.long ((((fk (o + wn 2)).toUInt64 >>> ((sh 2) &&& 0x3f).toInt64.toUInt64).toInt64) &&& (mk 2))), (.int (((0 : Int32) + (1 : Int32)) + (1 : Int32))), (.ref a4)])) _
    refine XS.i2l X421.here hx rfl (hb hby d11_50) rfl ?_
    show Steps p.tables e below (T421.setTop (mkF m 51 #[vR a1, vR a2, vI p3, vR a4, vI (((0 : Int32) + (1 : Int32)) + (1 : Int32))] [(.long ((lo 2).toInt64)), (.long ((((fk (o + wn 2)).toUInt64 >>> ((sh 2) &&& 0x3f).toInt64.toUInt64).toInt64) &&& (mk 2))), (.int (((0 : Int32) + (1 : Int32)) + (1 : Int32))), (.ref a4)])) _
    refine XS.ladd X421.here hx rfl (hb hby d11_51) rfl ?_
    show Steps p.tables e below (T421.setTop (mkF m 52 #[vR a1, vR a2, vI p3, vR a4, vI (((0 : Int32) + (1 : Int32)) + (1 : Int32))] [(.long (((((fk (o + wn 2)).toUInt64 >>> ((sh 2) &&& 0x3f).toInt64.toUInt64).toInt64) &&& (mk 2)) + ((lo 2).toInt64))), (.int (((0 : Int32) + (1 : Int32)) + (1 : Int32))), (.ref a4)])) _
    refine XS.l2i X421.here hx rfl (hb hby d11_52) rfl ?_
    exact kt
  clear R422
  obtain ⟨cl425, Ar425, hin425, -⟩ := VO_401.at (j := (((0 : Int32) + (1 : Int32)) + (1 : Int32))) (k := 2) (by decide) rfl (by decide)
  obtain ⟨T426, h426, X426, e426, W426, st426⟩ := stI X421 hx hZ e421 Ar425 (j := (((0 : Int32) + (1 : Int32)) + (1 : Int32))) hin425 (g := (mkF m 53 #[vR a1, vR a2, vI p3, vR a4, vI (((0 : Int32) + (1 : Int32)) + (1 : Int32))] [(.int ((((((fk (o + wn 2)).toUInt64 >>> ((sh 2) &&& 0x3f).toInt64.toUInt64).toInt64) &&& (mk 2)) + ((lo 2).toInt64)).toInt32)), (.int (((0 : Int32) + (1 : Int32)) + (1 : Int32))), (.ref a4)])) rfl rfl (hb hby d11_53)
  have N426 := Fr.snoc X426 N401 ga
  rw [show ((((0 : Int32) + (1 : Int32)) + (1 : Int32)) : Int32).toNatClampNeg = 2 from rfl] at W426
  have VO_426 : AV Z h426 a4 .int 3 (fun j => .int ((own_set (own_set (own_set fo 0 (own_dec fk o wn lo sh mk 0)) 1 (own_dec fk o wn lo sh mk 1)) 2 (own_dec fk o wn lo sh mk 2)) j)) := VO_401.setI W426
  have Fl_426 := Fl_401.other W426 (Or.inl m1)
  have Fw_426 := Fw_401.other W426 (Or.inl m1)
  have Fs_426 := Fs_401.other W426 (Or.inl m1)
  have Fm_426 := Fm_401.other W426 (Or.inl m1)
  have VL_426 := VL_401.other W426 m3
  have VW_426 := VW_401.other W426 m4
  have VS_426 := VS_401.other W426 m5
  have VM_426 := VM_401.other W426 m6
  have VK_426 := VK_401.other W426 m2
  clear Fl_401 Fw_401 Fs_401 Fm_401 VL_401 VW_401 VS_401 VM_401 VK_401
  have Zs426 : n0 ≤ h426.size := Nat.le_trans Zs401 (Keep.of_wr W426).1
  have Kw426 : Keep h0 h426 [a4] := Keep.wr Kw401 W426 (Or.inl (List.mem_of_getElem? (i := 0) rfl))
  have R427 : ∀ tg, Steps p.tables e below (T426.setTop (mkF m 6 #[vR a1, vR a2, vI p3, vR a4, vI ((((0 : Int32) + (1 : Int32)) + (1 : Int32)) + (1 : Int32))] [(.ref a1), (.int ((((0 : Int32) + (1 : Int32)) + (1 : Int32)) + (1 : Int32)))])) tg → Steps p.tables e below (s₁.setTop (mkF m 0 #[vR a1, vR a2, vI p3, vR a4, .unset] [])) tg := by
    intro tg kt
    refine R424 _ ?_
    refine st426 _ ?_
    show Steps p.tables e below (T426.setTop (mkF m 54 #[vR a1, vR a2, vI p3, vR a4, vI (((0 : Int32) + (1 : Int32)) + (1 : Int32))] [])) _
    refine XS.iinc X426.here hx rfl (hb hby d11_54) rfl (l' := #[vR a1, vR a2, vI p3, vR a4, vI ((((0 : Int32) + (1 : Int32)) + (1 : Int32)) + (1 : Int32))]) rfl ?_
    show Steps p.tables e below (T426.setTop (mkF m 57 #[vR a1, vR a2, vI p3, vR a4, vI ((((0 : Int32) + (1 : Int32)) + (1 : Int32)) + (1 : Int32))] [])) _
    refine XS.goto X426.here hx rfl (pc0 := 57) (pc' := 3) rfl (hb hby d11_57) (by decide) (by decide) ?_
    refine XS.iload X426.here hx rfl (hb hby d11_3) rfl ?_
    refine XS.aloadN X426.here hx rfl (hb hby d11_5) rfl rfl ?_
    exact kt
  clear R424 st426
  obtain ⟨T428, X428, e428, st428⟩ := getF X426 hx hZ hown (host := "") (Or.inl (hw _ (List.mem_of_getElem? (i := 26) rfl))) Via.refl e426 Fl_426 (g := (mkF m 6 #[vR a1, vR a2, vI p3, vR a4, vI ((((0 : Int32) + (1 : Int32)) + (1 : Int32)) + (1 : Int32))] [(.ref a1), (.int ((((0 : Int32) + (1 : Int32)) + (1 : Int32)) + (1 : Int32)))])) rfl rfl (hb hby d11_6)
  have R429 : ∀ tg, Steps p.tables e below (T428.setTop (mkF m 9 #[vR a1, vR a2, vI p3, vR a4, vI ((((0 : Int32) + (1 : Int32)) + (1 : Int32)) + (1 : Int32))] [(.ref b1), (.int ((((0 : Int32) + (1 : Int32)) + (1 : Int32)) + (1 : Int32)))])) tg → Steps p.tables e below (s₁.setTop (mkF m 0 #[vR a1, vR a2, vI p3, vR a4, .unset] [])) tg := by
    intro tg kt
    refine R427 _ ?_
    refine st428 _ ?_
    exact kt
  clear R427 st428
  obtain ⟨cl430, Ar430, ln430⟩ := VL_426.len
  have R431 : ∀ tg, Steps p.tables e below (T428.setTop (mkF m 60 #[vR a1, vR a2, vI p3, vR a4, vI ((((0 : Int32) + (1 : Int32)) + (1 : Int32)) + (1 : Int32))] [])) tg → Steps p.tables e below (s₁.setTop (mkF m 0 #[vR a1, vR a2, vI p3, vR a4, .unset] [])) tg := by
    intro tg kt
    refine R429 _ ?_
    show Steps p.tables e below (T428.setTop (mkF m 9 #[vR a1, vR a2, vI p3, vR a4, vI ((((0 : Int32) + (1 : Int32)) + (1 : Int32)) + (1 : Int32))] [(.ref b1), (.int ((((0 : Int32) + (1 : Int32)) + (1 : Int32)) + (1 : Int32)))])) _
    refine X428.arraylength hx (by rw [e428]; exact Ar430.1) (State.isArrayOf_alike hZ.alike Ar430.2.1) (g := (mkF m 9 #[vR a1, vR a2, vI p3, vR a4, vI ((((0 : Int32) + (1 : Int32)) + (1 : Int32)) + (1 : Int32))] [(.ref b1), (.int ((((0 : Int32) + (1 : Int32)) + (1 : Int32)) + (1 : Int32)))])) rfl rfl (hb hby d11_9) _ ?_
    rw [ln430]
    show Steps p.tables e below (T428.setTop (mkF m 10 #[vR a1, vR a2, vI p3, vR a4, vI ((((0 : Int32) + (1 : Int32)) + (1 : Int32)) + (1 : Int32))] [(.int (3 : Int32)), (.int ((((0 : Int32) + (1 : Int32)) + (1 : Int32)) + (1 : Int32)))])) _
    refine XS.icmpYes X428.here hx rfl (pc0 := 10) (pc' := 60) rfl (hb hby d11_10) rfl (flt (by decide : ¬ (((((0 : Int32) + (1 : Int32)) + (1 : Int32)) + (1 : Int32)) < (3 : Int32)))).2.1 (by decide) (by decide) ?_
    exact kt
  clear R429
  have VOz : AV Z h426 a4 .int 3 (fun j => .int ((own_dec fk o wn lo sh mk) j)) := AV.congr VO_426 (fun j hj => congrArg _ (own_three (own_dec fk o wn lo sh mk) _ j hj))
  obtain ⟨fs, hr, hrun, hended, hW, hsame⟩ := X428.leave (v := none) (fun _ => rfl)
  refine ⟨_, _, pre0 _ (R431 _ ?_), hrun, hended, _, _, rfl, ?_, ⟨_, rfl⟩, hW, hsame.mono (by decide) (by decide)⟩
  · exact X428.returnOut hx Bd.returns (hb hby d11_60) hr
  · show Q_rm_decode Z a1 a2 p3 a4 b1 b2 b3 b4 lo wd sh mk fo fk NN o nw wn h0 n0 _ T428.heap _
    rw [e428]
    exact ⟨rfl, N426, Kw426, VOz⟩
theorem d7_0 : decode prog_37_method_2_code 0 = .ok (.aload_n 0, 1) := by decide +kernel
theorem d7_1 : decode prog_37_method_2_code 1 = .ok (.getfield 36, 3) := by decide +kernel
theorem d7_4 : decode prog_37_method_2_code 4 = .ok (.ireturn, 1) := by decide +kernel
theorem ef_rm_words (m : MethodId) (a1 : Addr) : entryFrame m #[(.ref a1)] 1 = mkF m 0 #[vR a1] [] := by first | (simp [entryFrame, mkF, argsToLocals, Value.category]; done) | rfl
def Q_rm_words (Z : State) (a1 : Addr) (wv : Int32) (h0 : Heap) (n0 : Nat) (v : Option Value) (h : Heap) (L : List Loc) : Prop := v = some (.int wv) ∧ Fr n0 L ∧ h = h0
set_option maxRecDepth 65536 in
set_option maxHeartbeats 40000000 in
theorem rm_words (l : Launch) (Z : State) (a0 : Array Value) (hw : ∀ d ∈ tables_1, d.before a0 Z = true) (ws : List Jvm.Cond) (a1 : Addr) (wv : Int32) (h0 : Heap) (n0 : Nat) (Z0 : n0 ≤ h0.size) (Fc : Fld Z h0 a1 "com/example/inexact_odds/inexactodds/language/Encoding" "words" "I" (.int wv)) :
    MetFree l (⟨"com/example/inexact_odds/inexactodds/language/Encoding", "words", "()I"⟩ : MethodName) (head1 (Jvm.Cond.code (⟨"com/example/inexact_odds/inexactodds/language/Encoding", "words", "()I"⟩ : MethodName) prog_37_method_2_code 1 (some .int) :: ws) ({ frames := 0, cells := 0, slots := 0, locals := 0 } : Room)) (fun a U => a = #[(.ref a1)] ∧ Z.Warmed39 U.vm ∧ U.heap = h0) (fun _ _ _ _ _ => True) (fun _ U oC U' => ∃ v L, oC = .returned v ∧ Q_rm_words Z a1 wv h0 n0 v U'.heap L ∧ FrameEnd U oC U' L ({ frames := 0, cells := 0, slots := 0, locals := 0 } : Room).cells ({ frames := 0, cells := 0, slots := 0, locals := 0 } : Room).slots) := by
  refine MetFree.of_bodySF (plainFor_of_name pn_2) hisR ?_
  intro p e s m args below meth c s₁ Bd hml0 hP hK
  obtain ⟨rfl, hZ, hh⟩ := hP
  have hx := Bd.exec
  have hby := Bd.bytes
  have hml : c.maxLocals = 1 := hml0
  have hown : s.vm.findClass "com/example/inexact_odds/inexactodds/language/Encoding" = some m.cls := findClass_of_methodNamed Bd.named
  have hnm := (name_of_methodNamed Bd.named Bd.method).1
  have X0 : Stand p l e ({ frames := 0, cells := 0, slots := 0, locals := 0 } : Room) s m #[(.ref a1)] below meth c s₁ [] 0 0 := Stand.of_body Bd
  have e0 : s₁.heap = h0 := by rw [← hh, Bd.state]; rfl
  have N0 := Fr.nil n0
  have pre0 : ∀ tg, Steps p.tables e below (s₁.setTop (mkF m 0 #[vR a1] [])) tg → Steps p.tables e below (s₁.setTop (entryFrame m #[(.ref a1)] 1)) tg := fun t k => castTop (ef_rm_words m a1) k
  have pre00 : ∀ tg, Steps p.tables e below (s₁.setTop (mkF m 0 #[vR a1] [])) tg → Steps p.tables e below (s₁.setTop (mkF m 0 #[vR a1] [])) tg := fun _ k => k
  have R432 : ∀ tg, Steps p.tables e below (s₁.setTop (mkF m 1 #[vR a1] [(.ref a1)])) tg → Steps p.tables e below (s₁.setTop (mkF m 0 #[vR a1] [])) tg := by
    intro tg kt
    refine pre00 _ ?_
    show Steps p.tables e below (s₁.setTop (mkF m 0 #[vR a1] [])) _
    refine XS.aloadN X0.here hx rfl (hb hby d7_0) rfl rfl ?_
    exact kt
  obtain ⟨T433, X433, e433, st433⟩ := getF X0 hx hZ hown (host := "") (Or.inl (hw _ (List.mem_of_getElem? (i := 45) rfl))) Via.refl e0 Fc (g := (mkF m 1 #[vR a1] [(.ref a1)])) rfl rfl (hb hby d7_1)
  have R434 : ∀ tg, Steps p.tables e below (T433.setTop (mkF m 4 #[vR a1] [(.int wv)])) tg → Steps p.tables e below (s₁.setTop (mkF m 0 #[vR a1] [])) tg := by
    intro tg kt
    refine R432 _ ?_
    refine st433 _ ?_
    exact kt
  clear R432 st433
  obtain ⟨fs, hr, hrun, hended, hW, hsame⟩ := X433.leave (v := some (.int wv)) (fun h => by rw [Bd.returns] at h; cases h)
  refine ⟨_, _, pre0 _ (R434 _ ?_), hrun, hended, _, _, rfl, ?_, ⟨_, rfl⟩, hW, hsame.mono (by decide) (by decide)⟩
  · exact retI X433 hx Bd.returns (hb hby d7_4) hr
  · show Q_rm_words Z a1 wv h0 n0 _ T433.heap _
    rw [e433]
    exact ⟨rfl, N0, rfl⟩
theorem pn_3 : plainName "com/example/inexact_odds/inexactodds/language/EncodingEncodePinLaw" = true := by first | (simp [plainName, overriddenIn]; done) | decide +kernel
theorem d8_0 : decode method_2_code 0 = .ok (.iload_n 1, 1) := by decide +kernel
theorem d8_1 : decode method_2_code 1 = .ok (.i2l, 1) := by decide +kernel
theorem d8_2 : decode method_2_code 2 = .ok (.iload_n 0, 1) := by decide +kernel
theorem d8_3 : decode method_2_code 3 = .ok (.i2l, 1) := by decide +kernel
theorem d8_4 : decode method_2_code 4 = .ok (.lsub, 1) := by decide +kernel
theorem d8_5 : decode method_2_code 5 = .ok (.lstore_n 3, 1) := by decide +kernel
theorem d8_6 : decode method_2_code 6 = .ok (.iload_n 0, 1) := by decide +kernel
theorem d8_7 : decode method_2_code 7 = .ok (.i2l, 1) := by decide +kernel
theorem d8_8 : decode method_2_code 8 = .ok (.iload_n 2, 1) := by decide +kernel
theorem d8_9 : decode method_2_code 9 = .ok (.i2l, 1) := by decide +kernel
theorem d8_10 : decode method_2_code 10 = .ok (.ldc2_w 7, 3) := by decide +kernel
theorem d8_13 : decode method_2_code 13 = .ok (.land, 1) := by decide +kernel
theorem d8_14 : decode method_2_code 14 = .ok (.lload_n 3, 1) := by decide +kernel
theorem d8_15 : decode method_2_code 15 = .ok (.lconst 1, 1) := by decide +kernel
theorem d8_16 : decode method_2_code 16 = .ok (.ladd, 1) := by decide +kernel
theorem d8_17 : decode method_2_code 17 = .ok (.lrem, 1) := by decide +kernel
theorem d8_18 : decode method_2_code 18 = .ok (.ladd, 1) := by decide +kernel
theorem d8_19 : decode method_2_code 19 = .ok (.l2i, 1) := by decide +kernel
theorem d8_20 : decode method_2_code 20 = .ok (.ireturn, 1) := by decide +kernel
theorem ef_rm_pick (m : MethodId) (p1 : Int32) (p2 : Int32) (p3 : Int32) : entryFrame m #[(.int p1), (.int p2), (.int p3)] 5 = mkF m 0 #[vI p1, vI p2, vI p3, .unset, .unset] [] := by first | (simp [entryFrame, mkF, argsToLocals, Value.category]; done) | rfl
def Q_rm_pick (Z : State) (p1 : Int32) (p2 : Int32) (p3 : Int32) (h0 : Heap) (n0 : Nat) (v : Option Value) (h : Heap) (L : List Loc) : Prop := v = some (.int (own_vl p1 p2 p3)) ∧ Fr n0 L ∧ h = h0
set_option maxRecDepth 65536 in
set_option maxHeartbeats 40000000 in
theorem rm_pick (l : Launch) (Z : State) (a0 : Array Value) (hw : ∀ d ∈ tables_1, d.before a0 Z = true) (ws : List Jvm.Cond) (p1 : Int32) (p2 : Int32) (p3 : Int32) (h0 : Heap) (n0 : Nat) (Z0 : n0 ≤ h0.size) (hle : p1.toInt ≤ p2.toInt) :
    MetFree l (⟨"com/example/inexact_odds/inexactodds/language/EncodingEncodePinLaw", "pick", "(III)I"⟩ : MethodName) (head1 (Jvm.Cond.code (⟨"com/example/inexact_odds/inexactodds/language/EncodingEncodePinLaw", "pick", "(III)I"⟩ : MethodName) method_2_code 5 (some .int) :: ws) ({ frames := 0, cells := 0, slots := 0, locals := 0 } : Room)) (fun a U => a = #[(.int p1), (.int p2), (.int p3)] ∧ Z.Warmed39 U.vm ∧ U.heap = h0) (fun _ _ _ _ _ => True) (fun _ U oC U' => ∃ v L, oC = .returned v ∧ Q_rm_pick Z p1 p2 p3 h0 n0 v U'.heap L ∧ FrameEnd U oC U' L ({ frames := 0, cells := 0, slots := 0, locals := 0 } : Room).cells ({ frames := 0, cells := 0, slots := 0, locals := 0 } : Room).slots) := by
  refine MetFree.of_bodySF (plainFor_of_name pn_3) hisR ?_
  intro p e s m args below meth c s₁ Bd hml0 hP hK
  obtain ⟨rfl, hZ, hh⟩ := hP
  have hx := Bd.exec
  have hby := Bd.bytes
  have hml : c.maxLocals = 5 := hml0
  have hown : s.vm.findClass "com/example/inexact_odds/inexactodds/language/EncodingEncodePinLaw" = some m.cls := findClass_of_methodNamed Bd.named
  have hnm := (name_of_methodNamed Bd.named Bd.method).1
  have X0 : Stand p l e ({ frames := 0, cells := 0, slots := 0, locals := 0 } : Room) s m #[(.int p1), (.int p2), (.int p3)] below meth c s₁ [] 0 0 := Stand.of_body Bd
  have e0 : s₁.heap = h0 := by rw [← hh, Bd.state]; rfl
  have N0 := Fr.nil n0
  have pre0 : ∀ tg, Steps p.tables e below (s₁.setTop (mkF m 0 #[vI p1, vI p2, vI p3, .unset, .unset] [])) tg → Steps p.tables e below (s₁.setTop (entryFrame m #[(.int p1), (.int p2), (.int p3)] 5)) tg := fun t k => castTop (ef_rm_pick m p1 p2 p3) k
  have pre00 : ∀ tg, Steps p.tables e below (s₁.setTop (mkF m 0 #[vI p1, vI p2, vI p3, .unset, .unset] [])) tg → Steps p.tables e below (s₁.setTop (mkF m 0 #[vI p1, vI p2, vI p3, .unset, .unset] [])) tg := fun _ k => k
  have R435 : ∀ tg, Steps p.tables e below (s₁.setTop (mkF m 17 #[vI p1, vI p2, vI p3, vJ ((p2.toInt64) - (p1.toInt64)), .second] [(.long (((p2.toInt64) - (p1.toInt64)) + (1 : Int64))), (.long ((p3.toInt64) &&& (4294967295 : Int64))), (.long (p1.toInt64))])) tg → Steps p.tables e below (s₁.setTop (mkF m 0 #[vI p1, vI p2, vI p3, .unset, .unset] [])) tg := by
    intro tg kt
    refine pre00 _ ?_
    show Steps p.tables e below (s₁.setTop (mkF m 0 #[vI p1, vI p2, vI p3, .unset, .unset] [])) _
    refine XS.iloadN X0.here hx rfl (hb hby d8_0) rfl ?_
    show Steps p.tables e below (s₁.setTop (mkF m 1 #[vI p1, vI p2, vI p3, .unset, .unset] [(.int p2)])) _
    refine XS.i2l X0.here hx rfl (hb hby d8_1) rfl ?_
    refine XS.iloadN X0.here hx rfl (hb hby d8_2) rfl ?_
    show Steps p.tables e below (s₁.setTop (mkF m 3 #[vI p1, vI p2, vI p3, .unset, .unset] [(.int p1), (.long (p2.toInt64))])) _
    refine XS.i2l X0.here hx rfl (hb hby d8_3) rfl ?_
    show Steps p.tables e below (s₁.setTop (mkF m 4 #[vI p1, vI p2, vI p3, .unset, .unset] [(.long (p1.toInt64)), (.long (p2.toInt64))])) _
    refine XS.lsub X0.here hx rfl (hb hby d8_4) rfl ?_
    show Steps p.tables e below (s₁.setTop (mkF m 5 #[vI p1, vI p2, vI p3, .unset, .unset] [(.long ((p2.toInt64) - (p1.toInt64)))])) _
    refine XS.lstoreN X0.here hx rfl (hb hby d8_5) rfl (l' := #[vI p1, vI p2, vI p3, vJ ((p2.toInt64) - (p1.toInt64)), .second]) rfl ?_
    refine XS.iloadN X0.here hx rfl (hb hby d8_6) rfl ?_
    show Steps p.tables e below (s₁.setTop (mkF m 7 #[vI p1, vI p2, vI p3, vJ ((p2.toInt64) - (p1.toInt64)), .second] [(.int p1)])) _
    refine XS.i2l X0.here hx rfl (hb hby d8_7) rfl ?_
    refine XS.iloadN X0.here hx rfl (hb hby d8_8) rfl ?_
    show Steps p.tables e below (s₁.setTop (mkF m 9 #[vI p1, vI p2, vI p3, vJ ((p2.toInt64) - (p1.toInt64)), .second] [(.int p3), (.long (p1.toInt64))])) _
    refine XS.i2l X0.here hx rfl (hb hby d8_9) rfl ?_
    show Steps p.tables e below (s₁.setTop (mkF m 10 #[vI p1, vI p2, vI p3, vJ ((p2.toInt64) - (p1.toInt64)), .second] [(.long (p3.toInt64)), (.long (p1.toInt64))])) _
    refine X0.ldc2Long hx hown (mvT hZ (hw _ (List.mem_of_getElem? (i := 56) rfl))) (g := (mkF m 10 #[vI p1, vI p2, vI p3, vJ ((p2.toInt64) - (p1.toInt64)), .second] [(.long (p3.toInt64)), (.long (p1.toInt64))])) rfl (hb hby d8_10) _ ?_
    show Steps p.tables e below (s₁.setTop (mkF m 13 #[vI p1, vI p2, vI p3, vJ ((p2.toInt64) - (p1.toInt64)), .second] [(.long (4294967295 : Int64)), (.long (p3.toInt64)), (.long (p1.toInt64))])) _
    refine XS.land X0.here hx rfl (hb hby d8_13) rfl ?_
    refine XS.lloadN X0.here hx rfl (hb hby d8_14) rfl ?_
    refine XS.lconst X0.here hx rfl (hb hby d8_15) ?_
    show Steps p.tables e below (s₁.setTop (mkF m 16 #[vI p1, vI p2, vI p3, vJ ((p2.toInt64) - (p1.toInt64)), .second] [(.long (1 : Int64)), (.long ((p2.toInt64) - (p1.toInt64))), (.long ((p3.toInt64) &&& (4294967295 : Int64))), (.long (p1.toInt64))])) _
    refine XS.ladd X0.here hx rfl (hb hby d8_16) rfl ?_
    exact kt
  have R436 : ∀ tg, Steps p.tables e below (s₁.setTop (mkF m 17 #[vI p1, vI p2, vI p3, vJ ((p2.toInt64) - (p1.toInt64)), .second] [(.long (own_sp p1 p2)), (.long ((p3.toInt64) &&& (4294967295 : Int64))), (.long (p1.toInt64))])) tg → Steps p.tables e below (s₁.setTop (mkF m 0 #[vI p1, vI p2, vI p3, .unset, .unset] [])) tg := R435
  have R437 : ∀ tg, Steps p.tables e below (s₁.setTop (mkF m 20 #[vI p1, vI p2, vI p3, vJ ((p2.toInt64) - (p1.toInt64)), .second] [(.int (((p1.toInt64) + (((p3.toInt64) &&& (4294967295 : Int64)) - (((p3.toInt64) &&& (4294967295 : Int64)) / (own_sp p1 p2)) * (own_sp p1 p2))).toInt32))])) tg → Steps p.tables e below (s₁.setTop (mkF m 0 #[vI p1, vI p2, vI p3, .unset, .unset] [])) tg := by
    intro tg kt
    refine R436 _ ?_
    show Steps p.tables e below (s₁.setTop (mkF m 17 #[vI p1, vI p2, vI p3, vJ ((p2.toInt64) - (p1.toInt64)), .second] [(.long (own_sp p1 p2)), (.long ((p3.toInt64) &&& (4294967295 : Int64))), (.long (p1.toInt64))])) _
    refine XS.lrem X0.here hx rfl (hb hby d8_17) rfl (own_sp_ne _ _ hle) ?_
    show Steps p.tables e below (s₁.setTop (mkF m 18 #[vI p1, vI p2, vI p3, vJ ((p2.toInt64) - (p1.toInt64)), .second] [(.long (((p3.toInt64) &&& (4294967295 : Int64)) - (((p3.toInt64) &&& (4294967295 : Int64)) / (own_sp p1 p2)) * (own_sp p1 p2))), (.long (p1.toInt64))])) _
    refine XS.ladd X0.here hx rfl (hb hby d8_18) rfl ?_
    show Steps p.tables e below (s₁.setTop (mkF m 19 #[vI p1, vI p2, vI p3, vJ ((p2.toInt64) - (p1.toInt64)), .second] [(.long ((p1.toInt64) + (((p3.toInt64) &&& (4294967295 : Int64)) - (((p3.toInt64) &&& (4294967295 : Int64)) / (own_sp p1 p2)) * (own_sp p1 p2))))])) _
    refine XS.l2i X0.here hx rfl (hb hby d8_19) rfl ?_
    exact kt
  clear R436
  obtain ⟨fs, hr, hrun, hended, hW, hsame⟩ := X0.leave (v := some (.int (((p1.toInt64) + (((p3.toInt64) &&& (4294967295 : Int64)) - (((p3.toInt64) &&& (4294967295 : Int64)) / (own_sp p1 p2)) * (own_sp p1 p2))).toInt32))) (fun h => by rw [Bd.returns] at h; cases h)
  refine ⟨_, _, pre0 _ (R437 _ ?_), hrun, hended, _, _, rfl, ?_, ⟨_, rfl⟩, hW, hsame.mono (by decide) (by decide)⟩
  · exact retI X0 hx Bd.returns (hb hby d8_20) hr
  · show Q_rm_pick Z p1 p2 p3 h0 n0 _ s₁.heap _
    rw [e0]
    exact ⟨rfl, N0, rfl⟩
theorem d9_0 : decode method_3_code 0 = .ok (.bipush 6, 2) := by decide +kernel
theorem d9_2 : decode method_3_code 2 = .ok (.newarray .long, 2) := by decide +kernel
theorem d9_4 : decode method_3_code 4 = .ok (.astore_n 2, 1) := by decide +kernel
theorem d9_5 : decode method_3_code 5 = .ok (.aload_n 2, 1) := by decide +kernel
theorem d9_6 : decode method_3_code 6 = .ok (.iconst 0, 1) := by decide +kernel
theorem d9_7 : decode method_3_code 7 = .ok (.lload_n 0, 1) := by decide +kernel
theorem d9_8 : decode method_3_code 8 = .ok (.lastore, 1) := by decide +kernel
theorem d9_9 : decode method_3_code 9 = .ok (.aload_n 2, 1) := by decide +kernel
theorem d9_10 : decode method_3_code 10 = .ok (.iconst 1, 1) := by decide +kernel
theorem d9_11 : decode method_3_code 11 = .ok (.lload_n 0, 1) := by decide +kernel
theorem d9_12 : decode method_3_code 12 = .ok (.lastore, 1) := by decide +kernel
theorem d9_13 : decode method_3_code 13 = .ok (.aload_n 2, 1) := by decide +kernel
theorem d9_14 : decode method_3_code 14 = .ok (.iconst 2, 1) := by decide +kernel
theorem d9_15 : decode method_3_code 15 = .ok (.lload_n 0, 1) := by decide +kernel
theorem d9_16 : decode method_3_code 16 = .ok (.lastore, 1) := by decide +kernel
theorem d9_17 : decode method_3_code 17 = .ok (.aload_n 2, 1) := by decide +kernel
theorem d9_18 : decode method_3_code 18 = .ok (.iconst 3, 1) := by decide +kernel
theorem d9_19 : decode method_3_code 19 = .ok (.lload_n 0, 1) := by decide +kernel
theorem d9_20 : decode method_3_code 20 = .ok (.lastore, 1) := by decide +kernel
theorem d9_21 : decode method_3_code 21 = .ok (.aload_n 2, 1) := by decide +kernel
theorem d9_22 : decode method_3_code 22 = .ok (.iconst 4, 1) := by decide +kernel
theorem d9_23 : decode method_3_code 23 = .ok (.lload_n 0, 1) := by decide +kernel
theorem d9_24 : decode method_3_code 24 = .ok (.lastore, 1) := by decide +kernel
theorem d9_25 : decode method_3_code 25 = .ok (.aload_n 2, 1) := by decide +kernel
theorem d9_26 : decode method_3_code 26 = .ok (.iconst 5, 1) := by decide +kernel
theorem d9_27 : decode method_3_code 27 = .ok (.lload_n 0, 1) := by decide +kernel
theorem d9_28 : decode method_3_code 28 = .ok (.lastore, 1) := by decide +kernel
theorem d9_29 : decode method_3_code 29 = .ok (.aload_n 2, 1) := by decide +kernel
theorem d9_30 : decode method_3_code 30 = .ok (.areturn, 1) := by decide +kernel
theorem ef_rm_fil (m : MethodId) (q1 : Int64) : entryFrame m #[(.long q1)] 3 = mkF m 0 #[vJ q1, .second, .unset] [] := by first | (simp [entryFrame, mkF, argsToLocals, Value.category]; done) | rfl
def Q_rm_fil (Z : State) (q1 : Int64) (h0 : Heap) (n0 : Nat) (v : Option Value) (h : Heap) (L : List Loc) : Prop := ∃ a : Addr, v = some (.ref a) ∧ Fr n0 L ∧ h0.size ≤ a ∧ Keep h0 h [] ∧ AV Z h a .long 6 (fun j => .long ((fun _ => q1) j))
set_option maxRecDepth 65536 in
set_option maxHeartbeats 40000000 in
theorem rm_fil (l : Launch) (Z : State) (a0 : Array Value) (hw : ∀ d ∈ tables_1, d.before a0 Z = true) (ws : List Jvm.Cond) (q1 : Int64) (h0 : Heap) (n0 : Nat) (Z0 : n0 ≤ h0.size) :
    MetFree l (⟨"com/example/inexact_odds/inexactodds/language/EncodingEncodePinLaw", "filled", "(J)[J"⟩ : MethodName) (head1 (Jvm.Cond.code (⟨"com/example/inexact_odds/inexactodds/language/EncodingEncodePinLaw", "filled", "(J)[J"⟩ : MethodName) method_3_code 3 (some (.array .long)) :: ws) ({ frames := 0, cells := 1, slots := 6, locals := 0 } : Room)) (fun a U => a = #[(.long q1)] ∧ Z.Warmed39 U.vm ∧ U.heap = h0) (fun _ _ _ _ _ => True) (fun _ U oC U' => ∃ v L, oC = .returned v ∧ Q_rm_fil Z q1 h0 n0 v U'.heap L ∧ FrameEnd U oC U' L ({ frames := 0, cells := 1, slots := 6, locals := 0 } : Room).cells ({ frames := 0, cells := 1, slots := 6, locals := 0 } : Room).slots) := by
  refine MetFree.of_bodySF (plainFor_of_name pn_3) hisR ?_
  intro p e s m args below meth c s₁ Bd hml0 hP hK
  obtain ⟨rfl, hZ, hh⟩ := hP
  have hx := Bd.exec
  have hby := Bd.bytes
  have hml : c.maxLocals = 3 := hml0
  have hown : s.vm.findClass "com/example/inexact_odds/inexactodds/language/EncodingEncodePinLaw" = some m.cls := findClass_of_methodNamed Bd.named
  have hnm := (name_of_methodNamed Bd.named Bd.method).1
  have X0 : Stand p l e ({ frames := 0, cells := 1, slots := 6, locals := 0 } : Room) s m #[(.long q1)] below meth c s₁ [] 0 0 := Stand.of_body Bd
  have e0 : s₁.heap = h0 := by rw [← hh, Bd.state]; rfl
  have N0 := Fr.nil n0
  have pre0 : ∀ tg, Steps p.tables e below (s₁.setTop (mkF m 0 #[vJ q1, .second, .unset] [])) tg → Steps p.tables e below (s₁.setTop (entryFrame m #[(.long q1)] 3)) tg := fun t k => castTop (ef_rm_fil m q1) k
  have pre00 : ∀ tg, Steps p.tables e below (s₁.setTop (mkF m 0 #[vJ q1, .second, .unset] [])) tg → Steps p.tables e below (s₁.setTop (mkF m 0 #[vJ q1, .second, .unset] [])) tg := fun _ k => k
  have R438 : ∀ tg, Steps p.tables e below (s₁.setTop (mkF m 2 #[vJ q1, .second, .unset] [(.int (6 : Int32))])) tg → Steps p.tables e below (s₁.setTop (mkF m 0 #[vJ q1, .second, .unset] [])) tg := by
    intro tg kt
    refine pre00 _ ?_
    show Steps p.tables e below (s₁.setTop (mkF m 0 #[vJ q1, .second, .unset] [])) _
    refine XS.bipush X0.here hx rfl (hb hby d9_0) ?_
    exact kt
  obtain ⟨T439, h439, k439, X439, e439, E439, A439, st439⟩ := newP X0 hx hZ (hw _ (List.mem_of_getElem? (i := 32) rfl)) e0 (g := (mkF m 2 #[vJ q1, .second, .unset] [(.int (6 : Int32))])) rfl (hb hby d9_2) rfl (by decide) (cap := 6) (by decide) (by decide) (by decide) (by decide)
  obtain ⟨ar, g439⟩ : ∃ z, z = h0.size := ⟨_, rfl⟩
  rw [← g439] at A439 st439
  have g_ar : n0 ≤ ar := Nat.le_trans Z0 (Nat.le_of_eq g439.symm)
  have sz_ar : h0.size ≤ ar := Nat.le_trans (Keep.refl h0 []).1 (Nat.le_of_eq g439.symm)
  have Zs439 : n0 ≤ h439.size := Nat.le_trans Z0 E439.1
  have Ke439 : Keep h0 h439 [] := Keep.ext (Keep.refl h0 []) E439
  have VAr : AV Z h439 ar .long 6 (fun _ => defaultValue .long) := AV.new A439 rfl rfl
  have VA : AV Z h439 ar .long 6 (fun j => .long ((fun _ => (0 : Int64)) j)) := VAr
  have R440 : ∀ tg, Steps p.tables e below (T439.setTop (mkF m 8 #[vJ q1, .second, vR ar] [(.long q1), (.int (0 : Int32)), (.ref ar)])) tg → Steps p.tables e below (s₁.setTop (mkF m 0 #[vJ q1, .second, .unset] [])) tg := by
    intro tg kt
    refine R438 _ ?_
    refine st439 _ ?_
    show Steps p.tables e below (T439.setTop (mkF m 4 #[vJ q1, .second, .unset] [(.ref ar)])) _
    refine XS.astoreN X439.here hx rfl (hb hby d9_4) rfl rfl (l' := #[vJ q1, .second, vR ar]) rfl ?_
    refine XS.aloadN X439.here hx rfl (hb hby d9_5) rfl rfl ?_
    refine XS.iconst X439.here hx rfl (hb hby d9_6) ?_
    show Steps p.tables e below (T439.setTop (mkF m 7 #[vJ q1, .second, vR ar] [(.int (0 : Int32)), (.ref ar)])) _
    refine XS.lloadN X439.here hx rfl (hb hby d9_7) rfl ?_
    exact kt
  clear R438 st439
  obtain ⟨cl441, Ar441, hin441, -⟩ := VA.at (j := (0 : Int32)) (k := 0) (by decide) rfl (by decide)
  obtain ⟨T442, h442, X442, e442, W442, st442⟩ := stJ X439 hx hZ e439 Ar441 (j := (0 : Int32)) hin441 (g := (mkF m 8 #[vJ q1, .second, vR ar] [(.long q1), (.int (0 : Int32)), (.ref ar)])) rfl rfl (hb hby d9_8)
  have N442 := Fr.snoc X442 N0 g_ar
  rw [show ((0 : Int32) : Int32).toNatClampNeg = 0 from rfl] at W442
  have VA_442 : AV Z h442 ar .long 6 (fun j => .long ((own_set (fun _ => (0 : Int64)) 0 q1) j)) := VA.setJ W442
  have Zs442 : n0 ≤ h442.size := Nat.le_trans Zs439 (Keep.of_wr W442).1
  have Kw442 : Keep h0 h442 [] := Keep.wr Ke439 W442 (Or.inr sz_ar)
  have R443 : ∀ tg, Steps p.tables e below (T442.setTop (mkF m 12 #[vJ q1, .second, vR ar] [(.long q1), (.int (1 : Int32)), (.ref ar)])) tg → Steps p.tables e below (s₁.setTop (mkF m 0 #[vJ q1, .second, .unset] [])) tg := by
    intro tg kt
    refine R440 _ ?_
    refine st442 _ ?_
    refine XS.aloadN X442.here hx rfl (hb hby d9_9) rfl rfl ?_
    refine XS.iconst X442.here hx rfl (hb hby d9_10) ?_
    show Steps p.tables e below (T442.setTop (mkF m 11 #[vJ q1, .second, vR ar] [(.int (1 : Int32)), (.ref ar)])) _
    refine XS.lloadN X442.here hx rfl (hb hby d9_11) rfl ?_
    exact kt
  clear R440 st442
  obtain ⟨cl444, Ar444, hin444, -⟩ := VA_442.at (j := (1 : Int32)) (k := 1) (by decide) rfl (by decide)
  obtain ⟨T445, h445, X445, e445, W445, st445⟩ := stJ X442 hx hZ e442 Ar444 (j := (1 : Int32)) hin444 (g := (mkF m 12 #[vJ q1, .second, vR ar] [(.long q1), (.int (1 : Int32)), (.ref ar)])) rfl rfl (hb hby d9_12)
  have N445 := Fr.snoc X445 N442 g_ar
  rw [show ((1 : Int32) : Int32).toNatClampNeg = 1 from rfl] at W445
  have VA_445 : AV Z h445 ar .long 6 (fun j => .long ((own_set (own_set (fun _ => (0 : Int64)) 0 q1) 1 q1) j)) := VA_442.setJ W445
  have Zs445 : n0 ≤ h445.size := Nat.le_trans Zs442 (Keep.of_wr W445).1
  have Kw445 : Keep h0 h445 [] := Keep.wr Kw442 W445 (Or.inr sz_ar)
  have R446 : ∀ tg, Steps p.tables e below (T445.setTop (mkF m 16 #[vJ q1, .second, vR ar] [(.long q1), (.int (2 : Int32)), (.ref ar)])) tg → Steps p.tables e below (s₁.setTop (mkF m 0 #[vJ q1, .second, .unset] [])) tg := by
    intro tg kt
    refine R443 _ ?_
    refine st445 _ ?_
    refine XS.aloadN X445.here hx rfl (hb hby d9_13) rfl rfl ?_
    refine XS.iconst X445.here hx rfl (hb hby d9_14) ?_
    show Steps p.tables e below (T445.setTop (mkF m 15 #[vJ q1, .second, vR ar] [(.int (2 : Int32)), (.ref ar)])) _
    refine XS.lloadN X445.here hx rfl (hb hby d9_15) rfl ?_
    exact kt
  clear R443 st445
  obtain ⟨cl447, Ar447, hin447, -⟩ := VA_445.at (j := (2 : Int32)) (k := 2) (by decide) rfl (by decide)
  obtain ⟨T448, h448, X448, e448, W448, st448⟩ := stJ X445 hx hZ e445 Ar447 (j := (2 : Int32)) hin447 (g := (mkF m 16 #[vJ q1, .second, vR ar] [(.long q1), (.int (2 : Int32)), (.ref ar)])) rfl rfl (hb hby d9_16)
  have N448 := Fr.snoc X448 N445 g_ar
  rw [show ((2 : Int32) : Int32).toNatClampNeg = 2 from rfl] at W448
  have VA_448 : AV Z h448 ar .long 6 (fun j => .long ((own_set (own_set (own_set (fun _ => (0 : Int64)) 0 q1) 1 q1) 2 q1) j)) := VA_445.setJ W448
  have Zs448 : n0 ≤ h448.size := Nat.le_trans Zs445 (Keep.of_wr W448).1
  have Kw448 : Keep h0 h448 [] := Keep.wr Kw445 W448 (Or.inr sz_ar)
  have R449 : ∀ tg, Steps p.tables e below (T448.setTop (mkF m 20 #[vJ q1, .second, vR ar] [(.long q1), (.int (3 : Int32)), (.ref ar)])) tg → Steps p.tables e below (s₁.setTop (mkF m 0 #[vJ q1, .second, .unset] [])) tg := by
    intro tg kt
    refine R446 _ ?_
    refine st448 _ ?_
    refine XS.aloadN X448.here hx rfl (hb hby d9_17) rfl rfl ?_
    refine XS.iconst X448.here hx rfl (hb hby d9_18) ?_
    show Steps p.tables e below (T448.setTop (mkF m 19 #[vJ q1, .second, vR ar] [(.int (3 : Int32)), (.ref ar)])) _
    refine XS.lloadN X448.here hx rfl (hb hby d9_19) rfl ?_
    exact kt
  clear R446 st448
  obtain ⟨cl450, Ar450, hin450, -⟩ := VA_448.at (j := (3 : Int32)) (k := 3) (by decide) rfl (by decide)
  obtain ⟨T451, h451, X451, e451, W451, st451⟩ := stJ X448 hx hZ e448 Ar450 (j := (3 : Int32)) hin450 (g := (mkF m 20 #[vJ q1, .second, vR ar] [(.long q1), (.int (3 : Int32)), (.ref ar)])) rfl rfl (hb hby d9_20)
  have N451 := Fr.snoc X451 N448 g_ar
  rw [show ((3 : Int32) : Int32).toNatClampNeg = 3 from rfl] at W451
  have VA_451 : AV Z h451 ar .long 6 (fun j => .long ((own_set (own_set (own_set (own_set (fun _ => (0 : Int64)) 0 q1) 1 q1) 2 q1) 3 q1) j)) := VA_448.setJ W451
  have Zs451 : n0 ≤ h451.size := Nat.le_trans Zs448 (Keep.of_wr W451).1
  have Kw451 : Keep h0 h451 [] := Keep.wr Kw448 W451 (Or.inr sz_ar)
  have R452 : ∀ tg, Steps p.tables e below (T451.setTop (mkF m 24 #[vJ q1, .second, vR ar] [(.long q1), (.int (4 : Int32)), (.ref ar)])) tg → Steps p.tables e below (s₁.setTop (mkF m 0 #[vJ q1, .second, .unset] [])) tg := by
    intro tg kt
    refine R449 _ ?_
    refine st451 _ ?_
    refine XS.aloadN X451.here hx rfl (hb hby d9_21) rfl rfl ?_
    refine XS.iconst X451.here hx rfl (hb hby d9_22) ?_
    show Steps p.tables e below (T451.setTop (mkF m 23 #[vJ q1, .second, vR ar] [(.int (4 : Int32)), (.ref ar)])) _
    refine XS.lloadN X451.here hx rfl (hb hby d9_23) rfl ?_
    exact kt
  clear R449 st451
  obtain ⟨cl453, Ar453, hin453, -⟩ := VA_451.at (j := (4 : Int32)) (k := 4) (by decide) rfl (by decide)
  obtain ⟨T454, h454, X454, e454, W454, st454⟩ := stJ X451 hx hZ e451 Ar453 (j := (4 : Int32)) hin453 (g := (mkF m 24 #[vJ q1, .second, vR ar] [(.long q1), (.int (4 : Int32)), (.ref ar)])) rfl rfl (hb hby d9_24)
  have N454 := Fr.snoc X454 N451 g_ar
  rw [show ((4 : Int32) : Int32).toNatClampNeg = 4 from rfl] at W454
  have VA_454 : AV Z h454 ar .long 6 (fun j => .long ((own_set (own_set (own_set (own_set (own_set (fun _ => (0 : Int64)) 0 q1) 1 q1) 2 q1) 3 q1) 4 q1) j)) := VA_451.setJ W454
  have Zs454 : n0 ≤ h454.size := Nat.le_trans Zs451 (Keep.of_wr W454).1
  have Kw454 : Keep h0 h454 [] := Keep.wr Kw451 W454 (Or.inr sz_ar)
  have R455 : ∀ tg, Steps p.tables e below (T454.setTop (mkF m 28 #[vJ q1, .second, vR ar] [(.long q1), (.int (5 : Int32)), (.ref ar)])) tg → Steps p.tables e below (s₁.setTop (mkF m 0 #[vJ q1, .second, .unset] [])) tg := by
    intro tg kt
    refine R452 _ ?_
    refine st454 _ ?_
    refine XS.aloadN X454.here hx rfl (hb hby d9_25) rfl rfl ?_
    refine XS.iconst X454.here hx rfl (hb hby d9_26) ?_
    show Steps p.tables e below (T454.setTop (mkF m 27 #[vJ q1, .second, vR ar] [(.int (5 : Int32)), (.ref ar)])) _
    refine XS.lloadN X454.here hx rfl (hb hby d9_27) rfl ?_
    exact kt
  clear R452 st454
  obtain ⟨cl456, Ar456, hin456, -⟩ := VA_454.at (j := (5 : Int32)) (k := 5) (by decide) rfl (by decide)
  obtain ⟨T457, h457, X457, e457, W457, st457⟩ := stJ X454 hx hZ e454 Ar456 (j := (5 : Int32)) hin456 (g := (mkF m 28 #[vJ q1, .second, vR ar] [(.long q1), (.int (5 : Int32)), (.ref ar)])) rfl rfl (hb hby d9_28)
  have N457 := Fr.snoc X457 N454 g_ar
  rw [show ((5 : Int32) : Int32).toNatClampNeg = 5 from rfl] at W457
  have VA_457 : AV Z h457 ar .long 6 (fun j => .long ((own_set (own_set (own_set (own_set (own_set (own_set (fun _ => (0 : Int64)) 0 q1) 1 q1) 2 q1) 3 q1) 4 q1) 5 q1) j)) := VA_454.setJ W457
  have Zs457 : n0 ≤ h457.size := Nat.le_trans Zs454 (Keep.of_wr W457).1
  have Kw457 : Keep h0 h457 [] := Keep.wr Kw454 W457 (Or.inr sz_ar)
  have R458 : ∀ tg, Steps p.tables e below (T457.setTop (mkF m 30 #[vJ q1, .second, vR ar] [(.ref ar)])) tg → Steps p.tables e below (s₁.setTop (mkF m 0 #[vJ q1, .second, .unset] [])) tg := by
    intro tg kt
    refine R455 _ ?_
    refine st457 _ ?_
    refine XS.aloadN X457.here hx rfl (hb hby d9_29) rfl rfl ?_
    exact kt
  clear R455 st457
  have VAz : AV Z h457 ar .long 6 (fun j => .long ((fun _ => q1) j)) := AV.congr VA_457 (fun j hj => congrArg _ (own_six q1 j hj))
  obtain ⟨fs, hr, hrun, hended, hW, hsame⟩ := X457.leave (v := some (.ref ar)) (fun h => by rw [Bd.returns] at h; cases h)
  refine ⟨_, _, pre0 _ (R458 _ ?_), hrun, hended, _, _, rfl, ?_, ⟨_, rfl⟩, hW, hsame.mono (by decide) (by decide)⟩
  · show Steps p.tables e below (T457.setTop (mkF m 30 #[vJ q1, .second, vR ar] [(.ref ar)])) _
    jvm_step X457.here [X457.here.top, hx, (hb hby d9_30), X457.method', Bd.returns, Value.isRef, FieldType.isReference]
    first | (intro acts; rw [hr _ acts rfl rfl rfl]) | rw [hr _ _ rfl rfl rfl]
    exact Steps.refl _
  · show Q_rm_fil Z q1 h0 n0 _ T457.heap _
    rw [e457]
    exact ⟨ar, rfl, N457, sz_ar, Kw457, VAz⟩
theorem d12_0 : decode method_4_code 0 = .ok (.aload_n 0, 1) := by decide +kernel
theorem d12_1 : decode method_4_code 1 = .ok (.iconst 0, 1) := by decide +kernel
theorem d12_2 : decode method_4_code 2 = .ok (.laload, 1) := by decide +kernel
theorem d12_3 : decode method_4_code 3 = .ok (.lload_n 3, 1) := by decide +kernel
theorem d12_4 : decode method_4_code 4 = .ok (.lcmp, 1) := by decide +kernel
theorem d12_5 : decode method_4_code 5 = .ok (.ifCond .eq 15, 3) := by decide +kernel
theorem d12_8 : decode method_4_code 8 = .ok (.iconst 0, 1) := by decide +kernel
theorem d12_9 : decode method_4_code 9 = .ok (.iload_n 1, 1) := by decide +kernel
theorem d12_10 : decode method_4_code 10 = .ok (.if_icmp .lt 114, 3) := by decide +kernel
theorem d12_13 : decode method_4_code 13 = .ok (.iconst 0, 1) := by decide +kernel
theorem d12_14 : decode method_4_code 14 = .ok (.iload_n 1, 1) := by decide +kernel
theorem d12_15 : decode method_4_code 15 = .ok (.iload_n 2, 1) := by decide +kernel
theorem d12_16 : decode method_4_code 16 = .ok (.iadd, 1) := by decide +kernel
theorem d12_17 : decode method_4_code 17 = .ok (.if_icmp .ge 107, 3) := by decide +kernel
theorem d12_20 : decode method_4_code 20 = .ok (.aload_n 0, 1) := by decide +kernel
theorem d12_21 : decode method_4_code 21 = .ok (.iconst 1, 1) := by decide +kernel
theorem d12_22 : decode method_4_code 22 = .ok (.laload, 1) := by decide +kernel
theorem d12_23 : decode method_4_code 23 = .ok (.lload_n 3, 1) := by decide +kernel
theorem d12_24 : decode method_4_code 24 = .ok (.lcmp, 1) := by decide +kernel
theorem d12_25 : decode method_4_code 25 = .ok (.ifCond .eq 15, 3) := by decide +kernel
theorem d12_28 : decode method_4_code 28 = .ok (.iconst 1, 1) := by decide +kernel
theorem d12_29 : decode method_4_code 29 = .ok (.iload_n 1, 1) := by decide +kernel
theorem d12_30 : decode method_4_code 30 = .ok (.if_icmp .lt 94, 3) := by decide +kernel
theorem d12_33 : decode method_4_code 33 = .ok (.iconst 1, 1) := by decide +kernel
theorem d12_34 : decode method_4_code 34 = .ok (.iload_n 1, 1) := by decide +kernel
theorem d12_35 : decode method_4_code 35 = .ok (.iload_n 2, 1) := by decide +kernel
theorem d12_36 : decode method_4_code 36 = .ok (.iadd, 1) := by decide +kernel
theorem d12_37 : decode method_4_code 37 = .ok (.if_icmp .ge 87, 3) := by decide +kernel
theorem d12_40 : decode method_4_code 40 = .ok (.aload_n 0, 1) := by decide +kernel
theorem d12_41 : decode method_4_code 41 = .ok (.iconst 2, 1) := by decide +kernel
theorem d12_42 : decode method_4_code 42 = .ok (.laload, 1) := by decide +kernel
theorem d12_43 : decode method_4_code 43 = .ok (.lload_n 3, 1) := by decide +kernel
theorem d12_44 : decode method_4_code 44 = .ok (.lcmp, 1) := by decide +kernel
theorem d12_45 : decode method_4_code 45 = .ok (.ifCond .eq 15, 3) := by decide +kernel
theorem d12_48 : decode method_4_code 48 = .ok (.iconst 2, 1) := by decide +kernel
theorem d12_49 : decode method_4_code 49 = .ok (.iload_n 1, 1) := by decide +kernel
theorem d12_50 : decode method_4_code 50 = .ok (.if_icmp .lt 74, 3) := by decide +kernel
theorem d12_53 : decode method_4_code 53 = .ok (.iconst 2, 1) := by decide +kernel
theorem d12_54 : decode method_4_code 54 = .ok (.iload_n 1, 1) := by decide +kernel
theorem d12_55 : decode method_4_code 55 = .ok (.iload_n 2, 1) := by decide +kernel
theorem d12_56 : decode method_4_code 56 = .ok (.iadd, 1) := by decide +kernel
theorem d12_57 : decode method_4_code 57 = .ok (.if_icmp .ge 67, 3) := by decide +kernel
theorem d12_60 : decode method_4_code 60 = .ok (.aload_n 0, 1) := by decide +kernel
theorem d12_61 : decode method_4_code 61 = .ok (.iconst 3, 1) := by decide +kernel
theorem d12_62 : decode method_4_code 62 = .ok (.laload, 1) := by decide +kernel
theorem d12_63 : decode method_4_code 63 = .ok (.lload_n 3, 1) := by decide +kernel
theorem d12_64 : decode method_4_code 64 = .ok (.lcmp, 1) := by decide +kernel
theorem d12_65 : decode method_4_code 65 = .ok (.ifCond .eq 15, 3) := by decide +kernel
theorem d12_68 : decode method_4_code 68 = .ok (.iconst 3, 1) := by decide +kernel
theorem d12_69 : decode method_4_code 69 = .ok (.iload_n 1, 1) := by decide +kernel
theorem d12_70 : decode method_4_code 70 = .ok (.if_icmp .lt 54, 3) := by decide +kernel
theorem d12_73 : decode method_4_code 73 = .ok (.iconst 3, 1) := by decide +kernel
theorem d12_74 : decode method_4_code 74 = .ok (.iload_n 1, 1) := by decide +kernel
theorem d12_75 : decode method_4_code 75 = .ok (.iload_n 2, 1) := by decide +kernel
theorem d12_76 : decode method_4_code 76 = .ok (.iadd, 1) := by decide +kernel
theorem d12_77 : decode method_4_code 77 = .ok (.if_icmp .ge 47, 3) := by decide +kernel
theorem d12_80 : decode method_4_code 80 = .ok (.aload_n 0, 1) := by decide +kernel
theorem d12_81 : decode method_4_code 81 = .ok (.iconst 4, 1) := by decide +kernel
theorem d12_82 : decode method_4_code 82 = .ok (.laload, 1) := by decide +kernel
theorem d12_83 : decode method_4_code 83 = .ok (.lload_n 3, 1) := by decide +kernel
theorem d12_84 : decode method_4_code 84 = .ok (.lcmp, 1) := by decide +kernel
theorem d12_85 : decode method_4_code 85 = .ok (.ifCond .eq 15, 3) := by decide +kernel
theorem d12_88 : decode method_4_code 88 = .ok (.iconst 4, 1) := by decide +kernel
theorem d12_89 : decode method_4_code 89 = .ok (.iload_n 1, 1) := by decide +kernel
theorem d12_90 : decode method_4_code 90 = .ok (.if_icmp .lt 34, 3) := by decide +kernel
theorem d12_93 : decode method_4_code 93 = .ok (.iconst 4, 1) := by decide +kernel
theorem d12_94 : decode method_4_code 94 = .ok (.iload_n 1, 1) := by decide +kernel
theorem d12_95 : decode method_4_code 95 = .ok (.iload_n 2, 1) := by decide +kernel
theorem d12_96 : decode method_4_code 96 = .ok (.iadd, 1) := by decide +kernel
theorem d12_97 : decode method_4_code 97 = .ok (.if_icmp .ge 27, 3) := by decide +kernel
theorem d12_100 : decode method_4_code 100 = .ok (.aload_n 0, 1) := by decide +kernel
theorem d12_101 : decode method_4_code 101 = .ok (.iconst 5, 1) := by decide +kernel
theorem d12_102 : decode method_4_code 102 = .ok (.laload, 1) := by decide +kernel
theorem d12_103 : decode method_4_code 103 = .ok (.lload_n 3, 1) := by decide +kernel
theorem d12_104 : decode method_4_code 104 = .ok (.lcmp, 1) := by decide +kernel
theorem d12_105 : decode method_4_code 105 = .ok (.ifCond .eq 15, 3) := by decide +kernel
theorem d12_108 : decode method_4_code 108 = .ok (.iconst 5, 1) := by decide +kernel
theorem d12_109 : decode method_4_code 109 = .ok (.iload_n 1, 1) := by decide +kernel
theorem d12_110 : decode method_4_code 110 = .ok (.if_icmp .lt 14, 3) := by decide +kernel
theorem d12_113 : decode method_4_code 113 = .ok (.iconst 5, 1) := by decide +kernel
theorem d12_114 : decode method_4_code 114 = .ok (.iload_n 1, 1) := by decide +kernel
theorem d12_115 : decode method_4_code 115 = .ok (.iload_n 2, 1) := by decide +kernel
theorem d12_116 : decode method_4_code 116 = .ok (.iadd, 1) := by decide +kernel
theorem d12_117 : decode method_4_code 117 = .ok (.if_icmp .ge 7, 3) := by decide +kernel
theorem d12_120 : decode method_4_code 120 = .ok (.iconst 1, 1) := by decide +kernel
theorem d12_121 : decode method_4_code 121 = .ok (.goto 4, 3) := by decide +kernel
theorem d12_125 : decode method_4_code 125 = .ok (.ireturn, 1) := by decide +kernel
theorem ef_rm_out (m : MethodId) (a1 : Addr) (p2 : Int32) (p3 : Int32) (q4 : Int64) : entryFrame m #[(.ref a1), (.int p2), (.int p3), (.long q4)] 5 = mkF m 0 #[vR a1, vI p2, vI p3, vJ q4, .second] [] := by first | (simp [entryFrame, mkF, argsToLocals, Value.category]; done) | rfl
def Q_rm_out (Z : State) (a1 : Addr) (p2 : Int32) (p3 : Int32) (q4 : Int64) (fa : Nat → Int64) (h0 : Heap) (n0 : Nat) (v : Option Value) (h : Heap) (L : List Loc) : Prop := v = some (.int (1 : Int32)) ∧ Fr n0 L ∧ h = h0
set_option maxRecDepth 65536 in
set_option maxHeartbeats 40000000 in
theorem rm_out (l : Launch) (Z : State) (a0 : Array Value) (hw : ∀ d ∈ tables_1, d.before a0 Z = true) (ws : List Jvm.Cond) (a1 : Addr) (p2 : Int32) (p3 : Int32) (q4 : Int64) (fa : Nat → Int64) (h0 : Heap) (n0 : Nat) (Z0 : n0 ≤ h0.size) (VA : AV Z h0 a1 .long 6 (fun j => .long (fa j))) (HH : ∀ i, i < 6 → fa i = q4 ∨ (¬ (Int32.ofNat i) < p2 ∧ (Int32.ofNat i) < (p2 + p3))) :
    MetFree l (⟨"com/example/inexact_odds/inexactodds/language/EncodingEncodePinLaw", "outsideKept", "([JIIJ)Z"⟩ : MethodName) (head1 (Jvm.Cond.code (⟨"com/example/inexact_odds/inexactodds/language/EncodingEncodePinLaw", "outsideKept", "([JIIJ)Z"⟩ : MethodName) method_4_code 5 (some .boolean) :: ws) ({ frames := 0, cells := 0, slots := 0, locals := 0 } : Room)) (fun a U => a = #[(.ref a1), (.int p2), (.int p3), (.long q4)] ∧ Z.Warmed39 U.vm ∧ U.heap = h0) (fun _ _ _ _ _ => True) (fun _ U oC U' => ∃ v L, oC = .returned v ∧ Q_rm_out Z a1 p2 p3 q4 fa h0 n0 v U'.heap L ∧ FrameEnd U oC U' L ({ frames := 0, cells := 0, slots := 0, locals := 0 } : Room).cells ({ frames := 0, cells := 0, slots := 0, locals := 0 } : Room).slots) := by
  refine MetFree.of_bodySF (plainFor_of_name pn_3) hisR ?_
  intro p e s m args below meth c s₁ Bd hml0 hP hK
  obtain ⟨rfl, hZ, hh⟩ := hP
  have hx := Bd.exec
  have hby := Bd.bytes
  have hml : c.maxLocals = 5 := hml0
  have hown : s.vm.findClass "com/example/inexact_odds/inexactodds/language/EncodingEncodePinLaw" = some m.cls := findClass_of_methodNamed Bd.named
  have hnm := (name_of_methodNamed Bd.named Bd.method).1
  have X0 : Stand p l e ({ frames := 0, cells := 0, slots := 0, locals := 0 } : Room) s m #[(.ref a1), (.int p2), (.int p3), (.long q4)] below meth c s₁ [] 0 0 := Stand.of_body Bd
  have e0 : s₁.heap = h0 := by rw [← hh, Bd.state]; rfl
  have N0 := Fr.nil n0
  have pre0 : ∀ tg, Steps p.tables e below (s₁.setTop (mkF m 0 #[vR a1, vI p2, vI p3, vJ q4, .second] [])) tg → Steps p.tables e below (s₁.setTop (entryFrame m #[(.ref a1), (.int p2), (.int p3), (.long q4)] 5)) tg := fun t k => castTop (ef_rm_out m a1 p2 p3 q4) k
  have pre00 : ∀ tg, Steps p.tables e below (s₁.setTop (mkF m 0 #[vR a1, vI p2, vI p3, vJ q4, .second] [])) tg → Steps p.tables e below (s₁.setTop (mkF m 0 #[vR a1, vI p2, vI p3, vJ q4, .second] [])) tg := fun _ k => k
  have R459 : ∀ tg, Steps p.tables e below (s₁.setTop (mkF m 2 #[vR a1, vI p2, vI p3, vJ q4, .second] [(.int (0 : Int32)), (.ref a1)])) tg → Steps p.tables e below (s₁.setTop (mkF m 0 #[vR a1, vI p2, vI p3, vJ q4, .second] [])) tg := by
    intro tg kt
    refine pre00 _ ?_
    show Steps p.tables e below (s₁.setTop (mkF m 0 #[vR a1, vI p2, vI p3, vJ q4, .second] [])) _
    refine XS.aloadN X0.here hx rfl (hb hby d12_0) rfl rfl ?_
    refine XS.iconst X0.here hx rfl (hb hby d12_1) ?_
    exact kt
  obtain ⟨cl460, Ar460, hin460, hat460⟩ := VA.at (j := (0 : Int32)) (k := 0) (by decide) rfl (by decide)
  have R461 : ∀ tg, Steps p.tables e below (s₁.setTop (mkF m 5 #[vR a1, vI p2, vI p3, vJ q4, .second] [(.int (lcmpW (fa 0) q4))])) tg → Steps p.tables e below (s₁.setTop (mkF m 0 #[vR a1, vI p2, vI p3, vJ q4, .second] [])) tg := by
    intro tg kt
    refine R459 _ ?_
    show Steps p.tables e below (s₁.setTop (mkF m 2 #[vR a1, vI p2, vI p3, vJ q4, .second] [(.int (0 : Int32)), (.ref a1)])) _
    refine X0.laload hx (j := (0 : Int32)) (v := (.long (fa 0))) (by rw [e0]; exact Ar460.1) (State.isArrayOf_alike hZ.alike Ar460.2.1) Ar460.2.2 hin460 hat460 (g := (mkF m 2 #[vR a1, vI p2, vI p3, vJ q4, .second] [(.int (0 : Int32)), (.ref a1)])) rfl rfl (hb hby d12_2) _ ?_
    refine XS.lloadN X0.here hx rfl (hb hby d12_3) rfl ?_
    show Steps p.tables e below (s₁.setTop (mkF m 4 #[vR a1, vI p2, vI p3, vJ q4, .second] [(.long q4), (.long (fa 0))])) _
    refine XS.lcmp X0.here hx rfl (hb hby d12_4) rfl ?_
    exact kt
  clear R459
  have R462 : ∀ tg, Steps p.tables e below (s₁.setTop (mkF m 20 #[vR a1, vI p2, vI p3, vJ q4, .second] [])) tg → Steps p.tables e below (s₁.setTop (mkF m 0 #[vR a1, vI p2, vI p3, vJ q4, .second] [])) tg := by
    intro tg kt
    refine R461 _ ?_
    by_cases hc0 : (lcmpW (fa 0) q4) = (0 : Int32)
    · show Steps p.tables e below (s₁.setTop (mkF m 5 #[vR a1, vI p2, vI p3, vJ q4, .second] [(.int (lcmpW (fa 0) q4))])) _
      refine XS.ifYes X0.here hx rfl (pc0 := 5) (pc' := 20) rfl (hb hby d12_5) rfl ((if0 _ _).trans (teq (hc0 : (lcmpW (fa 0) q4) = (0 : Int32))).1) (by decide) (by decide) ?_
      exact kt
    · show Steps p.tables e below (s₁.setTop (mkF m 5 #[vR a1, vI p2, vI p3, vJ q4, .second] [(.int (lcmpW (fa 0) q4))])) _
      refine XS.ifNo X0.here hx rfl (hb hby d12_5) rfl ((if0 _ _).trans (feq (hc0 : ¬ ((lcmpW (fa 0) q4) = (0 : Int32)))).1) ?_
      refine XS.iconst X0.here hx rfl (hb hby d12_8) ?_
      refine XS.iloadN X0.here hx rfl (hb hby d12_9) rfl ?_
      show Steps p.tables e below (s₁.setTop (mkF m 10 #[vR a1, vI p2, vI p3, vJ q4, .second] [(.int p2), (.int (0 : Int32))])) _
      refine XS.icmpNo X0.here hx rfl (hb hby d12_10) rfl (flt (((HH 0 (by decide)).resolve_left fun ee => hc0 ((lw_eq _ _).mpr ee)).1 : ¬ ((0 : Int32) < p2))).1 ?_
      refine XS.iconst X0.here hx rfl (hb hby d12_13) ?_
      refine XS.iloadN X0.here hx rfl (hb hby d12_14) rfl ?_
      show Steps p.tables e below (s₁.setTop (mkF m 15 #[vR a1, vI p2, vI p3, vJ q4, .second] [(.int p2), (.int (0 : Int32))])) _
      refine XS.iloadN X0.here hx rfl (hb hby d12_15) rfl ?_
      show Steps p.tables e below (s₁.setTop (mkF m 16 #[vR a1, vI p2, vI p3, vJ q4, .second] [(.int p3), (.int p2), (.int (0 : Int32))])) _
      refine XS.iadd X0.here hx rfl (hb hby d12_16) rfl ?_
      show Steps p.tables e below (s₁.setTop (mkF m 17 #[vR a1, vI p2, vI p3, vJ q4, .second] [(.int (p2 + p3)), (.int (0 : Int32))])) _
      refine XS.icmpNo X0.here hx rfl (hb hby d12_17) rfl (tlt (((HH 0 (by decide)).resolve_left fun ee => hc0 ((lw_eq _ _).mpr ee)).2 : (0 : Int32) < (p2 + p3))).2.1 ?_
      exact kt
  clear R461
  have R463 : ∀ tg, Steps p.tables e below (s₁.setTop (mkF m 22 #[vR a1, vI p2, vI p3, vJ q4, .second] [(.int (1 : Int32)), (.ref a1)])) tg → Steps p.tables e below (s₁.setTop (mkF m 0 #[vR a1, vI p2, vI p3, vJ q4, .second] [])) tg := by
    intro tg kt
    refine R462 _ ?_
    show Steps p.tables e below (s₁.setTop (mkF m 20 #[vR a1, vI p2, vI p3, vJ q4, .second] [])) _
    refine XS.aloadN X0.here hx rfl (hb hby d12_20) rfl rfl ?_
    refine XS.iconst X0.here hx rfl (hb hby d12_21) ?_
    exact kt
  clear R462
  obtain ⟨cl464, Ar464, hin464, hat464⟩ := VA.at (j := (1 : Int32)) (k := 1) (by decide) rfl (by decide)
  have R465 : ∀ tg, Steps p.tables e below (s₁.setTop (mkF m 25 #[vR a1, vI p2, vI p3, vJ q4, .second] [(.int (lcmpW (fa 1) q4))])) tg → Steps p.tables e below (s₁.setTop (mkF m 0 #[vR a1, vI p2, vI p3, vJ q4, .second] [])) tg := by
    intro tg kt
    refine R463 _ ?_
    show Steps p.tables e below (s₁.setTop (mkF m 22 #[vR a1, vI p2, vI p3, vJ q4, .second] [(.int (1 : Int32)), (.ref a1)])) _
    refine X0.laload hx (j := (1 : Int32)) (v := (.long (fa 1))) (by rw [e0]; exact Ar464.1) (State.isArrayOf_alike hZ.alike Ar464.2.1) Ar464.2.2 hin464 hat464 (g := (mkF m 22 #[vR a1, vI p2, vI p3, vJ q4, .second] [(.int (1 : Int32)), (.ref a1)])) rfl rfl (hb hby d12_22) _ ?_
    refine XS.lloadN X0.here hx rfl (hb hby d12_23) rfl ?_
    show Steps p.tables e below (s₁.setTop (mkF m 24 #[vR a1, vI p2, vI p3, vJ q4, .second] [(.long q4), (.long (fa 1))])) _
    refine XS.lcmp X0.here hx rfl (hb hby d12_24) rfl ?_
    exact kt
  clear R463
  have R466 : ∀ tg, Steps p.tables e below (s₁.setTop (mkF m 40 #[vR a1, vI p2, vI p3, vJ q4, .second] [])) tg → Steps p.tables e below (s₁.setTop (mkF m 0 #[vR a1, vI p2, vI p3, vJ q4, .second] [])) tg := by
    intro tg kt
    refine R465 _ ?_
    by_cases hc1 : (lcmpW (fa 1) q4) = (0 : Int32)
    · show Steps p.tables e below (s₁.setTop (mkF m 25 #[vR a1, vI p2, vI p3, vJ q4, .second] [(.int (lcmpW (fa 1) q4))])) _
      refine XS.ifYes X0.here hx rfl (pc0 := 25) (pc' := 40) rfl (hb hby d12_25) rfl ((if0 _ _).trans (teq (hc1 : (lcmpW (fa 1) q4) = (0 : Int32))).1) (by decide) (by decide) ?_
      exact kt
    · show Steps p.tables e below (s₁.setTop (mkF m 25 #[vR a1, vI p2, vI p3, vJ q4, .second] [(.int (lcmpW (fa 1) q4))])) _
      refine XS.ifNo X0.here hx rfl (hb hby d12_25) rfl ((if0 _ _).trans (feq (hc1 : ¬ ((lcmpW (fa 1) q4) = (0 : Int32)))).1) ?_
      refine XS.iconst X0.here hx rfl (hb hby d12_28) ?_
      refine XS.iloadN X0.here hx rfl (hb hby d12_29) rfl ?_
      show Steps p.tables e below (s₁.setTop (mkF m 30 #[vR a1, vI p2, vI p3, vJ q4, .second] [(.int p2), (.int (1 : Int32))])) _
      refine XS.icmpNo X0.here hx rfl (hb hby d12_30) rfl (flt (((HH 1 (by decide)).resolve_left fun ee => hc1 ((lw_eq _ _).mpr ee)).1 : ¬ ((1 : Int32) < p2))).1 ?_
      refine XS.iconst X0.here hx rfl (hb hby d12_33) ?_
      refine XS.iloadN X0.here hx rfl (hb hby d12_34) rfl ?_
      show Steps p.tables e below (s₁.setTop (mkF m 35 #[vR a1, vI p2, vI p3, vJ q4, .second] [(.int p2), (.int (1 : Int32))])) _
      refine XS.iloadN X0.here hx rfl (hb hby d12_35) rfl ?_
      show Steps p.tables e below (s₁.setTop (mkF m 36 #[vR a1, vI p2, vI p3, vJ q4, .second] [(.int p3), (.int p2), (.int (1 : Int32))])) _
      refine XS.iadd X0.here hx rfl (hb hby d12_36) rfl ?_
      show Steps p.tables e below (s₁.setTop (mkF m 37 #[vR a1, vI p2, vI p3, vJ q4, .second] [(.int (p2 + p3)), (.int (1 : Int32))])) _
      refine XS.icmpNo X0.here hx rfl (hb hby d12_37) rfl (tlt (((HH 1 (by decide)).resolve_left fun ee => hc1 ((lw_eq _ _).mpr ee)).2 : (1 : Int32) < (p2 + p3))).2.1 ?_
      exact kt
  clear R465
  have R467 : ∀ tg, Steps p.tables e below (s₁.setTop (mkF m 42 #[vR a1, vI p2, vI p3, vJ q4, .second] [(.int (2 : Int32)), (.ref a1)])) tg → Steps p.tables e below (s₁.setTop (mkF m 0 #[vR a1, vI p2, vI p3, vJ q4, .second] [])) tg := by
    intro tg kt
    refine R466 _ ?_
    show Steps p.tables e below (s₁.setTop (mkF m 40 #[vR a1, vI p2, vI p3, vJ q4, .second] [])) _
    refine XS.aloadN X0.here hx rfl (hb hby d12_40) rfl rfl ?_
    refine XS.iconst X0.here hx rfl (hb hby d12_41) ?_
    exact kt
  clear R466
  obtain ⟨cl468, Ar468, hin468, hat468⟩ := VA.at (j := (2 : Int32)) (k := 2) (by decide) rfl (by decide)
  have R469 : ∀ tg, Steps p.tables e below (s₁.setTop (mkF m 45 #[vR a1, vI p2, vI p3, vJ q4, .second] [(.int (lcmpW (fa 2) q4))])) tg → Steps p.tables e below (s₁.setTop (mkF m 0 #[vR a1, vI p2, vI p3, vJ q4, .second] [])) tg := by
    intro tg kt
    refine R467 _ ?_
    show Steps p.tables e below (s₁.setTop (mkF m 42 #[vR a1, vI p2, vI p3, vJ q4, .second] [(.int (2 : Int32)), (.ref a1)])) _
    refine X0.laload hx (j := (2 : Int32)) (v := (.long (fa 2))) (by rw [e0]; exact Ar468.1) (State.isArrayOf_alike hZ.alike Ar468.2.1) Ar468.2.2 hin468 hat468 (g := (mkF m 42 #[vR a1, vI p2, vI p3, vJ q4, .second] [(.int (2 : Int32)), (.ref a1)])) rfl rfl (hb hby d12_42) _ ?_
    refine XS.lloadN X0.here hx rfl (hb hby d12_43) rfl ?_
    show Steps p.tables e below (s₁.setTop (mkF m 44 #[vR a1, vI p2, vI p3, vJ q4, .second] [(.long q4), (.long (fa 2))])) _
    refine XS.lcmp X0.here hx rfl (hb hby d12_44) rfl ?_
    exact kt
  clear R467
  have R470 : ∀ tg, Steps p.tables e below (s₁.setTop (mkF m 60 #[vR a1, vI p2, vI p3, vJ q4, .second] [])) tg → Steps p.tables e below (s₁.setTop (mkF m 0 #[vR a1, vI p2, vI p3, vJ q4, .second] [])) tg := by
    intro tg kt
    refine R469 _ ?_
    by_cases hc2 : (lcmpW (fa 2) q4) = (0 : Int32)
    · show Steps p.tables e below (s₁.setTop (mkF m 45 #[vR a1, vI p2, vI p3, vJ q4, .second] [(.int (lcmpW (fa 2) q4))])) _
      refine XS.ifYes X0.here hx rfl (pc0 := 45) (pc' := 60) rfl (hb hby d12_45) rfl ((if0 _ _).trans (teq (hc2 : (lcmpW (fa 2) q4) = (0 : Int32))).1) (by decide) (by decide) ?_
      exact kt
    · show Steps p.tables e below (s₁.setTop (mkF m 45 #[vR a1, vI p2, vI p3, vJ q4, .second] [(.int (lcmpW (fa 2) q4))])) _
      refine XS.ifNo X0.here hx rfl (hb hby d12_45) rfl ((if0 _ _).trans (feq (hc2 : ¬ ((lcmpW (fa 2) q4) = (0 : Int32)))).1) ?_
      refine XS.iconst X0.here hx rfl (hb hby d12_48) ?_
      refine XS.iloadN X0.here hx rfl (hb hby d12_49) rfl ?_
      show Steps p.tables e below (s₁.setTop (mkF m 50 #[vR a1, vI p2, vI p3, vJ q4, .second] [(.int p2), (.int (2 : Int32))])) _
      refine XS.icmpNo X0.here hx rfl (hb hby d12_50) rfl (flt (((HH 2 (by decide)).resolve_left fun ee => hc2 ((lw_eq _ _).mpr ee)).1 : ¬ ((2 : Int32) < p2))).1 ?_
      refine XS.iconst X0.here hx rfl (hb hby d12_53) ?_
      refine XS.iloadN X0.here hx rfl (hb hby d12_54) rfl ?_
      show Steps p.tables e below (s₁.setTop (mkF m 55 #[vR a1, vI p2, vI p3, vJ q4, .second] [(.int p2), (.int (2 : Int32))])) _
      refine XS.iloadN X0.here hx rfl (hb hby d12_55) rfl ?_
      show Steps p.tables e below (s₁.setTop (mkF m 56 #[vR a1, vI p2, vI p3, vJ q4, .second] [(.int p3), (.int p2), (.int (2 : Int32))])) _
      refine XS.iadd X0.here hx rfl (hb hby d12_56) rfl ?_
      show Steps p.tables e below (s₁.setTop (mkF m 57 #[vR a1, vI p2, vI p3, vJ q4, .second] [(.int (p2 + p3)), (.int (2 : Int32))])) _
      refine XS.icmpNo X0.here hx rfl (hb hby d12_57) rfl (tlt (((HH 2 (by decide)).resolve_left fun ee => hc2 ((lw_eq _ _).mpr ee)).2 : (2 : Int32) < (p2 + p3))).2.1 ?_
      exact kt
  clear R469
  have R471 : ∀ tg, Steps p.tables e below (s₁.setTop (mkF m 62 #[vR a1, vI p2, vI p3, vJ q4, .second] [(.int (3 : Int32)), (.ref a1)])) tg → Steps p.tables e below (s₁.setTop (mkF m 0 #[vR a1, vI p2, vI p3, vJ q4, .second] [])) tg := by
    intro tg kt
    refine R470 _ ?_
    show Steps p.tables e below (s₁.setTop (mkF m 60 #[vR a1, vI p2, vI p3, vJ q4, .second] [])) _
    refine XS.aloadN X0.here hx rfl (hb hby d12_60) rfl rfl ?_
    refine XS.iconst X0.here hx rfl (hb hby d12_61) ?_
    exact kt
  clear R470
  obtain ⟨cl472, Ar472, hin472, hat472⟩ := VA.at (j := (3 : Int32)) (k := 3) (by decide) rfl (by decide)
  have R473 : ∀ tg, Steps p.tables e below (s₁.setTop (mkF m 65 #[vR a1, vI p2, vI p3, vJ q4, .second] [(.int (lcmpW (fa 3) q4))])) tg → Steps p.tables e below (s₁.setTop (mkF m 0 #[vR a1, vI p2, vI p3, vJ q4, .second] [])) tg := by
    intro tg kt
    refine R471 _ ?_
    show Steps p.tables e below (s₁.setTop (mkF m 62 #[vR a1, vI p2, vI p3, vJ q4, .second] [(.int (3 : Int32)), (.ref a1)])) _
    refine X0.laload hx (j := (3 : Int32)) (v := (.long (fa 3))) (by rw [e0]; exact Ar472.1) (State.isArrayOf_alike hZ.alike Ar472.2.1) Ar472.2.2 hin472 hat472 (g := (mkF m 62 #[vR a1, vI p2, vI p3, vJ q4, .second] [(.int (3 : Int32)), (.ref a1)])) rfl rfl (hb hby d12_62) _ ?_
    refine XS.lloadN X0.here hx rfl (hb hby d12_63) rfl ?_
    show Steps p.tables e below (s₁.setTop (mkF m 64 #[vR a1, vI p2, vI p3, vJ q4, .second] [(.long q4), (.long (fa 3))])) _
    refine XS.lcmp X0.here hx rfl (hb hby d12_64) rfl ?_
    exact kt
  clear R471
  have R474 : ∀ tg, Steps p.tables e below (s₁.setTop (mkF m 80 #[vR a1, vI p2, vI p3, vJ q4, .second] [])) tg → Steps p.tables e below (s₁.setTop (mkF m 0 #[vR a1, vI p2, vI p3, vJ q4, .second] [])) tg := by
    intro tg kt
    refine R473 _ ?_
    by_cases hc3 : (lcmpW (fa 3) q4) = (0 : Int32)
    · show Steps p.tables e below (s₁.setTop (mkF m 65 #[vR a1, vI p2, vI p3, vJ q4, .second] [(.int (lcmpW (fa 3) q4))])) _
      refine XS.ifYes X0.here hx rfl (pc0 := 65) (pc' := 80) rfl (hb hby d12_65) rfl ((if0 _ _).trans (teq (hc3 : (lcmpW (fa 3) q4) = (0 : Int32))).1) (by decide) (by decide) ?_
      exact kt
    · show Steps p.tables e below (s₁.setTop (mkF m 65 #[vR a1, vI p2, vI p3, vJ q4, .second] [(.int (lcmpW (fa 3) q4))])) _
      refine XS.ifNo X0.here hx rfl (hb hby d12_65) rfl ((if0 _ _).trans (feq (hc3 : ¬ ((lcmpW (fa 3) q4) = (0 : Int32)))).1) ?_
      refine XS.iconst X0.here hx rfl (hb hby d12_68) ?_
      refine XS.iloadN X0.here hx rfl (hb hby d12_69) rfl ?_
      show Steps p.tables e below (s₁.setTop (mkF m 70 #[vR a1, vI p2, vI p3, vJ q4, .second] [(.int p2), (.int (3 : Int32))])) _
      refine XS.icmpNo X0.here hx rfl (hb hby d12_70) rfl (flt (((HH 3 (by decide)).resolve_left fun ee => hc3 ((lw_eq _ _).mpr ee)).1 : ¬ ((3 : Int32) < p2))).1 ?_
      refine XS.iconst X0.here hx rfl (hb hby d12_73) ?_
      refine XS.iloadN X0.here hx rfl (hb hby d12_74) rfl ?_
      show Steps p.tables e below (s₁.setTop (mkF m 75 #[vR a1, vI p2, vI p3, vJ q4, .second] [(.int p2), (.int (3 : Int32))])) _
      refine XS.iloadN X0.here hx rfl (hb hby d12_75) rfl ?_
      show Steps p.tables e below (s₁.setTop (mkF m 76 #[vR a1, vI p2, vI p3, vJ q4, .second] [(.int p3), (.int p2), (.int (3 : Int32))])) _
      refine XS.iadd X0.here hx rfl (hb hby d12_76) rfl ?_
      show Steps p.tables e below (s₁.setTop (mkF m 77 #[vR a1, vI p2, vI p3, vJ q4, .second] [(.int (p2 + p3)), (.int (3 : Int32))])) _
      refine XS.icmpNo X0.here hx rfl (hb hby d12_77) rfl (tlt (((HH 3 (by decide)).resolve_left fun ee => hc3 ((lw_eq _ _).mpr ee)).2 : (3 : Int32) < (p2 + p3))).2.1 ?_
      exact kt
  clear R473
  have R475 : ∀ tg, Steps p.tables e below (s₁.setTop (mkF m 82 #[vR a1, vI p2, vI p3, vJ q4, .second] [(.int (4 : Int32)), (.ref a1)])) tg → Steps p.tables e below (s₁.setTop (mkF m 0 #[vR a1, vI p2, vI p3, vJ q4, .second] [])) tg := by
    intro tg kt
    refine R474 _ ?_
    show Steps p.tables e below (s₁.setTop (mkF m 80 #[vR a1, vI p2, vI p3, vJ q4, .second] [])) _
    refine XS.aloadN X0.here hx rfl (hb hby d12_80) rfl rfl ?_
    refine XS.iconst X0.here hx rfl (hb hby d12_81) ?_
    exact kt
  clear R474
  obtain ⟨cl476, Ar476, hin476, hat476⟩ := VA.at (j := (4 : Int32)) (k := 4) (by decide) rfl (by decide)
  have R477 : ∀ tg, Steps p.tables e below (s₁.setTop (mkF m 85 #[vR a1, vI p2, vI p3, vJ q4, .second] [(.int (lcmpW (fa 4) q4))])) tg → Steps p.tables e below (s₁.setTop (mkF m 0 #[vR a1, vI p2, vI p3, vJ q4, .second] [])) tg := by
    intro tg kt
    refine R475 _ ?_
    show Steps p.tables e below (s₁.setTop (mkF m 82 #[vR a1, vI p2, vI p3, vJ q4, .second] [(.int (4 : Int32)), (.ref a1)])) _
    refine X0.laload hx (j := (4 : Int32)) (v := (.long (fa 4))) (by rw [e0]; exact Ar476.1) (State.isArrayOf_alike hZ.alike Ar476.2.1) Ar476.2.2 hin476 hat476 (g := (mkF m 82 #[vR a1, vI p2, vI p3, vJ q4, .second] [(.int (4 : Int32)), (.ref a1)])) rfl rfl (hb hby d12_82) _ ?_
    refine XS.lloadN X0.here hx rfl (hb hby d12_83) rfl ?_
    show Steps p.tables e below (s₁.setTop (mkF m 84 #[vR a1, vI p2, vI p3, vJ q4, .second] [(.long q4), (.long (fa 4))])) _
    refine XS.lcmp X0.here hx rfl (hb hby d12_84) rfl ?_
    exact kt
  clear R475
  have R478 : ∀ tg, Steps p.tables e below (s₁.setTop (mkF m 100 #[vR a1, vI p2, vI p3, vJ q4, .second] [])) tg → Steps p.tables e below (s₁.setTop (mkF m 0 #[vR a1, vI p2, vI p3, vJ q4, .second] [])) tg := by
    intro tg kt
    refine R477 _ ?_
    by_cases hc4 : (lcmpW (fa 4) q4) = (0 : Int32)
    · show Steps p.tables e below (s₁.setTop (mkF m 85 #[vR a1, vI p2, vI p3, vJ q4, .second] [(.int (lcmpW (fa 4) q4))])) _
      refine XS.ifYes X0.here hx rfl (pc0 := 85) (pc' := 100) rfl (hb hby d12_85) rfl ((if0 _ _).trans (teq (hc4 : (lcmpW (fa 4) q4) = (0 : Int32))).1) (by decide) (by decide) ?_
      exact kt
    · show Steps p.tables e below (s₁.setTop (mkF m 85 #[vR a1, vI p2, vI p3, vJ q4, .second] [(.int (lcmpW (fa 4) q4))])) _
      refine XS.ifNo X0.here hx rfl (hb hby d12_85) rfl ((if0 _ _).trans (feq (hc4 : ¬ ((lcmpW (fa 4) q4) = (0 : Int32)))).1) ?_
      refine XS.iconst X0.here hx rfl (hb hby d12_88) ?_
      refine XS.iloadN X0.here hx rfl (hb hby d12_89) rfl ?_
      show Steps p.tables e below (s₁.setTop (mkF m 90 #[vR a1, vI p2, vI p3, vJ q4, .second] [(.int p2), (.int (4 : Int32))])) _
      refine XS.icmpNo X0.here hx rfl (hb hby d12_90) rfl (flt (((HH 4 (by decide)).resolve_left fun ee => hc4 ((lw_eq _ _).mpr ee)).1 : ¬ ((4 : Int32) < p2))).1 ?_
      refine XS.iconst X0.here hx rfl (hb hby d12_93) ?_
      refine XS.iloadN X0.here hx rfl (hb hby d12_94) rfl ?_
      show Steps p.tables e below (s₁.setTop (mkF m 95 #[vR a1, vI p2, vI p3, vJ q4, .second] [(.int p2), (.int (4 : Int32))])) _
      refine XS.iloadN X0.here hx rfl (hb hby d12_95) rfl ?_
      show Steps p.tables e below (s₁.setTop (mkF m 96 #[vR a1, vI p2, vI p3, vJ q4, .second] [(.int p3), (.int p2), (.int (4 : Int32))])) _
      refine XS.iadd X0.here hx rfl (hb hby d12_96) rfl ?_
      show Steps p.tables e below (s₁.setTop (mkF m 97 #[vR a1, vI p2, vI p3, vJ q4, .second] [(.int (p2 + p3)), (.int (4 : Int32))])) _
      refine XS.icmpNo X0.here hx rfl (hb hby d12_97) rfl (tlt (((HH 4 (by decide)).resolve_left fun ee => hc4 ((lw_eq _ _).mpr ee)).2 : (4 : Int32) < (p2 + p3))).2.1 ?_
      exact kt
  clear R477
  have R479 : ∀ tg, Steps p.tables e below (s₁.setTop (mkF m 102 #[vR a1, vI p2, vI p3, vJ q4, .second] [(.int (5 : Int32)), (.ref a1)])) tg → Steps p.tables e below (s₁.setTop (mkF m 0 #[vR a1, vI p2, vI p3, vJ q4, .second] [])) tg := by
    intro tg kt
    refine R478 _ ?_
    show Steps p.tables e below (s₁.setTop (mkF m 100 #[vR a1, vI p2, vI p3, vJ q4, .second] [])) _
    refine XS.aloadN X0.here hx rfl (hb hby d12_100) rfl rfl ?_
    refine XS.iconst X0.here hx rfl (hb hby d12_101) ?_
    exact kt
  clear R478
  obtain ⟨cl480, Ar480, hin480, hat480⟩ := VA.at (j := (5 : Int32)) (k := 5) (by decide) rfl (by decide)
  have R481 : ∀ tg, Steps p.tables e below (s₁.setTop (mkF m 105 #[vR a1, vI p2, vI p3, vJ q4, .second] [(.int (lcmpW (fa 5) q4))])) tg → Steps p.tables e below (s₁.setTop (mkF m 0 #[vR a1, vI p2, vI p3, vJ q4, .second] [])) tg := by
    intro tg kt
    refine R479 _ ?_
    show Steps p.tables e below (s₁.setTop (mkF m 102 #[vR a1, vI p2, vI p3, vJ q4, .second] [(.int (5 : Int32)), (.ref a1)])) _
    refine X0.laload hx (j := (5 : Int32)) (v := (.long (fa 5))) (by rw [e0]; exact Ar480.1) (State.isArrayOf_alike hZ.alike Ar480.2.1) Ar480.2.2 hin480 hat480 (g := (mkF m 102 #[vR a1, vI p2, vI p3, vJ q4, .second] [(.int (5 : Int32)), (.ref a1)])) rfl rfl (hb hby d12_102) _ ?_
    refine XS.lloadN X0.here hx rfl (hb hby d12_103) rfl ?_
    show Steps p.tables e below (s₁.setTop (mkF m 104 #[vR a1, vI p2, vI p3, vJ q4, .second] [(.long q4), (.long (fa 5))])) _
    refine XS.lcmp X0.here hx rfl (hb hby d12_104) rfl ?_
    exact kt
  clear R479
  have R482 : ∀ tg, Steps p.tables e below (s₁.setTop (mkF m 120 #[vR a1, vI p2, vI p3, vJ q4, .second] [])) tg → Steps p.tables e below (s₁.setTop (mkF m 0 #[vR a1, vI p2, vI p3, vJ q4, .second] [])) tg := by
    intro tg kt
    refine R481 _ ?_
    by_cases hc5 : (lcmpW (fa 5) q4) = (0 : Int32)
    · show Steps p.tables e below (s₁.setTop (mkF m 105 #[vR a1, vI p2, vI p3, vJ q4, .second] [(.int (lcmpW (fa 5) q4))])) _
      refine XS.ifYes X0.here hx rfl (pc0 := 105) (pc' := 120) rfl (hb hby d12_105) rfl ((if0 _ _).trans (teq (hc5 : (lcmpW (fa 5) q4) = (0 : Int32))).1) (by decide) (by decide) ?_
      exact kt
    · show Steps p.tables e below (s₁.setTop (mkF m 105 #[vR a1, vI p2, vI p3, vJ q4, .second] [(.int (lcmpW (fa 5) q4))])) _
      refine XS.ifNo X0.here hx rfl (hb hby d12_105) rfl ((if0 _ _).trans (feq (hc5 : ¬ ((lcmpW (fa 5) q4) = (0 : Int32)))).1) ?_
      refine XS.iconst X0.here hx rfl (hb hby d12_108) ?_
      refine XS.iloadN X0.here hx rfl (hb hby d12_109) rfl ?_
      show Steps p.tables e below (s₁.setTop (mkF m 110 #[vR a1, vI p2, vI p3, vJ q4, .second] [(.int p2), (.int (5 : Int32))])) _
      refine XS.icmpNo X0.here hx rfl (hb hby d12_110) rfl (flt (((HH 5 (by decide)).resolve_left fun ee => hc5 ((lw_eq _ _).mpr ee)).1 : ¬ ((5 : Int32) < p2))).1 ?_
      refine XS.iconst X0.here hx rfl (hb hby d12_113) ?_
      refine XS.iloadN X0.here hx rfl (hb hby d12_114) rfl ?_
      show Steps p.tables e below (s₁.setTop (mkF m 115 #[vR a1, vI p2, vI p3, vJ q4, .second] [(.int p2), (.int (5 : Int32))])) _
      refine XS.iloadN X0.here hx rfl (hb hby d12_115) rfl ?_
      show Steps p.tables e below (s₁.setTop (mkF m 116 #[vR a1, vI p2, vI p3, vJ q4, .second] [(.int p3), (.int p2), (.int (5 : Int32))])) _
      refine XS.iadd X0.here hx rfl (hb hby d12_116) rfl ?_
      show Steps p.tables e below (s₁.setTop (mkF m 117 #[vR a1, vI p2, vI p3, vJ q4, .second] [(.int (p2 + p3)), (.int (5 : Int32))])) _
      refine XS.icmpNo X0.here hx rfl (hb hby d12_117) rfl (tlt (((HH 5 (by decide)).resolve_left fun ee => hc5 ((lw_eq _ _).mpr ee)).2 : (5 : Int32) < (p2 + p3))).2.1 ?_
      exact kt
  clear R481
  have R483 : ∀ tg, Steps p.tables e below (s₁.setTop (mkF m 125 #[vR a1, vI p2, vI p3, vJ q4, .second] [(.int (1 : Int32))])) tg → Steps p.tables e below (s₁.setTop (mkF m 0 #[vR a1, vI p2, vI p3, vJ q4, .second] [])) tg := by
    intro tg kt
    refine R482 _ ?_
    show Steps p.tables e below (s₁.setTop (mkF m 120 #[vR a1, vI p2, vI p3, vJ q4, .second] [])) _
    refine XS.iconst X0.here hx rfl (hb hby d12_120) ?_
    show Steps p.tables e below (s₁.setTop (mkF m 121 #[vR a1, vI p2, vI p3, vJ q4, .second] [(.int (1 : Int32))])) _
    refine XS.goto X0.here hx rfl (pc0 := 121) (pc' := 125) rfl (hb hby d12_121) (by decide) (by decide) ?_
    exact kt
  clear R482
  obtain ⟨fs, hr, hrun, hended, hW, hsame⟩ := X0.leave (v := some (.int (1 : Int32))) (fun h => by rw [Bd.returns] at h; cases h)
  refine ⟨_, _, pre0 _ (R483 _ ?_), hrun, hended, _, _, rfl, ?_, ⟨_, rfl⟩, hW, hsame.mono (by decide) (by decide)⟩
  · exact retN X0 hx (t := .boolean) Bd.returns (by simp) (hb hby d12_125) hr
  · show Q_rm_out Z a1 p2 p3 q4 fa h0 n0 _ s₁.heap _
    rw [e0]
    exact ⟨rfl, N0, rfl⟩
theorem d13_0 : decode method_5_code 0 = .ok (.lload_n 0, 1) := by decide +kernel
theorem d13_1 : decode method_5_code 1 = .ok (.ldc2_w 9, 3) := by decide +kernel
theorem d13_4 : decode method_5_code 4 = .ok (.lxor, 1) := by decide +kernel
theorem d13_5 : decode method_5_code 5 = .ok (.lstore 4, 2) := by decide +kernel
theorem d13_7 : decode method_5_code 7 = .ok (.lload_n 2, 1) := by decide +kernel
theorem d13_8 : decode method_5_code 8 = .ok (.ldc2_w 9, 3) := by decide +kernel
theorem d13_11 : decode method_5_code 11 = .ok (.lxor, 1) := by decide +kernel
theorem d13_12 : decode method_5_code 12 = .ok (.lstore 6, 2) := by decide +kernel
theorem d13_14 : decode method_5_code 14 = .ok (.lload 4, 2) := by decide +kernel
theorem d13_16 : decode method_5_code 16 = .ok (.lload 6, 2) := by decide +kernel
theorem d13_18 : decode method_5_code 18 = .ok (.lcmp, 1) := by decide +kernel
theorem d13_19 : decode method_5_code 19 = .ok (.ifCond .ge 5, 3) := by decide +kernel
theorem d13_22 : decode method_5_code 22 = .ok (.iconst (-1), 1) := by decide +kernel
theorem d13_23 : decode method_5_code 23 = .ok (.ireturn, 1) := by decide +kernel
theorem d13_24 : decode method_5_code 24 = .ok (.lload 4, 2) := by decide +kernel
theorem d13_26 : decode method_5_code 26 = .ok (.lload 6, 2) := by decide +kernel
theorem d13_28 : decode method_5_code 28 = .ok (.lcmp, 1) := by decide +kernel
theorem d13_29 : decode method_5_code 29 = .ok (.ifCond .ne 5, 3) := by decide +kernel
theorem d13_32 : decode method_5_code 32 = .ok (.iconst 0, 1) := by decide +kernel
theorem d13_33 : decode method_5_code 33 = .ok (.ireturn, 1) := by decide +kernel
theorem d13_34 : decode method_5_code 34 = .ok (.iconst 1, 1) := by decide +kernel
theorem d13_35 : decode method_5_code 35 = .ok (.ireturn, 1) := by decide +kernel
theorem ef_rm_ucmp (m : MethodId) (q1 : Int64) (q2 : Int64) : entryFrame m #[(.long q1), (.long q2)] 8 = mkF m 0 #[vJ q1, .second, vJ q2, .second, .unset, .unset, .unset, .unset] [] := by first | (simp [entryFrame, mkF, argsToLocals, Value.category]; done) | rfl
def Q_rm_ucmp (Z : State) (q1 : Int64) (q2 : Int64) (h0 : Heap) (n0 : Nat) (v : Option Value) (h : Heap) (L : List Loc) : Prop := v = some (.int (own_ucmp q1 q2)) ∧ Fr n0 L ∧ h = h0
set_option maxRecDepth 65536 in
set_option maxHeartbeats 40000000 in
theorem rm_ucmp (l : Launch) (Z : State) (a0 : Array Value) (hw : ∀ d ∈ tables_1, d.before a0 Z = true) (ws : List Jvm.Cond) (q1 : Int64) (q2 : Int64) (h0 : Heap) (n0 : Nat) (Z0 : n0 ≤ h0.size) :
    MetFree l (⟨"com/example/inexact_odds/inexactodds/language/EncodingEncodePinLaw", "ucmp", "(JJ)I"⟩ : MethodName) (head1 (Jvm.Cond.code (⟨"com/example/inexact_odds/inexactodds/language/EncodingEncodePinLaw", "ucmp", "(JJ)I"⟩ : MethodName) method_5_code 8 (some .int) :: ws) ({ frames := 0, cells := 0, slots := 0, locals := 0 } : Room)) (fun a U => a = #[(.long q1), (.long q2)] ∧ Z.Warmed39 U.vm ∧ U.heap = h0) (fun _ _ _ _ _ => True) (fun _ U oC U' => ∃ v L, oC = .returned v ∧ Q_rm_ucmp Z q1 q2 h0 n0 v U'.heap L ∧ FrameEnd U oC U' L ({ frames := 0, cells := 0, slots := 0, locals := 0 } : Room).cells ({ frames := 0, cells := 0, slots := 0, locals := 0 } : Room).slots) := by
  refine MetFree.of_bodySF (plainFor_of_name pn_3) hisR ?_
  intro p e s m args below meth c s₁ Bd hml0 hP hK
  obtain ⟨rfl, hZ, hh⟩ := hP
  have hx := Bd.exec
  have hby := Bd.bytes
  have hml : c.maxLocals = 8 := hml0
  have hown : s.vm.findClass "com/example/inexact_odds/inexactodds/language/EncodingEncodePinLaw" = some m.cls := findClass_of_methodNamed Bd.named
  have hnm := (name_of_methodNamed Bd.named Bd.method).1
  have X0 : Stand p l e ({ frames := 0, cells := 0, slots := 0, locals := 0 } : Room) s m #[(.long q1), (.long q2)] below meth c s₁ [] 0 0 := Stand.of_body Bd
  have e0 : s₁.heap = h0 := by rw [← hh, Bd.state]; rfl
  have N0 := Fr.nil n0
  have pre0 : ∀ tg, Steps p.tables e below (s₁.setTop (mkF m 0 #[vJ q1, .second, vJ q2, .second, .unset, .unset, .unset, .unset] [])) tg → Steps p.tables e below (s₁.setTop (entryFrame m #[(.long q1), (.long q2)] 8)) tg := fun t k => castTop (ef_rm_ucmp m q1 q2) k
  have pre00 : ∀ tg, Steps p.tables e below (s₁.setTop (mkF m 0 #[vJ q1, .second, vJ q2, .second, .unset, .unset, .unset, .unset] [])) tg → Steps p.tables e below (s₁.setTop (mkF m 0 #[vJ q1, .second, vJ q2, .second, .unset, .unset, .unset, .unset] [])) tg := fun _ k => k
  have R484 : ∀ tg, Steps p.tables e below (s₁.setTop (mkF m 19 #[vJ q1, .second, vJ q2, .second, vJ (q1 ^^^ (-9223372036854775808 : Int64)), .second, vJ (q2 ^^^ (-9223372036854775808 : Int64)), .second] [(.int (lcmpW (q1 ^^^ (-9223372036854775808 : Int64)) (q2 ^^^ (-9223372036854775808 : Int64))))])) tg → Steps p.tables e below (s₁.setTop (mkF m 0 #[vJ q1, .second, vJ q2, .second, .unset, .unset, .unset, .unset] [])) tg := by
    intro tg kt
    refine pre00 _ ?_
    show Steps p.tables e below (s₁.setTop (mkF m 0 #[vJ q1, .second, vJ q2, .second, .unset, .unset, .unset, .unset] [])) _
    refine XS.lloadN X0.here hx rfl (hb hby d13_0) rfl ?_
    show Steps p.tables e below (s₁.setTop (mkF m 1 #[vJ q1, .second, vJ q2, .second, .unset, .unset, .unset, .unset] [(.long q1)])) _
    refine X0.ldc2Long hx hown (mvT hZ (hw _ (List.mem_of_getElem? (i := 78) rfl))) (g := (mkF m 1 #[vJ q1, .second, vJ q2, .second, .unset, .unset, .unset, .unset] [(.long q1)])) rfl (hb hby d13_1) _ ?_
    show Steps p.tables e below (s₁.setTop (mkF m 4 #[vJ q1, .second, vJ q2, .second, .unset, .unset, .unset, .unset] [(.long (-9223372036854775808 : Int64)), (.long q1)])) _
    refine XS.lxor X0.here hx rfl (hb hby d13_4) rfl ?_
    show Steps p.tables e below (s₁.setTop (mkF m 5 #[vJ q1, .second, vJ q2, .second, .unset, .unset, .unset, .unset] [(.long (q1 ^^^ (-9223372036854775808 : Int64)))])) _
    refine XS.lstore X0.here hx rfl (hb hby d13_5) rfl (l' := #[vJ q1, .second, vJ q2, .second, vJ (q1 ^^^ (-9223372036854775808 : Int64)), .second, .unset, .unset]) rfl ?_
    refine XS.lloadN X0.here hx rfl (hb hby d13_7) rfl ?_
    show Steps p.tables e below (s₁.setTop (mkF m 8 #[vJ q1, .second, vJ q2, .second, vJ (q1 ^^^ (-9223372036854775808 : Int64)), .second, .unset, .unset] [(.long q2)])) _
    refine X0.ldc2Long hx hown (mvT hZ (hw _ (List.mem_of_getElem? (i := 78) rfl))) (g := (mkF m 8 #[vJ q1, .second, vJ q2, .second, vJ (q1 ^^^ (-9223372036854775808 : Int64)), .second, .unset, .unset] [(.long q2)])) rfl (hb hby d13_8) _ ?_
    show Steps p.tables e below (s₁.setTop (mkF m 11 #[vJ q1, .second, vJ q2, .second, vJ (q1 ^^^ (-9223372036854775808 : Int64)), .second, .unset, .unset] [(.long (-9223372036854775808 : Int64)), (.long q2)])) _
    refine XS.lxor X0.here hx rfl (hb hby d13_11) rfl ?_
    show Steps p.tables e below (s₁.setTop (mkF m 12 #[vJ q1, .second, vJ q2, .second, vJ (q1 ^^^ (-9223372036854775808 : Int64)), .second, .unset, .unset] [(.long (q2 ^^^ (-9223372036854775808 : Int64)))])) _
    refine XS.lstore X0.here hx rfl (hb hby d13_12) rfl (l' := #[vJ q1, .second, vJ q2, .second, vJ (q1 ^^^ (-9223372036854775808 : Int64)), .second, vJ (q2 ^^^ (-9223372036854775808 : Int64)), .second]) rfl ?_
    refine XS.lload X0.here hx rfl (hb hby d13_14) rfl ?_
    refine XS.lload X0.here hx rfl (hb hby d13_16) rfl ?_
    show Steps p.tables e below (s₁.setTop (mkF m 18 #[vJ q1, .second, vJ q2, .second, vJ (q1 ^^^ (-9223372036854775808 : Int64)), .second, vJ (q2 ^^^ (-9223372036854775808 : Int64)), .second] [(.long (q2 ^^^ (-9223372036854775808 : Int64))), (.long (q1 ^^^ (-9223372036854775808 : Int64)))])) _
    refine XS.lcmp X0.here hx rfl (hb hby d13_18) rfl ?_
    exact kt
  by_cases hc : (lcmpW (q1 ^^^ (-9223372036854775808 : Int64)) (q2 ^^^ (-9223372036854775808 : Int64))) < (0 : Int32)
  · have R485 : ∀ tg, Steps p.tables e below (s₁.setTop (mkF m 23 #[vJ q1, .second, vJ q2, .second, vJ (q1 ^^^ (-9223372036854775808 : Int64)), .second, vJ (q2 ^^^ (-9223372036854775808 : Int64)), .second] [(.int (-1 : Int32))])) tg → Steps p.tables e below (s₁.setTop (mkF m 0 #[vJ q1, .second, vJ q2, .second, .unset, .unset, .unset, .unset] [])) tg := by
      intro tg kt
      refine R484 _ ?_
      show Steps p.tables e below (s₁.setTop (mkF m 19 #[vJ q1, .second, vJ q2, .second, vJ (q1 ^^^ (-9223372036854775808 : Int64)), .second, vJ (q2 ^^^ (-9223372036854775808 : Int64)), .second] [(.int (lcmpW (q1 ^^^ (-9223372036854775808 : Int64)) (q2 ^^^ (-9223372036854775808 : Int64))))])) _
      refine XS.ifNo X0.here hx rfl (hb hby d13_19) rfl ((if0 _ _).trans (tlt (hc : (lcmpW (q1 ^^^ (-9223372036854775808 : Int64)) (q2 ^^^ (-9223372036854775808 : Int64))) < (0 : Int32))).2.1) ?_
      refine XS.iconst X0.here hx rfl (hb hby d13_22) ?_
      exact kt
    clear R484
    obtain ⟨fs, hr, hrun, hended, hW, hsame⟩ := X0.leave (v := some (.int (-1 : Int32))) (fun h => by rw [Bd.returns] at h; cases h)
    refine ⟨_, _, pre0 _ (R485 _ ?_), hrun, hended, _, _, rfl, ?_, ⟨_, rfl⟩, hW, hsame.mono (by decide) (by decide)⟩
    · exact retI X0 hx Bd.returns (hb hby d13_23) hr
    · show Q_rm_ucmp Z q1 q2 h0 n0 _ s₁.heap _
      rw [e0]
      exact ⟨by rw [own_ucmp, if_pos ((lw_lt _ _).mp hc)], N0, rfl⟩
  · have R486 : ∀ tg, Steps p.tables e below (s₁.setTop (mkF m 29 #[vJ q1, .second, vJ q2, .second, vJ (q1 ^^^ (-9223372036854775808 : Int64)), .second, vJ (q2 ^^^ (-9223372036854775808 : Int64)), .second] [(.int (lcmpW (q1 ^^^ (-9223372036854775808 : Int64)) (q2 ^^^ (-9223372036854775808 : Int64))))])) tg → Steps p.tables e below (s₁.setTop (mkF m 0 #[vJ q1, .second, vJ q2, .second, .unset, .unset, .unset, .unset] [])) tg := by
      intro tg kt
      refine R484 _ ?_
      show Steps p.tables e below (s₁.setTop (mkF m 19 #[vJ q1, .second, vJ q2, .second, vJ (q1 ^^^ (-9223372036854775808 : Int64)), .second, vJ (q2 ^^^ (-9223372036854775808 : Int64)), .second] [(.int (lcmpW (q1 ^^^ (-9223372036854775808 : Int64)) (q2 ^^^ (-9223372036854775808 : Int64))))])) _
      refine XS.ifYes X0.here hx rfl (pc0 := 19) (pc' := 24) rfl (hb hby d13_19) rfl ((if0 _ _).trans (flt (hc : ¬ ((lcmpW (q1 ^^^ (-9223372036854775808 : Int64)) (q2 ^^^ (-9223372036854775808 : Int64))) < (0 : Int32)))).2.1) (by decide) (by decide) ?_
      refine XS.lload X0.here hx rfl (hb hby d13_24) rfl ?_
      refine XS.lload X0.here hx rfl (hb hby d13_26) rfl ?_
      show Steps p.tables e below (s₁.setTop (mkF m 28 #[vJ q1, .second, vJ q2, .second, vJ (q1 ^^^ (-9223372036854775808 : Int64)), .second, vJ (q2 ^^^ (-9223372036854775808 : Int64)), .second] [(.long (q2 ^^^ (-9223372036854775808 : Int64))), (.long (q1 ^^^ (-9223372036854775808 : Int64)))])) _
      refine XS.lcmp X0.here hx rfl (hb hby d13_28) rfl ?_
      exact kt
    clear R484
    by_cases hd : (lcmpW (q1 ^^^ (-9223372036854775808 : Int64)) (q2 ^^^ (-9223372036854775808 : Int64))) = (0 : Int32)
    · have R487 : ∀ tg, Steps p.tables e below (s₁.setTop (mkF m 33 #[vJ q1, .second, vJ q2, .second, vJ (q1 ^^^ (-9223372036854775808 : Int64)), .second, vJ (q2 ^^^ (-9223372036854775808 : Int64)), .second] [(.int (0 : Int32))])) tg → Steps p.tables e below (s₁.setTop (mkF m 0 #[vJ q1, .second, vJ q2, .second, .unset, .unset, .unset, .unset] [])) tg := by
        intro tg kt
        refine R486 _ ?_
        show Steps p.tables e below (s₁.setTop (mkF m 29 #[vJ q1, .second, vJ q2, .second, vJ (q1 ^^^ (-9223372036854775808 : Int64)), .second, vJ (q2 ^^^ (-9223372036854775808 : Int64)), .second] [(.int (lcmpW (q1 ^^^ (-9223372036854775808 : Int64)) (q2 ^^^ (-9223372036854775808 : Int64))))])) _
        refine XS.ifNo X0.here hx rfl (hb hby d13_29) rfl ((if0 _ _).trans (teq (hd : (lcmpW (q1 ^^^ (-9223372036854775808 : Int64)) (q2 ^^^ (-9223372036854775808 : Int64))) = (0 : Int32))).2) ?_
        refine XS.iconst X0.here hx rfl (hb hby d13_32) ?_
        exact kt
      clear R486
      obtain ⟨fs, hr, hrun, hended, hW, hsame⟩ := X0.leave (v := some (.int (0 : Int32))) (fun h => by rw [Bd.returns] at h; cases h)
      refine ⟨_, _, pre0 _ (R487 _ ?_), hrun, hended, _, _, rfl, ?_, ⟨_, rfl⟩, hW, hsame.mono (by decide) (by decide)⟩
      · exact retI X0 hx Bd.returns (hb hby d13_33) hr
      · show Q_rm_ucmp Z q1 q2 h0 n0 _ s₁.heap _
        rw [e0]
        exact ⟨by rw [own_ucmp, if_neg (fun q => hc ((lw_lt _ _).mpr q)), if_pos ((lw_eq _ _).mp hd)], N0, rfl⟩
    · have R488 : ∀ tg, Steps p.tables e below (s₁.setTop (mkF m 35 #[vJ q1, .second, vJ q2, .second, vJ (q1 ^^^ (-9223372036854775808 : Int64)), .second, vJ (q2 ^^^ (-9223372036854775808 : Int64)), .second] [(.int (1 : Int32))])) tg → Steps p.tables e below (s₁.setTop (mkF m 0 #[vJ q1, .second, vJ q2, .second, .unset, .unset, .unset, .unset] [])) tg := by
        intro tg kt
        refine R486 _ ?_
        show Steps p.tables e below (s₁.setTop (mkF m 29 #[vJ q1, .second, vJ q2, .second, vJ (q1 ^^^ (-9223372036854775808 : Int64)), .second, vJ (q2 ^^^ (-9223372036854775808 : Int64)), .second] [(.int (lcmpW (q1 ^^^ (-9223372036854775808 : Int64)) (q2 ^^^ (-9223372036854775808 : Int64))))])) _
        refine XS.ifYes X0.here hx rfl (pc0 := 29) (pc' := 34) rfl (hb hby d13_29) rfl ((if0 _ _).trans (feq (hd : ¬ ((lcmpW (q1 ^^^ (-9223372036854775808 : Int64)) (q2 ^^^ (-9223372036854775808 : Int64))) = (0 : Int32)))).2) (by decide) (by decide) ?_
        refine XS.iconst X0.here hx rfl (hb hby d13_34) ?_
        exact kt
      clear R486
      obtain ⟨fs, hr, hrun, hended, hW, hsame⟩ := X0.leave (v := some (.int (1 : Int32))) (fun h => by rw [Bd.returns] at h; cases h)
      refine ⟨_, _, pre0 _ (R488 _ ?_), hrun, hended, _, _, rfl, ?_, ⟨_, rfl⟩, hW, hsame.mono (by decide) (by decide)⟩
      · exact retI X0 hx Bd.returns (hb hby d13_35) hr
      · show Q_rm_ucmp Z q1 q2 h0 n0 _ s₁.heap _
        rw [e0]
        exact ⟨by rw [own_ucmp, if_neg (fun q => hc ((lw_lt _ _).mpr q)), if_neg (fun q => hd ((lw_eq _ _).mpr q))], N0, rfl⟩
theorem pd_2 : parseMethodDescriptor "(J)[J" = some ⟨[.long], some (.array .long)⟩ := by decide +kernel
theorem pd_3 : parseMethodDescriptor "([I[JI)V" = some ⟨[(.array .int), (.array .long), .int], none⟩ := by decide +kernel
theorem pd_4 : parseMethodDescriptor "([JI[I)V" = some ⟨[(.array .long), .int, (.array .int)], none⟩ := by decide +kernel
set_option maxRecDepth 65536 in
set_option maxHeartbeats 40000000 in
theorem own_l3 {p : Program} {l : Launch} {e : Env} {s : State} {m : MethodId} {args : Array Value} {below : List Frame} {meth : Method} {c : Code} {Z : State} {a0 : Array Value} {n0 : Nat} {T0 : State} {locs : List Loc} {h0 : Heap} (q1 : Int64) (q2 : Int64) (q3 : Int64) (q4 : Int64) (q5 : Int64) (q6 : Int64) (x1 : Addr) (x2 : Addr) (ob : Addr) (x4 : Addr) (x5 : Addr) (c1 : Addr) (c2 : Addr) (c3 : Addr) (c4 : Addr) (ww : Int32) (lo : Nat → Int32) (hi : Nat → Int32) (xv : Nat → Int32) (zv : Nat → Int32) (o : Nat) (w2 : Nat) (X0 : Stand p l e room_1 s m args below meth c T0 locs 9 29) (hx : p.tables.exec = Jvm.exec) (hZ : Z.Warmed39 s.vm) (hw : ∀ d ∈ tables_1, d.before a0 Z = true) (hby : c.code = code) (hml : c.maxLocals = 29) (hown : s.vm.findClass "com/example/inexact_odds/inexactodds/language/EncodingEncodePinLaw" = some m.cls) (e0 : T0.heap = h0) (N0 : Fr n0 locs) (Z0 : n0 ≤ h0.size) (V1 : AV Z h0 x1 .int 3 (fun j => .int (lo j))) (Fl : Fld Z h0 ob "com/example/inexact_odds/inexactodds/language/Encoding" "low" "[I" (.ref c1)) (Fw : Fld Z h0 ob "com/example/inexact_odds/inexactodds/language/Encoding" "word" "[I" (.ref c2)) (Fs : Fld Z h0 ob "com/example/inexact_odds/inexactodds/language/Encoding" "shift" "[I" (.ref c3)) (Fm : Fld Z h0 ob "com/example/inexact_odds/inexactodds/language/Encoding" "mask" "[J" (.ref c4)) (Fc : Fld Z h0 ob "com/example/inexact_odds/inexactodds/language/Encoding" "words" "I" (.int ww)) (E_ob : Exa Z h0 ob "com/example/inexact_odds/inexactodds/language/Encoding") (U1 : AV Z h0 c1 .int 3 (fun j => .int (lo j))) (U2 : AV Z h0 c2 .int 3 (fun j => .int ((own_wd lo hi) j))) (U3 : AV Z h0 c3 .int 3 (fun j => .int ((own_sf lo hi) j))) (U4 : AV Z h0 c4 .long 3 (fun j => .long ((own_mk lo hi) j))) (VX : AV Z h0 x4 .int 3 (fun j => .int (xv j))) (VZ : AV Z h0 x5 .int 3 (fun j => .int (zv j))) (hwds : ww.toInt = ((w2 + 1 : Nat) : Int)) (hw2 : w2 = 0 ∨ w2 = 1) (hwn : ∀ j, j < 3 → (own_wd lo hi j).toInt = own_wn w2 j ∧ own_wn w2 j < w2 + 1) (ho : (own_of q6).toInt = o) (hnn : o + (w2 + 1) ≤ 6) :
    ∃ (T' : State) (h' : Heap) (L' : List Loc) (y1 y2 y3 ou : Addr), Stand p l e room_1 s m args below meth c T' L' 13 50 ∧ T'.heap = h' ∧ Fr n0 L' ∧ n0 ≤ h'.size ∧ AV Z h' x4 .int 3 (fun j => .int (xv j)) ∧ AV Z h' x5 .int 3 (fun j => .int (zv j)) ∧ AV Z h' ou .int 3 (fun j => .int ((own_dec (own_enc (fun _ => q6) o (w2 + 1) (own_wn w2) lo xv (own_sf lo hi)) o (own_wn w2) lo (own_sf lo hi) (own_mk lo hi)) j)) ∧ AV Z h' y1 .long 6 (fun j => .long ((own_enc (fun _ => q6) o (w2 + 1) (own_wn w2) lo xv (own_sf lo hi)) j)) ∧ AV Z h' y2 .long 6 (fun j => .long ((own_enc (fun _ => (q6 ^^^ (-1 : Int64))) o (w2 + 1) (own_wn w2) lo lo (own_sf lo hi)) j)) ∧ AV Z h' y3 .long 6 (fun j => .long ((own_enc (fun _ => q6) o (w2 + 1) (own_wn w2) lo zv (own_sf lo hi)) j)) ∧ ∀ tg, Steps p.tables e below (T'.setTop (mkF m 350 #[vJ q1, .second, vJ q2, .second, vJ q3, .second, vJ q4, .second, vJ q5, .second, vJ q6, .second, vR x1, vR x2, vR ob, vI ww, vR x4, vI (own_kk q6), vR x5, vI (own_of q6), vJ q6, .second, vR y1, vR y2, vR y3, vR ou, .unset, .unset, .unset] [(.int (0 : Int32)), (.ref ou)])) tg → Steps p.tables e below (T0.setTop (mkF m 261 #[vJ q1, .second, vJ q2, .second, vJ q3, .second, vJ q4, .second, vJ q5, .second, vJ q6, .second, vR x1, vR x2, vR ob, vI ww, vR x4, vI (own_kk q6), vR x5, .unset, .unset, .unset, .unset, .unset, .unset, .unset, .unset, .unset, .unset] [])) tg := by
  have R489 : ∀ tg, Steps p.tables e below (T0.setTop (mkF m 267 #[vJ q1, .second, vJ q2, .second, vJ q3, .second, vJ q4, .second, vJ q5, .second, vJ q6, .second, vR x1, vR x2, vR ob, vI ww, vR x4, vI (own_kk q6), vR x5, .unset, .unset, .unset, .unset, .unset, .unset, .unset, .unset, .unset, .unset] [(.int (((q6.toUInt64 >>> ((62 : Int32) &&& 0x3f).toInt64.toUInt64).toInt64).toInt32))])) tg → Steps p.tables e below (T0.setTop (mkF m 261 #[vJ q1, .second, vJ q2, .second, vJ q3, .second, vJ q4, .second, vJ q5, .second, vJ q6, .second, vR x1, vR x2, vR ob, vI ww, vR x4, vI (own_kk q6), vR x5, .unset, .unset, .unset, .unset, .unset, .unset, .unset, .unset, .unset, .unset] [])) tg := by
    intro tg kt
    refine (fun (t : State) (k : Steps p.tables e below (T0.setTop (mkF m 261 #[vJ q1, .second, vJ q2, .second, vJ q3, .second, vJ q4, .second, vJ q5, .second, vJ q6, .second, vR x1, vR x2, vR ob, vI ww, vR x4, vI (own_kk q6), vR x5, .unset, .unset, .unset, .unset, .unset, .unset, .unset, .unset, .unset, .unset] [])) t) => k) _ ?_
    show Steps p.tables e below (T0.setTop (mkF m 261 #[vJ q1, .second, vJ q2, .second, vJ q3, .second, vJ q4, .second, vJ q5, .second, vJ q6, .second, vR x1, vR x2, vR ob, vI ww, vR x4, vI (own_kk q6), vR x5, .unset, .unset, .unset, .unset, .unset, .unset, .unset, .unset, .unset, .unset] [])) _
    refine XS.lload X0.here hx rfl (hb hby at_261) rfl ?_
    refine XS.bipush X0.here hx rfl (hb hby at_263) ?_
    show Steps p.tables e below (T0.setTop (mkF m 265 #[vJ q1, .second, vJ q2, .second, vJ q3, .second, vJ q4, .second, vJ q5, .second, vJ q6, .second, vR x1, vR x2, vR ob, vI ww, vR x4, vI (own_kk q6), vR x5, .unset, .unset, .unset, .unset, .unset, .unset, .unset, .unset, .unset, .unset] [(.int (62 : Int32)), (.long q6)])) _
    refine XS.lushr X0.here hx rfl (hb hby at_265) rfl ?_
    show Steps p.tables e below (T0.setTop (mkF m 266 #[vJ q1, .second, vJ q2, .second, vJ q3, .second, vJ q4, .second, vJ q5, .second, vJ q6, .second, vR x1, vR x2, vR ob, vI ww, vR x4, vI (own_kk q6), vR x5, .unset, .unset, .unset, .unset, .unset, .unset, .unset, .unset, .unset, .unset] [(.long ((q6.toUInt64 >>> ((62 : Int32) &&& 0x3f).toInt64.toUInt64).toInt64))])) _
    refine XS.l2i X0.here hx rfl (hb hby at_266) rfl ?_
    exact kt
  have R490 : ∀ tg, Steps p.tables e below (T0.setTop (mkF m 267 #[vJ q1, .second, vJ q2, .second, vJ q3, .second, vJ q4, .second, vJ q5, .second, vJ q6, .second, vR x1, vR x2, vR ob, vI ww, vR x4, vI (own_kk q6), vR x5, .unset, .unset, .unset, .unset, .unset, .unset, .unset, .unset, .unset, .unset] [(.int (own_of q6))])) tg → Steps p.tables e below (T0.setTop (mkF m 261 #[vJ q1, .second, vJ q2, .second, vJ q3, .second, vJ q4, .second, vJ q5, .second, vJ q6, .second, vR x1, vR x2, vR ob, vI ww, vR x4, vI (own_kk q6), vR x5, .unset, .unset, .unset, .unset, .unset, .unset, .unset, .unset, .unset, .unset] [])) tg := R489
  have R491 : ∀ tg, Steps p.tables e below (T0.setTop (mkF m 275 #[vJ q1, .second, vJ q2, .second, vJ q3, .second, vJ q4, .second, vJ q5, .second, vJ q6, .second, vR x1, vR x2, vR ob, vI ww, vR x4, vI (own_kk q6), vR x5, vI (own_of q6), vJ q6, .second, .unset, .unset, .unset, .unset, .unset, .unset, .unset] [(.long q6)])) tg → Steps p.tables e below (T0.setTop (mkF m 261 #[vJ q1, .second, vJ q2, .second, vJ q3, .second, vJ q4, .second, vJ q5, .second, vJ q6, .second, vR x1, vR x2, vR ob, vI ww, vR x4, vI (own_kk q6), vR x5, .unset, .unset, .unset, .unset, .unset, .unset, .unset, .unset, .unset, .unset] [])) tg := by
    intro tg kt
    refine R490 _ ?_
    show Steps p.tables e below (T0.setTop (mkF m 267 #[vJ q1, .second, vJ q2, .second, vJ q3, .second, vJ q4, .second, vJ q5, .second, vJ q6, .second, vR x1, vR x2, vR ob, vI ww, vR x4, vI (own_kk q6), vR x5, .unset, .unset, .unset, .unset, .unset, .unset, .unset, .unset, .unset, .unset] [(.int (own_of q6))])) _
    refine XS.istore X0.here hx rfl (hb hby at_267) rfl (l' := #[vJ q1, .second, vJ q2, .second, vJ q3, .second, vJ q4, .second, vJ q5, .second, vJ q6, .second, vR x1, vR x2, vR ob, vI ww, vR x4, vI (own_kk q6), vR x5, vI (own_of q6), .unset, .unset, .unset, .unset, .unset, .unset, .unset, .unset, .unset]) rfl ?_
    refine XS.lload X0.here hx rfl (hb hby at_269) rfl ?_
    show Steps p.tables e below (T0.setTop (mkF m 271 #[vJ q1, .second, vJ q2, .second, vJ q3, .second, vJ q4, .second, vJ q5, .second, vJ q6, .second, vR x1, vR x2, vR ob, vI ww, vR x4, vI (own_kk q6), vR x5, vI (own_of q6), .unset, .unset, .unset, .unset, .unset, .unset, .unset, .unset, .unset] [(.long q6)])) _
    refine XS.lstore X0.here hx rfl (hb hby at_271) rfl (l' := #[vJ q1, .second, vJ q2, .second, vJ q3, .second, vJ q4, .second, vJ q5, .second, vJ q6, .second, vR x1, vR x2, vR ob, vI ww, vR x4, vI (own_kk q6), vR x5, vI (own_of q6), vJ q6, .second, .unset, .unset, .unset, .unset, .unset, .unset, .unset]) rfl ?_
    refine XS.lload X0.here hx rfl (hb hby at_273) rfl ?_
    exact kt
  clear R490
  obtain ⟨_, _, ⟨T492, L492, k492, n492⟩, -, X492, ⟨Lc492, hQ492, l492, y492, z492⟩, st492⟩ := Jvm.LawKit.callS X0 hx (y := (⟨"com/example/inexact_odds/inexactodds/language/EncodingEncodePinLaw", "filled", "(J)[J"⟩ : MethodName)) hown (mvT hZ (hw _ (List.mem_of_getElem? (i := 58) rfl))) (mvT hZ (hw _ (List.mem_of_getElem? (i := 59) rfl))) (mvT hZ (hw _ (List.mem_of_getElem? (i := 54) rfl))) (mvT hZ (hw _ (List.mem_of_getElem? (i := 60) rfl))) (by decide) (backOf (W := 0) (rm_fil l Z a0 hw [] q6 h0 n0 Z0) hZ (hw _ (List.mem_of_getElem? (i := 60) rfl)) (hw _ (List.mem_of_getElem? (i := 54) rfl)) (by decide) (by decide)) (g := (mkF m 275 #[vJ q1, .second, vJ q2, .second, vJ q3, .second, vJ q4, .second, vJ q5, .second, vJ q6, .second, vR x1, vR x2, vR ob, vI ww, vR x4, vI (own_kk q6), vR x5, vI (own_of q6), vJ q6, .second, .unset, .unset, .unset, .unset, .unset, .unset, .unset] [(.long q6)])) rfl (by rw [hml]; rfl) (argsL := [(.long q6)]) (rest := []) (lenOf pd_2 rfl) rfl (by show 2 * 0 + _ ≤ _; exact Nat.le_of_eq rfl) (hb hby at_275) (fun _ _ => ⟨rfl, e0, (by decide : 9 + 1 ≤ _), (by decide : 29 + 6 ≤ _)⟩)
  dsimp only [Pt.U, Pt.locs, Pt.cells, Pt.slots] at X492 l492 y492 z492 st492 hQ492
  rw [l492, y492, z492] at X492
  obtain ⟨y1, rfl, N492q, sz_y1, K492, V492⟩ := hQ492
  have N492 := Fr.app N0 N492q
  have g_y1 : n0 ≤ y1 := Nat.le_trans Z0 sz_y1
  have ne_x1_y1 : x1 ≠ y1 := Nat.ne_of_lt (Nat.lt_of_lt_of_le V1.lt sz_y1)
  have ne_ob_y1 : ob ≠ y1 := Nat.ne_of_lt (Nat.lt_of_lt_of_le Fl.lt sz_y1)
  have ne_c1_y1 : c1 ≠ y1 := Nat.ne_of_lt (Nat.lt_of_lt_of_le U1.lt sz_y1)
  have ne_c2_y1 : c2 ≠ y1 := Nat.ne_of_lt (Nat.lt_of_lt_of_le U2.lt sz_y1)
  have ne_c3_y1 : c3 ≠ y1 := Nat.ne_of_lt (Nat.lt_of_lt_of_le U3.lt sz_y1)
  have ne_c4_y1 : c4 ≠ y1 := Nat.ne_of_lt (Nat.lt_of_lt_of_le U4.lt sz_y1)
  have ne_x4_y1 : x4 ≠ y1 := Nat.ne_of_lt (Nat.lt_of_lt_of_le VX.lt sz_y1)
  have ne_x5_y1 : x5 ≠ y1 := Nat.ne_of_lt (Nat.lt_of_lt_of_le VZ.lt sz_y1)
  have V1_493 := V1.keep K492 own_notin0
  have Fl_493 := Fl.keep K492 own_notin0
  have Fw_493 := Fw.keep K492 own_notin0
  have Fs_493 := Fs.keep K492 own_notin0
  have Fm_493 := Fm.keep K492 own_notin0
  have Fc_493 := Fc.keep K492 own_notin0
  have E_ob_493 := E_ob.keep K492
  have U1_493 := U1.keep K492 own_notin0
  have U2_493 := U2.keep K492 own_notin0
  have U3_493 := U3.keep K492 own_notin0
  have U4_493 := U4.keep K492 own_notin0
  have VX_493 := VX.keep K492 own_notin0
  have VZ_493 := VZ.keep K492 own_notin0
  have Zs493 : n0 ≤ T492.heap.size := Nat.le_trans Z0 K492.1
  have R494 : ∀ tg, Steps p.tables e below (T492.setTop (mkF m 286 #[vJ q1, .second, vJ q2, .second, vJ q3, .second, vJ q4, .second, vJ q5, .second, vJ q6, .second, vR x1, vR x2, vR ob, vI ww, vR x4, vI (own_kk q6), vR x5, vI (own_of q6), vJ q6, .second, vR y1, .unset, .unset, .unset, .unset, .unset, .unset] [(.long (q6 ^^^ (-1 : Int64)))])) tg → Steps p.tables e below (T0.setTop (mkF m 261 #[vJ q1, .second, vJ q2, .second, vJ q3, .second, vJ q4, .second, vJ q5, .second, vJ q6, .second, vR x1, vR x2, vR ob, vI ww, vR x4, vI (own_kk q6), vR x5, .unset, .unset, .unset, .unset, .unset, .unset, .unset, .unset, .unset, .unset] [])) tg := by
    intro tg kt
    refine R491 _ ?_
    refine st492 _ ?_
    show Steps p.tables e below (T492.setTop (mkF m 278 #[vJ q1, .second, vJ q2, .second, vJ q3, .second, vJ q4, .second, vJ q5, .second, vJ q6, .second, vR x1, vR x2, vR ob, vI ww, vR x4, vI (own_kk q6), vR x5, vI (own_of q6), vJ q6, .second, .unset, .unset, .unset, .unset, .unset, .unset, .unset] [(.ref y1)])) _
    refine XS.astore X492.here hx rfl (hb hby at_278) rfl rfl (l' := #[vJ q1, .second, vJ q2, .second, vJ q3, .second, vJ q4, .second, vJ q5, .second, vJ q6, .second, vR x1, vR x2, vR ob, vI ww, vR x4, vI (own_kk q6), vR x5, vI (own_of q6), vJ q6, .second, vR y1, .unset, .unset, .unset, .unset, .unset, .unset]) rfl ?_
    refine XS.lload X492.here hx rfl (hb hby at_280) rfl ?_
    show Steps p.tables e below (T492.setTop (mkF m 282 #[vJ q1, .second, vJ q2, .second, vJ q3, .second, vJ q4, .second, vJ q5, .second, vJ q6, .second, vR x1, vR x2, vR ob, vI ww, vR x4, vI (own_kk q6), vR x5, vI (own_of q6), vJ q6, .second, vR y1, .unset, .unset, .unset, .unset, .unset, .unset] [(.long q6)])) _
    refine X492.ldc2Long hx hown (mvT hZ (hw _ (List.mem_of_getElem? (i := 61) rfl))) (g := (mkF m 282 #[vJ q1, .second, vJ q2, .second, vJ q3, .second, vJ q4, .second, vJ q5, .second, vJ q6, .second, vR x1, vR x2, vR ob, vI ww, vR x4, vI (own_kk q6), vR x5, vI (own_of q6), vJ q6, .second, vR y1, .unset, .unset, .unset, .unset, .unset, .unset] [(.long q6)])) rfl (hb hby at_282) _ ?_
    show Steps p.tables e below (T492.setTop (mkF m 285 #[vJ q1, .second, vJ q2, .second, vJ q3, .second, vJ q4, .second, vJ q5, .second, vJ q6, .second, vR x1, vR x2, vR ob, vI ww, vR x4, vI (own_kk q6), vR x5, vI (own_of q6), vJ q6, .second, vR y1, .unset, .unset, .unset, .unset, .unset, .unset] [(.long (-1 : Int64)), (.long q6)])) _
    refine XS.lxor X492.here hx rfl (hb hby at_285) rfl ?_
    exact kt
  clear R491 st492
  obtain ⟨_, _, ⟨T495, L495, k495, n495⟩, -, X495, ⟨Lc495, hQ495, l495, y495, z495⟩, st495⟩ := Jvm.LawKit.callS X492 hx (y := (⟨"com/example/inexact_odds/inexactodds/language/EncodingEncodePinLaw", "filled", "(J)[J"⟩ : MethodName)) hown (mvT hZ (hw _ (List.mem_of_getElem? (i := 58) rfl))) (mvT hZ (hw _ (List.mem_of_getElem? (i := 59) rfl))) (mvT hZ (hw _ (List.mem_of_getElem? (i := 54) rfl))) (mvT hZ (hw _ (List.mem_of_getElem? (i := 60) rfl))) (by decide) (backOf (W := 0) (rm_fil l Z a0 hw [] (q6 ^^^ (-1 : Int64)) T492.heap n0 Zs493) hZ (hw _ (List.mem_of_getElem? (i := 60) rfl)) (hw _ (List.mem_of_getElem? (i := 54) rfl)) (by decide) (by decide)) (g := (mkF m 286 #[vJ q1, .second, vJ q2, .second, vJ q3, .second, vJ q4, .second, vJ q5, .second, vJ q6, .second, vR x1, vR x2, vR ob, vI ww, vR x4, vI (own_kk q6), vR x5, vI (own_of q6), vJ q6, .second, vR y1, .unset, .unset, .unset, .unset, .unset, .unset] [(.long (q6 ^^^ (-1 : Int64)))])) rfl (by rw [hml]; rfl) (argsL := [(.long (q6 ^^^ (-1 : Int64)))]) (rest := []) (lenOf pd_2 rfl) rfl (by show 2 * 0 + _ ≤ _; exact Nat.le_of_eq rfl) (hb hby at_286) (fun _ _ => ⟨rfl, rfl, (by decide : 10 + 1 ≤ _), (by decide : 35 + 6 ≤ _)⟩)
  dsimp only [Pt.U, Pt.locs, Pt.cells, Pt.slots] at X495 l495 y495 z495 st495 hQ495
  rw [l495, y495, z495] at X495
  obtain ⟨y2, rfl, N495q, sz_y2, K495, V495⟩ := hQ495
  have N495 := Fr.app N492 N495q
  have g_y2 : n0 ≤ y2 := Nat.le_trans Zs493 sz_y2
  have ne_x1_y2 : x1 ≠ y2 := Nat.ne_of_lt (Nat.lt_of_lt_of_le V1_493.lt sz_y2)
  have ne_ob_y2 : ob ≠ y2 := Nat.ne_of_lt (Nat.lt_of_lt_of_le Fl_493.lt sz_y2)
  have ne_c1_y2 : c1 ≠ y2 := Nat.ne_of_lt (Nat.lt_of_lt_of_le U1_493.lt sz_y2)
  have ne_c2_y2 : c2 ≠ y2 := Nat.ne_of_lt (Nat.lt_of_lt_of_le U2_493.lt sz_y2)
  have ne_c3_y2 : c3 ≠ y2 := Nat.ne_of_lt (Nat.lt_of_lt_of_le U3_493.lt sz_y2)
  have ne_c4_y2 : c4 ≠ y2 := Nat.ne_of_lt (Nat.lt_of_lt_of_le U4_493.lt sz_y2)
  have ne_x4_y2 : x4 ≠ y2 := Nat.ne_of_lt (Nat.lt_of_lt_of_le VX_493.lt sz_y2)
  have ne_x5_y2 : x5 ≠ y2 := Nat.ne_of_lt (Nat.lt_of_lt_of_le VZ_493.lt sz_y2)
  have ne_y1_y2 : y1 ≠ y2 := Nat.ne_of_lt (Nat.lt_of_lt_of_le V492.lt sz_y2)
  have V1_496 := V1_493.keep K495 own_notin0
  have Fl_496 := Fl_493.keep K495 own_notin0
  have Fw_496 := Fw_493.keep K495 own_notin0
  have Fs_496 := Fs_493.keep K495 own_notin0
  have Fm_496 := Fm_493.keep K495 own_notin0
  have Fc_496 := Fc_493.keep K495 own_notin0
  have E_ob_496 := E_ob_493.keep K495
  have U1_496 := U1_493.keep K495 own_notin0
  have U2_496 := U2_493.keep K495 own_notin0
  have U3_496 := U3_493.keep K495 own_notin0
  have U4_496 := U4_493.keep K495 own_notin0
  have VX_496 := VX_493.keep K495 own_notin0
  have VZ_496 := VZ_493.keep K495 own_notin0
  have Y1_496 := V492.keep K495 own_notin0
  clear V1_493 Fl_493 Fw_493 Fs_493 Fm_493 Fc_493 E_ob_493 U1_493 U2_493 U3_493 U4_493 VX_493 VZ_493
  have Zs496 : n0 ≤ T495.heap.size := Nat.le_trans Zs493 K495.1
  have R497 : ∀ tg, Steps p.tables e below (T495.setTop (mkF m 293 #[vJ q1, .second, vJ q2, .second, vJ q3, .second, vJ q4, .second, vJ q5, .second, vJ q6, .second, vR x1, vR x2, vR ob, vI ww, vR x4, vI (own_kk q6), vR x5, vI (own_of q6), vJ q6, .second, vR y1, vR y2, .unset, .unset, .unset, .unset, .unset] [(.long q6)])) tg → Steps p.tables e below (T0.setTop (mkF m 261 #[vJ q1, .second, vJ q2, .second, vJ q3, .second, vJ q4, .second, vJ q5, .second, vJ q6, .second, vR x1, vR x2, vR ob, vI ww, vR x4, vI (own_kk q6), vR x5, .unset, .unset, .unset, .unset, .unset, .unset, .unset, .unset, .unset, .unset] [])) tg := by
    intro tg kt
    refine R494 _ ?_
    refine st495 _ ?_
    show Steps p.tables e below (T495.setTop (mkF m 289 #[vJ q1, .second, vJ q2, .second, vJ q3, .second, vJ q4, .second, vJ q5, .second, vJ q6, .second, vR x1, vR x2, vR ob, vI ww, vR x4, vI (own_kk q6), vR x5, vI (own_of q6), vJ q6, .second, vR y1, .unset, .unset, .unset, .unset, .unset, .unset] [(.ref y2)])) _
    refine XS.astore X495.here hx rfl (hb hby at_289) rfl rfl (l' := #[vJ q1, .second, vJ q2, .second, vJ q3, .second, vJ q4, .second, vJ q5, .second, vJ q6, .second, vR x1, vR x2, vR ob, vI ww, vR x4, vI (own_kk q6), vR x5, vI (own_of q6), vJ q6, .second, vR y1, vR y2, .unset, .unset, .unset, .unset, .unset]) rfl ?_
    refine XS.lload X495.here hx rfl (hb hby at_291) rfl ?_
    exact kt
  clear R494 st495
  obtain ⟨_, _, ⟨T498, L498, k498, n498⟩, -, X498, ⟨Lc498, hQ498, l498, y498, z498⟩, st498⟩ := Jvm.LawKit.callS X495 hx (y := (⟨"com/example/inexact_odds/inexactodds/language/EncodingEncodePinLaw", "filled", "(J)[J"⟩ : MethodName)) hown (mvT hZ (hw _ (List.mem_of_getElem? (i := 58) rfl))) (mvT hZ (hw _ (List.mem_of_getElem? (i := 59) rfl))) (mvT hZ (hw _ (List.mem_of_getElem? (i := 54) rfl))) (mvT hZ (hw _ (List.mem_of_getElem? (i := 60) rfl))) (by decide) (backOf (W := 0) (rm_fil l Z a0 hw [] q6 T495.heap n0 Zs496) hZ (hw _ (List.mem_of_getElem? (i := 60) rfl)) (hw _ (List.mem_of_getElem? (i := 54) rfl)) (by decide) (by decide)) (g := (mkF m 293 #[vJ q1, .second, vJ q2, .second, vJ q3, .second, vJ q4, .second, vJ q5, .second, vJ q6, .second, vR x1, vR x2, vR ob, vI ww, vR x4, vI (own_kk q6), vR x5, vI (own_of q6), vJ q6, .second, vR y1, vR y2, .unset, .unset, .unset, .unset, .unset] [(.long q6)])) rfl (by rw [hml]; rfl) (argsL := [(.long q6)]) (rest := []) (lenOf pd_2 rfl) rfl (by show 2 * 0 + _ ≤ _; exact Nat.le_of_eq rfl) (hb hby at_293) (fun _ _ => ⟨rfl, rfl, (by decide : 11 + 1 ≤ _), (by decide : 41 + 6 ≤ _)⟩)
  dsimp only [Pt.U, Pt.locs, Pt.cells, Pt.slots] at X498 l498 y498 z498 st498 hQ498
  rw [l498, y498, z498] at X498
  obtain ⟨y3, rfl, N498q, sz_y3, K498, V498⟩ := hQ498
  have N498 := Fr.app N495 N498q
  have g_y3 : n0 ≤ y3 := Nat.le_trans Zs496 sz_y3
  have ne_x1_y3 : x1 ≠ y3 := Nat.ne_of_lt (Nat.lt_of_lt_of_le V1_496.lt sz_y3)
  have ne_ob_y3 : ob ≠ y3 := Nat.ne_of_lt (Nat.lt_of_lt_of_le Fl_496.lt sz_y3)
  have ne_c1_y3 : c1 ≠ y3 := Nat.ne_of_lt (Nat.lt_of_lt_of_le U1_496.lt sz_y3)
  have ne_c2_y3 : c2 ≠ y3 := Nat.ne_of_lt (Nat.lt_of_lt_of_le U2_496.lt sz_y3)
  have ne_c3_y3 : c3 ≠ y3 := Nat.ne_of_lt (Nat.lt_of_lt_of_le U3_496.lt sz_y3)
  have ne_c4_y3 : c4 ≠ y3 := Nat.ne_of_lt (Nat.lt_of_lt_of_le U4_496.lt sz_y3)
  have ne_x4_y3 : x4 ≠ y3 := Nat.ne_of_lt (Nat.lt_of_lt_of_le VX_496.lt sz_y3)
  have ne_x5_y3 : x5 ≠ y3 := Nat.ne_of_lt (Nat.lt_of_lt_of_le VZ_496.lt sz_y3)
  have ne_y1_y3 : y1 ≠ y3 := Nat.ne_of_lt (Nat.lt_of_lt_of_le Y1_496.lt sz_y3)
  have ne_y2_y3 : y2 ≠ y3 := Nat.ne_of_lt (Nat.lt_of_lt_of_le V495.lt sz_y3)
  have V1_499 := V1_496.keep K498 own_notin0
  have Fl_499 := Fl_496.keep K498 own_notin0
  have Fw_499 := Fw_496.keep K498 own_notin0
  have Fs_499 := Fs_496.keep K498 own_notin0
  have Fm_499 := Fm_496.keep K498 own_notin0
  have Fc_499 := Fc_496.keep K498 own_notin0
  have E_ob_499 := E_ob_496.keep K498
  have U1_499 := U1_496.keep K498 own_notin0
  have U2_499 := U2_496.keep K498 own_notin0
  have U3_499 := U3_496.keep K498 own_notin0
  have U4_499 := U4_496.keep K498 own_notin0
  have VX_499 := VX_496.keep K498 own_notin0
  have VZ_499 := VZ_496.keep K498 own_notin0
  have Y1_499 := Y1_496.keep K498 own_notin0
  have Y2_499 := V495.keep K498 own_notin0
  clear V1_496 Fl_496 Fw_496 Fs_496 Fm_496 Fc_496 E_ob_496 U1_496 U2_496 U3_496 U4_496 VX_496 VZ_496 Y1_496
  have Zs499 : n0 ≤ T498.heap.size := Nat.le_trans Zs496 K498.1
  have R500 : ∀ tg, Steps p.tables e below (T498.setTop (mkF m 306 #[vJ q1, .second, vJ q2, .second, vJ q3, .second, vJ q4, .second, vJ q5, .second, vJ q6, .second, vR x1, vR x2, vR ob, vI ww, vR x4, vI (own_kk q6), vR x5, vI (own_of q6), vJ q6, .second, vR y1, vR y2, vR y3, .unset, .unset, .unset, .unset] [(.int (own_of q6)), (.ref y1), (.ref x4), (.ref ob)])) tg → Steps p.tables e below (T0.setTop (mkF m 261 #[vJ q1, .second, vJ q2, .second, vJ q3, .second, vJ q4, .second, vJ q5, .second, vJ q6, .second, vR x1, vR x2, vR ob, vI ww, vR x4, vI (own_kk q6), vR x5, .unset, .unset, .unset, .unset, .unset, .unset, .unset, .unset, .unset, .unset] [])) tg := by
    intro tg kt
    refine R497 _ ?_
    refine st498 _ ?_
    show Steps p.tables e below (T498.setTop (mkF m 296 #[vJ q1, .second, vJ q2, .second, vJ q3, .second, vJ q4, .second, vJ q5, .second, vJ q6, .second, vR x1, vR x2, vR ob, vI ww, vR x4, vI (own_kk q6), vR x5, vI (own_of q6), vJ q6, .second, vR y1, vR y2, .unset, .unset, .unset, .unset, .unset] [(.ref y3)])) _
    refine XS.astore X498.here hx rfl (hb hby at_296) rfl rfl (l' := #[vJ q1, .second, vJ q2, .second, vJ q3, .second, vJ q4, .second, vJ q5, .second, vJ q6, .second, vR x1, vR x2, vR ob, vI ww, vR x4, vI (own_kk q6), vR x5, vI (own_of q6), vJ q6, .second, vR y1, vR y2, vR y3, .unset, .unset, .unset, .unset]) rfl ?_
    refine XS.aload X498.here hx rfl (hb hby at_298) rfl rfl ?_
    refine XS.aload X498.here hx rfl (hb hby at_300) rfl rfl ?_
    show Steps p.tables e below (T498.setTop (mkF m 302 #[vJ q1, .second, vJ q2, .second, vJ q3, .second, vJ q4, .second, vJ q5, .second, vJ q6, .second, vR x1, vR x2, vR ob, vI ww, vR x4, vI (own_kk q6), vR x5, vI (own_of q6), vJ q6, .second, vR y1, vR y2, vR y3, .unset, .unset, .unset, .unset] [(.ref x4), (.ref ob)])) _
    refine XS.aload X498.here hx rfl (hb hby at_302) rfl rfl ?_
    refine XS.iload X498.here hx rfl (hb hby at_304) rfl ?_
    exact kt
  clear R497 st498
  obtain ⟨cq501, kq501, q501a, q501b, q501c⟩ := isOf hZ rfl E_ob_499
  obtain ⟨_, _, ⟨T501, L501, k501, n501⟩, -, X501, ⟨Lc501, hQ501, l501, y501, z501⟩, st501⟩ := X498.virtualBack hx (y := (⟨"com/example/inexact_odds/inexactodds/language/Encoding", "encode", "([I[JI)V"⟩ : MethodName)) (z := (⟨"com/example/inexact_odds/inexactodds/language/Encoding", "encode", "([I[JI)V"⟩ : MethodName)) hown (mvT hZ (hw _ (List.mem_of_getElem? (i := 62) rfl))) (mvT hZ (hw _ (List.mem_of_getElem? (i := 63) rfl))) (notFace_of_selects (args := #[]) (mvT hZ (hw _ (List.mem_of_getElem? (i := 65) rfl)))) (mvT hZ (hw _ (List.mem_of_getElem? (i := 65) rfl))) (mvT hZ (hw _ (List.mem_of_getElem? (i := 64) rfl))) (by decide) (backOf (W := 0) (rm_encode l Z a0 hw [] ob x4 y1 (own_of q6) c1 c2 c3 ww lo (own_wd lo hi) (own_sf lo hi) xv (fun _ => q6) 6 o (w2 + 1) (own_wn w2) T498.heap n0 Zs499 Fl_499 Fw_499 Fs_499 Fc_499 U1_499 U2_499 U3_499 VX_499 Y1_499 g_y1 ne_ob_y1 ne_x4_y1 ne_c1_y1 ne_c2_y1 ne_c3_y1 ho hnn (by decide) hwds (own_12 hw2) hwn) hZ (hw _ (List.mem_of_getElem? (i := 66) rfl)) (hw _ (List.mem_of_getElem? (i := 10) rfl)) (by decide) (by decide)) q501a q501c (g := (mkF m 306 #[vJ q1, .second, vJ q2, .second, vJ q3, .second, vJ q4, .second, vJ q5, .second, vJ q6, .second, vR x1, vR x2, vR ob, vI ww, vR x4, vI (own_kk q6), vR x5, vI (own_of q6), vJ q6, .second, vR y1, vR y2, vR y3, .unset, .unset, .unset, .unset] [(.int (own_of q6)), (.ref y1), (.ref x4), (.ref ob)])) rfl (by rw [hml]; rfl) (Steps.refl _) (argsL := [(.ref x4), (.ref y1), (.int (own_of q6))]) (rest := []) (lenOf pd_3 rfl) rfl (by show 2 * 0 + _ ≤ _; exact Nat.le_of_eq rfl) (hb hby at_306) (fun _ _ => ⟨rfl, rfl, (by decide : 12 + 0 ≤ _), (by decide : 47 + 0 ≤ _)⟩)
  dsimp only [Pt.U, Pt.locs, Pt.cells, Pt.slots] at X501 l501 y501 z501 st501 hQ501
  rw [l501, y501, z501] at X501
  obtain ⟨rfl, N501q, K501, V501⟩ := hQ501
  have N501 := Fr.app N498 N501q
  have V1_502 := V1_499.keep K501 (own_notin1 ne_x1_y1)
  have Fl_502 := Fl_499.keep K501 (own_notin1 ne_ob_y1)
  have Fw_502 := Fw_499.keep K501 (own_notin1 ne_ob_y1)
  have Fs_502 := Fs_499.keep K501 (own_notin1 ne_ob_y1)
  have Fm_502 := Fm_499.keep K501 (own_notin1 ne_ob_y1)
  have Fc_502 := Fc_499.keep K501 (own_notin1 ne_ob_y1)
  have E_ob_502 := E_ob_499.keep K501
  have U1_502 := U1_499.keep K501 (own_notin1 ne_c1_y1)
  have U2_502 := U2_499.keep K501 (own_notin1 ne_c2_y1)
  have U3_502 := U3_499.keep K501 (own_notin1 ne_c3_y1)
  have U4_502 := U4_499.keep K501 (own_notin1 ne_c4_y1)
  have VX_502 := VX_499.keep K501 (own_notin1 ne_x4_y1)
  have VZ_502 := VZ_499.keep K501 (own_notin1 ne_x5_y1)
  have Y2_502 := Y2_499.keep K501 (own_notin1 (Ne.symm ne_y1_y2))
  have Y3_502 := V498.keep K501 (own_notin1 (Ne.symm ne_y1_y3))
  clear V1_499 Fl_499 Fw_499 Fs_499 Fm_499 Fc_499 E_ob_499 U1_499 U2_499 U3_499 U4_499 VX_499 VZ_499 Y2_499
  have Zs502 : n0 ≤ T501.heap.size := Nat.le_trans Zs499 K501.1
  have R503 : ∀ tg, Steps p.tables e below (T501.setTop (mkF m 317 #[vJ q1, .second, vJ q2, .second, vJ q3, .second, vJ q4, .second, vJ q5, .second, vJ q6, .second, vR x1, vR x2, vR ob, vI ww, vR x4, vI (own_kk q6), vR x5, vI (own_of q6), vJ q6, .second, vR y1, vR y2, vR y3, .unset, .unset, .unset, .unset] [(.int (own_of q6)), (.ref y2), (.ref x1), (.ref ob)])) tg → Steps p.tables e below (T0.setTop (mkF m 261 #[vJ q1, .second, vJ q2, .second, vJ q3, .second, vJ q4, .second, vJ q5, .second, vJ q6, .second, vR x1, vR x2, vR ob, vI ww, vR x4, vI (own_kk q6), vR x5, .unset, .unset, .unset, .unset, .unset, .unset, .unset, .unset, .unset, .unset] [])) tg := by
    intro tg kt
    refine R500 _ ?_
    refine st501.trans ?_
    refine XS.aload X501.here hx rfl (hb hby at_309) rfl rfl ?_
    show Steps p.tables e below (T501.setTop (mkF m 311 #[vJ q1, .second, vJ q2, .second, vJ q3, .second, vJ q4, .second, vJ q5, .second, vJ q6, .second, vR x1, vR x2, vR ob, vI ww, vR x4, vI (own_kk q6), vR x5, vI (own_of q6), vJ q6, .second, vR y1, vR y2, vR y3, .unset, .unset, .unset, .unset] [(.ref ob)])) _
    refine XS.aload X501.here hx rfl (hb hby at_311) rfl rfl ?_
    refine XS.aload X501.here hx rfl (hb hby at_313) rfl rfl ?_
    refine XS.iload X501.here hx rfl (hb hby at_315) rfl ?_
    exact kt
  clear R500 st501
  obtain ⟨cq504, kq504, q504a, q504b, q504c⟩ := isOf hZ rfl E_ob_502
  obtain ⟨_, _, ⟨T504, L504, k504, n504⟩, -, X504, ⟨Lc504, hQ504, l504, y504, z504⟩, st504⟩ := X501.virtualBack hx (y := (⟨"com/example/inexact_odds/inexactodds/language/Encoding", "encode", "([I[JI)V"⟩ : MethodName)) (z := (⟨"com/example/inexact_odds/inexactodds/language/Encoding", "encode", "([I[JI)V"⟩ : MethodName)) hown (mvT hZ (hw _ (List.mem_of_getElem? (i := 62) rfl))) (mvT hZ (hw _ (List.mem_of_getElem? (i := 63) rfl))) (notFace_of_selects (args := #[]) (mvT hZ (hw _ (List.mem_of_getElem? (i := 65) rfl)))) (mvT hZ (hw _ (List.mem_of_getElem? (i := 65) rfl))) (mvT hZ (hw _ (List.mem_of_getElem? (i := 64) rfl))) (by decide) (backOf (W := 0) (rm_encode l Z a0 hw [] ob x1 y2 (own_of q6) c1 c2 c3 ww lo (own_wd lo hi) (own_sf lo hi) lo (fun _ => (q6 ^^^ (-1 : Int64))) 6 o (w2 + 1) (own_wn w2) T501.heap n0 Zs502 Fl_502 Fw_502 Fs_502 Fc_502 U1_502 U2_502 U3_502 V1_502 Y2_502 g_y2 ne_ob_y2 ne_x1_y2 ne_c1_y2 ne_c2_y2 ne_c3_y2 ho hnn (by decide) hwds (own_12 hw2) hwn) hZ (hw _ (List.mem_of_getElem? (i := 66) rfl)) (hw _ (List.mem_of_getElem? (i := 10) rfl)) (by decide) (by decide)) q504a q504c (g := (mkF m 317 #[vJ q1, .second, vJ q2, .second, vJ q3, .second, vJ q4, .second, vJ q5, .second, vJ q6, .second, vR x1, vR x2, vR ob, vI ww, vR x4, vI (own_kk q6), vR x5, vI (own_of q6), vJ q6, .second, vR y1, vR y2, vR y3, .unset, .unset, .unset, .unset] [(.int (own_of q6)), (.ref y2), (.ref x1), (.ref ob)])) rfl (by rw [hml]; rfl) (Steps.refl _) (argsL := [(.ref x1), (.ref y2), (.int (own_of q6))]) (rest := []) (lenOf pd_3 rfl) rfl (by show 2 * 0 + _ ≤ _; exact Nat.le_of_eq rfl) (hb hby at_317) (fun _ _ => ⟨rfl, rfl, (by decide : 12 + 0 ≤ _), (by decide : 47 + 0 ≤ _)⟩)
  dsimp only [Pt.U, Pt.locs, Pt.cells, Pt.slots] at X504 l504 y504 z504 st504 hQ504
  rw [l504, y504, z504] at X504
  obtain ⟨rfl, N504q, K504, V504⟩ := hQ504
  have N504 := Fr.app N501 N504q
  have V1_505 := V1_502.keep K504 (own_notin1 ne_x1_y2)
  have Fl_505 := Fl_502.keep K504 (own_notin1 ne_ob_y2)
  have Fw_505 := Fw_502.keep K504 (own_notin1 ne_ob_y2)
  have Fs_505 := Fs_502.keep K504 (own_notin1 ne_ob_y2)
  have Fm_505 := Fm_502.keep K504 (own_notin1 ne_ob_y2)
  have Fc_505 := Fc_502.keep K504 (own_notin1 ne_ob_y2)
  have E_ob_505 := E_ob_502.keep K504
  have U1_505 := U1_502.keep K504 (own_notin1 ne_c1_y2)
  have U2_505 := U2_502.keep K504 (own_notin1 ne_c2_y2)
  have U3_505 := U3_502.keep K504 (own_notin1 ne_c3_y2)
  have U4_505 := U4_502.keep K504 (own_notin1 ne_c4_y2)
  have VX_505 := VX_502.keep K504 (own_notin1 ne_x4_y2)
  have VZ_505 := VZ_502.keep K504 (own_notin1 ne_x5_y2)
  have Y3_505 := Y3_502.keep K504 (own_notin1 (Ne.symm ne_y2_y3))
  have Y1_505 := V501.keep K504 (own_notin1 ne_y1_y2)
  clear V1_502 Fl_502 Fw_502 Fs_502 Fm_502 Fc_502 E_ob_502 U1_502 U2_502 U3_502 U4_502 VX_502 VZ_502 Y3_502
  have Zs505 : n0 ≤ T504.heap.size := Nat.le_trans Zs502 K504.1
  have R506 : ∀ tg, Steps p.tables e below (T504.setTop (mkF m 328 #[vJ q1, .second, vJ q2, .second, vJ q3, .second, vJ q4, .second, vJ q5, .second, vJ q6, .second, vR x1, vR x2, vR ob, vI ww, vR x4, vI (own_kk q6), vR x5, vI (own_of q6), vJ q6, .second, vR y1, vR y2, vR y3, .unset, .unset, .unset, .unset] [(.int (own_of q6)), (.ref y3), (.ref x5), (.ref ob)])) tg → Steps p.tables e below (T0.setTop (mkF m 261 #[vJ q1, .second, vJ q2, .second, vJ q3, .second, vJ q4, .second, vJ q5, .second, vJ q6, .second, vR x1, vR x2, vR ob, vI ww, vR x4, vI (own_kk q6), vR x5, .unset, .unset, .unset, .unset, .unset, .unset, .unset, .unset, .unset, .unset] [])) tg := by
    intro tg kt
    refine R503 _ ?_
    refine st504.trans ?_
    show Steps p.tables e below (T504.setTop (mkF m 320 #[vJ q1, .second, vJ q2, .second, vJ q3, .second, vJ q4, .second, vJ q5, .second, vJ q6, .second, vR x1, vR x2, vR ob, vI ww, vR x4, vI (own_kk q6), vR x5, vI (own_of q6), vJ q6, .second, vR y1, vR y2, vR y3, .unset, .unset, .unset, .unset] [])) _
    refine XS.aload X504.here hx rfl (hb hby at_320) rfl rfl ?_
    refine XS.aload X504.here hx rfl (hb hby at_322) rfl rfl ?_
    refine XS.aload X504.here hx rfl (hb hby at_324) rfl rfl ?_
    show Steps p.tables e below (T504.setTop (mkF m 326 #[vJ q1, .second, vJ q2, .second, vJ q3, .second, vJ q4, .second, vJ q5, .second, vJ q6, .second, vR x1, vR x2, vR ob, vI ww, vR x4, vI (own_kk q6), vR x5, vI (own_of q6), vJ q6, .second, vR y1, vR y2, vR y3, .unset, .unset, .unset, .unset] [(.ref y3), (.ref x5), (.ref ob)])) _
    refine XS.iload X504.here hx rfl (hb hby at_326) rfl ?_
    exact kt
  clear R503 st504
  obtain ⟨cq507, kq507, q507a, q507b, q507c⟩ := isOf hZ rfl E_ob_505
  obtain ⟨_, _, ⟨T507, L507, k507, n507⟩, -, X507, ⟨Lc507, hQ507, l507, y507, z507⟩, st507⟩ := X504.virtualBack hx (y := (⟨"com/example/inexact_odds/inexactodds/language/Encoding", "encode", "([I[JI)V"⟩ : MethodName)) (z := (⟨"com/example/inexact_odds/inexactodds/language/Encoding", "encode", "([I[JI)V"⟩ : MethodName)) hown (mvT hZ (hw _ (List.mem_of_getElem? (i := 62) rfl))) (mvT hZ (hw _ (List.mem_of_getElem? (i := 63) rfl))) (notFace_of_selects (args := #[]) (mvT hZ (hw _ (List.mem_of_getElem? (i := 65) rfl)))) (mvT hZ (hw _ (List.mem_of_getElem? (i := 65) rfl))) (mvT hZ (hw _ (List.mem_of_getElem? (i := 64) rfl))) (by decide) (backOf (W := 0) (rm_encode l Z a0 hw [] ob x5 y3 (own_of q6) c1 c2 c3 ww lo (own_wd lo hi) (own_sf lo hi) zv (fun _ => q6) 6 o (w2 + 1) (own_wn w2) T504.heap n0 Zs505 Fl_505 Fw_505 Fs_505 Fc_505 U1_505 U2_505 U3_505 VZ_505 Y3_505 g_y3 ne_ob_y3 ne_x5_y3 ne_c1_y3 ne_c2_y3 ne_c3_y3 ho hnn (by decide) hwds (own_12 hw2) hwn) hZ (hw _ (List.mem_of_getElem? (i := 66) rfl)) (hw _ (List.mem_of_getElem? (i := 10) rfl)) (by decide) (by decide)) q507a q507c (g := (mkF m 328 #[vJ q1, .second, vJ q2, .second, vJ q3, .second, vJ q4, .second, vJ q5, .second, vJ q6, .second, vR x1, vR x2, vR ob, vI ww, vR x4, vI (own_kk q6), vR x5, vI (own_of q6), vJ q6, .second, vR y1, vR y2, vR y3, .unset, .unset, .unset, .unset] [(.int (own_of q6)), (.ref y3), (.ref x5), (.ref ob)])) rfl (by rw [hml]; rfl) (Steps.refl _) (argsL := [(.ref x5), (.ref y3), (.int (own_of q6))]) (rest := []) (lenOf pd_3 rfl) rfl (by show 2 * 0 + _ ≤ _; exact Nat.le_of_eq rfl) (hb hby at_328) (fun _ _ => ⟨rfl, rfl, (by decide : 12 + 0 ≤ _), (by decide : 47 + 0 ≤ _)⟩)
  dsimp only [Pt.U, Pt.locs, Pt.cells, Pt.slots] at X507 l507 y507 z507 st507 hQ507
  rw [l507, y507, z507] at X507
  obtain ⟨rfl, N507q, K507, V507⟩ := hQ507
  have N507 := Fr.app N504 N507q
  have V1_508 := V1_505.keep K507 (own_notin1 ne_x1_y3)
  have Fl_508 := Fl_505.keep K507 (own_notin1 ne_ob_y3)
  have Fw_508 := Fw_505.keep K507 (own_notin1 ne_ob_y3)
  have Fs_508 := Fs_505.keep K507 (own_notin1 ne_ob_y3)
  have Fm_508 := Fm_505.keep K507 (own_notin1 ne_ob_y3)
  have Fc_508 := Fc_505.keep K507 (own_notin1 ne_ob_y3)
  have E_ob_508 := E_ob_505.keep K507
  have U1_508 := U1_505.keep K507 (own_notin1 ne_c1_y3)
  have U2_508 := U2_505.keep K507 (own_notin1 ne_c2_y3)
  have U3_508 := U3_505.keep K507 (own_notin1 ne_c3_y3)
  have U4_508 := U4_505.keep K507 (own_notin1 ne_c4_y3)
  have VX_508 := VX_505.keep K507 (own_notin1 ne_x4_y3)
  have VZ_508 := VZ_505.keep K507 (own_notin1 ne_x5_y3)
  have Y1_508 := Y1_505.keep K507 (own_notin1 ne_y1_y3)
  have Y2_508 := V504.keep K507 (own_notin1 ne_y2_y3)
  clear V1_505 Fl_505 Fw_505 Fs_505 Fm_505 Fc_505 E_ob_505 U1_505 U2_505 U3_505 U4_505 VX_505 VZ_505 Y1_505
  have Zs508 : n0 ≤ T507.heap.size := Nat.le_trans Zs505 K507.1
  have R509 : ∀ tg, Steps p.tables e below (T507.setTop (mkF m 332 #[vJ q1, .second, vJ q2, .second, vJ q3, .second, vJ q4, .second, vJ q5, .second, vJ q6, .second, vR x1, vR x2, vR ob, vI ww, vR x4, vI (own_kk q6), vR x5, vI (own_of q6), vJ q6, .second, vR y1, vR y2, vR y3, .unset, .unset, .unset, .unset] [(.int (3 : Int32))])) tg → Steps p.tables e below (T0.setTop (mkF m 261 #[vJ q1, .second, vJ q2, .second, vJ q3, .second, vJ q4, .second, vJ q5, .second, vJ q6, .second, vR x1, vR x2, vR ob, vI ww, vR x4, vI (own_kk q6), vR x5, .unset, .unset, .unset, .unset, .unset, .unset, .unset, .unset, .unset, .unset] [])) tg := by
    intro tg kt
    refine R506 _ ?_
    refine st507.trans ?_
    refine XS.iconst X507.here hx rfl (hb hby at_331) ?_
    exact kt
  clear R506 st507
  obtain ⟨T510, h510, k510, X510, e510, E510, A510, st510⟩ := newP X507 hx hZ (hw _ (List.mem_of_getElem? (i := 0) rfl)) rfl (g := (mkF m 332 #[vJ q1, .second, vJ q2, .second, vJ q3, .second, vJ q4, .second, vJ q5, .second, vJ q6, .second, vR x1, vR x2, vR ob, vI ww, vR x4, vI (own_kk q6), vR x5, vI (own_of q6), vJ q6, .second, vR y1, vR y2, vR y3, .unset, .unset, .unset, .unset] [(.int (3 : Int32))])) rfl (hb hby at_332) rfl (by decide) (cap := 3) (by decide) (by decide) (by decide) (by decide)
  obtain ⟨ou, g510⟩ : ∃ z, z = T507.heap.size := ⟨_, rfl⟩
  rw [← g510] at A510 st510
  have g_ou : n0 ≤ ou := Nat.le_trans Zs508 (Nat.le_of_eq g510.symm)
  have ne_x1_ou : x1 ≠ ou := Nat.ne_of_lt (Nat.lt_of_lt_of_le V1_508.lt (Nat.le_of_eq g510.symm))
  have ne_ob_ou : ob ≠ ou := Nat.ne_of_lt (Nat.lt_of_lt_of_le Fl_508.lt (Nat.le_of_eq g510.symm))
  have ne_c1_ou : c1 ≠ ou := Nat.ne_of_lt (Nat.lt_of_lt_of_le U1_508.lt (Nat.le_of_eq g510.symm))
  have ne_c2_ou : c2 ≠ ou := Nat.ne_of_lt (Nat.lt_of_lt_of_le U2_508.lt (Nat.le_of_eq g510.symm))
  have ne_c3_ou : c3 ≠ ou := Nat.ne_of_lt (Nat.lt_of_lt_of_le U3_508.lt (Nat.le_of_eq g510.symm))
  have ne_c4_ou : c4 ≠ ou := Nat.ne_of_lt (Nat.lt_of_lt_of_le U4_508.lt (Nat.le_of_eq g510.symm))
  have ne_x4_ou : x4 ≠ ou := Nat.ne_of_lt (Nat.lt_of_lt_of_le VX_508.lt (Nat.le_of_eq g510.symm))
  have ne_x5_ou : x5 ≠ ou := Nat.ne_of_lt (Nat.lt_of_lt_of_le VZ_508.lt (Nat.le_of_eq g510.symm))
  have ne_y1_ou : y1 ≠ ou := Nat.ne_of_lt (Nat.lt_of_lt_of_le Y1_508.lt (Nat.le_of_eq g510.symm))
  have ne_y2_ou : y2 ≠ ou := Nat.ne_of_lt (Nat.lt_of_lt_of_le Y2_508.lt (Nat.le_of_eq g510.symm))
  have ne_y3_ou : y3 ≠ ou := Nat.ne_of_lt (Nat.lt_of_lt_of_le V507.lt (Nat.le_of_eq g510.symm))
  have V1_510 := V1_508.ext E510
  have Fl_510 := Fl_508.ext E510
  have Fw_510 := Fw_508.ext E510
  have Fs_510 := Fs_508.ext E510
  have Fm_510 := Fm_508.ext E510
  have Fc_510 := Fc_508.ext E510
  have E_ob_510 := E_ob_508.ext E510
  have U1_510 := U1_508.ext E510
  have U2_510 := U2_508.ext E510
  have U3_510 := U3_508.ext E510
  have U4_510 := U4_508.ext E510
  have VX_510 := VX_508.ext E510
  have VZ_510 := VZ_508.ext E510
  have Y1_510 := Y1_508.ext E510
  have Y2_510 := Y2_508.ext E510
  have Y3_510 := V507.ext E510
  clear V1_508 Fl_508 Fw_508 Fs_508 Fm_508 Fc_508 E_ob_508 U1_508 U2_508 U3_508 U4_508 VX_508 VZ_508 Y1_508 Y2_508
  have Zs510 : n0 ≤ h510.size := Nat.le_trans Zs508 E510.1
  have VOr : AV Z h510 ou .int 3 (fun _ => defaultValue .int) := AV.new A510 rfl rfl
  have VO : AV Z h510 ou .int 3 (fun j => .int ((fun _ => (0 : Int32)) j)) := VOr
  have R511 : ∀ tg, Steps p.tables e below (T510.setTop (mkF m 344 #[vJ q1, .second, vJ q2, .second, vJ q3, .second, vJ q4, .second, vJ q5, .second, vJ q6, .second, vR x1, vR x2, vR ob, vI ww, vR x4, vI (own_kk q6), vR x5, vI (own_of q6), vJ q6, .second, vR y1, vR y2, vR y3, vR ou, .unset, .unset, .unset] [(.ref ou), (.int (own_of q6)), (.ref y1), (.ref ob)])) tg → Steps p.tables e below (T0.setTop (mkF m 261 #[vJ q1, .second, vJ q2, .second, vJ q3, .second, vJ q4, .second, vJ q5, .second, vJ q6, .second, vR x1, vR x2, vR ob, vI ww, vR x4, vI (own_kk q6), vR x5, .unset, .unset, .unset, .unset, .unset, .unset, .unset, .unset, .unset, .unset] [])) tg := by
    intro tg kt
    refine R509 _ ?_
    refine st510 _ ?_
    show Steps p.tables e below (T510.setTop (mkF m 334 #[vJ q1, .second, vJ q2, .second, vJ q3, .second, vJ q4, .second, vJ q5, .second, vJ q6, .second, vR x1, vR x2, vR ob, vI ww, vR x4, vI (own_kk q6), vR x5, vI (own_of q6), vJ q6, .second, vR y1, vR y2, vR y3, .unset, .unset, .unset, .unset] [(.ref ou)])) _
    refine XS.astore X510.here hx rfl (hb hby at_334) rfl rfl (l' := #[vJ q1, .second, vJ q2, .second, vJ q3, .second, vJ q4, .second, vJ q5, .second, vJ q6, .second, vR x1, vR x2, vR ob, vI ww, vR x4, vI (own_kk q6), vR x5, vI (own_of q6), vJ q6, .second, vR y1, vR y2, vR y3, vR ou, .unset, .unset, .unset]) rfl ?_
    refine XS.aload X510.here hx rfl (hb hby at_336) rfl rfl ?_
    refine XS.aload X510.here hx rfl (hb hby at_338) rfl rfl ?_
    show Steps p.tables e below (T510.setTop (mkF m 340 #[vJ q1, .second, vJ q2, .second, vJ q3, .second, vJ q4, .second, vJ q5, .second, vJ q6, .second, vR x1, vR x2, vR ob, vI ww, vR x4, vI (own_kk q6), vR x5, vI (own_of q6), vJ q6, .second, vR y1, vR y2, vR y3, vR ou, .unset, .unset, .unset] [(.ref y1), (.ref ob)])) _
    refine XS.iload X510.here hx rfl (hb hby at_340) rfl ?_
    refine XS.aload X510.here hx rfl (hb hby at_342) rfl rfl ?_
    exact kt
  clear R509 st510
  obtain ⟨cq512, kq512, q512a, q512b, q512c⟩ := isOf hZ e510 E_ob_510
  obtain ⟨_, _, ⟨T512, L512, k512, n512⟩, -, X512, ⟨Lc512, hQ512, l512, y512, z512⟩, st512⟩ := X510.virtualBack hx (y := (⟨"com/example/inexact_odds/inexactodds/language/Encoding", "decode", "([JI[I)V"⟩ : MethodName)) (z := (⟨"com/example/inexact_odds/inexactodds/language/Encoding", "decode", "([JI[I)V"⟩ : MethodName)) hown (mvT hZ (hw _ (List.mem_of_getElem? (i := 67) rfl))) (mvT hZ (hw _ (List.mem_of_getElem? (i := 68) rfl))) (notFace_of_selects (args := #[]) (mvT hZ (hw _ (List.mem_of_getElem? (i := 70) rfl)))) (mvT hZ (hw _ (List.mem_of_getElem? (i := 70) rfl))) (mvT hZ (hw _ (List.mem_of_getElem? (i := 69) rfl))) (by decide) (backOf (W := 0) (rm_decode l Z a0 hw [] ob y1 (own_of q6) ou c1 c2 c3 c4 lo (own_wd lo hi) (own_sf lo hi) (own_mk lo hi) (fun _ => (0 : Int32)) (own_enc (fun _ => q6) o (w2 + 1) (own_wn w2) lo xv (own_sf lo hi)) 6 o (w2 + 1) (own_wn w2) h510 n0 Zs510 Fl_510 Fw_510 Fs_510 Fm_510 U1_510 U2_510 U3_510 U4_510 VO Y1_510 g_ou ne_ob_ou ne_y1_ou ne_c1_ou ne_c2_ou ne_c3_ou ne_c4_ou ho hnn (by decide) hwn) hZ (hw _ (List.mem_of_getElem? (i := 71) rfl)) (hw _ (List.mem_of_getElem? (i := 10) rfl)) (by decide) (by decide)) q512a q512c (g := (mkF m 344 #[vJ q1, .second, vJ q2, .second, vJ q3, .second, vJ q4, .second, vJ q5, .second, vJ q6, .second, vR x1, vR x2, vR ob, vI ww, vR x4, vI (own_kk q6), vR x5, vI (own_of q6), vJ q6, .second, vR y1, vR y2, vR y3, vR ou, .unset, .unset, .unset] [(.ref ou), (.int (own_of q6)), (.ref y1), (.ref ob)])) rfl (by rw [hml]; rfl) (Steps.refl _) (argsL := [(.ref y1), (.int (own_of q6)), (.ref ou)]) (rest := []) (lenOf pd_4 rfl) rfl (by show 2 * 0 + _ ≤ _; exact Nat.le_of_eq rfl) (hb hby at_344) (fun _ _ => ⟨rfl, e510, (by decide : 13 + 0 ≤ _), (by decide : 50 + 0 ≤ _)⟩)
  dsimp only [Pt.U, Pt.locs, Pt.cells, Pt.slots] at X512 l512 y512 z512 st512 hQ512
  rw [l512, y512, z512] at X512
  obtain ⟨rfl, N512q, K512, V512⟩ := hQ512
  have N512 := Fr.app N507 N512q
  have V1_513 := V1_510.keep K512 (own_notin1 ne_x1_ou)
  have Fl_513 := Fl_510.keep K512 (own_notin1 ne_ob_ou)
  have Fw_513 := Fw_510.keep K512 (own_notin1 ne_ob_ou)
  have Fs_513 := Fs_510.keep K512 (own_notin1 ne_ob_ou)
  have Fm_513 := Fm_510.keep K512 (own_notin1 ne_ob_ou)
  have Fc_513 := Fc_510.keep K512 (own_notin1 ne_ob_ou)
  have E_ob_513 := E_ob_510.keep K512
  have U1_513 := U1_510.keep K512 (own_notin1 ne_c1_ou)
  have U2_513 := U2_510.keep K512 (own_notin1 ne_c2_ou)
  have U3_513 := U3_510.keep K512 (own_notin1 ne_c3_ou)
  have U4_513 := U4_510.keep K512 (own_notin1 ne_c4_ou)
  have VX_513 := VX_510.keep K512 (own_notin1 ne_x4_ou)
  have VZ_513 := VZ_510.keep K512 (own_notin1 ne_x5_ou)
  have Y1_513 := Y1_510.keep K512 (own_notin1 ne_y1_ou)
  have Y2_513 := Y2_510.keep K512 (own_notin1 ne_y2_ou)
  have Y3_513 := Y3_510.keep K512 (own_notin1 ne_y3_ou)
  clear V1_510 Fl_510 Fw_510 Fs_510 Fm_510 Fc_510 E_ob_510 U1_510 U2_510 U3_510 U4_510 VX_510 VZ_510 Y1_510 Y2_510 Y3_510
  have Zs513 : n0 ≤ T512.heap.size := Nat.le_trans Zs510 K512.1
  have R514 : ∀ tg, Steps p.tables e below (T512.setTop (mkF m 350 #[vJ q1, .second, vJ q2, .second, vJ q3, .second, vJ q4, .second, vJ q5, .second, vJ q6, .second, vR x1, vR x2, vR ob, vI ww, vR x4, vI (own_kk q6), vR x5, vI (own_of q6), vJ q6, .second, vR y1, vR y2, vR y3, vR ou, .unset, .unset, .unset] [(.int (0 : Int32)), (.ref ou)])) tg → Steps p.tables e below (T0.setTop (mkF m 261 #[vJ q1, .second, vJ q2, .second, vJ q3, .second, vJ q4, .second, vJ q5, .second, vJ q6, .second, vR x1, vR x2, vR ob, vI ww, vR x4, vI (own_kk q6), vR x5, .unset, .unset, .unset, .unset, .unset, .unset, .unset, .unset, .unset, .unset] [])) tg := by
    intro tg kt
    refine R511 _ ?_
    refine st512.trans ?_
    refine XS.aload X512.here hx rfl (hb hby at_347) rfl rfl ?_
    show Steps p.tables e below (T512.setTop (mkF m 349 #[vJ q1, .second, vJ q2, .second, vJ q3, .second, vJ q4, .second, vJ q5, .second, vJ q6, .second, vR x1, vR x2, vR ob, vI ww, vR x4, vI (own_kk q6), vR x5, vI (own_of q6), vJ q6, .second, vR y1, vR y2, vR y3, vR ou, .unset, .unset, .unset] [(.ref ou)])) _
    refine XS.iconst X512.here hx rfl (hb hby at_349) ?_
    exact kt
  clear R511 st512
  exact ⟨_, _, _, y1, y2, y3, ou, X512, rfl, N512, Zs513, VX_513, VZ_513, V512, Y1_513, Y2_513, Y3_513, R514⟩
theorem pd_5 : parseMethodDescriptor "([JIIJ)Z" = some ⟨[(.array .long), .int, .int, .long], some .boolean⟩ := by decide +kernel
theorem pd_6 : parseMethodDescriptor "(JJ)I" = some ⟨[.long, .long], some .int⟩ := by decide +kernel
set_option maxRecDepth 65536 in
set_option maxHeartbeats 40000000 in
theorem own_l4 {p : Program} {l : Launch} {e : Env} {s : State} {m : MethodId} {args : Array Value} {below : List Frame} {meth : Method} {c : Code} {Z : State} {a0 : Array Value} {n0 : Nat} {T0 : State} {locs : List Loc} {h0 : Heap} (q1 : Int64) (q2 : Int64) (q3 : Int64) (q4 : Int64) (q5 : Int64) (q6 : Int64) (x1 : Addr) (x2 : Addr) (ob : Addr) (x4 : Addr) (x5 : Addr) (y1 : Addr) (y2 : Addr) (y3 : Addr) (ou : Addr) (ww : Int32) (xv : Nat → Int32) (zv : Nat → Int32) (de : Nat → Int32) (e1 : Nat → Int64) (e2 : Nat → Int64) (e3 : Nat → Int64) (o : Nat) (w2 : Nat) (kn : Nat) (X0 : Stand p l e room_1 s m args below meth c T0 locs 13 50) (hx : p.tables.exec = Jvm.exec) (hZ : Z.Warmed39 s.vm) (hw : ∀ d ∈ tables_1, d.before a0 Z = true) (hby : c.code = code) (hml : c.maxLocals = 29) (hown : s.vm.findClass "com/example/inexact_odds/inexactodds/language/EncodingEncodePinLaw" = some m.cls) (e0 : T0.heap = h0) (N0 : Fr n0 locs) (Z0 : n0 ≤ h0.size) (VX : AV Z h0 x4 .int 3 (fun j => .int (xv j))) (VZ : AV Z h0 x5 .int 3 (fun j => .int (zv j))) (VO : AV Z h0 ou .int 3 (fun j => .int (de j))) (Y1 : AV Z h0 y1 .long 6 (fun j => .long (e1 j))) (Y2 : AV Z h0 y2 .long 6 (fun j => .long (e2 j))) (Y3 : AV Z h0 y3 .long 6 (fun j => .long (e3 j))) (hdec1 : ∀ j, j < 3 → de j = xv j) (HO1 : ∀ i, i < 6 → e1 i = q6 ∨ (¬ (Int32.ofNat i) < (own_of q6) ∧ (Int32.ofNat i) < ((own_of q6) + ww))) (HO2 : ∀ i, i < 6 → e2 i = (q6 ^^^ (-1 : Int64)) ∨ (¬ (Int32.ofNat i) < (own_of q6) ∧ (Int32.ofNat i) < ((own_of q6) + ww))) (HO3 : ∀ i, i < 6 → e3 i = q6 ∨ (¬ (Int32.ofNat i) < (own_of q6) ∧ (Int32.ofNat i) < ((own_of q6) + ww))) (zl0 : e2 o = 0) (zl1 : w2 = 1 → e2 (o + 1) = 0) (hw2 : w2 = 0 ∨ w2 = 1) (W3 : w2 = 0 → ww < (2 : Int32) ∧ ¬ (1 : Int32) < ww) (W4 : w2 = 1 → ¬ ww < (2 : Int32) ∧ (1 : Int32) < ww) (hk3 : kn < 3) (k0 : ¬ (own_kk q6) < 0) (kj : (own_kk q6).toNatClampNeg = kn) (ho : (own_of q6).toInt = o) (ho3 : o ≤ 3) (of0 : ¬ (own_of q6) < 0) (ofj : (own_of q6).toNatClampNeg = o) (hkey1 : (w2 = 0 → (own_ucmp (e1 o) (e3 o)) = own_icmp (xv kn) (zv kn)) ∧ (w2 = 1 → ((own_ucmp (e1 o) (e3 o)) = 0 → (own_ucmp (e1 (o + 1)) (e3 (o + 1))) = own_icmp (xv kn) (zv kn)) ∧ ((own_ucmp (e1 o) (e3 o)) ≠ 0 → (own_ucmp (e1 o) (e3 o)) = own_icmp (xv kn) (zv kn)))) :
    ∃ (T' : State) (L' : List Loc) (Ls : Array Slot), Stand p l e room_1 s m args below meth c T' L' 13 50 ∧ T'.heap = h0 ∧ Fr n0 L' ∧ ∀ tg, Steps p.tables e below (T'.setTop (mkF m 584 Ls [(.int (1 : Int32))])) tg → Steps p.tables e below (T0.setTop (mkF m 350 #[vJ q1, .second, vJ q2, .second, vJ q3, .second, vJ q4, .second, vJ q5, .second, vJ q6, .second, vR x1, vR x2, vR ob, vI ww, vR x4, vI (own_kk q6), vR x5, vI (own_of q6), vJ q6, .second, vR y1, vR y2, vR y3, vR ou, .unset, .unset, .unset] [(.int (0 : Int32)), (.ref ou)])) tg := by
  obtain ⟨cl515, Ar515, hin515, hat515⟩ := VO.at (j := (0 : Int32)) (k := 0) (by decide) rfl (by decide)
  have R516 : ∀ tg, Steps p.tables e below (T0.setTop (mkF m 354 #[vJ q1, .second, vJ q2, .second, vJ q3, .second, vJ q4, .second, vJ q5, .second, vJ q6, .second, vR x1, vR x2, vR ob, vI ww, vR x4, vI (own_kk q6), vR x5, vI (own_of q6), vJ q6, .second, vR y1, vR y2, vR y3, vR ou, .unset, .unset, .unset] [(.int (0 : Int32)), (.ref x4), (.int (de 0))])) tg → Steps p.tables e below (T0.setTop (mkF m 350 #[vJ q1, .second, vJ q2, .second, vJ q3, .second, vJ q4, .second, vJ q5, .second, vJ q6, .second, vR x1, vR x2, vR ob, vI ww, vR x4, vI (own_kk q6), vR x5, vI (own_of q6), vJ q6, .second, vR y1, vR y2, vR y3, vR ou, .unset, .unset, .unset] [(.int (0 : Int32)), (.ref ou)])) tg := by
    intro tg kt
    refine (fun (t : State) (k : Steps p.tables e below (T0.setTop (mkF m 350 #[vJ q1, .second, vJ q2, .second, vJ q3, .second, vJ q4, .second, vJ q5, .second, vJ q6, .second, vR x1, vR x2, vR ob, vI ww, vR x4, vI (own_kk q6), vR x5, vI (own_of q6), vJ q6, .second, vR y1, vR y2, vR y3, vR ou, .unset, .unset, .unset] [(.int (0 : Int32)), (.ref ou)])) t) => k) _ ?_
    show Steps p.tables e below (T0.setTop (mkF m 350 #[vJ q1, .second, vJ q2, .second, vJ q3, .second, vJ q4, .second, vJ q5, .second, vJ q6, .second, vR x1, vR x2, vR ob, vI ww, vR x4, vI (own_kk q6), vR x5, vI (own_of q6), vJ q6, .second, vR y1, vR y2, vR y3, vR ou, .unset, .unset, .unset] [(.int (0 : Int32)), (.ref ou)])) _
    refine X0.iaload hx (j := (0 : Int32)) (v := (.int (de 0))) (by rw [e0]; exact Ar515.1) (State.isArrayOf_alike hZ.alike Ar515.2.1) Ar515.2.2 hin515 hat515 (g := (mkF m 350 #[vJ q1, .second, vJ q2, .second, vJ q3, .second, vJ q4, .second, vJ q5, .second, vJ q6, .second, vR x1, vR x2, vR ob, vI ww, vR x4, vI (own_kk q6), vR x5, vI (own_of q6), vJ q6, .second, vR y1, vR y2, vR y3, vR ou, .unset, .unset, .unset] [(.int (0 : Int32)), (.ref ou)])) rfl rfl (hb hby at_350) _ ?_
    refine XS.aload X0.here hx rfl (hb hby at_351) rfl rfl ?_
    refine XS.iconst X0.here hx rfl (hb hby at_353) ?_
    exact kt
  obtain ⟨cl517, Ar517, hin517, hat517⟩ := VX.at (j := (0 : Int32)) (k := 0) (by decide) rfl (by decide)
  have R518 : ∀ tg, Steps p.tables e below (T0.setTop (mkF m 361 #[vJ q1, .second, vJ q2, .second, vJ q3, .second, vJ q4, .second, vJ q5, .second, vJ q6, .second, vR x1, vR x2, vR ob, vI ww, vR x4, vI (own_kk q6), vR x5, vI (own_of q6), vJ q6, .second, vR y1, vR y2, vR y3, vR ou, .unset, .unset, .unset] [(.int (1 : Int32)), (.ref ou)])) tg → Steps p.tables e below (T0.setTop (mkF m 350 #[vJ q1, .second, vJ q2, .second, vJ q3, .second, vJ q4, .second, vJ q5, .second, vJ q6, .second, vR x1, vR x2, vR ob, vI ww, vR x4, vI (own_kk q6), vR x5, vI (own_of q6), vJ q6, .second, vR y1, vR y2, vR y3, vR ou, .unset, .unset, .unset] [(.int (0 : Int32)), (.ref ou)])) tg := by
    intro tg kt
    refine R516 _ ?_
    show Steps p.tables e below (T0.setTop (mkF m 354 #[vJ q1, .second, vJ q2, .second, vJ q3, .second, vJ q4, .second, vJ q5, .second, vJ q6, .second, vR x1, vR x2, vR ob, vI ww, vR x4, vI (own_kk q6), vR x5, vI (own_of q6), vJ q6, .second, vR y1, vR y2, vR y3, vR ou, .unset, .unset, .unset] [(.int (0 : Int32)), (.ref x4), (.int (de 0))])) _
    refine X0.iaload hx (j := (0 : Int32)) (v := (.int (xv 0))) (by rw [e0]; exact Ar517.1) (State.isArrayOf_alike hZ.alike Ar517.2.1) Ar517.2.2 hin517 hat517 (g := (mkF m 354 #[vJ q1, .second, vJ q2, .second, vJ q3, .second, vJ q4, .second, vJ q5, .second, vJ q6, .second, vR x1, vR x2, vR ob, vI ww, vR x4, vI (own_kk q6), vR x5, vI (own_of q6), vJ q6, .second, vR y1, vR y2, vR y3, vR ou, .unset, .unset, .unset] [(.int (0 : Int32)), (.ref x4), (.int (de 0))])) rfl rfl (hb hby at_354) _ ?_
    show Steps p.tables e below (T0.setTop (mkF m 355 #[vJ q1, .second, vJ q2, .second, vJ q3, .second, vJ q4, .second, vJ q5, .second, vJ q6, .second, vR x1, vR x2, vR ob, vI ww, vR x4, vI (own_kk q6), vR x5, vI (own_of q6), vJ q6, .second, vR y1, vR y2, vR y3, vR ou, .unset, .unset, .unset] [(.int (xv 0)), (.int (de 0))])) _
    refine XS.icmpNo X0.here hx rfl (hb hby at_355) rfl (teq (hdec1 0 (by decide) : (de 0) = (xv 0))).2 ?_
    refine XS.aload X0.here hx rfl (hb hby at_358) rfl rfl ?_
    refine XS.iconst X0.here hx rfl (hb hby at_360) ?_
    exact kt
  clear R516
  obtain ⟨cl519, Ar519, hin519, hat519⟩ := VO.at (j := (1 : Int32)) (k := 1) (by decide) rfl (by decide)
  have R520 : ∀ tg, Steps p.tables e below (T0.setTop (mkF m 365 #[vJ q1, .second, vJ q2, .second, vJ q3, .second, vJ q4, .second, vJ q5, .second, vJ q6, .second, vR x1, vR x2, vR ob, vI ww, vR x4, vI (own_kk q6), vR x5, vI (own_of q6), vJ q6, .second, vR y1, vR y2, vR y3, vR ou, .unset, .unset, .unset] [(.int (1 : Int32)), (.ref x4), (.int (de 1))])) tg → Steps p.tables e below (T0.setTop (mkF m 350 #[vJ q1, .second, vJ q2, .second, vJ q3, .second, vJ q4, .second, vJ q5, .second, vJ q6, .second, vR x1, vR x2, vR ob, vI ww, vR x4, vI (own_kk q6), vR x5, vI (own_of q6), vJ q6, .second, vR y1, vR y2, vR y3, vR ou, .unset, .unset, .unset] [(.int (0 : Int32)), (.ref ou)])) tg := by
    intro tg kt
    refine R518 _ ?_
    show Steps p.tables e below (T0.setTop (mkF m 361 #[vJ q1, .second, vJ q2, .second, vJ q3, .second, vJ q4, .second, vJ q5, .second, vJ q6, .second, vR x1, vR x2, vR ob, vI ww, vR x4, vI (own_kk q6), vR x5, vI (own_of q6), vJ q6, .second, vR y1, vR y2, vR y3, vR ou, .unset, .unset, .unset] [(.int (1 : Int32)), (.ref ou)])) _
    refine X0.iaload hx (j := (1 : Int32)) (v := (.int (de 1))) (by rw [e0]; exact Ar519.1) (State.isArrayOf_alike hZ.alike Ar519.2.1) Ar519.2.2 hin519 hat519 (g := (mkF m 361 #[vJ q1, .second, vJ q2, .second, vJ q3, .second, vJ q4, .second, vJ q5, .second, vJ q6, .second, vR x1, vR x2, vR ob, vI ww, vR x4, vI (own_kk q6), vR x5, vI (own_of q6), vJ q6, .second, vR y1, vR y2, vR y3, vR ou, .unset, .unset, .unset] [(.int (1 : Int32)), (.ref ou)])) rfl rfl (hb hby at_361) _ ?_
    refine XS.aload X0.here hx rfl (hb hby at_362) rfl rfl ?_
    refine XS.iconst X0.here hx rfl (hb hby at_364) ?_
    exact kt
  clear R518
  obtain ⟨cl521, Ar521, hin521, hat521⟩ := VX.at (j := (1 : Int32)) (k := 1) (by decide) rfl (by decide)
  have R522 : ∀ tg, Steps p.tables e below (T0.setTop (mkF m 372 #[vJ q1, .second, vJ q2, .second, vJ q3, .second, vJ q4, .second, vJ q5, .second, vJ q6, .second, vR x1, vR x2, vR ob, vI ww, vR x4, vI (own_kk q6), vR x5, vI (own_of q6), vJ q6, .second, vR y1, vR y2, vR y3, vR ou, .unset, .unset, .unset] [(.int (2 : Int32)), (.ref ou)])) tg → Steps p.tables e below (T0.setTop (mkF m 350 #[vJ q1, .second, vJ q2, .second, vJ q3, .second, vJ q4, .second, vJ q5, .second, vJ q6, .second, vR x1, vR x2, vR ob, vI ww, vR x4, vI (own_kk q6), vR x5, vI (own_of q6), vJ q6, .second, vR y1, vR y2, vR y3, vR ou, .unset, .unset, .unset] [(.int (0 : Int32)), (.ref ou)])) tg := by
    intro tg kt
    refine R520 _ ?_
    show Steps p.tables e below (T0.setTop (mkF m 365 #[vJ q1, .second, vJ q2, .second, vJ q3, .second, vJ q4, .second, vJ q5, .second, vJ q6, .second, vR x1, vR x2, vR ob, vI ww, vR x4, vI (own_kk q6), vR x5, vI (own_of q6), vJ q6, .second, vR y1, vR y2, vR y3, vR ou, .unset, .unset, .unset] [(.int (1 : Int32)), (.ref x4), (.int (de 1))])) _
    refine X0.iaload hx (j := (1 : Int32)) (v := (.int (xv 1))) (by rw [e0]; exact Ar521.1) (State.isArrayOf_alike hZ.alike Ar521.2.1) Ar521.2.2 hin521 hat521 (g := (mkF m 365 #[vJ q1, .second, vJ q2, .second, vJ q3, .second, vJ q4, .second, vJ q5, .second, vJ q6, .second, vR x1, vR x2, vR ob, vI ww, vR x4, vI (own_kk q6), vR x5, vI (own_of q6), vJ q6, .second, vR y1, vR y2, vR y3, vR ou, .unset, .unset, .unset] [(.int (1 : Int32)), (.ref x4), (.int (de 1))])) rfl rfl (hb hby at_365) _ ?_
    show Steps p.tables e below (T0.setTop (mkF m 366 #[vJ q1, .second, vJ q2, .second, vJ q3, .second, vJ q4, .second, vJ q5, .second, vJ q6, .second, vR x1, vR x2, vR ob, vI ww, vR x4, vI (own_kk q6), vR x5, vI (own_of q6), vJ q6, .second, vR y1, vR y2, vR y3, vR ou, .unset, .unset, .unset] [(.int (xv 1)), (.int (de 1))])) _
    refine XS.icmpNo X0.here hx rfl (hb hby at_366) rfl (teq (hdec1 1 (by decide) : (de 1) = (xv 1))).2 ?_
    refine XS.aload X0.here hx rfl (hb hby at_369) rfl rfl ?_
    refine XS.iconst X0.here hx rfl (hb hby at_371) ?_
    exact kt
  clear R520
  obtain ⟨cl523, Ar523, hin523, hat523⟩ := VO.at (j := (2 : Int32)) (k := 2) (by decide) rfl (by decide)
  have R524 : ∀ tg, Steps p.tables e below (T0.setTop (mkF m 376 #[vJ q1, .second, vJ q2, .second, vJ q3, .second, vJ q4, .second, vJ q5, .second, vJ q6, .second, vR x1, vR x2, vR ob, vI ww, vR x4, vI (own_kk q6), vR x5, vI (own_of q6), vJ q6, .second, vR y1, vR y2, vR y3, vR ou, .unset, .unset, .unset] [(.int (2 : Int32)), (.ref x4), (.int (de 2))])) tg → Steps p.tables e below (T0.setTop (mkF m 350 #[vJ q1, .second, vJ q2, .second, vJ q3, .second, vJ q4, .second, vJ q5, .second, vJ q6, .second, vR x1, vR x2, vR ob, vI ww, vR x4, vI (own_kk q6), vR x5, vI (own_of q6), vJ q6, .second, vR y1, vR y2, vR y3, vR ou, .unset, .unset, .unset] [(.int (0 : Int32)), (.ref ou)])) tg := by
    intro tg kt
    refine R522 _ ?_
    show Steps p.tables e below (T0.setTop (mkF m 372 #[vJ q1, .second, vJ q2, .second, vJ q3, .second, vJ q4, .second, vJ q5, .second, vJ q6, .second, vR x1, vR x2, vR ob, vI ww, vR x4, vI (own_kk q6), vR x5, vI (own_of q6), vJ q6, .second, vR y1, vR y2, vR y3, vR ou, .unset, .unset, .unset] [(.int (2 : Int32)), (.ref ou)])) _
    refine X0.iaload hx (j := (2 : Int32)) (v := (.int (de 2))) (by rw [e0]; exact Ar523.1) (State.isArrayOf_alike hZ.alike Ar523.2.1) Ar523.2.2 hin523 hat523 (g := (mkF m 372 #[vJ q1, .second, vJ q2, .second, vJ q3, .second, vJ q4, .second, vJ q5, .second, vJ q6, .second, vR x1, vR x2, vR ob, vI ww, vR x4, vI (own_kk q6), vR x5, vI (own_of q6), vJ q6, .second, vR y1, vR y2, vR y3, vR ou, .unset, .unset, .unset] [(.int (2 : Int32)), (.ref ou)])) rfl rfl (hb hby at_372) _ ?_
    refine XS.aload X0.here hx rfl (hb hby at_373) rfl rfl ?_
    refine XS.iconst X0.here hx rfl (hb hby at_375) ?_
    exact kt
  clear R522
  obtain ⟨cl525, Ar525, hin525, hat525⟩ := VX.at (j := (2 : Int32)) (k := 2) (by decide) rfl (by decide)
  have R526 : ∀ tg, Steps p.tables e below (T0.setTop (mkF m 400 #[vJ q1, .second, vJ q2, .second, vJ q3, .second, vJ q4, .second, vJ q5, .second, vJ q6, .second, vR x1, vR x2, vR ob, vI ww, vR x4, vI (own_kk q6), vR x5, vI (own_of q6), vJ q6, .second, vR y1, vR y2, vR y3, vR ou, vI (1 : Int32), .unset, .unset] [(.long q6), (.int ww), (.int (own_of q6)), (.ref y1)])) tg → Steps p.tables e below (T0.setTop (mkF m 350 #[vJ q1, .second, vJ q2, .second, vJ q3, .second, vJ q4, .second, vJ q5, .second, vJ q6, .second, vR x1, vR x2, vR ob, vI ww, vR x4, vI (own_kk q6), vR x5, vI (own_of q6), vJ q6, .second, vR y1, vR y2, vR y3, vR ou, .unset, .unset, .unset] [(.int (0 : Int32)), (.ref ou)])) tg := by
    intro tg kt
    refine R524 _ ?_
    show Steps p.tables e below (T0.setTop (mkF m 376 #[vJ q1, .second, vJ q2, .second, vJ q3, .second, vJ q4, .second, vJ q5, .second, vJ q6, .second, vR x1, vR x2, vR ob, vI ww, vR x4, vI (own_kk q6), vR x5, vI (own_of q6), vJ q6, .second, vR y1, vR y2, vR y3, vR ou, .unset, .unset, .unset] [(.int (2 : Int32)), (.ref x4), (.int (de 2))])) _
    refine X0.iaload hx (j := (2 : Int32)) (v := (.int (xv 2))) (by rw [e0]; exact Ar525.1) (State.isArrayOf_alike hZ.alike Ar525.2.1) Ar525.2.2 hin525 hat525 (g := (mkF m 376 #[vJ q1, .second, vJ q2, .second, vJ q3, .second, vJ q4, .second, vJ q5, .second, vJ q6, .second, vR x1, vR x2, vR ob, vI ww, vR x4, vI (own_kk q6), vR x5, vI (own_of q6), vJ q6, .second, vR y1, vR y2, vR y3, vR ou, .unset, .unset, .unset] [(.int (2 : Int32)), (.ref x4), (.int (de 2))])) rfl rfl (hb hby at_376) _ ?_
    show Steps p.tables e below (T0.setTop (mkF m 377 #[vJ q1, .second, vJ q2, .second, vJ q3, .second, vJ q4, .second, vJ q5, .second, vJ q6, .second, vR x1, vR x2, vR ob, vI ww, vR x4, vI (own_kk q6), vR x5, vI (own_of q6), vJ q6, .second, vR y1, vR y2, vR y3, vR ou, .unset, .unset, .unset] [(.int (xv 2)), (.int (de 2))])) _
    refine XS.icmpNo X0.here hx rfl (hb hby at_377) rfl (teq (hdec1 2 (by decide) : (de 2) = (xv 2))).2 ?_
    refine XS.iconst X0.here hx rfl (hb hby at_380) ?_
    show Steps p.tables e below (T0.setTop (mkF m 381 #[vJ q1, .second, vJ q2, .second, vJ q3, .second, vJ q4, .second, vJ q5, .second, vJ q6, .second, vR x1, vR x2, vR ob, vI ww, vR x4, vI (own_kk q6), vR x5, vI (own_of q6), vJ q6, .second, vR y1, vR y2, vR y3, vR ou, .unset, .unset, .unset] [(.int (1 : Int32))])) _
    refine XS.goto X0.here hx rfl (pc0 := 381) (pc' := 385) rfl (hb hby at_381) (by decide) (by decide) ?_
    show Steps p.tables e below (T0.setTop (mkF m 385 #[vJ q1, .second, vJ q2, .second, vJ q3, .second, vJ q4, .second, vJ q5, .second, vJ q6, .second, vR x1, vR x2, vR ob, vI ww, vR x4, vI (own_kk q6), vR x5, vI (own_of q6), vJ q6, .second, vR y1, vR y2, vR y3, vR ou, .unset, .unset, .unset] [(.int (1 : Int32))])) _
    refine XS.istore X0.here hx rfl (hb hby at_385) rfl (l' := #[vJ q1, .second, vJ q2, .second, vJ q3, .second, vJ q4, .second, vJ q5, .second, vJ q6, .second, vR x1, vR x2, vR ob, vI ww, vR x4, vI (own_kk q6), vR x5, vI (own_of q6), vJ q6, .second, vR y1, vR y2, vR y3, vR ou, vI (1 : Int32), .unset, .unset]) rfl ?_
    refine XS.iload X0.here hx rfl (hb hby at_387) rfl ?_
    show Steps p.tables e below (T0.setTop (mkF m 389 #[vJ q1, .second, vJ q2, .second, vJ q3, .second, vJ q4, .second, vJ q5, .second, vJ q6, .second, vR x1, vR x2, vR ob, vI ww, vR x4, vI (own_kk q6), vR x5, vI (own_of q6), vJ q6, .second, vR y1, vR y2, vR y3, vR ou, vI (1 : Int32), .unset, .unset] [(.int (1 : Int32))])) _
    refine XS.ifNo X0.here hx rfl (hb hby at_389) rfl ((if0 _ _).trans (feq (by decide : ¬ ((1 : Int32) = (0 : Int32)))).1) ?_
    refine XS.aload X0.here hx rfl (hb hby at_392) rfl rfl ?_
    refine XS.iload X0.here hx rfl (hb hby at_394) rfl ?_
    show Steps p.tables e below (T0.setTop (mkF m 396 #[vJ q1, .second, vJ q2, .second, vJ q3, .second, vJ q4, .second, vJ q5, .second, vJ q6, .second, vR x1, vR x2, vR ob, vI ww, vR x4, vI (own_kk q6), vR x5, vI (own_of q6), vJ q6, .second, vR y1, vR y2, vR y3, vR ou, vI (1 : Int32), .unset, .unset] [(.int (own_of q6)), (.ref y1)])) _
    refine XS.iload X0.here hx rfl (hb hby at_396) rfl ?_
    refine XS.lload X0.here hx rfl (hb hby at_398) rfl ?_
    exact kt
  clear R524
  obtain ⟨_, _, ⟨T527, L527, k527, n527⟩, -, X527, ⟨Lc527, hQ527, l527, y527, z527⟩, st527⟩ := Jvm.LawKit.callS X0 hx (y := (⟨"com/example/inexact_odds/inexactodds/language/EncodingEncodePinLaw", "outsideKept", "([JIIJ)Z"⟩ : MethodName)) hown (mvT hZ (hw _ (List.mem_of_getElem? (i := 72) rfl))) (mvT hZ (hw _ (List.mem_of_getElem? (i := 73) rfl))) (mvT hZ (hw _ (List.mem_of_getElem? (i := 54) rfl))) (mvT hZ (hw _ (List.mem_of_getElem? (i := 74) rfl))) (by decide) (backOf (W := 0) (rm_out l Z a0 hw [] y1 (own_of q6) ww q6 e1 h0 n0 Z0 Y1 HO1) hZ (hw _ (List.mem_of_getElem? (i := 74) rfl)) (hw _ (List.mem_of_getElem? (i := 54) rfl)) (by decide) (by decide)) (g := (mkF m 400 #[vJ q1, .second, vJ q2, .second, vJ q3, .second, vJ q4, .second, vJ q5, .second, vJ q6, .second, vR x1, vR x2, vR ob, vI ww, vR x4, vI (own_kk q6), vR x5, vI (own_of q6), vJ q6, .second, vR y1, vR y2, vR y3, vR ou, vI (1 : Int32), .unset, .unset] [(.long q6), (.int ww), (.int (own_of q6)), (.ref y1)])) rfl (by rw [hml]; rfl) (argsL := [(.ref y1), (.int (own_of q6)), (.int ww), (.long q6)]) (rest := []) (lenOf pd_5 rfl) rfl (by show 2 * 0 + _ ≤ _; exact Nat.le_of_eq rfl) (hb hby at_400) (fun _ _ => ⟨rfl, e0, (by decide : 13 + 0 ≤ _), (by decide : 50 + 0 ≤ _)⟩)
  dsimp only [Pt.U, Pt.locs, Pt.cells, Pt.slots] at X527 l527 y527 z527 st527 hQ527
  rw [l527, y527, z527] at X527
  obtain ⟨rfl, N527q, hh527⟩ := hQ527
  have N527 := Fr.app N0 N527q
  have R528 : ∀ tg, Steps p.tables e below (T527.setTop (mkF m 418 #[vJ q1, .second, vJ q2, .second, vJ q3, .second, vJ q4, .second, vJ q5, .second, vJ q6, .second, vR x1, vR x2, vR ob, vI ww, vR x4, vI (own_kk q6), vR x5, vI (own_of q6), vJ q6, .second, vR y1, vR y2, vR y3, vR ou, vI (1 : Int32), .unset, .unset] [(.long (q6 ^^^ (-1 : Int64))), (.int ww), (.int (own_of q6)), (.ref y2)])) tg → Steps p.tables e below (T0.setTop (mkF m 350 #[vJ q1, .second, vJ q2, .second, vJ q3, .second, vJ q4, .second, vJ q5, .second, vJ q6, .second, vR x1, vR x2, vR ob, vI ww, vR x4, vI (own_kk q6), vR x5, vI (own_of q6), vJ q6, .second, vR y1, vR y2, vR y3, vR ou, .unset, .unset, .unset] [(.int (0 : Int32)), (.ref ou)])) tg := by
    intro tg kt
    refine R526 _ ?_
    refine st527 _ ?_
    show Steps p.tables e below (T527.setTop (mkF m 403 #[vJ q1, .second, vJ q2, .second, vJ q3, .second, vJ q4, .second, vJ q5, .second, vJ q6, .second, vR x1, vR x2, vR ob, vI ww, vR x4, vI (own_kk q6), vR x5, vI (own_of q6), vJ q6, .second, vR y1, vR y2, vR y3, vR ou, vI (1 : Int32), .unset, .unset] [(.int (1 : Int32))])) _
    refine XS.ifNo X527.here hx rfl (hb hby at_403) rfl ((if0 _ _).trans (feq (by decide : ¬ ((1 : Int32) = (0 : Int32)))).1) ?_
    refine XS.aload X527.here hx rfl (hb hby at_406) rfl rfl ?_
    refine XS.iload X527.here hx rfl (hb hby at_408) rfl ?_
    show Steps p.tables e below (T527.setTop (mkF m 410 #[vJ q1, .second, vJ q2, .second, vJ q3, .second, vJ q4, .second, vJ q5, .second, vJ q6, .second, vR x1, vR x2, vR ob, vI ww, vR x4, vI (own_kk q6), vR x5, vI (own_of q6), vJ q6, .second, vR y1, vR y2, vR y3, vR ou, vI (1 : Int32), .unset, .unset] [(.int (own_of q6)), (.ref y2)])) _
    refine XS.iload X527.here hx rfl (hb hby at_410) rfl ?_
    refine XS.lload X527.here hx rfl (hb hby at_412) rfl ?_
    show Steps p.tables e below (T527.setTop (mkF m 414 #[vJ q1, .second, vJ q2, .second, vJ q3, .second, vJ q4, .second, vJ q5, .second, vJ q6, .second, vR x1, vR x2, vR ob, vI ww, vR x4, vI (own_kk q6), vR x5, vI (own_of q6), vJ q6, .second, vR y1, vR y2, vR y3, vR ou, vI (1 : Int32), .unset, .unset] [(.long q6), (.int ww), (.int (own_of q6)), (.ref y2)])) _
    refine X527.ldc2Long hx hown (mvT hZ (hw _ (List.mem_of_getElem? (i := 61) rfl))) (g := (mkF m 414 #[vJ q1, .second, vJ q2, .second, vJ q3, .second, vJ q4, .second, vJ q5, .second, vJ q6, .second, vR x1, vR x2, vR ob, vI ww, vR x4, vI (own_kk q6), vR x5, vI (own_of q6), vJ q6, .second, vR y1, vR y2, vR y3, vR ou, vI (1 : Int32), .unset, .unset] [(.long q6), (.int ww), (.int (own_of q6)), (.ref y2)])) rfl (hb hby at_414) _ ?_
    show Steps p.tables e below (T527.setTop (mkF m 417 #[vJ q1, .second, vJ q2, .second, vJ q3, .second, vJ q4, .second, vJ q5, .second, vJ q6, .second, vR x1, vR x2, vR ob, vI ww, vR x4, vI (own_kk q6), vR x5, vI (own_of q6), vJ q6, .second, vR y1, vR y2, vR y3, vR ou, vI (1 : Int32), .unset, .unset] [(.long (-1 : Int64)), (.long q6), (.int ww), (.int (own_of q6)), (.ref y2)])) _
    refine XS.lxor X527.here hx rfl (hb hby at_417) rfl ?_
    exact kt
  clear R526 st527
  obtain ⟨_, _, ⟨T529, L529, k529, n529⟩, -, X529, ⟨Lc529, hQ529, l529, y529, z529⟩, st529⟩ := Jvm.LawKit.callS X527 hx (y := (⟨"com/example/inexact_odds/inexactodds/language/EncodingEncodePinLaw", "outsideKept", "([JIIJ)Z"⟩ : MethodName)) hown (mvT hZ (hw _ (List.mem_of_getElem? (i := 72) rfl))) (mvT hZ (hw _ (List.mem_of_getElem? (i := 73) rfl))) (mvT hZ (hw _ (List.mem_of_getElem? (i := 54) rfl))) (mvT hZ (hw _ (List.mem_of_getElem? (i := 74) rfl))) (by decide) (backOf (W := 0) (rm_out l Z a0 hw [] y2 (own_of q6) ww (q6 ^^^ (-1 : Int64)) e2 h0 n0 Z0 Y2 HO2) hZ (hw _ (List.mem_of_getElem? (i := 74) rfl)) (hw _ (List.mem_of_getElem? (i := 54) rfl)) (by decide) (by decide)) (g := (mkF m 418 #[vJ q1, .second, vJ q2, .second, vJ q3, .second, vJ q4, .second, vJ q5, .second, vJ q6, .second, vR x1, vR x2, vR ob, vI ww, vR x4, vI (own_kk q6), vR x5, vI (own_of q6), vJ q6, .second, vR y1, vR y2, vR y3, vR ou, vI (1 : Int32), .unset, .unset] [(.long (q6 ^^^ (-1 : Int64))), (.int ww), (.int (own_of q6)), (.ref y2)])) rfl (by rw [hml]; rfl) (argsL := [(.ref y2), (.int (own_of q6)), (.int ww), (.long (q6 ^^^ (-1 : Int64)))]) (rest := []) (lenOf pd_5 rfl) rfl (by show 2 * 0 + _ ≤ _; exact Nat.le_of_eq rfl) (hb hby at_418) (fun _ _ => ⟨rfl, hh527, (by decide : 13 + 0 ≤ _), (by decide : 50 + 0 ≤ _)⟩)
  dsimp only [Pt.U, Pt.locs, Pt.cells, Pt.slots] at X529 l529 y529 z529 st529 hQ529
  rw [l529, y529, z529] at X529
  obtain ⟨rfl, N529q, hh529⟩ := hQ529
  have N529 := Fr.app N527 N529q
  have R530 : ∀ tg, Steps p.tables e below (T529.setTop (mkF m 432 #[vJ q1, .second, vJ q2, .second, vJ q3, .second, vJ q4, .second, vJ q5, .second, vJ q6, .second, vR x1, vR x2, vR ob, vI ww, vR x4, vI (own_kk q6), vR x5, vI (own_of q6), vJ q6, .second, vR y1, vR y2, vR y3, vR ou, vI (1 : Int32), .unset, .unset] [(.long q6), (.int ww), (.int (own_of q6)), (.ref y3)])) tg → Steps p.tables e below (T0.setTop (mkF m 350 #[vJ q1, .second, vJ q2, .second, vJ q3, .second, vJ q4, .second, vJ q5, .second, vJ q6, .second, vR x1, vR x2, vR ob, vI ww, vR x4, vI (own_kk q6), vR x5, vI (own_of q6), vJ q6, .second, vR y1, vR y2, vR y3, vR ou, .unset, .unset, .unset] [(.int (0 : Int32)), (.ref ou)])) tg := by
    intro tg kt
    refine R528 _ ?_
    refine st529 _ ?_
    show Steps p.tables e below (T529.setTop (mkF m 421 #[vJ q1, .second, vJ q2, .second, vJ q3, .second, vJ q4, .second, vJ q5, .second, vJ q6, .second, vR x1, vR x2, vR ob, vI ww, vR x4, vI (own_kk q6), vR x5, vI (own_of q6), vJ q6, .second, vR y1, vR y2, vR y3, vR ou, vI (1 : Int32), .unset, .unset] [(.int (1 : Int32))])) _
    refine XS.ifNo X529.here hx rfl (hb hby at_421) rfl ((if0 _ _).trans (feq (by decide : ¬ ((1 : Int32) = (0 : Int32)))).1) ?_
    refine XS.aload X529.here hx rfl (hb hby at_424) rfl rfl ?_
    refine XS.iload X529.here hx rfl (hb hby at_426) rfl ?_
    show Steps p.tables e below (T529.setTop (mkF m 428 #[vJ q1, .second, vJ q2, .second, vJ q3, .second, vJ q4, .second, vJ q5, .second, vJ q6, .second, vR x1, vR x2, vR ob, vI ww, vR x4, vI (own_kk q6), vR x5, vI (own_of q6), vJ q6, .second, vR y1, vR y2, vR y3, vR ou, vI (1 : Int32), .unset, .unset] [(.int (own_of q6)), (.ref y3)])) _
    refine XS.iload X529.here hx rfl (hb hby at_428) rfl ?_
    refine XS.lload X529.here hx rfl (hb hby at_430) rfl ?_
    exact kt
  clear R528 st529
  obtain ⟨_, _, ⟨T531, L531, k531, n531⟩, -, X531, ⟨Lc531, hQ531, l531, y531, z531⟩, st531⟩ := Jvm.LawKit.callS X529 hx (y := (⟨"com/example/inexact_odds/inexactodds/language/EncodingEncodePinLaw", "outsideKept", "([JIIJ)Z"⟩ : MethodName)) hown (mvT hZ (hw _ (List.mem_of_getElem? (i := 72) rfl))) (mvT hZ (hw _ (List.mem_of_getElem? (i := 73) rfl))) (mvT hZ (hw _ (List.mem_of_getElem? (i := 54) rfl))) (mvT hZ (hw _ (List.mem_of_getElem? (i := 74) rfl))) (by decide) (backOf (W := 0) (rm_out l Z a0 hw [] y3 (own_of q6) ww q6 e3 h0 n0 Z0 Y3 HO3) hZ (hw _ (List.mem_of_getElem? (i := 74) rfl)) (hw _ (List.mem_of_getElem? (i := 54) rfl)) (by decide) (by decide)) (g := (mkF m 432 #[vJ q1, .second, vJ q2, .second, vJ q3, .second, vJ q4, .second, vJ q5, .second, vJ q6, .second, vR x1, vR x2, vR ob, vI ww, vR x4, vI (own_kk q6), vR x5, vI (own_of q6), vJ q6, .second, vR y1, vR y2, vR y3, vR ou, vI (1 : Int32), .unset, .unset] [(.long q6), (.int ww), (.int (own_of q6)), (.ref y3)])) rfl (by rw [hml]; rfl) (argsL := [(.ref y3), (.int (own_of q6)), (.int ww), (.long q6)]) (rest := []) (lenOf pd_5 rfl) rfl (by show 2 * 0 + _ ≤ _; exact Nat.le_of_eq rfl) (hb hby at_432) (fun _ _ => ⟨rfl, hh529, (by decide : 13 + 0 ≤ _), (by decide : 50 + 0 ≤ _)⟩)
  dsimp only [Pt.U, Pt.locs, Pt.cells, Pt.slots] at X531 l531 y531 z531 st531 hQ531
  rw [l531, y531, z531] at X531
  obtain ⟨rfl, N531q, hh531⟩ := hQ531
  have N531 := Fr.app N529 N531q
  have R532 : ∀ tg, Steps p.tables e below (T531.setTop (mkF m 454 #[vJ q1, .second, vJ q2, .second, vJ q3, .second, vJ q4, .second, vJ q5, .second, vJ q6, .second, vR x1, vR x2, vR ob, vI ww, vR x4, vI (own_kk q6), vR x5, vI (own_of q6), vJ q6, .second, vR y1, vR y2, vR y3, vR ou, vI (1 : Int32), .unset, .unset] [(.int (own_of q6)), (.ref y2)])) tg → Steps p.tables e below (T0.setTop (mkF m 350 #[vJ q1, .second, vJ q2, .second, vJ q3, .second, vJ q4, .second, vJ q5, .second, vJ q6, .second, vR x1, vR x2, vR ob, vI ww, vR x4, vI (own_kk q6), vR x5, vI (own_of q6), vJ q6, .second, vR y1, vR y2, vR y3, vR ou, .unset, .unset, .unset] [(.int (0 : Int32)), (.ref ou)])) tg := by
    intro tg kt
    refine R530 _ ?_
    refine st531 _ ?_
    show Steps p.tables e below (T531.setTop (mkF m 435 #[vJ q1, .second, vJ q2, .second, vJ q3, .second, vJ q4, .second, vJ q5, .second, vJ q6, .second, vR x1, vR x2, vR ob, vI ww, vR x4, vI (own_kk q6), vR x5, vI (own_of q6), vJ q6, .second, vR y1, vR y2, vR y3, vR ou, vI (1 : Int32), .unset, .unset] [(.int (1 : Int32))])) _
    refine XS.ifNo X531.here hx rfl (hb hby at_435) rfl ((if0 _ _).trans (feq (by decide : ¬ ((1 : Int32) = (0 : Int32)))).1) ?_
    refine XS.iconst X531.here hx rfl (hb hby at_438) ?_
    show Steps p.tables e below (T531.setTop (mkF m 439 #[vJ q1, .second, vJ q2, .second, vJ q3, .second, vJ q4, .second, vJ q5, .second, vJ q6, .second, vR x1, vR x2, vR ob, vI ww, vR x4, vI (own_kk q6), vR x5, vI (own_of q6), vJ q6, .second, vR y1, vR y2, vR y3, vR ou, vI (1 : Int32), .unset, .unset] [(.int (1 : Int32))])) _
    refine XS.goto X531.here hx rfl (pc0 := 439) (pc' := 443) rfl (hb hby at_439) (by decide) (by decide) ?_
    show Steps p.tables e below (T531.setTop (mkF m 443 #[vJ q1, .second, vJ q2, .second, vJ q3, .second, vJ q4, .second, vJ q5, .second, vJ q6, .second, vR x1, vR x2, vR ob, vI ww, vR x4, vI (own_kk q6), vR x5, vI (own_of q6), vJ q6, .second, vR y1, vR y2, vR y3, vR ou, vI (1 : Int32), .unset, .unset] [(.int (1 : Int32))])) _
    refine XS.istore X531.here hx rfl (hb hby at_443) rfl (l' := #[vJ q1, .second, vJ q2, .second, vJ q3, .second, vJ q4, .second, vJ q5, .second, vJ q6, .second, vR x1, vR x2, vR ob, vI ww, vR x4, vI (own_kk q6), vR x5, vI (own_of q6), vJ q6, .second, vR y1, vR y2, vR y3, vR ou, vI (1 : Int32), .unset, .unset]) rfl ?_
    refine XS.iload X531.here hx rfl (hb hby at_445) rfl ?_
    show Steps p.tables e below (T531.setTop (mkF m 447 #[vJ q1, .second, vJ q2, .second, vJ q3, .second, vJ q4, .second, vJ q5, .second, vJ q6, .second, vR x1, vR x2, vR ob, vI ww, vR x4, vI (own_kk q6), vR x5, vI (own_of q6), vJ q6, .second, vR y1, vR y2, vR y3, vR ou, vI (1 : Int32), .unset, .unset] [(.int (1 : Int32))])) _
    refine XS.ifNo X531.here hx rfl (hb hby at_447) rfl ((if0 _ _).trans (feq (by decide : ¬ ((1 : Int32) = (0 : Int32)))).1) ?_
    refine XS.aload X531.here hx rfl (hb hby at_450) rfl rfl ?_
    refine XS.iload X531.here hx rfl (hb hby at_452) rfl ?_
    exact kt
  clear R530 st531
  obtain ⟨cl533, Ar533, hin533, hat533⟩ := Y2.at (j := (own_of q6)) (k := o) of0 ofj (own_o7 ho3)
  have R534 : ∀ tg, Steps p.tables e below (T531.setTop (mkF m 463 #[vJ q1, .second, vJ q2, .second, vJ q3, .second, vJ q4, .second, vJ q5, .second, vJ q6, .second, vR x1, vR x2, vR ob, vI ww, vR x4, vI (own_kk q6), vR x5, vI (own_of q6), vJ q6, .second, vR y1, vR y2, vR y3, vR ou, vI (1 : Int32), .unset, .unset] [(.int (2 : Int32)), (.int ww)])) tg → Steps p.tables e below (T0.setTop (mkF m 350 #[vJ q1, .second, vJ q2, .second, vJ q3, .second, vJ q4, .second, vJ q5, .second, vJ q6, .second, vR x1, vR x2, vR ob, vI ww, vR x4, vI (own_kk q6), vR x5, vI (own_of q6), vJ q6, .second, vR y1, vR y2, vR y3, vR ou, .unset, .unset, .unset] [(.int (0 : Int32)), (.ref ou)])) tg := by
    intro tg kt
    refine R532 _ ?_
    show Steps p.tables e below (T531.setTop (mkF m 454 #[vJ q1, .second, vJ q2, .second, vJ q3, .second, vJ q4, .second, vJ q5, .second, vJ q6, .second, vR x1, vR x2, vR ob, vI ww, vR x4, vI (own_kk q6), vR x5, vI (own_of q6), vJ q6, .second, vR y1, vR y2, vR y3, vR ou, vI (1 : Int32), .unset, .unset] [(.int (own_of q6)), (.ref y2)])) _
    refine X531.laload hx (j := (own_of q6)) (v := (.long (e2 o))) (by rw [hh531]; exact Ar533.1) (State.isArrayOf_alike hZ.alike Ar533.2.1) Ar533.2.2 hin533 hat533 (g := (mkF m 454 #[vJ q1, .second, vJ q2, .second, vJ q3, .second, vJ q4, .second, vJ q5, .second, vJ q6, .second, vR x1, vR x2, vR ob, vI ww, vR x4, vI (own_kk q6), vR x5, vI (own_of q6), vJ q6, .second, vR y1, vR y2, vR y3, vR ou, vI (1 : Int32), .unset, .unset] [(.int (own_of q6)), (.ref y2)])) rfl rfl (hb hby at_454) _ ?_
    refine XS.lconst X531.here hx rfl (hb hby at_455) ?_
    show Steps p.tables e below (T531.setTop (mkF m 456 #[vJ q1, .second, vJ q2, .second, vJ q3, .second, vJ q4, .second, vJ q5, .second, vJ q6, .second, vR x1, vR x2, vR ob, vI ww, vR x4, vI (own_kk q6), vR x5, vI (own_of q6), vJ q6, .second, vR y1, vR y2, vR y3, vR ou, vI (1 : Int32), .unset, .unset] [(.long (0 : Int64)), (.long (e2 o))])) _
    refine XS.lcmp X531.here hx rfl (hb hby at_456) rfl ?_
    show Steps p.tables e below (T531.setTop (mkF m 457 #[vJ q1, .second, vJ q2, .second, vJ q3, .second, vJ q4, .second, vJ q5, .second, vJ q6, .second, vR x1, vR x2, vR ob, vI ww, vR x4, vI (own_kk q6), vR x5, vI (own_of q6), vJ q6, .second, vR y1, vR y2, vR y3, vR ou, vI (1 : Int32), .unset, .unset] [(.int (lcmpW (e2 o) (0 : Int64)))])) _
    refine XS.ifNo X531.here hx rfl (hb hby at_457) rfl ((if0 _ _).trans (teq ((lw_eq _ _).mpr zl0 : (lcmpW (e2 o) (0 : Int64)) = (0 : Int32))).2) ?_
    refine XS.iload X531.here hx rfl (hb hby at_460) rfl ?_
    refine XS.iconst X531.here hx rfl (hb hby at_462) ?_
    exact kt
  clear R532
  rcases hw2 with hwv | hwv
  · have R535 : ∀ tg, Steps p.tables e below (T531.setTop (mkF m 489 #[vJ q1, .second, vJ q2, .second, vJ q3, .second, vJ q4, .second, vJ q5, .second, vJ q6, .second, vR x1, vR x2, vR ob, vI ww, vR x4, vI (own_kk q6), vR x5, vI (own_of q6), vJ q6, .second, vR y1, vR y2, vR y3, vR ou, vI (1 : Int32), .unset, .unset] [(.int (own_of q6)), (.ref y1)])) tg → Steps p.tables e below (T0.setTop (mkF m 350 #[vJ q1, .second, vJ q2, .second, vJ q3, .second, vJ q4, .second, vJ q5, .second, vJ q6, .second, vR x1, vR x2, vR ob, vI ww, vR x4, vI (own_kk q6), vR x5, vI (own_of q6), vJ q6, .second, vR y1, vR y2, vR y3, vR ou, .unset, .unset, .unset] [(.int (0 : Int32)), (.ref ou)])) tg := by
      intro tg kt
      refine R534 _ ?_
      show Steps p.tables e below (T531.setTop (mkF m 463 #[vJ q1, .second, vJ q2, .second, vJ q3, .second, vJ q4, .second, vJ q5, .second, vJ q6, .second, vR x1, vR x2, vR ob, vI ww, vR x4, vI (own_kk q6), vR x5, vI (own_of q6), vJ q6, .second, vR y1, vR y2, vR y3, vR ou, vI (1 : Int32), .unset, .unset] [(.int (2 : Int32)), (.int ww)])) _
      refine XS.icmpYes X531.here hx rfl (pc0 := 463) (pc' := 478) rfl (hb hby at_463) rfl (tlt ((W3 hwv).1 : ww < (2 : Int32))).1 (by decide) (by decide) ?_
      refine XS.iconst X531.here hx rfl (hb hby at_478) ?_
      show Steps p.tables e below (T531.setTop (mkF m 479 #[vJ q1, .second, vJ q2, .second, vJ q3, .second, vJ q4, .second, vJ q5, .second, vJ q6, .second, vR x1, vR x2, vR ob, vI ww, vR x4, vI (own_kk q6), vR x5, vI (own_of q6), vJ q6, .second, vR y1, vR y2, vR y3, vR ou, vI (1 : Int32), .unset, .unset] [(.int (1 : Int32))])) _
      refine XS.goto X531.here hx rfl (pc0 := 479) (pc' := 483) rfl (hb hby at_479) (by decide) (by decide) ?_
      show Steps p.tables e below (T531.setTop (mkF m 483 #[vJ q1, .second, vJ q2, .second, vJ q3, .second, vJ q4, .second, vJ q5, .second, vJ q6, .second, vR x1, vR x2, vR ob, vI ww, vR x4, vI (own_kk q6), vR x5, vI (own_of q6), vJ q6, .second, vR y1, vR y2, vR y3, vR ou, vI (1 : Int32), .unset, .unset] [(.int (1 : Int32))])) _
      refine XS.istore X531.here hx rfl (hb hby at_483) rfl (l' := #[vJ q1, .second, vJ q2, .second, vJ q3, .second, vJ q4, .second, vJ q5, .second, vJ q6, .second, vR x1, vR x2, vR ob, vI ww, vR x4, vI (own_kk q6), vR x5, vI (own_of q6), vJ q6, .second, vR y1, vR y2, vR y3, vR ou, vI (1 : Int32), .unset, .unset]) rfl ?_
      refine XS.aload X531.here hx rfl (hb hby at_485) rfl rfl ?_
      refine XS.iload X531.here hx rfl (hb hby at_487) rfl ?_
      exact kt
    clear R534
    obtain ⟨cl536, Ar536, hin536, hat536⟩ := Y1.at (j := (own_of q6)) (k := o) of0 ofj (own_o7 ho3)
    have R537 : ∀ tg, Steps p.tables e below (T531.setTop (mkF m 494 #[vJ q1, .second, vJ q2, .second, vJ q3, .second, vJ q4, .second, vJ q5, .second, vJ q6, .second, vR x1, vR x2, vR ob, vI ww, vR x4, vI (own_kk q6), vR x5, vI (own_of q6), vJ q6, .second, vR y1, vR y2, vR y3, vR ou, vI (1 : Int32), .unset, .unset] [(.int (own_of q6)), (.ref y3), (.long (e1 o))])) tg → Steps p.tables e below (T0.setTop (mkF m 350 #[vJ q1, .second, vJ q2, .second, vJ q3, .second, vJ q4, .second, vJ q5, .second, vJ q6, .second, vR x1, vR x2, vR ob, vI ww, vR x4, vI (own_kk q6), vR x5, vI (own_of q6), vJ q6, .second, vR y1, vR y2, vR y3, vR ou, .unset, .unset, .unset] [(.int (0 : Int32)), (.ref ou)])) tg := by
      intro tg kt
      refine R535 _ ?_
      show Steps p.tables e below (T531.setTop (mkF m 489 #[vJ q1, .second, vJ q2, .second, vJ q3, .second, vJ q4, .second, vJ q5, .second, vJ q6, .second, vR x1, vR x2, vR ob, vI ww, vR x4, vI (own_kk q6), vR x5, vI (own_of q6), vJ q6, .second, vR y1, vR y2, vR y3, vR ou, vI (1 : Int32), .unset, .unset] [(.int (own_of q6)), (.ref y1)])) _
      refine X531.laload hx (j := (own_of q6)) (v := (.long (e1 o))) (by rw [hh531]; exact Ar536.1) (State.isArrayOf_alike hZ.alike Ar536.2.1) Ar536.2.2 hin536 hat536 (g := (mkF m 489 #[vJ q1, .second, vJ q2, .second, vJ q3, .second, vJ q4, .second, vJ q5, .second, vJ q6, .second, vR x1, vR x2, vR ob, vI ww, vR x4, vI (own_kk q6), vR x5, vI (own_of q6), vJ q6, .second, vR y1, vR y2, vR y3, vR ou, vI (1 : Int32), .unset, .unset] [(.int (own_of q6)), (.ref y1)])) rfl rfl (hb hby at_489) _ ?_
      refine XS.aload X531.here hx rfl (hb hby at_490) rfl rfl ?_
      refine XS.iload X531.here hx rfl (hb hby at_492) rfl ?_
      exact kt
    clear R535
    obtain ⟨cl538, Ar538, hin538, hat538⟩ := Y3.at (j := (own_of q6)) (k := o) of0 ofj (own_o7 ho3)
    have R539 : ∀ tg, Steps p.tables e below (T531.setTop (mkF m 495 #[vJ q1, .second, vJ q2, .second, vJ q3, .second, vJ q4, .second, vJ q5, .second, vJ q6, .second, vR x1, vR x2, vR ob, vI ww, vR x4, vI (own_kk q6), vR x5, vI (own_of q6), vJ q6, .second, vR y1, vR y2, vR y3, vR ou, vI (1 : Int32), .unset, .unset] [(.long (e3 o)), (.long (e1 o))])) tg → Steps p.tables e below (T0.setTop (mkF m 350 #[vJ q1, .second, vJ q2, .second, vJ q3, .second, vJ q4, .second, vJ q5, .second, vJ q6, .second, vR x1, vR x2, vR ob, vI ww, vR x4, vI (own_kk q6), vR x5, vI (own_of q6), vJ q6, .second, vR y1, vR y2, vR y3, vR ou, .unset, .unset, .unset] [(.int (0 : Int32)), (.ref ou)])) tg := by
      intro tg kt
      refine R537 _ ?_
      show Steps p.tables e below (T531.setTop (mkF m 494 #[vJ q1, .second, vJ q2, .second, vJ q3, .second, vJ q4, .second, vJ q5, .second, vJ q6, .second, vR x1, vR x2, vR ob, vI ww, vR x4, vI (own_kk q6), vR x5, vI (own_of q6), vJ q6, .second, vR y1, vR y2, vR y3, vR ou, vI (1 : Int32), .unset, .unset] [(.int (own_of q6)), (.ref y3), (.long (e1 o))])) _
      refine X531.laload hx (j := (own_of q6)) (v := (.long (e3 o))) (by rw [hh531]; exact Ar538.1) (State.isArrayOf_alike hZ.alike Ar538.2.1) Ar538.2.2 hin538 hat538 (g := (mkF m 494 #[vJ q1, .second, vJ q2, .second, vJ q3, .second, vJ q4, .second, vJ q5, .second, vJ q6, .second, vR x1, vR x2, vR ob, vI ww, vR x4, vI (own_kk q6), vR x5, vI (own_of q6), vJ q6, .second, vR y1, vR y2, vR y3, vR ou, vI (1 : Int32), .unset, .unset] [(.int (own_of q6)), (.ref y3), (.long (e1 o))])) rfl rfl (hb hby at_494) _ ?_
      exact kt
    clear R537
    obtain ⟨_, _, ⟨T540, L540, k540, n540⟩, -, X540, ⟨Lc540, hQ540, l540, y540, z540⟩, st540⟩ := Jvm.LawKit.callS X531 hx (y := (⟨"com/example/inexact_odds/inexactodds/language/EncodingEncodePinLaw", "ucmp", "(JJ)I"⟩ : MethodName)) hown (mvT hZ (hw _ (List.mem_of_getElem? (i := 75) rfl))) (mvT hZ (hw _ (List.mem_of_getElem? (i := 76) rfl))) (mvT hZ (hw _ (List.mem_of_getElem? (i := 54) rfl))) (mvT hZ (hw _ (List.mem_of_getElem? (i := 77) rfl))) (by decide) (backOf (W := 0) (rm_ucmp l Z a0 hw [] (e1 o) (e3 o) h0 n0 Z0) hZ (hw _ (List.mem_of_getElem? (i := 77) rfl)) (hw _ (List.mem_of_getElem? (i := 54) rfl)) (by decide) (by decide)) (g := (mkF m 495 #[vJ q1, .second, vJ q2, .second, vJ q3, .second, vJ q4, .second, vJ q5, .second, vJ q6, .second, vR x1, vR x2, vR ob, vI ww, vR x4, vI (own_kk q6), vR x5, vI (own_of q6), vJ q6, .second, vR y1, vR y2, vR y3, vR ou, vI (1 : Int32), .unset, .unset] [(.long (e3 o)), (.long (e1 o))])) rfl (by rw [hml]; rfl) (argsL := [(.long (e1 o)), (.long (e3 o))]) (rest := []) (lenOf pd_6 rfl) rfl (by show 2 * 0 + _ ≤ _; exact Nat.le_of_eq rfl) (hb hby at_495) (fun _ _ => ⟨rfl, hh531, (by decide : 13 + 0 ≤ _), (by decide : 50 + 0 ≤ _)⟩)
    dsimp only [Pt.U, Pt.locs, Pt.cells, Pt.slots] at X540 l540 y540 z540 st540 hQ540
    rw [l540, y540, z540] at X540
    obtain ⟨rfl, N540q, hh540⟩ := hQ540
    have N540 := Fr.app N531 N540q
    have R541 : ∀ tg, Steps p.tables e below (T540.setTop (mkF m 502 #[vJ q1, .second, vJ q2, .second, vJ q3, .second, vJ q4, .second, vJ q5, .second, vJ q6, .second, vR x1, vR x2, vR ob, vI ww, vR x4, vI (own_kk q6), vR x5, vI (own_of q6), vJ q6, .second, vR y1, vR y2, vR y3, vR ou, vI (1 : Int32), vI (own_ucmp (e1 o) (e3 o)), .unset] [(.int (own_ucmp (e1 o) (e3 o)))])) tg → Steps p.tables e below (T0.setTop (mkF m 350 #[vJ q1, .second, vJ q2, .second, vJ q3, .second, vJ q4, .second, vJ q5, .second, vJ q6, .second, vR x1, vR x2, vR ob, vI ww, vR x4, vI (own_kk q6), vR x5, vI (own_of q6), vJ q6, .second, vR y1, vR y2, vR y3, vR ou, .unset, .unset, .unset] [(.int (0 : Int32)), (.ref ou)])) tg := by
      intro tg kt
      refine R539 _ ?_
      refine st540 _ ?_
      show Steps p.tables e below (T540.setTop (mkF m 498 #[vJ q1, .second, vJ q2, .second, vJ q3, .second, vJ q4, .second, vJ q5, .second, vJ q6, .second, vR x1, vR x2, vR ob, vI ww, vR x4, vI (own_kk q6), vR x5, vI (own_of q6), vJ q6, .second, vR y1, vR y2, vR y3, vR ou, vI (1 : Int32), .unset, .unset] [(.int (own_ucmp (e1 o) (e3 o)))])) _
      refine XS.istore X540.here hx rfl (hb hby at_498) rfl (l' := #[vJ q1, .second, vJ q2, .second, vJ q3, .second, vJ q4, .second, vJ q5, .second, vJ q6, .second, vR x1, vR x2, vR ob, vI ww, vR x4, vI (own_kk q6), vR x5, vI (own_of q6), vJ q6, .second, vR y1, vR y2, vR y3, vR ou, vI (1 : Int32), vI (own_ucmp (e1 o) (e3 o)), .unset]) rfl ?_
      refine XS.iload X540.here hx rfl (hb hby at_500) rfl ?_
      exact kt
    clear R539 st540
    
    by_cases hc0 : (own_ucmp (e1 o) (e3 o)) = (0 : Int32)
    · have R555 : ∀ tg, Steps p.tables e below (T540.setTop (mkF m 534 #[vJ q1, .second, vJ q2, .second, vJ q3, .second, vJ q4, .second, vJ q5, .second, vJ q6, .second, vR x1, vR x2, vR ob, vI ww, vR x4, vI (own_kk q6), vR x5, vI (own_of q6), vJ q6, .second, vR y1, vR y2, vR y3, vR ou, vI (1 : Int32), vI (own_ucmp (e1 o) (e3 o)), .unset] [(.int (own_kk q6)), (.ref x4)])) tg → Steps p.tables e below (T0.setTop (mkF m 350 #[vJ q1, .second, vJ q2, .second, vJ q3, .second, vJ q4, .second, vJ q5, .second, vJ q6, .second, vR x1, vR x2, vR ob, vI ww, vR x4, vI (own_kk q6), vR x5, vI (own_of q6), vJ q6, .second, vR y1, vR y2, vR y3, vR ou, .unset, .unset, .unset] [(.int (0 : Int32)), (.ref ou)])) tg := by
        intro tg kt
        refine R541 _ ?_
        show Steps p.tables e below (T540.setTop (mkF m 502 #[vJ q1, .second, vJ q2, .second, vJ q3, .second, vJ q4, .second, vJ q5, .second, vJ q6, .second, vR x1, vR x2, vR ob, vI ww, vR x4, vI (own_kk q6), vR x5, vI (own_of q6), vJ q6, .second, vR y1, vR y2, vR y3, vR ou, vI (1 : Int32), vI (own_ucmp (e1 o) (e3 o)), .unset] [(.int (own_ucmp (e1 o) (e3 o)))])) _
        refine XS.ifNo X540.here hx rfl (hb hby at_502) rfl ((if0 _ _).trans (teq (hc0 : (own_ucmp (e1 o) (e3 o)) = (0 : Int32))).2) ?_
        refine XS.iload X540.here hx rfl (hb hby at_505) rfl ?_
        refine XS.iconst X540.here hx rfl (hb hby at_507) ?_
        show Steps p.tables e below (T540.setTop (mkF m 508 #[vJ q1, .second, vJ q2, .second, vJ q3, .second, vJ q4, .second, vJ q5, .second, vJ q6, .second, vR x1, vR x2, vR ob, vI ww, vR x4, vI (own_kk q6), vR x5, vI (own_of q6), vJ q6, .second, vR y1, vR y2, vR y3, vR ou, vI (1 : Int32), vI (own_ucmp (e1 o) (e3 o)), .unset] [(.int (1 : Int32)), (.int ww)])) _
        refine XS.icmpYes X540.here hx rfl (pc0 := 508) (pc' := 530) rfl (hb hby at_508) rfl (flt ((W3 hwv).2 : ¬ ((1 : Int32) < ww))).2.2.2 (by decide) (by decide) ?_
        refine XS.aload X540.here hx rfl (hb hby at_530) rfl rfl ?_
        refine XS.iload X540.here hx rfl (hb hby at_532) rfl ?_
        exact kt
      clear R541
      obtain ⟨cl556, Ar556, hin556, hat556⟩ := VX.at (j := (own_kk q6)) (k := kn) k0 kj hk3
      have R557 : ∀ tg, Steps p.tables e below (T540.setTop (mkF m 539 #[vJ q1, .second, vJ q2, .second, vJ q3, .second, vJ q4, .second, vJ q5, .second, vJ q6, .second, vR x1, vR x2, vR ob, vI ww, vR x4, vI (own_kk q6), vR x5, vI (own_of q6), vJ q6, .second, vR y1, vR y2, vR y3, vR ou, vI (1 : Int32), vI (own_ucmp (e1 o) (e3 o)), .unset] [(.int (own_kk q6)), (.ref x5), (.int (xv kn))])) tg → Steps p.tables e below (T0.setTop (mkF m 350 #[vJ q1, .second, vJ q2, .second, vJ q3, .second, vJ q4, .second, vJ q5, .second, vJ q6, .second, vR x1, vR x2, vR ob, vI ww, vR x4, vI (own_kk q6), vR x5, vI (own_of q6), vJ q6, .second, vR y1, vR y2, vR y3, vR ou, .unset, .unset, .unset] [(.int (0 : Int32)), (.ref ou)])) tg := by
        intro tg kt
        refine R555 _ ?_
        show Steps p.tables e below (T540.setTop (mkF m 534 #[vJ q1, .second, vJ q2, .second, vJ q3, .second, vJ q4, .second, vJ q5, .second, vJ q6, .second, vR x1, vR x2, vR ob, vI ww, vR x4, vI (own_kk q6), vR x5, vI (own_of q6), vJ q6, .second, vR y1, vR y2, vR y3, vR ou, vI (1 : Int32), vI (own_ucmp (e1 o) (e3 o)), .unset] [(.int (own_kk q6)), (.ref x4)])) _
        refine X540.iaload hx (j := (own_kk q6)) (v := (.int (xv kn))) (by rw [hh540]; exact Ar556.1) (State.isArrayOf_alike hZ.alike Ar556.2.1) Ar556.2.2 hin556 hat556 (g := (mkF m 534 #[vJ q1, .second, vJ q2, .second, vJ q3, .second, vJ q4, .second, vJ q5, .second, vJ q6, .second, vR x1, vR x2, vR ob, vI ww, vR x4, vI (own_kk q6), vR x5, vI (own_of q6), vJ q6, .second, vR y1, vR y2, vR y3, vR ou, vI (1 : Int32), vI (own_ucmp (e1 o) (e3 o)), .unset] [(.int (own_kk q6)), (.ref x4)])) rfl rfl (hb hby at_534) _ ?_
        refine XS.aload X540.here hx rfl (hb hby at_535) rfl rfl ?_
        refine XS.iload X540.here hx rfl (hb hby at_537) rfl ?_
        exact kt
      clear R555
      obtain ⟨cl558, Ar558, hin558, hat558⟩ := VZ.at (j := (own_kk q6)) (k := kn) k0 kj hk3
      have R559 : ∀ tg, Steps p.tables e below (T540.setTop (mkF m 540 #[vJ q1, .second, vJ q2, .second, vJ q3, .second, vJ q4, .second, vJ q5, .second, vJ q6, .second, vR x1, vR x2, vR ob, vI ww, vR x4, vI (own_kk q6), vR x5, vI (own_of q6), vJ q6, .second, vR y1, vR y2, vR y3, vR ou, vI (1 : Int32), vI (own_ucmp (e1 o) (e3 o)), .unset] [(.int (zv kn)), (.int (xv kn))])) tg → Steps p.tables e below (T0.setTop (mkF m 350 #[vJ q1, .second, vJ q2, .second, vJ q3, .second, vJ q4, .second, vJ q5, .second, vJ q6, .second, vR x1, vR x2, vR ob, vI ww, vR x4, vI (own_kk q6), vR x5, vI (own_of q6), vJ q6, .second, vR y1, vR y2, vR y3, vR ou, .unset, .unset, .unset] [(.int (0 : Int32)), (.ref ou)])) tg := by
        intro tg kt
        refine R557 _ ?_
        show Steps p.tables e below (T540.setTop (mkF m 539 #[vJ q1, .second, vJ q2, .second, vJ q3, .second, vJ q4, .second, vJ q5, .second, vJ q6, .second, vR x1, vR x2, vR ob, vI ww, vR x4, vI (own_kk q6), vR x5, vI (own_of q6), vJ q6, .second, vR y1, vR y2, vR y3, vR ou, vI (1 : Int32), vI (own_ucmp (e1 o) (e3 o)), .unset] [(.int (own_kk q6)), (.ref x5), (.int (xv kn))])) _
        refine X540.iaload hx (j := (own_kk q6)) (v := (.int (zv kn))) (by rw [hh540]; exact Ar558.1) (State.isArrayOf_alike hZ.alike Ar558.2.1) Ar558.2.2 hin558 hat558 (g := (mkF m 539 #[vJ q1, .second, vJ q2, .second, vJ q3, .second, vJ q4, .second, vJ q5, .second, vJ q6, .second, vR x1, vR x2, vR ob, vI ww, vR x4, vI (own_kk q6), vR x5, vI (own_of q6), vJ q6, .second, vR y1, vR y2, vR y3, vR ou, vI (1 : Int32), vI (own_ucmp (e1 o) (e3 o)), .unset] [(.int (own_kk q6)), (.ref x5), (.int (xv kn))])) rfl rfl (hb hby at_539) _ ?_
        exact kt
      clear R557
      by_cases hlt : (xv kn) < (zv kn)
      · have R560 : ∀ tg, Steps p.tables e below (T540.setTop (mkF m 584 #[vJ q1, .second, vJ q2, .second, vJ q3, .second, vJ q4, .second, vJ q5, .second, vJ q6, .second, vR x1, vR x2, vR ob, vI ww, vR x4, vI (own_kk q6), vR x5, vI (own_of q6), vJ q6, .second, vR y1, vR y2, vR y3, vR ou, vI (1 : Int32), vI (own_ucmp (e1 o) (e3 o)), vI (-1 : Int32)] [(.int (1 : Int32))])) tg → Steps p.tables e below (T0.setTop (mkF m 350 #[vJ q1, .second, vJ q2, .second, vJ q3, .second, vJ q4, .second, vJ q5, .second, vJ q6, .second, vR x1, vR x2, vR ob, vI ww, vR x4, vI (own_kk q6), vR x5, vI (own_of q6), vJ q6, .second, vR y1, vR y2, vR y3, vR ou, .unset, .unset, .unset] [(.int (0 : Int32)), (.ref ou)])) tg := by
          intro tg kt
          refine R559 _ ?_
          show Steps p.tables e below (T540.setTop (mkF m 540 #[vJ q1, .second, vJ q2, .second, vJ q3, .second, vJ q4, .second, vJ q5, .second, vJ q6, .second, vR x1, vR x2, vR ob, vI ww, vR x4, vI (own_kk q6), vR x5, vI (own_of q6), vJ q6, .second, vR y1, vR y2, vR y3, vR ou, vI (1 : Int32), vI (own_ucmp (e1 o) (e3 o)), .unset] [(.int (zv kn)), (.int (xv kn))])) _
          refine XS.icmpNo X540.here hx rfl (hb hby at_540) rfl (tlt (hlt : (xv kn) < (zv kn))).2.1 ?_
          refine XS.iconst X540.here hx rfl (hb hby at_543) ?_
          show Steps p.tables e below (T540.setTop (mkF m 544 #[vJ q1, .second, vJ q2, .second, vJ q3, .second, vJ q4, .second, vJ q5, .second, vJ q6, .second, vR x1, vR x2, vR ob, vI ww, vR x4, vI (own_kk q6), vR x5, vI (own_of q6), vJ q6, .second, vR y1, vR y2, vR y3, vR ou, vI (1 : Int32), vI (own_ucmp (e1 o) (e3 o)), .unset] [(.int (-1 : Int32))])) _
          refine XS.goto X540.here hx rfl (pc0 := 544) (pc' := 565) rfl (hb hby at_544) (by decide) (by decide) ?_
          show Steps p.tables e below (T540.setTop (mkF m 565 #[vJ q1, .second, vJ q2, .second, vJ q3, .second, vJ q4, .second, vJ q5, .second, vJ q6, .second, vR x1, vR x2, vR ob, vI ww, vR x4, vI (own_kk q6), vR x5, vI (own_of q6), vJ q6, .second, vR y1, vR y2, vR y3, vR ou, vI (1 : Int32), vI (own_ucmp (e1 o) (e3 o)), .unset] [(.int (-1 : Int32))])) _
          refine XS.istore X540.here hx rfl (hb hby at_565) rfl (l' := #[vJ q1, .second, vJ q2, .second, vJ q3, .second, vJ q4, .second, vJ q5, .second, vJ q6, .second, vR x1, vR x2, vR ob, vI ww, vR x4, vI (own_kk q6), vR x5, vI (own_of q6), vJ q6, .second, vR y1, vR y2, vR y3, vR ou, vI (1 : Int32), vI (own_ucmp (e1 o) (e3 o)), vI (-1 : Int32)]) rfl ?_
          refine XS.iload X540.here hx rfl (hb hby at_567) rfl ?_
          show Steps p.tables e below (T540.setTop (mkF m 569 #[vJ q1, .second, vJ q2, .second, vJ q3, .second, vJ q4, .second, vJ q5, .second, vJ q6, .second, vR x1, vR x2, vR ob, vI ww, vR x4, vI (own_kk q6), vR x5, vI (own_of q6), vJ q6, .second, vR y1, vR y2, vR y3, vR ou, vI (1 : Int32), vI (own_ucmp (e1 o) (e3 o)), vI (-1 : Int32)] [(.int (1 : Int32))])) _
          refine XS.ifNo X540.here hx rfl (hb hby at_569) rfl ((if0 _ _).trans (feq (by decide : ¬ ((1 : Int32) = (0 : Int32)))).1) ?_
          refine XS.iload X540.here hx rfl (hb hby at_572) rfl ?_
          refine XS.iload X540.here hx rfl (hb hby at_574) rfl ?_
          show Steps p.tables e below (T540.setTop (mkF m 576 #[vJ q1, .second, vJ q2, .second, vJ q3, .second, vJ q4, .second, vJ q5, .second, vJ q6, .second, vR x1, vR x2, vR ob, vI ww, vR x4, vI (own_kk q6), vR x5, vI (own_of q6), vJ q6, .second, vR y1, vR y2, vR y3, vR ou, vI (1 : Int32), vI (own_ucmp (e1 o) (e3 o)), vI (-1 : Int32)] [(.int (-1 : Int32)), (.int (own_ucmp (e1 o) (e3 o)))])) _
          refine XS.icmpNo X540.here hx rfl (hb hby at_576) rfl (teq ((hkey1.1 hwv).trans (if_pos hlt) : (own_ucmp (e1 o) (e3 o)) = (-1 : Int32))).2 ?_
          refine XS.iconst X540.here hx rfl (hb hby at_579) ?_
          show Steps p.tables e below (T540.setTop (mkF m 580 #[vJ q1, .second, vJ q2, .second, vJ q3, .second, vJ q4, .second, vJ q5, .second, vJ q6, .second, vR x1, vR x2, vR ob, vI ww, vR x4, vI (own_kk q6), vR x5, vI (own_of q6), vJ q6, .second, vR y1, vR y2, vR y3, vR ou, vI (1 : Int32), vI (own_ucmp (e1 o) (e3 o)), vI (-1 : Int32)] [(.int (1 : Int32))])) _
          refine XS.goto X540.here hx rfl (pc0 := 580) (pc' := 584) rfl (hb hby at_580) (by decide) (by decide) ?_
          exact kt
        clear R559
        exact ⟨_, _, _, X540, hh540, N540, R560⟩
      · have R561 : ∀ tg, Steps p.tables e below (T540.setTop (mkF m 551 #[vJ q1, .second, vJ q2, .second, vJ q3, .second, vJ q4, .second, vJ q5, .second, vJ q6, .second, vR x1, vR x2, vR ob, vI ww, vR x4, vI (own_kk q6), vR x5, vI (own_of q6), vJ q6, .second, vR y1, vR y2, vR y3, vR ou, vI (1 : Int32), vI (own_ucmp (e1 o) (e3 o)), .unset] [(.int (own_kk q6)), (.ref x4)])) tg → Steps p.tables e below (T0.setTop (mkF m 350 #[vJ q1, .second, vJ q2, .second, vJ q3, .second, vJ q4, .second, vJ q5, .second, vJ q6, .second, vR x1, vR x2, vR ob, vI ww, vR x4, vI (own_kk q6), vR x5, vI (own_of q6), vJ q6, .second, vR y1, vR y2, vR y3, vR ou, .unset, .unset, .unset] [(.int (0 : Int32)), (.ref ou)])) tg := by
          intro tg kt
          refine R559 _ ?_
          show Steps p.tables e below (T540.setTop (mkF m 540 #[vJ q1, .second, vJ q2, .second, vJ q3, .second, vJ q4, .second, vJ q5, .second, vJ q6, .second, vR x1, vR x2, vR ob, vI ww, vR x4, vI (own_kk q6), vR x5, vI (own_of q6), vJ q6, .second, vR y1, vR y2, vR y3, vR ou, vI (1 : Int32), vI (own_ucmp (e1 o) (e3 o)), .unset] [(.int (zv kn)), (.int (xv kn))])) _
          refine XS.icmpYes X540.here hx rfl (pc0 := 540) (pc' := 547) rfl (hb hby at_540) rfl (flt (hlt : ¬ ((xv kn) < (zv kn)))).2.1 (by decide) (by decide) ?_
          refine XS.aload X540.here hx rfl (hb hby at_547) rfl rfl ?_
          refine XS.iload X540.here hx rfl (hb hby at_549) rfl ?_
          exact kt
        clear R559
        obtain ⟨cl562, Ar562, hin562, hat562⟩ := VX.at (j := (own_kk q6)) (k := kn) k0 kj hk3
        have R563 : ∀ tg, Steps p.tables e below (T540.setTop (mkF m 556 #[vJ q1, .second, vJ q2, .second, vJ q3, .second, vJ q4, .second, vJ q5, .second, vJ q6, .second, vR x1, vR x2, vR ob, vI ww, vR x4, vI (own_kk q6), vR x5, vI (own_of q6), vJ q6, .second, vR y1, vR y2, vR y3, vR ou, vI (1 : Int32), vI (own_ucmp (e1 o) (e3 o)), .unset] [(.int (own_kk q6)), (.ref x5), (.int (xv kn))])) tg → Steps p.tables e below (T0.setTop (mkF m 350 #[vJ q1, .second, vJ q2, .second, vJ q3, .second, vJ q4, .second, vJ q5, .second, vJ q6, .second, vR x1, vR x2, vR ob, vI ww, vR x4, vI (own_kk q6), vR x5, vI (own_of q6), vJ q6, .second, vR y1, vR y2, vR y3, vR ou, .unset, .unset, .unset] [(.int (0 : Int32)), (.ref ou)])) tg := by
          intro tg kt
          refine R561 _ ?_
          show Steps p.tables e below (T540.setTop (mkF m 551 #[vJ q1, .second, vJ q2, .second, vJ q3, .second, vJ q4, .second, vJ q5, .second, vJ q6, .second, vR x1, vR x2, vR ob, vI ww, vR x4, vI (own_kk q6), vR x5, vI (own_of q6), vJ q6, .second, vR y1, vR y2, vR y3, vR ou, vI (1 : Int32), vI (own_ucmp (e1 o) (e3 o)), .unset] [(.int (own_kk q6)), (.ref x4)])) _
          refine X540.iaload hx (j := (own_kk q6)) (v := (.int (xv kn))) (by rw [hh540]; exact Ar562.1) (State.isArrayOf_alike hZ.alike Ar562.2.1) Ar562.2.2 hin562 hat562 (g := (mkF m 551 #[vJ q1, .second, vJ q2, .second, vJ q3, .second, vJ q4, .second, vJ q5, .second, vJ q6, .second, vR x1, vR x2, vR ob, vI ww, vR x4, vI (own_kk q6), vR x5, vI (own_of q6), vJ q6, .second, vR y1, vR y2, vR y3, vR ou, vI (1 : Int32), vI (own_ucmp (e1 o) (e3 o)), .unset] [(.int (own_kk q6)), (.ref x4)])) rfl rfl (hb hby at_551) _ ?_
          refine XS.aload X540.here hx rfl (hb hby at_552) rfl rfl ?_
          refine XS.iload X540.here hx rfl (hb hby at_554) rfl ?_
          exact kt
        clear R561
        obtain ⟨cl564, Ar564, hin564, hat564⟩ := VZ.at (j := (own_kk q6)) (k := kn) k0 kj hk3
        have R565 : ∀ tg, Steps p.tables e below (T540.setTop (mkF m 557 #[vJ q1, .second, vJ q2, .second, vJ q3, .second, vJ q4, .second, vJ q5, .second, vJ q6, .second, vR x1, vR x2, vR ob, vI ww, vR x4, vI (own_kk q6), vR x5, vI (own_of q6), vJ q6, .second, vR y1, vR y2, vR y3, vR ou, vI (1 : Int32), vI (own_ucmp (e1 o) (e3 o)), .unset] [(.int (zv kn)), (.int (xv kn))])) tg → Steps p.tables e below (T0.setTop (mkF m 350 #[vJ q1, .second, vJ q2, .second, vJ q3, .second, vJ q4, .second, vJ q5, .second, vJ q6, .second, vR x1, vR x2, vR ob, vI ww, vR x4, vI (own_kk q6), vR x5, vI (own_of q6), vJ q6, .second, vR y1, vR y2, vR y3, vR ou, .unset, .unset, .unset] [(.int (0 : Int32)), (.ref ou)])) tg := by
          intro tg kt
          refine R563 _ ?_
          show Steps p.tables e below (T540.setTop (mkF m 556 #[vJ q1, .second, vJ q2, .second, vJ q3, .second, vJ q4, .second, vJ q5, .second, vJ q6, .second, vR x1, vR x2, vR ob, vI ww, vR x4, vI (own_kk q6), vR x5, vI (own_of q6), vJ q6, .second, vR y1, vR y2, vR y3, vR ou, vI (1 : Int32), vI (own_ucmp (e1 o) (e3 o)), .unset] [(.int (own_kk q6)), (.ref x5), (.int (xv kn))])) _
          refine X540.iaload hx (j := (own_kk q6)) (v := (.int (zv kn))) (by rw [hh540]; exact Ar564.1) (State.isArrayOf_alike hZ.alike Ar564.2.1) Ar564.2.2 hin564 hat564 (g := (mkF m 556 #[vJ q1, .second, vJ q2, .second, vJ q3, .second, vJ q4, .second, vJ q5, .second, vJ q6, .second, vR x1, vR x2, vR ob, vI ww, vR x4, vI (own_kk q6), vR x5, vI (own_of q6), vJ q6, .second, vR y1, vR y2, vR y3, vR ou, vI (1 : Int32), vI (own_ucmp (e1 o) (e3 o)), .unset] [(.int (own_kk q6)), (.ref x5), (.int (xv kn))])) rfl rfl (hb hby at_556) _ ?_
          exact kt
        clear R563
        by_cases heq : (xv kn) = (zv kn)
        · have R566 : ∀ tg, Steps p.tables e below (T540.setTop (mkF m 584 #[vJ q1, .second, vJ q2, .second, vJ q3, .second, vJ q4, .second, vJ q5, .second, vJ q6, .second, vR x1, vR x2, vR ob, vI ww, vR x4, vI (own_kk q6), vR x5, vI (own_of q6), vJ q6, .second, vR y1, vR y2, vR y3, vR ou, vI (1 : Int32), vI (own_ucmp (e1 o) (e3 o)), vI (0 : Int32)] [(.int (1 : Int32))])) tg → Steps p.tables e below (T0.setTop (mkF m 350 #[vJ q1, .second, vJ q2, .second, vJ q3, .second, vJ q4, .second, vJ q5, .second, vJ q6, .second, vR x1, vR x2, vR ob, vI ww, vR x4, vI (own_kk q6), vR x5, vI (own_of q6), vJ q6, .second, vR y1, vR y2, vR y3, vR ou, .unset, .unset, .unset] [(.int (0 : Int32)), (.ref ou)])) tg := by
            intro tg kt
            refine R565 _ ?_
            show Steps p.tables e below (T540.setTop (mkF m 557 #[vJ q1, .second, vJ q2, .second, vJ q3, .second, vJ q4, .second, vJ q5, .second, vJ q6, .second, vR x1, vR x2, vR ob, vI ww, vR x4, vI (own_kk q6), vR x5, vI (own_of q6), vJ q6, .second, vR y1, vR y2, vR y3, vR ou, vI (1 : Int32), vI (own_ucmp (e1 o) (e3 o)), .unset] [(.int (zv kn)), (.int (xv kn))])) _
            refine XS.icmpNo X540.here hx rfl (hb hby at_557) rfl (teq (heq : (xv kn) = (zv kn))).2 ?_
            refine XS.iconst X540.here hx rfl (hb hby at_560) ?_
            show Steps p.tables e below (T540.setTop (mkF m 561 #[vJ q1, .second, vJ q2, .second, vJ q3, .second, vJ q4, .second, vJ q5, .second, vJ q6, .second, vR x1, vR x2, vR ob, vI ww, vR x4, vI (own_kk q6), vR x5, vI (own_of q6), vJ q6, .second, vR y1, vR y2, vR y3, vR ou, vI (1 : Int32), vI (own_ucmp (e1 o) (e3 o)), .unset] [(.int (0 : Int32))])) _
            refine XS.goto X540.here hx rfl (pc0 := 561) (pc' := 565) rfl (hb hby at_561) (by decide) (by decide) ?_
            show Steps p.tables e below (T540.setTop (mkF m 565 #[vJ q1, .second, vJ q2, .second, vJ q3, .second, vJ q4, .second, vJ q5, .second, vJ q6, .second, vR x1, vR x2, vR ob, vI ww, vR x4, vI (own_kk q6), vR x5, vI (own_of q6), vJ q6, .second, vR y1, vR y2, vR y3, vR ou, vI (1 : Int32), vI (own_ucmp (e1 o) (e3 o)), .unset] [(.int (0 : Int32))])) _
            refine XS.istore X540.here hx rfl (hb hby at_565) rfl (l' := #[vJ q1, .second, vJ q2, .second, vJ q3, .second, vJ q4, .second, vJ q5, .second, vJ q6, .second, vR x1, vR x2, vR ob, vI ww, vR x4, vI (own_kk q6), vR x5, vI (own_of q6), vJ q6, .second, vR y1, vR y2, vR y3, vR ou, vI (1 : Int32), vI (own_ucmp (e1 o) (e3 o)), vI (0 : Int32)]) rfl ?_
            refine XS.iload X540.here hx rfl (hb hby at_567) rfl ?_
            show Steps p.tables e below (T540.setTop (mkF m 569 #[vJ q1, .second, vJ q2, .second, vJ q3, .second, vJ q4, .second, vJ q5, .second, vJ q6, .second, vR x1, vR x2, vR ob, vI ww, vR x4, vI (own_kk q6), vR x5, vI (own_of q6), vJ q6, .second, vR y1, vR y2, vR y3, vR ou, vI (1 : Int32), vI (own_ucmp (e1 o) (e3 o)), vI (0 : Int32)] [(.int (1 : Int32))])) _
            refine XS.ifNo X540.here hx rfl (hb hby at_569) rfl ((if0 _ _).trans (feq (by decide : ¬ ((1 : Int32) = (0 : Int32)))).1) ?_
            refine XS.iload X540.here hx rfl (hb hby at_572) rfl ?_
            refine XS.iload X540.here hx rfl (hb hby at_574) rfl ?_
            show Steps p.tables e below (T540.setTop (mkF m 576 #[vJ q1, .second, vJ q2, .second, vJ q3, .second, vJ q4, .second, vJ q5, .second, vJ q6, .second, vR x1, vR x2, vR ob, vI ww, vR x4, vI (own_kk q6), vR x5, vI (own_of q6), vJ q6, .second, vR y1, vR y2, vR y3, vR ou, vI (1 : Int32), vI (own_ucmp (e1 o) (e3 o)), vI (0 : Int32)] [(.int (0 : Int32)), (.int (own_ucmp (e1 o) (e3 o)))])) _
            refine XS.icmpNo X540.here hx rfl (hb hby at_576) rfl (teq ((hkey1.1 hwv).trans ((if_neg hlt).trans (if_pos heq)) : (own_ucmp (e1 o) (e3 o)) = (0 : Int32))).2 ?_
            refine XS.iconst X540.here hx rfl (hb hby at_579) ?_
            show Steps p.tables e below (T540.setTop (mkF m 580 #[vJ q1, .second, vJ q2, .second, vJ q3, .second, vJ q4, .second, vJ q5, .second, vJ q6, .second, vR x1, vR x2, vR ob, vI ww, vR x4, vI (own_kk q6), vR x5, vI (own_of q6), vJ q6, .second, vR y1, vR y2, vR y3, vR ou, vI (1 : Int32), vI (own_ucmp (e1 o) (e3 o)), vI (0 : Int32)] [(.int (1 : Int32))])) _
            refine XS.goto X540.here hx rfl (pc0 := 580) (pc' := 584) rfl (hb hby at_580) (by decide) (by decide) ?_
            exact kt
          clear R565
          exact ⟨_, _, _, X540, hh540, N540, R566⟩
        · have R567 : ∀ tg, Steps p.tables e below (T540.setTop (mkF m 584 #[vJ q1, .second, vJ q2, .second, vJ q3, .second, vJ q4, .second, vJ q5, .second, vJ q6, .second, vR x1, vR x2, vR ob, vI ww, vR x4, vI (own_kk q6), vR x5, vI (own_of q6), vJ q6, .second, vR y1, vR y2, vR y3, vR ou, vI (1 : Int32), vI (own_ucmp (e1 o) (e3 o)), vI (1 : Int32)] [(.int (1 : Int32))])) tg → Steps p.tables e below (T0.setTop (mkF m 350 #[vJ q1, .second, vJ q2, .second, vJ q3, .second, vJ q4, .second, vJ q5, .second, vJ q6, .second, vR x1, vR x2, vR ob, vI ww, vR x4, vI (own_kk q6), vR x5, vI (own_of q6), vJ q6, .second, vR y1, vR y2, vR y3, vR ou, .unset, .unset, .unset] [(.int (0 : Int32)), (.ref ou)])) tg := by
            intro tg kt
            refine R565 _ ?_
            show Steps p.tables e below (T540.setTop (mkF m 557 #[vJ q1, .second, vJ q2, .second, vJ q3, .second, vJ q4, .second, vJ q5, .second, vJ q6, .second, vR x1, vR x2, vR ob, vI ww, vR x4, vI (own_kk q6), vR x5, vI (own_of q6), vJ q6, .second, vR y1, vR y2, vR y3, vR ou, vI (1 : Int32), vI (own_ucmp (e1 o) (e3 o)), .unset] [(.int (zv kn)), (.int (xv kn))])) _
            refine XS.icmpYes X540.here hx rfl (pc0 := 557) (pc' := 564) rfl (hb hby at_557) rfl (feq (heq : ¬ ((xv kn) = (zv kn)))).2 (by decide) (by decide) ?_
            refine XS.iconst X540.here hx rfl (hb hby at_564) ?_
            show Steps p.tables e below (T540.setTop (mkF m 565 #[vJ q1, .second, vJ q2, .second, vJ q3, .second, vJ q4, .second, vJ q5, .second, vJ q6, .second, vR x1, vR x2, vR ob, vI ww, vR x4, vI (own_kk q6), vR x5, vI (own_of q6), vJ q6, .second, vR y1, vR y2, vR y3, vR ou, vI (1 : Int32), vI (own_ucmp (e1 o) (e3 o)), .unset] [(.int (1 : Int32))])) _
            refine XS.istore X540.here hx rfl (hb hby at_565) rfl (l' := #[vJ q1, .second, vJ q2, .second, vJ q3, .second, vJ q4, .second, vJ q5, .second, vJ q6, .second, vR x1, vR x2, vR ob, vI ww, vR x4, vI (own_kk q6), vR x5, vI (own_of q6), vJ q6, .second, vR y1, vR y2, vR y3, vR ou, vI (1 : Int32), vI (own_ucmp (e1 o) (e3 o)), vI (1 : Int32)]) rfl ?_
            refine XS.iload X540.here hx rfl (hb hby at_567) rfl ?_
            show Steps p.tables e below (T540.setTop (mkF m 569 #[vJ q1, .second, vJ q2, .second, vJ q3, .second, vJ q4, .second, vJ q5, .second, vJ q6, .second, vR x1, vR x2, vR ob, vI ww, vR x4, vI (own_kk q6), vR x5, vI (own_of q6), vJ q6, .second, vR y1, vR y2, vR y3, vR ou, vI (1 : Int32), vI (own_ucmp (e1 o) (e3 o)), vI (1 : Int32)] [(.int (1 : Int32))])) _
            refine XS.ifNo X540.here hx rfl (hb hby at_569) rfl ((if0 _ _).trans (feq (by decide : ¬ ((1 : Int32) = (0 : Int32)))).1) ?_
            refine XS.iload X540.here hx rfl (hb hby at_572) rfl ?_
            refine XS.iload X540.here hx rfl (hb hby at_574) rfl ?_
            show Steps p.tables e below (T540.setTop (mkF m 576 #[vJ q1, .second, vJ q2, .second, vJ q3, .second, vJ q4, .second, vJ q5, .second, vJ q6, .second, vR x1, vR x2, vR ob, vI ww, vR x4, vI (own_kk q6), vR x5, vI (own_of q6), vJ q6, .second, vR y1, vR y2, vR y3, vR ou, vI (1 : Int32), vI (own_ucmp (e1 o) (e3 o)), vI (1 : Int32)] [(.int (1 : Int32)), (.int (own_ucmp (e1 o) (e3 o)))])) _
            refine XS.icmpNo X540.here hx rfl (hb hby at_576) rfl (teq ((hkey1.1 hwv).trans ((if_neg hlt).trans (if_neg heq)) : (own_ucmp (e1 o) (e3 o)) = (1 : Int32))).2 ?_
            refine XS.iconst X540.here hx rfl (hb hby at_579) ?_
            show Steps p.tables e below (T540.setTop (mkF m 580 #[vJ q1, .second, vJ q2, .second, vJ q3, .second, vJ q4, .second, vJ q5, .second, vJ q6, .second, vR x1, vR x2, vR ob, vI ww, vR x4, vI (own_kk q6), vR x5, vI (own_of q6), vJ q6, .second, vR y1, vR y2, vR y3, vR ou, vI (1 : Int32), vI (own_ucmp (e1 o) (e3 o)), vI (1 : Int32)] [(.int (1 : Int32))])) _
            refine XS.goto X540.here hx rfl (pc0 := 580) (pc' := 584) rfl (hb hby at_580) (by decide) (by decide) ?_
            exact kt
          clear R565
          exact ⟨_, _, _, X540, hh540, N540, R567⟩
    · have R542 : ∀ tg, Steps p.tables e below (T540.setTop (mkF m 534 #[vJ q1, .second, vJ q2, .second, vJ q3, .second, vJ q4, .second, vJ q5, .second, vJ q6, .second, vR x1, vR x2, vR ob, vI ww, vR x4, vI (own_kk q6), vR x5, vI (own_of q6), vJ q6, .second, vR y1, vR y2, vR y3, vR ou, vI (1 : Int32), vI (own_ucmp (e1 o) (e3 o)), .unset] [(.int (own_kk q6)), (.ref x4)])) tg → Steps p.tables e below (T0.setTop (mkF m 350 #[vJ q1, .second, vJ q2, .second, vJ q3, .second, vJ q4, .second, vJ q5, .second, vJ q6, .second, vR x1, vR x2, vR ob, vI ww, vR x4, vI (own_kk q6), vR x5, vI (own_of q6), vJ q6, .second, vR y1, vR y2, vR y3, vR ou, .unset, .unset, .unset] [(.int (0 : Int32)), (.ref ou)])) tg := by
        intro tg kt
        refine R541 _ ?_
        show Steps p.tables e below (T540.setTop (mkF m 502 #[vJ q1, .second, vJ q2, .second, vJ q3, .second, vJ q4, .second, vJ q5, .second, vJ q6, .second, vR x1, vR x2, vR ob, vI ww, vR x4, vI (own_kk q6), vR x5, vI (own_of q6), vJ q6, .second, vR y1, vR y2, vR y3, vR ou, vI (1 : Int32), vI (own_ucmp (e1 o) (e3 o)), .unset] [(.int (own_ucmp (e1 o) (e3 o)))])) _
        refine XS.ifYes X540.here hx rfl (pc0 := 502) (pc' := 530) rfl (hb hby at_502) rfl ((if0 _ _).trans (feq (hc0 : ¬ ((own_ucmp (e1 o) (e3 o)) = (0 : Int32)))).2) (by decide) (by decide) ?_
        refine XS.aload X540.here hx rfl (hb hby at_530) rfl rfl ?_
        refine XS.iload X540.here hx rfl (hb hby at_532) rfl ?_
        exact kt
      clear R541
      obtain ⟨cl543, Ar543, hin543, hat543⟩ := VX.at (j := (own_kk q6)) (k := kn) k0 kj hk3
      have R544 : ∀ tg, Steps p.tables e below (T540.setTop (mkF m 539 #[vJ q1, .second, vJ q2, .second, vJ q3, .second, vJ q4, .second, vJ q5, .second, vJ q6, .second, vR x1, vR x2, vR ob, vI ww, vR x4, vI (own_kk q6), vR x5, vI (own_of q6), vJ q6, .second, vR y1, vR y2, vR y3, vR ou, vI (1 : Int32), vI (own_ucmp (e1 o) (e3 o)), .unset] [(.int (own_kk q6)), (.ref x5), (.int (xv kn))])) tg → Steps p.tables e below (T0.setTop (mkF m 350 #[vJ q1, .second, vJ q2, .second, vJ q3, .second, vJ q4, .second, vJ q5, .second, vJ q6, .second, vR x1, vR x2, vR ob, vI ww, vR x4, vI (own_kk q6), vR x5, vI (own_of q6), vJ q6, .second, vR y1, vR y2, vR y3, vR ou, .unset, .unset, .unset] [(.int (0 : Int32)), (.ref ou)])) tg := by
        intro tg kt
        refine R542 _ ?_
        show Steps p.tables e below (T540.setTop (mkF m 534 #[vJ q1, .second, vJ q2, .second, vJ q3, .second, vJ q4, .second, vJ q5, .second, vJ q6, .second, vR x1, vR x2, vR ob, vI ww, vR x4, vI (own_kk q6), vR x5, vI (own_of q6), vJ q6, .second, vR y1, vR y2, vR y3, vR ou, vI (1 : Int32), vI (own_ucmp (e1 o) (e3 o)), .unset] [(.int (own_kk q6)), (.ref x4)])) _
        refine X540.iaload hx (j := (own_kk q6)) (v := (.int (xv kn))) (by rw [hh540]; exact Ar543.1) (State.isArrayOf_alike hZ.alike Ar543.2.1) Ar543.2.2 hin543 hat543 (g := (mkF m 534 #[vJ q1, .second, vJ q2, .second, vJ q3, .second, vJ q4, .second, vJ q5, .second, vJ q6, .second, vR x1, vR x2, vR ob, vI ww, vR x4, vI (own_kk q6), vR x5, vI (own_of q6), vJ q6, .second, vR y1, vR y2, vR y3, vR ou, vI (1 : Int32), vI (own_ucmp (e1 o) (e3 o)), .unset] [(.int (own_kk q6)), (.ref x4)])) rfl rfl (hb hby at_534) _ ?_
        refine XS.aload X540.here hx rfl (hb hby at_535) rfl rfl ?_
        refine XS.iload X540.here hx rfl (hb hby at_537) rfl ?_
        exact kt
      clear R542
      obtain ⟨cl545, Ar545, hin545, hat545⟩ := VZ.at (j := (own_kk q6)) (k := kn) k0 kj hk3
      have R546 : ∀ tg, Steps p.tables e below (T540.setTop (mkF m 540 #[vJ q1, .second, vJ q2, .second, vJ q3, .second, vJ q4, .second, vJ q5, .second, vJ q6, .second, vR x1, vR x2, vR ob, vI ww, vR x4, vI (own_kk q6), vR x5, vI (own_of q6), vJ q6, .second, vR y1, vR y2, vR y3, vR ou, vI (1 : Int32), vI (own_ucmp (e1 o) (e3 o)), .unset] [(.int (zv kn)), (.int (xv kn))])) tg → Steps p.tables e below (T0.setTop (mkF m 350 #[vJ q1, .second, vJ q2, .second, vJ q3, .second, vJ q4, .second, vJ q5, .second, vJ q6, .second, vR x1, vR x2, vR ob, vI ww, vR x4, vI (own_kk q6), vR x5, vI (own_of q6), vJ q6, .second, vR y1, vR y2, vR y3, vR ou, .unset, .unset, .unset] [(.int (0 : Int32)), (.ref ou)])) tg := by
        intro tg kt
        refine R544 _ ?_
        show Steps p.tables e below (T540.setTop (mkF m 539 #[vJ q1, .second, vJ q2, .second, vJ q3, .second, vJ q4, .second, vJ q5, .second, vJ q6, .second, vR x1, vR x2, vR ob, vI ww, vR x4, vI (own_kk q6), vR x5, vI (own_of q6), vJ q6, .second, vR y1, vR y2, vR y3, vR ou, vI (1 : Int32), vI (own_ucmp (e1 o) (e3 o)), .unset] [(.int (own_kk q6)), (.ref x5), (.int (xv kn))])) _
        refine X540.iaload hx (j := (own_kk q6)) (v := (.int (zv kn))) (by rw [hh540]; exact Ar545.1) (State.isArrayOf_alike hZ.alike Ar545.2.1) Ar545.2.2 hin545 hat545 (g := (mkF m 539 #[vJ q1, .second, vJ q2, .second, vJ q3, .second, vJ q4, .second, vJ q5, .second, vJ q6, .second, vR x1, vR x2, vR ob, vI ww, vR x4, vI (own_kk q6), vR x5, vI (own_of q6), vJ q6, .second, vR y1, vR y2, vR y3, vR ou, vI (1 : Int32), vI (own_ucmp (e1 o) (e3 o)), .unset] [(.int (own_kk q6)), (.ref x5), (.int (xv kn))])) rfl rfl (hb hby at_539) _ ?_
        exact kt
      clear R544
      by_cases hlt : (xv kn) < (zv kn)
      · have R547 : ∀ tg, Steps p.tables e below (T540.setTop (mkF m 584 #[vJ q1, .second, vJ q2, .second, vJ q3, .second, vJ q4, .second, vJ q5, .second, vJ q6, .second, vR x1, vR x2, vR ob, vI ww, vR x4, vI (own_kk q6), vR x5, vI (own_of q6), vJ q6, .second, vR y1, vR y2, vR y3, vR ou, vI (1 : Int32), vI (own_ucmp (e1 o) (e3 o)), vI (-1 : Int32)] [(.int (1 : Int32))])) tg → Steps p.tables e below (T0.setTop (mkF m 350 #[vJ q1, .second, vJ q2, .second, vJ q3, .second, vJ q4, .second, vJ q5, .second, vJ q6, .second, vR x1, vR x2, vR ob, vI ww, vR x4, vI (own_kk q6), vR x5, vI (own_of q6), vJ q6, .second, vR y1, vR y2, vR y3, vR ou, .unset, .unset, .unset] [(.int (0 : Int32)), (.ref ou)])) tg := by
          intro tg kt
          refine R546 _ ?_
          show Steps p.tables e below (T540.setTop (mkF m 540 #[vJ q1, .second, vJ q2, .second, vJ q3, .second, vJ q4, .second, vJ q5, .second, vJ q6, .second, vR x1, vR x2, vR ob, vI ww, vR x4, vI (own_kk q6), vR x5, vI (own_of q6), vJ q6, .second, vR y1, vR y2, vR y3, vR ou, vI (1 : Int32), vI (own_ucmp (e1 o) (e3 o)), .unset] [(.int (zv kn)), (.int (xv kn))])) _
          refine XS.icmpNo X540.here hx rfl (hb hby at_540) rfl (tlt (hlt : (xv kn) < (zv kn))).2.1 ?_
          refine XS.iconst X540.here hx rfl (hb hby at_543) ?_
          show Steps p.tables e below (T540.setTop (mkF m 544 #[vJ q1, .second, vJ q2, .second, vJ q3, .second, vJ q4, .second, vJ q5, .second, vJ q6, .second, vR x1, vR x2, vR ob, vI ww, vR x4, vI (own_kk q6), vR x5, vI (own_of q6), vJ q6, .second, vR y1, vR y2, vR y3, vR ou, vI (1 : Int32), vI (own_ucmp (e1 o) (e3 o)), .unset] [(.int (-1 : Int32))])) _
          refine XS.goto X540.here hx rfl (pc0 := 544) (pc' := 565) rfl (hb hby at_544) (by decide) (by decide) ?_
          show Steps p.tables e below (T540.setTop (mkF m 565 #[vJ q1, .second, vJ q2, .second, vJ q3, .second, vJ q4, .second, vJ q5, .second, vJ q6, .second, vR x1, vR x2, vR ob, vI ww, vR x4, vI (own_kk q6), vR x5, vI (own_of q6), vJ q6, .second, vR y1, vR y2, vR y3, vR ou, vI (1 : Int32), vI (own_ucmp (e1 o) (e3 o)), .unset] [(.int (-1 : Int32))])) _
          refine XS.istore X540.here hx rfl (hb hby at_565) rfl (l' := #[vJ q1, .second, vJ q2, .second, vJ q3, .second, vJ q4, .second, vJ q5, .second, vJ q6, .second, vR x1, vR x2, vR ob, vI ww, vR x4, vI (own_kk q6), vR x5, vI (own_of q6), vJ q6, .second, vR y1, vR y2, vR y3, vR ou, vI (1 : Int32), vI (own_ucmp (e1 o) (e3 o)), vI (-1 : Int32)]) rfl ?_
          refine XS.iload X540.here hx rfl (hb hby at_567) rfl ?_
          show Steps p.tables e below (T540.setTop (mkF m 569 #[vJ q1, .second, vJ q2, .second, vJ q3, .second, vJ q4, .second, vJ q5, .second, vJ q6, .second, vR x1, vR x2, vR ob, vI ww, vR x4, vI (own_kk q6), vR x5, vI (own_of q6), vJ q6, .second, vR y1, vR y2, vR y3, vR ou, vI (1 : Int32), vI (own_ucmp (e1 o) (e3 o)), vI (-1 : Int32)] [(.int (1 : Int32))])) _
          refine XS.ifNo X540.here hx rfl (hb hby at_569) rfl ((if0 _ _).trans (feq (by decide : ¬ ((1 : Int32) = (0 : Int32)))).1) ?_
          refine XS.iload X540.here hx rfl (hb hby at_572) rfl ?_
          refine XS.iload X540.here hx rfl (hb hby at_574) rfl ?_
          show Steps p.tables e below (T540.setTop (mkF m 576 #[vJ q1, .second, vJ q2, .second, vJ q3, .second, vJ q4, .second, vJ q5, .second, vJ q6, .second, vR x1, vR x2, vR ob, vI ww, vR x4, vI (own_kk q6), vR x5, vI (own_of q6), vJ q6, .second, vR y1, vR y2, vR y3, vR ou, vI (1 : Int32), vI (own_ucmp (e1 o) (e3 o)), vI (-1 : Int32)] [(.int (-1 : Int32)), (.int (own_ucmp (e1 o) (e3 o)))])) _
          refine XS.icmpNo X540.here hx rfl (hb hby at_576) rfl (teq ((hkey1.1 hwv).trans (if_pos hlt) : (own_ucmp (e1 o) (e3 o)) = (-1 : Int32))).2 ?_
          refine XS.iconst X540.here hx rfl (hb hby at_579) ?_
          show Steps p.tables e below (T540.setTop (mkF m 580 #[vJ q1, .second, vJ q2, .second, vJ q3, .second, vJ q4, .second, vJ q5, .second, vJ q6, .second, vR x1, vR x2, vR ob, vI ww, vR x4, vI (own_kk q6), vR x5, vI (own_of q6), vJ q6, .second, vR y1, vR y2, vR y3, vR ou, vI (1 : Int32), vI (own_ucmp (e1 o) (e3 o)), vI (-1 : Int32)] [(.int (1 : Int32))])) _
          refine XS.goto X540.here hx rfl (pc0 := 580) (pc' := 584) rfl (hb hby at_580) (by decide) (by decide) ?_
          exact kt
        clear R546
        exact ⟨_, _, _, X540, hh540, N540, R547⟩
      · have R548 : ∀ tg, Steps p.tables e below (T540.setTop (mkF m 551 #[vJ q1, .second, vJ q2, .second, vJ q3, .second, vJ q4, .second, vJ q5, .second, vJ q6, .second, vR x1, vR x2, vR ob, vI ww, vR x4, vI (own_kk q6), vR x5, vI (own_of q6), vJ q6, .second, vR y1, vR y2, vR y3, vR ou, vI (1 : Int32), vI (own_ucmp (e1 o) (e3 o)), .unset] [(.int (own_kk q6)), (.ref x4)])) tg → Steps p.tables e below (T0.setTop (mkF m 350 #[vJ q1, .second, vJ q2, .second, vJ q3, .second, vJ q4, .second, vJ q5, .second, vJ q6, .second, vR x1, vR x2, vR ob, vI ww, vR x4, vI (own_kk q6), vR x5, vI (own_of q6), vJ q6, .second, vR y1, vR y2, vR y3, vR ou, .unset, .unset, .unset] [(.int (0 : Int32)), (.ref ou)])) tg := by
          intro tg kt
          refine R546 _ ?_
          show Steps p.tables e below (T540.setTop (mkF m 540 #[vJ q1, .second, vJ q2, .second, vJ q3, .second, vJ q4, .second, vJ q5, .second, vJ q6, .second, vR x1, vR x2, vR ob, vI ww, vR x4, vI (own_kk q6), vR x5, vI (own_of q6), vJ q6, .second, vR y1, vR y2, vR y3, vR ou, vI (1 : Int32), vI (own_ucmp (e1 o) (e3 o)), .unset] [(.int (zv kn)), (.int (xv kn))])) _
          refine XS.icmpYes X540.here hx rfl (pc0 := 540) (pc' := 547) rfl (hb hby at_540) rfl (flt (hlt : ¬ ((xv kn) < (zv kn)))).2.1 (by decide) (by decide) ?_
          refine XS.aload X540.here hx rfl (hb hby at_547) rfl rfl ?_
          refine XS.iload X540.here hx rfl (hb hby at_549) rfl ?_
          exact kt
        clear R546
        obtain ⟨cl549, Ar549, hin549, hat549⟩ := VX.at (j := (own_kk q6)) (k := kn) k0 kj hk3
        have R550 : ∀ tg, Steps p.tables e below (T540.setTop (mkF m 556 #[vJ q1, .second, vJ q2, .second, vJ q3, .second, vJ q4, .second, vJ q5, .second, vJ q6, .second, vR x1, vR x2, vR ob, vI ww, vR x4, vI (own_kk q6), vR x5, vI (own_of q6), vJ q6, .second, vR y1, vR y2, vR y3, vR ou, vI (1 : Int32), vI (own_ucmp (e1 o) (e3 o)), .unset] [(.int (own_kk q6)), (.ref x5), (.int (xv kn))])) tg → Steps p.tables e below (T0.setTop (mkF m 350 #[vJ q1, .second, vJ q2, .second, vJ q3, .second, vJ q4, .second, vJ q5, .second, vJ q6, .second, vR x1, vR x2, vR ob, vI ww, vR x4, vI (own_kk q6), vR x5, vI (own_of q6), vJ q6, .second, vR y1, vR y2, vR y3, vR ou, .unset, .unset, .unset] [(.int (0 : Int32)), (.ref ou)])) tg := by
          intro tg kt
          refine R548 _ ?_
          show Steps p.tables e below (T540.setTop (mkF m 551 #[vJ q1, .second, vJ q2, .second, vJ q3, .second, vJ q4, .second, vJ q5, .second, vJ q6, .second, vR x1, vR x2, vR ob, vI ww, vR x4, vI (own_kk q6), vR x5, vI (own_of q6), vJ q6, .second, vR y1, vR y2, vR y3, vR ou, vI (1 : Int32), vI (own_ucmp (e1 o) (e3 o)), .unset] [(.int (own_kk q6)), (.ref x4)])) _
          refine X540.iaload hx (j := (own_kk q6)) (v := (.int (xv kn))) (by rw [hh540]; exact Ar549.1) (State.isArrayOf_alike hZ.alike Ar549.2.1) Ar549.2.2 hin549 hat549 (g := (mkF m 551 #[vJ q1, .second, vJ q2, .second, vJ q3, .second, vJ q4, .second, vJ q5, .second, vJ q6, .second, vR x1, vR x2, vR ob, vI ww, vR x4, vI (own_kk q6), vR x5, vI (own_of q6), vJ q6, .second, vR y1, vR y2, vR y3, vR ou, vI (1 : Int32), vI (own_ucmp (e1 o) (e3 o)), .unset] [(.int (own_kk q6)), (.ref x4)])) rfl rfl (hb hby at_551) _ ?_
          refine XS.aload X540.here hx rfl (hb hby at_552) rfl rfl ?_
          refine XS.iload X540.here hx rfl (hb hby at_554) rfl ?_
          exact kt
        clear R548
        obtain ⟨cl551, Ar551, hin551, hat551⟩ := VZ.at (j := (own_kk q6)) (k := kn) k0 kj hk3
        have R552 : ∀ tg, Steps p.tables e below (T540.setTop (mkF m 557 #[vJ q1, .second, vJ q2, .second, vJ q3, .second, vJ q4, .second, vJ q5, .second, vJ q6, .second, vR x1, vR x2, vR ob, vI ww, vR x4, vI (own_kk q6), vR x5, vI (own_of q6), vJ q6, .second, vR y1, vR y2, vR y3, vR ou, vI (1 : Int32), vI (own_ucmp (e1 o) (e3 o)), .unset] [(.int (zv kn)), (.int (xv kn))])) tg → Steps p.tables e below (T0.setTop (mkF m 350 #[vJ q1, .second, vJ q2, .second, vJ q3, .second, vJ q4, .second, vJ q5, .second, vJ q6, .second, vR x1, vR x2, vR ob, vI ww, vR x4, vI (own_kk q6), vR x5, vI (own_of q6), vJ q6, .second, vR y1, vR y2, vR y3, vR ou, .unset, .unset, .unset] [(.int (0 : Int32)), (.ref ou)])) tg := by
          intro tg kt
          refine R550 _ ?_
          show Steps p.tables e below (T540.setTop (mkF m 556 #[vJ q1, .second, vJ q2, .second, vJ q3, .second, vJ q4, .second, vJ q5, .second, vJ q6, .second, vR x1, vR x2, vR ob, vI ww, vR x4, vI (own_kk q6), vR x5, vI (own_of q6), vJ q6, .second, vR y1, vR y2, vR y3, vR ou, vI (1 : Int32), vI (own_ucmp (e1 o) (e3 o)), .unset] [(.int (own_kk q6)), (.ref x5), (.int (xv kn))])) _
          refine X540.iaload hx (j := (own_kk q6)) (v := (.int (zv kn))) (by rw [hh540]; exact Ar551.1) (State.isArrayOf_alike hZ.alike Ar551.2.1) Ar551.2.2 hin551 hat551 (g := (mkF m 556 #[vJ q1, .second, vJ q2, .second, vJ q3, .second, vJ q4, .second, vJ q5, .second, vJ q6, .second, vR x1, vR x2, vR ob, vI ww, vR x4, vI (own_kk q6), vR x5, vI (own_of q6), vJ q6, .second, vR y1, vR y2, vR y3, vR ou, vI (1 : Int32), vI (own_ucmp (e1 o) (e3 o)), .unset] [(.int (own_kk q6)), (.ref x5), (.int (xv kn))])) rfl rfl (hb hby at_556) _ ?_
          exact kt
        clear R550
        by_cases heq : (xv kn) = (zv kn)
        · have R553 : ∀ tg, Steps p.tables e below (T540.setTop (mkF m 584 #[vJ q1, .second, vJ q2, .second, vJ q3, .second, vJ q4, .second, vJ q5, .second, vJ q6, .second, vR x1, vR x2, vR ob, vI ww, vR x4, vI (own_kk q6), vR x5, vI (own_of q6), vJ q6, .second, vR y1, vR y2, vR y3, vR ou, vI (1 : Int32), vI (own_ucmp (e1 o) (e3 o)), vI (0 : Int32)] [(.int (1 : Int32))])) tg → Steps p.tables e below (T0.setTop (mkF m 350 #[vJ q1, .second, vJ q2, .second, vJ q3, .second, vJ q4, .second, vJ q5, .second, vJ q6, .second, vR x1, vR x2, vR ob, vI ww, vR x4, vI (own_kk q6), vR x5, vI (own_of q6), vJ q6, .second, vR y1, vR y2, vR y3, vR ou, .unset, .unset, .unset] [(.int (0 : Int32)), (.ref ou)])) tg := by
            intro tg kt
            refine R552 _ ?_
            show Steps p.tables e below (T540.setTop (mkF m 557 #[vJ q1, .second, vJ q2, .second, vJ q3, .second, vJ q4, .second, vJ q5, .second, vJ q6, .second, vR x1, vR x2, vR ob, vI ww, vR x4, vI (own_kk q6), vR x5, vI (own_of q6), vJ q6, .second, vR y1, vR y2, vR y3, vR ou, vI (1 : Int32), vI (own_ucmp (e1 o) (e3 o)), .unset] [(.int (zv kn)), (.int (xv kn))])) _
            refine XS.icmpNo X540.here hx rfl (hb hby at_557) rfl (teq (heq : (xv kn) = (zv kn))).2 ?_
            refine XS.iconst X540.here hx rfl (hb hby at_560) ?_
            show Steps p.tables e below (T540.setTop (mkF m 561 #[vJ q1, .second, vJ q2, .second, vJ q3, .second, vJ q4, .second, vJ q5, .second, vJ q6, .second, vR x1, vR x2, vR ob, vI ww, vR x4, vI (own_kk q6), vR x5, vI (own_of q6), vJ q6, .second, vR y1, vR y2, vR y3, vR ou, vI (1 : Int32), vI (own_ucmp (e1 o) (e3 o)), .unset] [(.int (0 : Int32))])) _
            refine XS.goto X540.here hx rfl (pc0 := 561) (pc' := 565) rfl (hb hby at_561) (by decide) (by decide) ?_
            show Steps p.tables e below (T540.setTop (mkF m 565 #[vJ q1, .second, vJ q2, .second, vJ q3, .second, vJ q4, .second, vJ q5, .second, vJ q6, .second, vR x1, vR x2, vR ob, vI ww, vR x4, vI (own_kk q6), vR x5, vI (own_of q6), vJ q6, .second, vR y1, vR y2, vR y3, vR ou, vI (1 : Int32), vI (own_ucmp (e1 o) (e3 o)), .unset] [(.int (0 : Int32))])) _
            refine XS.istore X540.here hx rfl (hb hby at_565) rfl (l' := #[vJ q1, .second, vJ q2, .second, vJ q3, .second, vJ q4, .second, vJ q5, .second, vJ q6, .second, vR x1, vR x2, vR ob, vI ww, vR x4, vI (own_kk q6), vR x5, vI (own_of q6), vJ q6, .second, vR y1, vR y2, vR y3, vR ou, vI (1 : Int32), vI (own_ucmp (e1 o) (e3 o)), vI (0 : Int32)]) rfl ?_
            refine XS.iload X540.here hx rfl (hb hby at_567) rfl ?_
            show Steps p.tables e below (T540.setTop (mkF m 569 #[vJ q1, .second, vJ q2, .second, vJ q3, .second, vJ q4, .second, vJ q5, .second, vJ q6, .second, vR x1, vR x2, vR ob, vI ww, vR x4, vI (own_kk q6), vR x5, vI (own_of q6), vJ q6, .second, vR y1, vR y2, vR y3, vR ou, vI (1 : Int32), vI (own_ucmp (e1 o) (e3 o)), vI (0 : Int32)] [(.int (1 : Int32))])) _
            refine XS.ifNo X540.here hx rfl (hb hby at_569) rfl ((if0 _ _).trans (feq (by decide : ¬ ((1 : Int32) = (0 : Int32)))).1) ?_
            refine XS.iload X540.here hx rfl (hb hby at_572) rfl ?_
            refine XS.iload X540.here hx rfl (hb hby at_574) rfl ?_
            show Steps p.tables e below (T540.setTop (mkF m 576 #[vJ q1, .second, vJ q2, .second, vJ q3, .second, vJ q4, .second, vJ q5, .second, vJ q6, .second, vR x1, vR x2, vR ob, vI ww, vR x4, vI (own_kk q6), vR x5, vI (own_of q6), vJ q6, .second, vR y1, vR y2, vR y3, vR ou, vI (1 : Int32), vI (own_ucmp (e1 o) (e3 o)), vI (0 : Int32)] [(.int (0 : Int32)), (.int (own_ucmp (e1 o) (e3 o)))])) _
            refine XS.icmpNo X540.here hx rfl (hb hby at_576) rfl (teq ((hkey1.1 hwv).trans ((if_neg hlt).trans (if_pos heq)) : (own_ucmp (e1 o) (e3 o)) = (0 : Int32))).2 ?_
            refine XS.iconst X540.here hx rfl (hb hby at_579) ?_
            show Steps p.tables e below (T540.setTop (mkF m 580 #[vJ q1, .second, vJ q2, .second, vJ q3, .second, vJ q4, .second, vJ q5, .second, vJ q6, .second, vR x1, vR x2, vR ob, vI ww, vR x4, vI (own_kk q6), vR x5, vI (own_of q6), vJ q6, .second, vR y1, vR y2, vR y3, vR ou, vI (1 : Int32), vI (own_ucmp (e1 o) (e3 o)), vI (0 : Int32)] [(.int (1 : Int32))])) _
            refine XS.goto X540.here hx rfl (pc0 := 580) (pc' := 584) rfl (hb hby at_580) (by decide) (by decide) ?_
            exact kt
          clear R552
          exact ⟨_, _, _, X540, hh540, N540, R553⟩
        · have R554 : ∀ tg, Steps p.tables e below (T540.setTop (mkF m 584 #[vJ q1, .second, vJ q2, .second, vJ q3, .second, vJ q4, .second, vJ q5, .second, vJ q6, .second, vR x1, vR x2, vR ob, vI ww, vR x4, vI (own_kk q6), vR x5, vI (own_of q6), vJ q6, .second, vR y1, vR y2, vR y3, vR ou, vI (1 : Int32), vI (own_ucmp (e1 o) (e3 o)), vI (1 : Int32)] [(.int (1 : Int32))])) tg → Steps p.tables e below (T0.setTop (mkF m 350 #[vJ q1, .second, vJ q2, .second, vJ q3, .second, vJ q4, .second, vJ q5, .second, vJ q6, .second, vR x1, vR x2, vR ob, vI ww, vR x4, vI (own_kk q6), vR x5, vI (own_of q6), vJ q6, .second, vR y1, vR y2, vR y3, vR ou, .unset, .unset, .unset] [(.int (0 : Int32)), (.ref ou)])) tg := by
            intro tg kt
            refine R552 _ ?_
            show Steps p.tables e below (T540.setTop (mkF m 557 #[vJ q1, .second, vJ q2, .second, vJ q3, .second, vJ q4, .second, vJ q5, .second, vJ q6, .second, vR x1, vR x2, vR ob, vI ww, vR x4, vI (own_kk q6), vR x5, vI (own_of q6), vJ q6, .second, vR y1, vR y2, vR y3, vR ou, vI (1 : Int32), vI (own_ucmp (e1 o) (e3 o)), .unset] [(.int (zv kn)), (.int (xv kn))])) _
            refine XS.icmpYes X540.here hx rfl (pc0 := 557) (pc' := 564) rfl (hb hby at_557) rfl (feq (heq : ¬ ((xv kn) = (zv kn)))).2 (by decide) (by decide) ?_
            refine XS.iconst X540.here hx rfl (hb hby at_564) ?_
            show Steps p.tables e below (T540.setTop (mkF m 565 #[vJ q1, .second, vJ q2, .second, vJ q3, .second, vJ q4, .second, vJ q5, .second, vJ q6, .second, vR x1, vR x2, vR ob, vI ww, vR x4, vI (own_kk q6), vR x5, vI (own_of q6), vJ q6, .second, vR y1, vR y2, vR y3, vR ou, vI (1 : Int32), vI (own_ucmp (e1 o) (e3 o)), .unset] [(.int (1 : Int32))])) _
            refine XS.istore X540.here hx rfl (hb hby at_565) rfl (l' := #[vJ q1, .second, vJ q2, .second, vJ q3, .second, vJ q4, .second, vJ q5, .second, vJ q6, .second, vR x1, vR x2, vR ob, vI ww, vR x4, vI (own_kk q6), vR x5, vI (own_of q6), vJ q6, .second, vR y1, vR y2, vR y3, vR ou, vI (1 : Int32), vI (own_ucmp (e1 o) (e3 o)), vI (1 : Int32)]) rfl ?_
            refine XS.iload X540.here hx rfl (hb hby at_567) rfl ?_
            show Steps p.tables e below (T540.setTop (mkF m 569 #[vJ q1, .second, vJ q2, .second, vJ q3, .second, vJ q4, .second, vJ q5, .second, vJ q6, .second, vR x1, vR x2, vR ob, vI ww, vR x4, vI (own_kk q6), vR x5, vI (own_of q6), vJ q6, .second, vR y1, vR y2, vR y3, vR ou, vI (1 : Int32), vI (own_ucmp (e1 o) (e3 o)), vI (1 : Int32)] [(.int (1 : Int32))])) _
            refine XS.ifNo X540.here hx rfl (hb hby at_569) rfl ((if0 _ _).trans (feq (by decide : ¬ ((1 : Int32) = (0 : Int32)))).1) ?_
            refine XS.iload X540.here hx rfl (hb hby at_572) rfl ?_
            refine XS.iload X540.here hx rfl (hb hby at_574) rfl ?_
            show Steps p.tables e below (T540.setTop (mkF m 576 #[vJ q1, .second, vJ q2, .second, vJ q3, .second, vJ q4, .second, vJ q5, .second, vJ q6, .second, vR x1, vR x2, vR ob, vI ww, vR x4, vI (own_kk q6), vR x5, vI (own_of q6), vJ q6, .second, vR y1, vR y2, vR y3, vR ou, vI (1 : Int32), vI (own_ucmp (e1 o) (e3 o)), vI (1 : Int32)] [(.int (1 : Int32)), (.int (own_ucmp (e1 o) (e3 o)))])) _
            refine XS.icmpNo X540.here hx rfl (hb hby at_576) rfl (teq ((hkey1.1 hwv).trans ((if_neg hlt).trans (if_neg heq)) : (own_ucmp (e1 o) (e3 o)) = (1 : Int32))).2 ?_
            refine XS.iconst X540.here hx rfl (hb hby at_579) ?_
            show Steps p.tables e below (T540.setTop (mkF m 580 #[vJ q1, .second, vJ q2, .second, vJ q3, .second, vJ q4, .second, vJ q5, .second, vJ q6, .second, vR x1, vR x2, vR ob, vI ww, vR x4, vI (own_kk q6), vR x5, vI (own_of q6), vJ q6, .second, vR y1, vR y2, vR y3, vR ou, vI (1 : Int32), vI (own_ucmp (e1 o) (e3 o)), vI (1 : Int32)] [(.int (1 : Int32))])) _
            refine XS.goto X540.here hx rfl (pc0 := 580) (pc' := 584) rfl (hb hby at_580) (by decide) (by decide) ?_
            exact kt
          clear R552
          exact ⟨_, _, _, X540, hh540, N540, R554⟩
  · have R568 : ∀ tg, Steps p.tables e below (T531.setTop (mkF m 472 #[vJ q1, .second, vJ q2, .second, vJ q3, .second, vJ q4, .second, vJ q5, .second, vJ q6, .second, vR x1, vR x2, vR ob, vI ww, vR x4, vI (own_kk q6), vR x5, vI (own_of q6), vJ q6, .second, vR y1, vR y2, vR y3, vR ou, vI (1 : Int32), .unset, .unset] [(.int ((own_of q6) + (1 : Int32))), (.ref y2)])) tg → Steps p.tables e below (T0.setTop (mkF m 350 #[vJ q1, .second, vJ q2, .second, vJ q3, .second, vJ q4, .second, vJ q5, .second, vJ q6, .second, vR x1, vR x2, vR ob, vI ww, vR x4, vI (own_kk q6), vR x5, vI (own_of q6), vJ q6, .second, vR y1, vR y2, vR y3, vR ou, .unset, .unset, .unset] [(.int (0 : Int32)), (.ref ou)])) tg := by
      intro tg kt
      refine R534 _ ?_
      show Steps p.tables e below (T531.setTop (mkF m 463 #[vJ q1, .second, vJ q2, .second, vJ q3, .second, vJ q4, .second, vJ q5, .second, vJ q6, .second, vR x1, vR x2, vR ob, vI ww, vR x4, vI (own_kk q6), vR x5, vI (own_of q6), vJ q6, .second, vR y1, vR y2, vR y3, vR ou, vI (1 : Int32), .unset, .unset] [(.int (2 : Int32)), (.int ww)])) _
      refine XS.icmpNo X531.here hx rfl (hb hby at_463) rfl (flt ((W4 hwv).1 : ¬ (ww < (2 : Int32)))).1 ?_
      refine XS.aload X531.here hx rfl (hb hby at_466) rfl rfl ?_
      refine XS.iload X531.here hx rfl (hb hby at_468) rfl ?_
      show Steps p.tables e below (T531.setTop (mkF m 470 #[vJ q1, .second, vJ q2, .second, vJ q3, .second, vJ q4, .second, vJ q5, .second, vJ q6, .second, vR x1, vR x2, vR ob, vI ww, vR x4, vI (own_kk q6), vR x5, vI (own_of q6), vJ q6, .second, vR y1, vR y2, vR y3, vR ou, vI (1 : Int32), .unset, .unset] [(.int (own_of q6)), (.ref y2)])) _
      refine XS.iconst X531.here hx rfl (hb hby at_470) ?_
      show Steps p.tables e below (T531.setTop (mkF m 471 #[vJ q1, .second, vJ q2, .second, vJ q3, .second, vJ q4, .second, vJ q5, .second, vJ q6, .second, vR x1, vR x2, vR ob, vI ww, vR x4, vI (own_kk q6), vR x5, vI (own_of q6), vJ q6, .second, vR y1, vR y2, vR y3, vR ou, vI (1 : Int32), .unset, .unset] [(.int (1 : Int32)), (.int (own_of q6)), (.ref y2)])) _
      refine XS.iadd X531.here hx rfl (hb hby at_471) rfl ?_
      exact kt
    clear R534
    have oi := own_ix (own_of q6) (1 : Int32) o 1 6 ho rfl (own_o8 ho3) (by decide)
    obtain ⟨cl569, Ar569, hin569, hat569⟩ := Y2.at (j := ((own_of q6) + (1 : Int32))) (k := (o + 1)) oi.1 oi.2 (own_o8 ho3)
    have R570 : ∀ tg, Steps p.tables e below (T531.setTop (mkF m 489 #[vJ q1, .second, vJ q2, .second, vJ q3, .second, vJ q4, .second, vJ q5, .second, vJ q6, .second, vR x1, vR x2, vR ob, vI ww, vR x4, vI (own_kk q6), vR x5, vI (own_of q6), vJ q6, .second, vR y1, vR y2, vR y3, vR ou, vI (1 : Int32), .unset, .unset] [(.int (own_of q6)), (.ref y1)])) tg → Steps p.tables e below (T0.setTop (mkF m 350 #[vJ q1, .second, vJ q2, .second, vJ q3, .second, vJ q4, .second, vJ q5, .second, vJ q6, .second, vR x1, vR x2, vR ob, vI ww, vR x4, vI (own_kk q6), vR x5, vI (own_of q6), vJ q6, .second, vR y1, vR y2, vR y3, vR ou, .unset, .unset, .unset] [(.int (0 : Int32)), (.ref ou)])) tg := by
      intro tg kt
      refine R568 _ ?_
      show Steps p.tables e below (T531.setTop (mkF m 472 #[vJ q1, .second, vJ q2, .second, vJ q3, .second, vJ q4, .second, vJ q5, .second, vJ q6, .second, vR x1, vR x2, vR ob, vI ww, vR x4, vI (own_kk q6), vR x5, vI (own_of q6), vJ q6, .second, vR y1, vR y2, vR y3, vR ou, vI (1 : Int32), .unset, .unset] [(.int ((own_of q6) + (1 : Int32))), (.ref y2)])) _
      refine X531.laload hx (j := ((own_of q6) + (1 : Int32))) (v := (.long (e2 (o + 1)))) (by rw [hh531]; exact Ar569.1) (State.isArrayOf_alike hZ.alike Ar569.2.1) Ar569.2.2 hin569 hat569 (g := (mkF m 472 #[vJ q1, .second, vJ q2, .second, vJ q3, .second, vJ q4, .second, vJ q5, .second, vJ q6, .second, vR x1, vR x2, vR ob, vI ww, vR x4, vI (own_kk q6), vR x5, vI (own_of q6), vJ q6, .second, vR y1, vR y2, vR y3, vR ou, vI (1 : Int32), .unset, .unset] [(.int ((own_of q6) + (1 : Int32))), (.ref y2)])) rfl rfl (hb hby at_472) _ ?_
      refine XS.lconst X531.here hx rfl (hb hby at_473) ?_
      show Steps p.tables e below (T531.setTop (mkF m 474 #[vJ q1, .second, vJ q2, .second, vJ q3, .second, vJ q4, .second, vJ q5, .second, vJ q6, .second, vR x1, vR x2, vR ob, vI ww, vR x4, vI (own_kk q6), vR x5, vI (own_of q6), vJ q6, .second, vR y1, vR y2, vR y3, vR ou, vI (1 : Int32), .unset, .unset] [(.long (0 : Int64)), (.long (e2 (o + 1)))])) _
      refine XS.lcmp X531.here hx rfl (hb hby at_474) rfl ?_
      show Steps p.tables e below (T531.setTop (mkF m 475 #[vJ q1, .second, vJ q2, .second, vJ q3, .second, vJ q4, .second, vJ q5, .second, vJ q6, .second, vR x1, vR x2, vR ob, vI ww, vR x4, vI (own_kk q6), vR x5, vI (own_of q6), vJ q6, .second, vR y1, vR y2, vR y3, vR ou, vI (1 : Int32), .unset, .unset] [(.int (lcmpW (e2 (o + 1)) (0 : Int64)))])) _
      refine XS.ifNo X531.here hx rfl (hb hby at_475) rfl ((if0 _ _).trans (teq ((lw_eq _ _).mpr (zl1 hwv) : (lcmpW (e2 (o + 1)) (0 : Int64)) = (0 : Int32))).2) ?_
      refine XS.iconst X531.here hx rfl (hb hby at_478) ?_
      show Steps p.tables e below (T531.setTop (mkF m 479 #[vJ q1, .second, vJ q2, .second, vJ q3, .second, vJ q4, .second, vJ q5, .second, vJ q6, .second, vR x1, vR x2, vR ob, vI ww, vR x4, vI (own_kk q6), vR x5, vI (own_of q6), vJ q6, .second, vR y1, vR y2, vR y3, vR ou, vI (1 : Int32), .unset, .unset] [(.int (1 : Int32))])) _
      refine XS.goto X531.here hx rfl (pc0 := 479) (pc' := 483) rfl (hb hby at_479) (by decide) (by decide) ?_
      show Steps p.tables e below (T531.setTop (mkF m 483 #[vJ q1, .second, vJ q2, .second, vJ q3, .second, vJ q4, .second, vJ q5, .second, vJ q6, .second, vR x1, vR x2, vR ob, vI ww, vR x4, vI (own_kk q6), vR x5, vI (own_of q6), vJ q6, .second, vR y1, vR y2, vR y3, vR ou, vI (1 : Int32), .unset, .unset] [(.int (1 : Int32))])) _
      refine XS.istore X531.here hx rfl (hb hby at_483) rfl (l' := #[vJ q1, .second, vJ q2, .second, vJ q3, .second, vJ q4, .second, vJ q5, .second, vJ q6, .second, vR x1, vR x2, vR ob, vI ww, vR x4, vI (own_kk q6), vR x5, vI (own_of q6), vJ q6, .second, vR y1, vR y2, vR y3, vR ou, vI (1 : Int32), .unset, .unset]) rfl ?_
      refine XS.aload X531.here hx rfl (hb hby at_485) rfl rfl ?_
      refine XS.iload X531.here hx rfl (hb hby at_487) rfl ?_
      exact kt
    clear R568
    obtain ⟨cl571, Ar571, hin571, hat571⟩ := Y1.at (j := (own_of q6)) (k := o) of0 ofj (own_o7 ho3)
    have R572 : ∀ tg, Steps p.tables e below (T531.setTop (mkF m 494 #[vJ q1, .second, vJ q2, .second, vJ q3, .second, vJ q4, .second, vJ q5, .second, vJ q6, .second, vR x1, vR x2, vR ob, vI ww, vR x4, vI (own_kk q6), vR x5, vI (own_of q6), vJ q6, .second, vR y1, vR y2, vR y3, vR ou, vI (1 : Int32), .unset, .unset] [(.int (own_of q6)), (.ref y3), (.long (e1 o))])) tg → Steps p.tables e below (T0.setTop (mkF m 350 #[vJ q1, .second, vJ q2, .second, vJ q3, .second, vJ q4, .second, vJ q5, .second, vJ q6, .second, vR x1, vR x2, vR ob, vI ww, vR x4, vI (own_kk q6), vR x5, vI (own_of q6), vJ q6, .second, vR y1, vR y2, vR y3, vR ou, .unset, .unset, .unset] [(.int (0 : Int32)), (.ref ou)])) tg := by
      intro tg kt
      refine R570 _ ?_
      show Steps p.tables e below (T531.setTop (mkF m 489 #[vJ q1, .second, vJ q2, .second, vJ q3, .second, vJ q4, .second, vJ q5, .second, vJ q6, .second, vR x1, vR x2, vR ob, vI ww, vR x4, vI (own_kk q6), vR x5, vI (own_of q6), vJ q6, .second, vR y1, vR y2, vR y3, vR ou, vI (1 : Int32), .unset, .unset] [(.int (own_of q6)), (.ref y1)])) _
      refine X531.laload hx (j := (own_of q6)) (v := (.long (e1 o))) (by rw [hh531]; exact Ar571.1) (State.isArrayOf_alike hZ.alike Ar571.2.1) Ar571.2.2 hin571 hat571 (g := (mkF m 489 #[vJ q1, .second, vJ q2, .second, vJ q3, .second, vJ q4, .second, vJ q5, .second, vJ q6, .second, vR x1, vR x2, vR ob, vI ww, vR x4, vI (own_kk q6), vR x5, vI (own_of q6), vJ q6, .second, vR y1, vR y2, vR y3, vR ou, vI (1 : Int32), .unset, .unset] [(.int (own_of q6)), (.ref y1)])) rfl rfl (hb hby at_489) _ ?_
      refine XS.aload X531.here hx rfl (hb hby at_490) rfl rfl ?_
      refine XS.iload X531.here hx rfl (hb hby at_492) rfl ?_
      exact kt
    clear R570
    obtain ⟨cl573, Ar573, hin573, hat573⟩ := Y3.at (j := (own_of q6)) (k := o) of0 ofj (own_o7 ho3)
    have R574 : ∀ tg, Steps p.tables e below (T531.setTop (mkF m 495 #[vJ q1, .second, vJ q2, .second, vJ q3, .second, vJ q4, .second, vJ q5, .second, vJ q6, .second, vR x1, vR x2, vR ob, vI ww, vR x4, vI (own_kk q6), vR x5, vI (own_of q6), vJ q6, .second, vR y1, vR y2, vR y3, vR ou, vI (1 : Int32), .unset, .unset] [(.long (e3 o)), (.long (e1 o))])) tg → Steps p.tables e below (T0.setTop (mkF m 350 #[vJ q1, .second, vJ q2, .second, vJ q3, .second, vJ q4, .second, vJ q5, .second, vJ q6, .second, vR x1, vR x2, vR ob, vI ww, vR x4, vI (own_kk q6), vR x5, vI (own_of q6), vJ q6, .second, vR y1, vR y2, vR y3, vR ou, .unset, .unset, .unset] [(.int (0 : Int32)), (.ref ou)])) tg := by
      intro tg kt
      refine R572 _ ?_
      show Steps p.tables e below (T531.setTop (mkF m 494 #[vJ q1, .second, vJ q2, .second, vJ q3, .second, vJ q4, .second, vJ q5, .second, vJ q6, .second, vR x1, vR x2, vR ob, vI ww, vR x4, vI (own_kk q6), vR x5, vI (own_of q6), vJ q6, .second, vR y1, vR y2, vR y3, vR ou, vI (1 : Int32), .unset, .unset] [(.int (own_of q6)), (.ref y3), (.long (e1 o))])) _
      refine X531.laload hx (j := (own_of q6)) (v := (.long (e3 o))) (by rw [hh531]; exact Ar573.1) (State.isArrayOf_alike hZ.alike Ar573.2.1) Ar573.2.2 hin573 hat573 (g := (mkF m 494 #[vJ q1, .second, vJ q2, .second, vJ q3, .second, vJ q4, .second, vJ q5, .second, vJ q6, .second, vR x1, vR x2, vR ob, vI ww, vR x4, vI (own_kk q6), vR x5, vI (own_of q6), vJ q6, .second, vR y1, vR y2, vR y3, vR ou, vI (1 : Int32), .unset, .unset] [(.int (own_of q6)), (.ref y3), (.long (e1 o))])) rfl rfl (hb hby at_494) _ ?_
      exact kt
    clear R572
    obtain ⟨_, _, ⟨T575, L575, k575, n575⟩, -, X575, ⟨Lc575, hQ575, l575, y575, z575⟩, st575⟩ := Jvm.LawKit.callS X531 hx (y := (⟨"com/example/inexact_odds/inexactodds/language/EncodingEncodePinLaw", "ucmp", "(JJ)I"⟩ : MethodName)) hown (mvT hZ (hw _ (List.mem_of_getElem? (i := 75) rfl))) (mvT hZ (hw _ (List.mem_of_getElem? (i := 76) rfl))) (mvT hZ (hw _ (List.mem_of_getElem? (i := 54) rfl))) (mvT hZ (hw _ (List.mem_of_getElem? (i := 77) rfl))) (by decide) (backOf (W := 0) (rm_ucmp l Z a0 hw [] (e1 o) (e3 o) h0 n0 Z0) hZ (hw _ (List.mem_of_getElem? (i := 77) rfl)) (hw _ (List.mem_of_getElem? (i := 54) rfl)) (by decide) (by decide)) (g := (mkF m 495 #[vJ q1, .second, vJ q2, .second, vJ q3, .second, vJ q4, .second, vJ q5, .second, vJ q6, .second, vR x1, vR x2, vR ob, vI ww, vR x4, vI (own_kk q6), vR x5, vI (own_of q6), vJ q6, .second, vR y1, vR y2, vR y3, vR ou, vI (1 : Int32), .unset, .unset] [(.long (e3 o)), (.long (e1 o))])) rfl (by rw [hml]; rfl) (argsL := [(.long (e1 o)), (.long (e3 o))]) (rest := []) (lenOf pd_6 rfl) rfl (by show 2 * 0 + _ ≤ _; exact Nat.le_of_eq rfl) (hb hby at_495) (fun _ _ => ⟨rfl, hh531, (by decide : 13 + 0 ≤ _), (by decide : 50 + 0 ≤ _)⟩)
    dsimp only [Pt.U, Pt.locs, Pt.cells, Pt.slots] at X575 l575 y575 z575 st575 hQ575
    rw [l575, y575, z575] at X575
    obtain ⟨rfl, N575q, hh575⟩ := hQ575
    have N575 := Fr.app N531 N575q
    have R576 : ∀ tg, Steps p.tables e below (T575.setTop (mkF m 502 #[vJ q1, .second, vJ q2, .second, vJ q3, .second, vJ q4, .second, vJ q5, .second, vJ q6, .second, vR x1, vR x2, vR ob, vI ww, vR x4, vI (own_kk q6), vR x5, vI (own_of q6), vJ q6, .second, vR y1, vR y2, vR y3, vR ou, vI (1 : Int32), vI (own_ucmp (e1 o) (e3 o)), .unset] [(.int (own_ucmp (e1 o) (e3 o)))])) tg → Steps p.tables e below (T0.setTop (mkF m 350 #[vJ q1, .second, vJ q2, .second, vJ q3, .second, vJ q4, .second, vJ q5, .second, vJ q6, .second, vR x1, vR x2, vR ob, vI ww, vR x4, vI (own_kk q6), vR x5, vI (own_of q6), vJ q6, .second, vR y1, vR y2, vR y3, vR ou, .unset, .unset, .unset] [(.int (0 : Int32)), (.ref ou)])) tg := by
      intro tg kt
      refine R574 _ ?_
      refine st575 _ ?_
      show Steps p.tables e below (T575.setTop (mkF m 498 #[vJ q1, .second, vJ q2, .second, vJ q3, .second, vJ q4, .second, vJ q5, .second, vJ q6, .second, vR x1, vR x2, vR ob, vI ww, vR x4, vI (own_kk q6), vR x5, vI (own_of q6), vJ q6, .second, vR y1, vR y2, vR y3, vR ou, vI (1 : Int32), .unset, .unset] [(.int (own_ucmp (e1 o) (e3 o)))])) _
      refine XS.istore X575.here hx rfl (hb hby at_498) rfl (l' := #[vJ q1, .second, vJ q2, .second, vJ q3, .second, vJ q4, .second, vJ q5, .second, vJ q6, .second, vR x1, vR x2, vR ob, vI ww, vR x4, vI (own_kk q6), vR x5, vI (own_of q6), vJ q6, .second, vR y1, vR y2, vR y3, vR ou, vI (1 : Int32), vI (own_ucmp (e1 o) (e3 o)), .unset]) rfl ?_
      refine XS.iload X575.here hx rfl (hb hby at_500) rfl ?_
      exact kt
    clear R574 st575
    by_cases hc0 : (own_ucmp (e1 o) (e3 o)) = (0 : Int32)
    · have R590 : ∀ tg, Steps p.tables e below (T575.setTop (mkF m 517 #[vJ q1, .second, vJ q2, .second, vJ q3, .second, vJ q4, .second, vJ q5, .second, vJ q6, .second, vR x1, vR x2, vR ob, vI ww, vR x4, vI (own_kk q6), vR x5, vI (own_of q6), vJ q6, .second, vR y1, vR y2, vR y3, vR ou, vI (1 : Int32), vI (own_ucmp (e1 o) (e3 o)), .unset] [(.int ((own_of q6) + (1 : Int32))), (.ref y1)])) tg → Steps p.tables e below (T0.setTop (mkF m 350 #[vJ q1, .second, vJ q2, .second, vJ q3, .second, vJ q4, .second, vJ q5, .second, vJ q6, .second, vR x1, vR x2, vR ob, vI ww, vR x4, vI (own_kk q6), vR x5, vI (own_of q6), vJ q6, .second, vR y1, vR y2, vR y3, vR ou, .unset, .unset, .unset] [(.int (0 : Int32)), (.ref ou)])) tg := by
        intro tg kt
        refine R576 _ ?_
        show Steps p.tables e below (T575.setTop (mkF m 502 #[vJ q1, .second, vJ q2, .second, vJ q3, .second, vJ q4, .second, vJ q5, .second, vJ q6, .second, vR x1, vR x2, vR ob, vI ww, vR x4, vI (own_kk q6), vR x5, vI (own_of q6), vJ q6, .second, vR y1, vR y2, vR y3, vR ou, vI (1 : Int32), vI (own_ucmp (e1 o) (e3 o)), .unset] [(.int (own_ucmp (e1 o) (e3 o)))])) _
        refine XS.ifNo X575.here hx rfl (hb hby at_502) rfl ((if0 _ _).trans (teq (hc0 : (own_ucmp (e1 o) (e3 o)) = (0 : Int32))).2) ?_
        refine XS.iload X575.here hx rfl (hb hby at_505) rfl ?_
        refine XS.iconst X575.here hx rfl (hb hby at_507) ?_
        show Steps p.tables e below (T575.setTop (mkF m 508 #[vJ q1, .second, vJ q2, .second, vJ q3, .second, vJ q4, .second, vJ q5, .second, vJ q6, .second, vR x1, vR x2, vR ob, vI ww, vR x4, vI (own_kk q6), vR x5, vI (own_of q6), vJ q6, .second, vR y1, vR y2, vR y3, vR ou, vI (1 : Int32), vI (own_ucmp (e1 o) (e3 o)), .unset] [(.int (1 : Int32)), (.int ww)])) _
        refine XS.icmpNo X575.here hx rfl (hb hby at_508) rfl (tlt ((W4 hwv).2 : (1 : Int32) < ww)).2.2.2 ?_
        refine XS.aload X575.here hx rfl (hb hby at_511) rfl rfl ?_
        refine XS.iload X575.here hx rfl (hb hby at_513) rfl ?_
        show Steps p.tables e below (T575.setTop (mkF m 515 #[vJ q1, .second, vJ q2, .second, vJ q3, .second, vJ q4, .second, vJ q5, .second, vJ q6, .second, vR x1, vR x2, vR ob, vI ww, vR x4, vI (own_kk q6), vR x5, vI (own_of q6), vJ q6, .second, vR y1, vR y2, vR y3, vR ou, vI (1 : Int32), vI (own_ucmp (e1 o) (e3 o)), .unset] [(.int (own_of q6)), (.ref y1)])) _
        refine XS.iconst X575.here hx rfl (hb hby at_515) ?_
        show Steps p.tables e below (T575.setTop (mkF m 516 #[vJ q1, .second, vJ q2, .second, vJ q3, .second, vJ q4, .second, vJ q5, .second, vJ q6, .second, vR x1, vR x2, vR ob, vI ww, vR x4, vI (own_kk q6), vR x5, vI (own_of q6), vJ q6, .second, vR y1, vR y2, vR y3, vR ou, vI (1 : Int32), vI (own_ucmp (e1 o) (e3 o)), .unset] [(.int (1 : Int32)), (.int (own_of q6)), (.ref y1)])) _
        refine XS.iadd X575.here hx rfl (hb hby at_516) rfl ?_
        exact kt
      clear R576
      obtain ⟨cl591, Ar591, hin591, hat591⟩ := Y1.at (j := ((own_of q6) + (1 : Int32))) (k := (o + 1)) oi.1 oi.2 (own_o8 ho3)
      have R592 : ∀ tg, Steps p.tables e below (T575.setTop (mkF m 524 #[vJ q1, .second, vJ q2, .second, vJ q3, .second, vJ q4, .second, vJ q5, .second, vJ q6, .second, vR x1, vR x2, vR ob, vI ww, vR x4, vI (own_kk q6), vR x5, vI (own_of q6), vJ q6, .second, vR y1, vR y2, vR y3, vR ou, vI (1 : Int32), vI (own_ucmp (e1 o) (e3 o)), .unset] [(.int ((own_of q6) + (1 : Int32))), (.ref y3), (.long (e1 (o + 1)))])) tg → Steps p.tables e below (T0.setTop (mkF m 350 #[vJ q1, .second, vJ q2, .second, vJ q3, .second, vJ q4, .second, vJ q5, .second, vJ q6, .second, vR x1, vR x2, vR ob, vI ww, vR x4, vI (own_kk q6), vR x5, vI (own_of q6), vJ q6, .second, vR y1, vR y2, vR y3, vR ou, .unset, .unset, .unset] [(.int (0 : Int32)), (.ref ou)])) tg := by
        intro tg kt
        refine R590 _ ?_
        show Steps p.tables e below (T575.setTop (mkF m 517 #[vJ q1, .second, vJ q2, .second, vJ q3, .second, vJ q4, .second, vJ q5, .second, vJ q6, .second, vR x1, vR x2, vR ob, vI ww, vR x4, vI (own_kk q6), vR x5, vI (own_of q6), vJ q6, .second, vR y1, vR y2, vR y3, vR ou, vI (1 : Int32), vI (own_ucmp (e1 o) (e3 o)), .unset] [(.int ((own_of q6) + (1 : Int32))), (.ref y1)])) _
        refine X575.laload hx (j := ((own_of q6) + (1 : Int32))) (v := (.long (e1 (o + 1)))) (by rw [hh575]; exact Ar591.1) (State.isArrayOf_alike hZ.alike Ar591.2.1) Ar591.2.2 hin591 hat591 (g := (mkF m 517 #[vJ q1, .second, vJ q2, .second, vJ q3, .second, vJ q4, .second, vJ q5, .second, vJ q6, .second, vR x1, vR x2, vR ob, vI ww, vR x4, vI (own_kk q6), vR x5, vI (own_of q6), vJ q6, .second, vR y1, vR y2, vR y3, vR ou, vI (1 : Int32), vI (own_ucmp (e1 o) (e3 o)), .unset] [(.int ((own_of q6) + (1 : Int32))), (.ref y1)])) rfl rfl (hb hby at_517) _ ?_
        refine XS.aload X575.here hx rfl (hb hby at_518) rfl rfl ?_
        refine XS.iload X575.here hx rfl (hb hby at_520) rfl ?_
        show Steps p.tables e below (T575.setTop (mkF m 522 #[vJ q1, .second, vJ q2, .second, vJ q3, .second, vJ q4, .second, vJ q5, .second, vJ q6, .second, vR x1, vR x2, vR ob, vI ww, vR x4, vI (own_kk q6), vR x5, vI (own_of q6), vJ q6, .second, vR y1, vR y2, vR y3, vR ou, vI (1 : Int32), vI (own_ucmp (e1 o) (e3 o)), .unset] [(.int (own_of q6)), (.ref y3), (.long (e1 (o + 1)))])) _
        refine XS.iconst X575.here hx rfl (hb hby at_522) ?_
        show Steps p.tables e below (T575.setTop (mkF m 523 #[vJ q1, .second, vJ q2, .second, vJ q3, .second, vJ q4, .second, vJ q5, .second, vJ q6, .second, vR x1, vR x2, vR ob, vI ww, vR x4, vI (own_kk q6), vR x5, vI (own_of q6), vJ q6, .second, vR y1, vR y2, vR y3, vR ou, vI (1 : Int32), vI (own_ucmp (e1 o) (e3 o)), .unset] [(.int (1 : Int32)), (.int (own_of q6)), (.ref y3), (.long (e1 (o + 1)))])) _
        refine XS.iadd X575.here hx rfl (hb hby at_523) rfl ?_
        exact kt
      clear R590
      obtain ⟨cl593, Ar593, hin593, hat593⟩ := Y3.at (j := ((own_of q6) + (1 : Int32))) (k := (o + 1)) oi.1 oi.2 (own_o8 ho3)
      have R594 : ∀ tg, Steps p.tables e below (T575.setTop (mkF m 525 #[vJ q1, .second, vJ q2, .second, vJ q3, .second, vJ q4, .second, vJ q5, .second, vJ q6, .second, vR x1, vR x2, vR ob, vI ww, vR x4, vI (own_kk q6), vR x5, vI (own_of q6), vJ q6, .second, vR y1, vR y2, vR y3, vR ou, vI (1 : Int32), vI (own_ucmp (e1 o) (e3 o)), .unset] [(.long (e3 (o + 1))), (.long (e1 (o + 1)))])) tg → Steps p.tables e below (T0.setTop (mkF m 350 #[vJ q1, .second, vJ q2, .second, vJ q3, .second, vJ q4, .second, vJ q5, .second, vJ q6, .second, vR x1, vR x2, vR ob, vI ww, vR x4, vI (own_kk q6), vR x5, vI (own_of q6), vJ q6, .second, vR y1, vR y2, vR y3, vR ou, .unset, .unset, .unset] [(.int (0 : Int32)), (.ref ou)])) tg := by
        intro tg kt
        refine R592 _ ?_
        show Steps p.tables e below (T575.setTop (mkF m 524 #[vJ q1, .second, vJ q2, .second, vJ q3, .second, vJ q4, .second, vJ q5, .second, vJ q6, .second, vR x1, vR x2, vR ob, vI ww, vR x4, vI (own_kk q6), vR x5, vI (own_of q6), vJ q6, .second, vR y1, vR y2, vR y3, vR ou, vI (1 : Int32), vI (own_ucmp (e1 o) (e3 o)), .unset] [(.int ((own_of q6) + (1 : Int32))), (.ref y3), (.long (e1 (o + 1)))])) _
        refine X575.laload hx (j := ((own_of q6) + (1 : Int32))) (v := (.long (e3 (o + 1)))) (by rw [hh575]; exact Ar593.1) (State.isArrayOf_alike hZ.alike Ar593.2.1) Ar593.2.2 hin593 hat593 (g := (mkF m 524 #[vJ q1, .second, vJ q2, .second, vJ q3, .second, vJ q4, .second, vJ q5, .second, vJ q6, .second, vR x1, vR x2, vR ob, vI ww, vR x4, vI (own_kk q6), vR x5, vI (own_of q6), vJ q6, .second, vR y1, vR y2, vR y3, vR ou, vI (1 : Int32), vI (own_ucmp (e1 o) (e3 o)), .unset] [(.int ((own_of q6) + (1 : Int32))), (.ref y3), (.long (e1 (o + 1)))])) rfl rfl (hb hby at_524) _ ?_
        exact kt
      clear R592
      obtain ⟨_, _, ⟨T595, L595, k595, n595⟩, -, X595, ⟨Lc595, hQ595, l595, y595, z595⟩, st595⟩ := Jvm.LawKit.callS X575 hx (y := (⟨"com/example/inexact_odds/inexactodds/language/EncodingEncodePinLaw", "ucmp", "(JJ)I"⟩ : MethodName)) hown (mvT hZ (hw _ (List.mem_of_getElem? (i := 75) rfl))) (mvT hZ (hw _ (List.mem_of_getElem? (i := 76) rfl))) (mvT hZ (hw _ (List.mem_of_getElem? (i := 54) rfl))) (mvT hZ (hw _ (List.mem_of_getElem? (i := 77) rfl))) (by decide) (backOf (W := 0) (rm_ucmp l Z a0 hw [] (e1 (o + 1)) (e3 (o + 1)) h0 n0 Z0) hZ (hw _ (List.mem_of_getElem? (i := 77) rfl)) (hw _ (List.mem_of_getElem? (i := 54) rfl)) (by decide) (by decide)) (g := (mkF m 525 #[vJ q1, .second, vJ q2, .second, vJ q3, .second, vJ q4, .second, vJ q5, .second, vJ q6, .second, vR x1, vR x2, vR ob, vI ww, vR x4, vI (own_kk q6), vR x5, vI (own_of q6), vJ q6, .second, vR y1, vR y2, vR y3, vR ou, vI (1 : Int32), vI (own_ucmp (e1 o) (e3 o)), .unset] [(.long (e3 (o + 1))), (.long (e1 (o + 1)))])) rfl (by rw [hml]; rfl) (argsL := [(.long (e1 (o + 1))), (.long (e3 (o + 1)))]) (rest := []) (lenOf pd_6 rfl) rfl (by show 2 * 0 + _ ≤ _; exact Nat.le_of_eq rfl) (hb hby at_525) (fun _ _ => ⟨rfl, hh575, (by decide : 13 + 0 ≤ _), (by decide : 50 + 0 ≤ _)⟩)
      dsimp only [Pt.U, Pt.locs, Pt.cells, Pt.slots] at X595 l595 y595 z595 st595 hQ595
      rw [l595, y595, z595] at X595
      obtain ⟨rfl, N595q, hh595⟩ := hQ595
      have N595 := Fr.app N575 N595q
      have R596 : ∀ tg, Steps p.tables e below (T595.setTop (mkF m 534 #[vJ q1, .second, vJ q2, .second, vJ q3, .second, vJ q4, .second, vJ q5, .second, vJ q6, .second, vR x1, vR x2, vR ob, vI ww, vR x4, vI (own_kk q6), vR x5, vI (own_of q6), vJ q6, .second, vR y1, vR y2, vR y3, vR ou, vI (1 : Int32), vI (own_ucmp (e1 (o + 1)) (e3 (o + 1))), .unset] [(.int (own_kk q6)), (.ref x4)])) tg → Steps p.tables e below (T0.setTop (mkF m 350 #[vJ q1, .second, vJ q2, .second, vJ q3, .second, vJ q4, .second, vJ q5, .second, vJ q6, .second, vR x1, vR x2, vR ob, vI ww, vR x4, vI (own_kk q6), vR x5, vI (own_of q6), vJ q6, .second, vR y1, vR y2, vR y3, vR ou, .unset, .unset, .unset] [(.int (0 : Int32)), (.ref ou)])) tg := by
        intro tg kt
        refine R594 _ ?_
        refine st595 _ ?_
        show Steps p.tables e below (T595.setTop (mkF m 528 #[vJ q1, .second, vJ q2, .second, vJ q3, .second, vJ q4, .second, vJ q5, .second, vJ q6, .second, vR x1, vR x2, vR ob, vI ww, vR x4, vI (own_kk q6), vR x5, vI (own_of q6), vJ q6, .second, vR y1, vR y2, vR y3, vR ou, vI (1 : Int32), vI (own_ucmp (e1 o) (e3 o)), .unset] [(.int (own_ucmp (e1 (o + 1)) (e3 (o + 1))))])) _
        refine XS.istore X595.here hx rfl (hb hby at_528) rfl (l' := #[vJ q1, .second, vJ q2, .second, vJ q3, .second, vJ q4, .second, vJ q5, .second, vJ q6, .second, vR x1, vR x2, vR ob, vI ww, vR x4, vI (own_kk q6), vR x5, vI (own_of q6), vJ q6, .second, vR y1, vR y2, vR y3, vR ou, vI (1 : Int32), vI (own_ucmp (e1 (o + 1)) (e3 (o + 1))), .unset]) rfl ?_
        refine XS.aload X595.here hx rfl (hb hby at_530) rfl rfl ?_
        refine XS.iload X595.here hx rfl (hb hby at_532) rfl ?_
        exact kt
      clear R594 st595
      obtain ⟨cl597, Ar597, hin597, hat597⟩ := VX.at (j := (own_kk q6)) (k := kn) k0 kj hk3
      have R598 : ∀ tg, Steps p.tables e below (T595.setTop (mkF m 539 #[vJ q1, .second, vJ q2, .second, vJ q3, .second, vJ q4, .second, vJ q5, .second, vJ q6, .second, vR x1, vR x2, vR ob, vI ww, vR x4, vI (own_kk q6), vR x5, vI (own_of q6), vJ q6, .second, vR y1, vR y2, vR y3, vR ou, vI (1 : Int32), vI (own_ucmp (e1 (o + 1)) (e3 (o + 1))), .unset] [(.int (own_kk q6)), (.ref x5), (.int (xv kn))])) tg → Steps p.tables e below (T0.setTop (mkF m 350 #[vJ q1, .second, vJ q2, .second, vJ q3, .second, vJ q4, .second, vJ q5, .second, vJ q6, .second, vR x1, vR x2, vR ob, vI ww, vR x4, vI (own_kk q6), vR x5, vI (own_of q6), vJ q6, .second, vR y1, vR y2, vR y3, vR ou, .unset, .unset, .unset] [(.int (0 : Int32)), (.ref ou)])) tg := by
        intro tg kt
        refine R596 _ ?_
        show Steps p.tables e below (T595.setTop (mkF m 534 #[vJ q1, .second, vJ q2, .second, vJ q3, .second, vJ q4, .second, vJ q5, .second, vJ q6, .second, vR x1, vR x2, vR ob, vI ww, vR x4, vI (own_kk q6), vR x5, vI (own_of q6), vJ q6, .second, vR y1, vR y2, vR y3, vR ou, vI (1 : Int32), vI (own_ucmp (e1 (o + 1)) (e3 (o + 1))), .unset] [(.int (own_kk q6)), (.ref x4)])) _
        refine X595.iaload hx (j := (own_kk q6)) (v := (.int (xv kn))) (by rw [hh595]; exact Ar597.1) (State.isArrayOf_alike hZ.alike Ar597.2.1) Ar597.2.2 hin597 hat597 (g := (mkF m 534 #[vJ q1, .second, vJ q2, .second, vJ q3, .second, vJ q4, .second, vJ q5, .second, vJ q6, .second, vR x1, vR x2, vR ob, vI ww, vR x4, vI (own_kk q6), vR x5, vI (own_of q6), vJ q6, .second, vR y1, vR y2, vR y3, vR ou, vI (1 : Int32), vI (own_ucmp (e1 (o + 1)) (e3 (o + 1))), .unset] [(.int (own_kk q6)), (.ref x4)])) rfl rfl (hb hby at_534) _ ?_
        refine XS.aload X595.here hx rfl (hb hby at_535) rfl rfl ?_
        refine XS.iload X595.here hx rfl (hb hby at_537) rfl ?_
        exact kt
      clear R596
      obtain ⟨cl599, Ar599, hin599, hat599⟩ := VZ.at (j := (own_kk q6)) (k := kn) k0 kj hk3
      have R600 : ∀ tg, Steps p.tables e below (T595.setTop (mkF m 540 #[vJ q1, .second, vJ q2, .second, vJ q3, .second, vJ q4, .second, vJ q5, .second, vJ q6, .second, vR x1, vR x2, vR ob, vI ww, vR x4, vI (own_kk q6), vR x5, vI (own_of q6), vJ q6, .second, vR y1, vR y2, vR y3, vR ou, vI (1 : Int32), vI (own_ucmp (e1 (o + 1)) (e3 (o + 1))), .unset] [(.int (zv kn)), (.int (xv kn))])) tg → Steps p.tables e below (T0.setTop (mkF m 350 #[vJ q1, .second, vJ q2, .second, vJ q3, .second, vJ q4, .second, vJ q5, .second, vJ q6, .second, vR x1, vR x2, vR ob, vI ww, vR x4, vI (own_kk q6), vR x5, vI (own_of q6), vJ q6, .second, vR y1, vR y2, vR y3, vR ou, .unset, .unset, .unset] [(.int (0 : Int32)), (.ref ou)])) tg := by
        intro tg kt
        refine R598 _ ?_
        show Steps p.tables e below (T595.setTop (mkF m 539 #[vJ q1, .second, vJ q2, .second, vJ q3, .second, vJ q4, .second, vJ q5, .second, vJ q6, .second, vR x1, vR x2, vR ob, vI ww, vR x4, vI (own_kk q6), vR x5, vI (own_of q6), vJ q6, .second, vR y1, vR y2, vR y3, vR ou, vI (1 : Int32), vI (own_ucmp (e1 (o + 1)) (e3 (o + 1))), .unset] [(.int (own_kk q6)), (.ref x5), (.int (xv kn))])) _
        refine X595.iaload hx (j := (own_kk q6)) (v := (.int (zv kn))) (by rw [hh595]; exact Ar599.1) (State.isArrayOf_alike hZ.alike Ar599.2.1) Ar599.2.2 hin599 hat599 (g := (mkF m 539 #[vJ q1, .second, vJ q2, .second, vJ q3, .second, vJ q4, .second, vJ q5, .second, vJ q6, .second, vR x1, vR x2, vR ob, vI ww, vR x4, vI (own_kk q6), vR x5, vI (own_of q6), vJ q6, .second, vR y1, vR y2, vR y3, vR ou, vI (1 : Int32), vI (own_ucmp (e1 (o + 1)) (e3 (o + 1))), .unset] [(.int (own_kk q6)), (.ref x5), (.int (xv kn))])) rfl rfl (hb hby at_539) _ ?_
        exact kt
      clear R598
      by_cases hlt : (xv kn) < (zv kn)
      · have R601 : ∀ tg, Steps p.tables e below (T595.setTop (mkF m 584 #[vJ q1, .second, vJ q2, .second, vJ q3, .second, vJ q4, .second, vJ q5, .second, vJ q6, .second, vR x1, vR x2, vR ob, vI ww, vR x4, vI (own_kk q6), vR x5, vI (own_of q6), vJ q6, .second, vR y1, vR y2, vR y3, vR ou, vI (1 : Int32), vI (own_ucmp (e1 (o + 1)) (e3 (o + 1))), vI (-1 : Int32)] [(.int (1 : Int32))])) tg → Steps p.tables e below (T0.setTop (mkF m 350 #[vJ q1, .second, vJ q2, .second, vJ q3, .second, vJ q4, .second, vJ q5, .second, vJ q6, .second, vR x1, vR x2, vR ob, vI ww, vR x4, vI (own_kk q6), vR x5, vI (own_of q6), vJ q6, .second, vR y1, vR y2, vR y3, vR ou, .unset, .unset, .unset] [(.int (0 : Int32)), (.ref ou)])) tg := by
          intro tg kt
          refine R600 _ ?_
          show Steps p.tables e below (T595.setTop (mkF m 540 #[vJ q1, .second, vJ q2, .second, vJ q3, .second, vJ q4, .second, vJ q5, .second, vJ q6, .second, vR x1, vR x2, vR ob, vI ww, vR x4, vI (own_kk q6), vR x5, vI (own_of q6), vJ q6, .second, vR y1, vR y2, vR y3, vR ou, vI (1 : Int32), vI (own_ucmp (e1 (o + 1)) (e3 (o + 1))), .unset] [(.int (zv kn)), (.int (xv kn))])) _
          refine XS.icmpNo X595.here hx rfl (hb hby at_540) rfl (tlt (hlt : (xv kn) < (zv kn))).2.1 ?_
          refine XS.iconst X595.here hx rfl (hb hby at_543) ?_
          show Steps p.tables e below (T595.setTop (mkF m 544 #[vJ q1, .second, vJ q2, .second, vJ q3, .second, vJ q4, .second, vJ q5, .second, vJ q6, .second, vR x1, vR x2, vR ob, vI ww, vR x4, vI (own_kk q6), vR x5, vI (own_of q6), vJ q6, .second, vR y1, vR y2, vR y3, vR ou, vI (1 : Int32), vI (own_ucmp (e1 (o + 1)) (e3 (o + 1))), .unset] [(.int (-1 : Int32))])) _
          refine XS.goto X595.here hx rfl (pc0 := 544) (pc' := 565) rfl (hb hby at_544) (by decide) (by decide) ?_
          show Steps p.tables e below (T595.setTop (mkF m 565 #[vJ q1, .second, vJ q2, .second, vJ q3, .second, vJ q4, .second, vJ q5, .second, vJ q6, .second, vR x1, vR x2, vR ob, vI ww, vR x4, vI (own_kk q6), vR x5, vI (own_of q6), vJ q6, .second, vR y1, vR y2, vR y3, vR ou, vI (1 : Int32), vI (own_ucmp (e1 (o + 1)) (e3 (o + 1))), .unset] [(.int (-1 : Int32))])) _
          refine XS.istore X595.here hx rfl (hb hby at_565) rfl (l' := #[vJ q1, .second, vJ q2, .second, vJ q3, .second, vJ q4, .second, vJ q5, .second, vJ q6, .second, vR x1, vR x2, vR ob, vI ww, vR x4, vI (own_kk q6), vR x5, vI (own_of q6), vJ q6, .second, vR y1, vR y2, vR y3, vR ou, vI (1 : Int32), vI (own_ucmp (e1 (o + 1)) (e3 (o + 1))), vI (-1 : Int32)]) rfl ?_
          refine XS.iload X595.here hx rfl (hb hby at_567) rfl ?_
          show Steps p.tables e below (T595.setTop (mkF m 569 #[vJ q1, .second, vJ q2, .second, vJ q3, .second, vJ q4, .second, vJ q5, .second, vJ q6, .second, vR x1, vR x2, vR ob, vI ww, vR x4, vI (own_kk q6), vR x5, vI (own_of q6), vJ q6, .second, vR y1, vR y2, vR y3, vR ou, vI (1 : Int32), vI (own_ucmp (e1 (o + 1)) (e3 (o + 1))), vI (-1 : Int32)] [(.int (1 : Int32))])) _
          refine XS.ifNo X595.here hx rfl (hb hby at_569) rfl ((if0 _ _).trans (feq (by decide : ¬ ((1 : Int32) = (0 : Int32)))).1) ?_
          refine XS.iload X595.here hx rfl (hb hby at_572) rfl ?_
          refine XS.iload X595.here hx rfl (hb hby at_574) rfl ?_
          show Steps p.tables e below (T595.setTop (mkF m 576 #[vJ q1, .second, vJ q2, .second, vJ q3, .second, vJ q4, .second, vJ q5, .second, vJ q6, .second, vR x1, vR x2, vR ob, vI ww, vR x4, vI (own_kk q6), vR x5, vI (own_of q6), vJ q6, .second, vR y1, vR y2, vR y3, vR ou, vI (1 : Int32), vI (own_ucmp (e1 (o + 1)) (e3 (o + 1))), vI (-1 : Int32)] [(.int (-1 : Int32)), (.int (own_ucmp (e1 (o + 1)) (e3 (o + 1))))])) _
          refine XS.icmpNo X595.here hx rfl (hb hby at_576) rfl (teq (((hkey1.2 hwv).1 hc0).trans (if_pos hlt) : (own_ucmp (e1 (o + 1)) (e3 (o + 1))) = (-1 : Int32))).2 ?_
          refine XS.iconst X595.here hx rfl (hb hby at_579) ?_
          show Steps p.tables e below (T595.setTop (mkF m 580 #[vJ q1, .second, vJ q2, .second, vJ q3, .second, vJ q4, .second, vJ q5, .second, vJ q6, .second, vR x1, vR x2, vR ob, vI ww, vR x4, vI (own_kk q6), vR x5, vI (own_of q6), vJ q6, .second, vR y1, vR y2, vR y3, vR ou, vI (1 : Int32), vI (own_ucmp (e1 (o + 1)) (e3 (o + 1))), vI (-1 : Int32)] [(.int (1 : Int32))])) _
          refine XS.goto X595.here hx rfl (pc0 := 580) (pc' := 584) rfl (hb hby at_580) (by decide) (by decide) ?_
          exact kt
        clear R600
        exact ⟨_, _, _, X595, hh595, N595, R601⟩
      · have R602 : ∀ tg, Steps p.tables e below (T595.setTop (mkF m 551 #[vJ q1, .second, vJ q2, .second, vJ q3, .second, vJ q4, .second, vJ q5, .second, vJ q6, .second, vR x1, vR x2, vR ob, vI ww, vR x4, vI (own_kk q6), vR x5, vI (own_of q6), vJ q6, .second, vR y1, vR y2, vR y3, vR ou, vI (1 : Int32), vI (own_ucmp (e1 (o + 1)) (e3 (o + 1))), .unset] [(.int (own_kk q6)), (.ref x4)])) tg → Steps p.tables e below (T0.setTop (mkF m 350 #[vJ q1, .second, vJ q2, .second, vJ q3, .second, vJ q4, .second, vJ q5, .second, vJ q6, .second, vR x1, vR x2, vR ob, vI ww, vR x4, vI (own_kk q6), vR x5, vI (own_of q6), vJ q6, .second, vR y1, vR y2, vR y3, vR ou, .unset, .unset, .unset] [(.int (0 : Int32)), (.ref ou)])) tg := by
          intro tg kt
          refine R600 _ ?_
          show Steps p.tables e below (T595.setTop (mkF m 540 #[vJ q1, .second, vJ q2, .second, vJ q3, .second, vJ q4, .second, vJ q5, .second, vJ q6, .second, vR x1, vR x2, vR ob, vI ww, vR x4, vI (own_kk q6), vR x5, vI (own_of q6), vJ q6, .second, vR y1, vR y2, vR y3, vR ou, vI (1 : Int32), vI (own_ucmp (e1 (o + 1)) (e3 (o + 1))), .unset] [(.int (zv kn)), (.int (xv kn))])) _
          refine XS.icmpYes X595.here hx rfl (pc0 := 540) (pc' := 547) rfl (hb hby at_540) rfl (flt (hlt : ¬ ((xv kn) < (zv kn)))).2.1 (by decide) (by decide) ?_
          refine XS.aload X595.here hx rfl (hb hby at_547) rfl rfl ?_
          refine XS.iload X595.here hx rfl (hb hby at_549) rfl ?_
          exact kt
        clear R600
        obtain ⟨cl603, Ar603, hin603, hat603⟩ := VX.at (j := (own_kk q6)) (k := kn) k0 kj hk3
        have R604 : ∀ tg, Steps p.tables e below (T595.setTop (mkF m 556 #[vJ q1, .second, vJ q2, .second, vJ q3, .second, vJ q4, .second, vJ q5, .second, vJ q6, .second, vR x1, vR x2, vR ob, vI ww, vR x4, vI (own_kk q6), vR x5, vI (own_of q6), vJ q6, .second, vR y1, vR y2, vR y3, vR ou, vI (1 : Int32), vI (own_ucmp (e1 (o + 1)) (e3 (o + 1))), .unset] [(.int (own_kk q6)), (.ref x5), (.int (xv kn))])) tg → Steps p.tables e below (T0.setTop (mkF m 350 #[vJ q1, .second, vJ q2, .second, vJ q3, .second, vJ q4, .second, vJ q5, .second, vJ q6, .second, vR x1, vR x2, vR ob, vI ww, vR x4, vI (own_kk q6), vR x5, vI (own_of q6), vJ q6, .second, vR y1, vR y2, vR y3, vR ou, .unset, .unset, .unset] [(.int (0 : Int32)), (.ref ou)])) tg := by
          intro tg kt
          refine R602 _ ?_
          show Steps p.tables e below (T595.setTop (mkF m 551 #[vJ q1, .second, vJ q2, .second, vJ q3, .second, vJ q4, .second, vJ q5, .second, vJ q6, .second, vR x1, vR x2, vR ob, vI ww, vR x4, vI (own_kk q6), vR x5, vI (own_of q6), vJ q6, .second, vR y1, vR y2, vR y3, vR ou, vI (1 : Int32), vI (own_ucmp (e1 (o + 1)) (e3 (o + 1))), .unset] [(.int (own_kk q6)), (.ref x4)])) _
          refine X595.iaload hx (j := (own_kk q6)) (v := (.int (xv kn))) (by rw [hh595]; exact Ar603.1) (State.isArrayOf_alike hZ.alike Ar603.2.1) Ar603.2.2 hin603 hat603 (g := (mkF m 551 #[vJ q1, .second, vJ q2, .second, vJ q3, .second, vJ q4, .second, vJ q5, .second, vJ q6, .second, vR x1, vR x2, vR ob, vI ww, vR x4, vI (own_kk q6), vR x5, vI (own_of q6), vJ q6, .second, vR y1, vR y2, vR y3, vR ou, vI (1 : Int32), vI (own_ucmp (e1 (o + 1)) (e3 (o + 1))), .unset] [(.int (own_kk q6)), (.ref x4)])) rfl rfl (hb hby at_551) _ ?_
          refine XS.aload X595.here hx rfl (hb hby at_552) rfl rfl ?_
          refine XS.iload X595.here hx rfl (hb hby at_554) rfl ?_
          exact kt
        clear R602
        obtain ⟨cl605, Ar605, hin605, hat605⟩ := VZ.at (j := (own_kk q6)) (k := kn) k0 kj hk3
        have R606 : ∀ tg, Steps p.tables e below (T595.setTop (mkF m 557 #[vJ q1, .second, vJ q2, .second, vJ q3, .second, vJ q4, .second, vJ q5, .second, vJ q6, .second, vR x1, vR x2, vR ob, vI ww, vR x4, vI (own_kk q6), vR x5, vI (own_of q6), vJ q6, .second, vR y1, vR y2, vR y3, vR ou, vI (1 : Int32), vI (own_ucmp (e1 (o + 1)) (e3 (o + 1))), .unset] [(.int (zv kn)), (.int (xv kn))])) tg → Steps p.tables e below (T0.setTop (mkF m 350 #[vJ q1, .second, vJ q2, .second, vJ q3, .second, vJ q4, .second, vJ q5, .second, vJ q6, .second, vR x1, vR x2, vR ob, vI ww, vR x4, vI (own_kk q6), vR x5, vI (own_of q6), vJ q6, .second, vR y1, vR y2, vR y3, vR ou, .unset, .unset, .unset] [(.int (0 : Int32)), (.ref ou)])) tg := by
          intro tg kt
          refine R604 _ ?_
          show Steps p.tables e below (T595.setTop (mkF m 556 #[vJ q1, .second, vJ q2, .second, vJ q3, .second, vJ q4, .second, vJ q5, .second, vJ q6, .second, vR x1, vR x2, vR ob, vI ww, vR x4, vI (own_kk q6), vR x5, vI (own_of q6), vJ q6, .second, vR y1, vR y2, vR y3, vR ou, vI (1 : Int32), vI (own_ucmp (e1 (o + 1)) (e3 (o + 1))), .unset] [(.int (own_kk q6)), (.ref x5), (.int (xv kn))])) _
          refine X595.iaload hx (j := (own_kk q6)) (v := (.int (zv kn))) (by rw [hh595]; exact Ar605.1) (State.isArrayOf_alike hZ.alike Ar605.2.1) Ar605.2.2 hin605 hat605 (g := (mkF m 556 #[vJ q1, .second, vJ q2, .second, vJ q3, .second, vJ q4, .second, vJ q5, .second, vJ q6, .second, vR x1, vR x2, vR ob, vI ww, vR x4, vI (own_kk q6), vR x5, vI (own_of q6), vJ q6, .second, vR y1, vR y2, vR y3, vR ou, vI (1 : Int32), vI (own_ucmp (e1 (o + 1)) (e3 (o + 1))), .unset] [(.int (own_kk q6)), (.ref x5), (.int (xv kn))])) rfl rfl (hb hby at_556) _ ?_
          exact kt
        clear R604
        by_cases heq : (xv kn) = (zv kn)
        · have R607 : ∀ tg, Steps p.tables e below (T595.setTop (mkF m 584 #[vJ q1, .second, vJ q2, .second, vJ q3, .second, vJ q4, .second, vJ q5, .second, vJ q6, .second, vR x1, vR x2, vR ob, vI ww, vR x4, vI (own_kk q6), vR x5, vI (own_of q6), vJ q6, .second, vR y1, vR y2, vR y3, vR ou, vI (1 : Int32), vI (own_ucmp (e1 (o + 1)) (e3 (o + 1))), vI (0 : Int32)] [(.int (1 : Int32))])) tg → Steps p.tables e below (T0.setTop (mkF m 350 #[vJ q1, .second, vJ q2, .second, vJ q3, .second, vJ q4, .second, vJ q5, .second, vJ q6, .second, vR x1, vR x2, vR ob, vI ww, vR x4, vI (own_kk q6), vR x5, vI (own_of q6), vJ q6, .second, vR y1, vR y2, vR y3, vR ou, .unset, .unset, .unset] [(.int (0 : Int32)), (.ref ou)])) tg := by
            intro tg kt
            refine R606 _ ?_
            show Steps p.tables e below (T595.setTop (mkF m 557 #[vJ q1, .second, vJ q2, .second, vJ q3, .second, vJ q4, .second, vJ q5, .second, vJ q6, .second, vR x1, vR x2, vR ob, vI ww, vR x4, vI (own_kk q6), vR x5, vI (own_of q6), vJ q6, .second, vR y1, vR y2, vR y3, vR ou, vI (1 : Int32), vI (own_ucmp (e1 (o + 1)) (e3 (o + 1))), .unset] [(.int (zv kn)), (.int (xv kn))])) _
            refine XS.icmpNo X595.here hx rfl (hb hby at_557) rfl (teq (heq : (xv kn) = (zv kn))).2 ?_
            refine XS.iconst X595.here hx rfl (hb hby at_560) ?_
            show Steps p.tables e below (T595.setTop (mkF m 561 #[vJ q1, .second, vJ q2, .second, vJ q3, .second, vJ q4, .second, vJ q5, .second, vJ q6, .second, vR x1, vR x2, vR ob, vI ww, vR x4, vI (own_kk q6), vR x5, vI (own_of q6), vJ q6, .second, vR y1, vR y2, vR y3, vR ou, vI (1 : Int32), vI (own_ucmp (e1 (o + 1)) (e3 (o + 1))), .unset] [(.int (0 : Int32))])) _
            refine XS.goto X595.here hx rfl (pc0 := 561) (pc' := 565) rfl (hb hby at_561) (by decide) (by decide) ?_
            show Steps p.tables e below (T595.setTop (mkF m 565 #[vJ q1, .second, vJ q2, .second, vJ q3, .second, vJ q4, .second, vJ q5, .second, vJ q6, .second, vR x1, vR x2, vR ob, vI ww, vR x4, vI (own_kk q6), vR x5, vI (own_of q6), vJ q6, .second, vR y1, vR y2, vR y3, vR ou, vI (1 : Int32), vI (own_ucmp (e1 (o + 1)) (e3 (o + 1))), .unset] [(.int (0 : Int32))])) _
            refine XS.istore X595.here hx rfl (hb hby at_565) rfl (l' := #[vJ q1, .second, vJ q2, .second, vJ q3, .second, vJ q4, .second, vJ q5, .second, vJ q6, .second, vR x1, vR x2, vR ob, vI ww, vR x4, vI (own_kk q6), vR x5, vI (own_of q6), vJ q6, .second, vR y1, vR y2, vR y3, vR ou, vI (1 : Int32), vI (own_ucmp (e1 (o + 1)) (e3 (o + 1))), vI (0 : Int32)]) rfl ?_
            refine XS.iload X595.here hx rfl (hb hby at_567) rfl ?_
            show Steps p.tables e below (T595.setTop (mkF m 569 #[vJ q1, .second, vJ q2, .second, vJ q3, .second, vJ q4, .second, vJ q5, .second, vJ q6, .second, vR x1, vR x2, vR ob, vI ww, vR x4, vI (own_kk q6), vR x5, vI (own_of q6), vJ q6, .second, vR y1, vR y2, vR y3, vR ou, vI (1 : Int32), vI (own_ucmp (e1 (o + 1)) (e3 (o + 1))), vI (0 : Int32)] [(.int (1 : Int32))])) _
            refine XS.ifNo X595.here hx rfl (hb hby at_569) rfl ((if0 _ _).trans (feq (by decide : ¬ ((1 : Int32) = (0 : Int32)))).1) ?_
            refine XS.iload X595.here hx rfl (hb hby at_572) rfl ?_
            refine XS.iload X595.here hx rfl (hb hby at_574) rfl ?_
            show Steps p.tables e below (T595.setTop (mkF m 576 #[vJ q1, .second, vJ q2, .second, vJ q3, .second, vJ q4, .second, vJ q5, .second, vJ q6, .second, vR x1, vR x2, vR ob, vI ww, vR x4, vI (own_kk q6), vR x5, vI (own_of q6), vJ q6, .second, vR y1, vR y2, vR y3, vR ou, vI (1 : Int32), vI (own_ucmp (e1 (o + 1)) (e3 (o + 1))), vI (0 : Int32)] [(.int (0 : Int32)), (.int (own_ucmp (e1 (o + 1)) (e3 (o + 1))))])) _
            refine XS.icmpNo X595.here hx rfl (hb hby at_576) rfl (teq (((hkey1.2 hwv).1 hc0).trans ((if_neg hlt).trans (if_pos heq)) : (own_ucmp (e1 (o + 1)) (e3 (o + 1))) = (0 : Int32))).2 ?_
            refine XS.iconst X595.here hx rfl (hb hby at_579) ?_
            show Steps p.tables e below (T595.setTop (mkF m 580 #[vJ q1, .second, vJ q2, .second, vJ q3, .second, vJ q4, .second, vJ q5, .second, vJ q6, .second, vR x1, vR x2, vR ob, vI ww, vR x4, vI (own_kk q6), vR x5, vI (own_of q6), vJ q6, .second, vR y1, vR y2, vR y3, vR ou, vI (1 : Int32), vI (own_ucmp (e1 (o + 1)) (e3 (o + 1))), vI (0 : Int32)] [(.int (1 : Int32))])) _
            refine XS.goto X595.here hx rfl (pc0 := 580) (pc' := 584) rfl (hb hby at_580) (by decide) (by decide) ?_
            exact kt
          clear R606
          exact ⟨_, _, _, X595, hh595, N595, R607⟩
        · have R608 : ∀ tg, Steps p.tables e below (T595.setTop (mkF m 584 #[vJ q1, .second, vJ q2, .second, vJ q3, .second, vJ q4, .second, vJ q5, .second, vJ q6, .second, vR x1, vR x2, vR ob, vI ww, vR x4, vI (own_kk q6), vR x5, vI (own_of q6), vJ q6, .second, vR y1, vR y2, vR y3, vR ou, vI (1 : Int32), vI (own_ucmp (e1 (o + 1)) (e3 (o + 1))), vI (1 : Int32)] [(.int (1 : Int32))])) tg → Steps p.tables e below (T0.setTop (mkF m 350 #[vJ q1, .second, vJ q2, .second, vJ q3, .second, vJ q4, .second, vJ q5, .second, vJ q6, .second, vR x1, vR x2, vR ob, vI ww, vR x4, vI (own_kk q6), vR x5, vI (own_of q6), vJ q6, .second, vR y1, vR y2, vR y3, vR ou, .unset, .unset, .unset] [(.int (0 : Int32)), (.ref ou)])) tg := by
            intro tg kt
            refine R606 _ ?_
            show Steps p.tables e below (T595.setTop (mkF m 557 #[vJ q1, .second, vJ q2, .second, vJ q3, .second, vJ q4, .second, vJ q5, .second, vJ q6, .second, vR x1, vR x2, vR ob, vI ww, vR x4, vI (own_kk q6), vR x5, vI (own_of q6), vJ q6, .second, vR y1, vR y2, vR y3, vR ou, vI (1 : Int32), vI (own_ucmp (e1 (o + 1)) (e3 (o + 1))), .unset] [(.int (zv kn)), (.int (xv kn))])) _
            refine XS.icmpYes X595.here hx rfl (pc0 := 557) (pc' := 564) rfl (hb hby at_557) rfl (feq (heq : ¬ ((xv kn) = (zv kn)))).2 (by decide) (by decide) ?_
            refine XS.iconst X595.here hx rfl (hb hby at_564) ?_
            show Steps p.tables e below (T595.setTop (mkF m 565 #[vJ q1, .second, vJ q2, .second, vJ q3, .second, vJ q4, .second, vJ q5, .second, vJ q6, .second, vR x1, vR x2, vR ob, vI ww, vR x4, vI (own_kk q6), vR x5, vI (own_of q6), vJ q6, .second, vR y1, vR y2, vR y3, vR ou, vI (1 : Int32), vI (own_ucmp (e1 (o + 1)) (e3 (o + 1))), .unset] [(.int (1 : Int32))])) _
            refine XS.istore X595.here hx rfl (hb hby at_565) rfl (l' := #[vJ q1, .second, vJ q2, .second, vJ q3, .second, vJ q4, .second, vJ q5, .second, vJ q6, .second, vR x1, vR x2, vR ob, vI ww, vR x4, vI (own_kk q6), vR x5, vI (own_of q6), vJ q6, .second, vR y1, vR y2, vR y3, vR ou, vI (1 : Int32), vI (own_ucmp (e1 (o + 1)) (e3 (o + 1))), vI (1 : Int32)]) rfl ?_
            refine XS.iload X595.here hx rfl (hb hby at_567) rfl ?_
            show Steps p.tables e below (T595.setTop (mkF m 569 #[vJ q1, .second, vJ q2, .second, vJ q3, .second, vJ q4, .second, vJ q5, .second, vJ q6, .second, vR x1, vR x2, vR ob, vI ww, vR x4, vI (own_kk q6), vR x5, vI (own_of q6), vJ q6, .second, vR y1, vR y2, vR y3, vR ou, vI (1 : Int32), vI (own_ucmp (e1 (o + 1)) (e3 (o + 1))), vI (1 : Int32)] [(.int (1 : Int32))])) _
            refine XS.ifNo X595.here hx rfl (hb hby at_569) rfl ((if0 _ _).trans (feq (by decide : ¬ ((1 : Int32) = (0 : Int32)))).1) ?_
            refine XS.iload X595.here hx rfl (hb hby at_572) rfl ?_
            refine XS.iload X595.here hx rfl (hb hby at_574) rfl ?_
            show Steps p.tables e below (T595.setTop (mkF m 576 #[vJ q1, .second, vJ q2, .second, vJ q3, .second, vJ q4, .second, vJ q5, .second, vJ q6, .second, vR x1, vR x2, vR ob, vI ww, vR x4, vI (own_kk q6), vR x5, vI (own_of q6), vJ q6, .second, vR y1, vR y2, vR y3, vR ou, vI (1 : Int32), vI (own_ucmp (e1 (o + 1)) (e3 (o + 1))), vI (1 : Int32)] [(.int (1 : Int32)), (.int (own_ucmp (e1 (o + 1)) (e3 (o + 1))))])) _
            refine XS.icmpNo X595.here hx rfl (hb hby at_576) rfl (teq (((hkey1.2 hwv).1 hc0).trans ((if_neg hlt).trans (if_neg heq)) : (own_ucmp (e1 (o + 1)) (e3 (o + 1))) = (1 : Int32))).2 ?_
            refine XS.iconst X595.here hx rfl (hb hby at_579) ?_
            show Steps p.tables e below (T595.setTop (mkF m 580 #[vJ q1, .second, vJ q2, .second, vJ q3, .second, vJ q4, .second, vJ q5, .second, vJ q6, .second, vR x1, vR x2, vR ob, vI ww, vR x4, vI (own_kk q6), vR x5, vI (own_of q6), vJ q6, .second, vR y1, vR y2, vR y3, vR ou, vI (1 : Int32), vI (own_ucmp (e1 (o + 1)) (e3 (o + 1))), vI (1 : Int32)] [(.int (1 : Int32))])) _
            refine XS.goto X595.here hx rfl (pc0 := 580) (pc' := 584) rfl (hb hby at_580) (by decide) (by decide) ?_
            exact kt
          clear R606
          exact ⟨_, _, _, X595, hh595, N595, R608⟩
    · have R577 : ∀ tg, Steps p.tables e below (T575.setTop (mkF m 534 #[vJ q1, .second, vJ q2, .second, vJ q3, .second, vJ q4, .second, vJ q5, .second, vJ q6, .second, vR x1, vR x2, vR ob, vI ww, vR x4, vI (own_kk q6), vR x5, vI (own_of q6), vJ q6, .second, vR y1, vR y2, vR y3, vR ou, vI (1 : Int32), vI (own_ucmp (e1 o) (e3 o)), .unset] [(.int (own_kk q6)), (.ref x4)])) tg → Steps p.tables e below (T0.setTop (mkF m 350 #[vJ q1, .second, vJ q2, .second, vJ q3, .second, vJ q4, .second, vJ q5, .second, vJ q6, .second, vR x1, vR x2, vR ob, vI ww, vR x4, vI (own_kk q6), vR x5, vI (own_of q6), vJ q6, .second, vR y1, vR y2, vR y3, vR ou, .unset, .unset, .unset] [(.int (0 : Int32)), (.ref ou)])) tg := by
        intro tg kt
        refine R576 _ ?_
        show Steps p.tables e below (T575.setTop (mkF m 502 #[vJ q1, .second, vJ q2, .second, vJ q3, .second, vJ q4, .second, vJ q5, .second, vJ q6, .second, vR x1, vR x2, vR ob, vI ww, vR x4, vI (own_kk q6), vR x5, vI (own_of q6), vJ q6, .second, vR y1, vR y2, vR y3, vR ou, vI (1 : Int32), vI (own_ucmp (e1 o) (e3 o)), .unset] [(.int (own_ucmp (e1 o) (e3 o)))])) _
        refine XS.ifYes X575.here hx rfl (pc0 := 502) (pc' := 530) rfl (hb hby at_502) rfl ((if0 _ _).trans (feq (hc0 : ¬ ((own_ucmp (e1 o) (e3 o)) = (0 : Int32)))).2) (by decide) (by decide) ?_
        refine XS.aload X575.here hx rfl (hb hby at_530) rfl rfl ?_
        refine XS.iload X575.here hx rfl (hb hby at_532) rfl ?_
        exact kt
      clear R576
      obtain ⟨cl578, Ar578, hin578, hat578⟩ := VX.at (j := (own_kk q6)) (k := kn) k0 kj hk3
      have R579 : ∀ tg, Steps p.tables e below (T575.setTop (mkF m 539 #[vJ q1, .second, vJ q2, .second, vJ q3, .second, vJ q4, .second, vJ q5, .second, vJ q6, .second, vR x1, vR x2, vR ob, vI ww, vR x4, vI (own_kk q6), vR x5, vI (own_of q6), vJ q6, .second, vR y1, vR y2, vR y3, vR ou, vI (1 : Int32), vI (own_ucmp (e1 o) (e3 o)), .unset] [(.int (own_kk q6)), (.ref x5), (.int (xv kn))])) tg → Steps p.tables e below (T0.setTop (mkF m 350 #[vJ q1, .second, vJ q2, .second, vJ q3, .second, vJ q4, .second, vJ q5, .second, vJ q6, .second, vR x1, vR x2, vR ob, vI ww, vR x4, vI (own_kk q6), vR x5, vI (own_of q6), vJ q6, .second, vR y1, vR y2, vR y3, vR ou, .unset, .unset, .unset] [(.int (0 : Int32)), (.ref ou)])) tg := by
        intro tg kt
        refine R577 _ ?_
        show Steps p.tables e below (T575.setTop (mkF m 534 #[vJ q1, .second, vJ q2, .second, vJ q3, .second, vJ q4, .second, vJ q5, .second, vJ q6, .second, vR x1, vR x2, vR ob, vI ww, vR x4, vI (own_kk q6), vR x5, vI (own_of q6), vJ q6, .second, vR y1, vR y2, vR y3, vR ou, vI (1 : Int32), vI (own_ucmp (e1 o) (e3 o)), .unset] [(.int (own_kk q6)), (.ref x4)])) _
        refine X575.iaload hx (j := (own_kk q6)) (v := (.int (xv kn))) (by rw [hh575]; exact Ar578.1) (State.isArrayOf_alike hZ.alike Ar578.2.1) Ar578.2.2 hin578 hat578 (g := (mkF m 534 #[vJ q1, .second, vJ q2, .second, vJ q3, .second, vJ q4, .second, vJ q5, .second, vJ q6, .second, vR x1, vR x2, vR ob, vI ww, vR x4, vI (own_kk q6), vR x5, vI (own_of q6), vJ q6, .second, vR y1, vR y2, vR y3, vR ou, vI (1 : Int32), vI (own_ucmp (e1 o) (e3 o)), .unset] [(.int (own_kk q6)), (.ref x4)])) rfl rfl (hb hby at_534) _ ?_
        refine XS.aload X575.here hx rfl (hb hby at_535) rfl rfl ?_
        refine XS.iload X575.here hx rfl (hb hby at_537) rfl ?_
        exact kt
      clear R577
      obtain ⟨cl580, Ar580, hin580, hat580⟩ := VZ.at (j := (own_kk q6)) (k := kn) k0 kj hk3
      have R581 : ∀ tg, Steps p.tables e below (T575.setTop (mkF m 540 #[vJ q1, .second, vJ q2, .second, vJ q3, .second, vJ q4, .second, vJ q5, .second, vJ q6, .second, vR x1, vR x2, vR ob, vI ww, vR x4, vI (own_kk q6), vR x5, vI (own_of q6), vJ q6, .second, vR y1, vR y2, vR y3, vR ou, vI (1 : Int32), vI (own_ucmp (e1 o) (e3 o)), .unset] [(.int (zv kn)), (.int (xv kn))])) tg → Steps p.tables e below (T0.setTop (mkF m 350 #[vJ q1, .second, vJ q2, .second, vJ q3, .second, vJ q4, .second, vJ q5, .second, vJ q6, .second, vR x1, vR x2, vR ob, vI ww, vR x4, vI (own_kk q6), vR x5, vI (own_of q6), vJ q6, .second, vR y1, vR y2, vR y3, vR ou, .unset, .unset, .unset] [(.int (0 : Int32)), (.ref ou)])) tg := by
        intro tg kt
        refine R579 _ ?_
        show Steps p.tables e below (T575.setTop (mkF m 539 #[vJ q1, .second, vJ q2, .second, vJ q3, .second, vJ q4, .second, vJ q5, .second, vJ q6, .second, vR x1, vR x2, vR ob, vI ww, vR x4, vI (own_kk q6), vR x5, vI (own_of q6), vJ q6, .second, vR y1, vR y2, vR y3, vR ou, vI (1 : Int32), vI (own_ucmp (e1 o) (e3 o)), .unset] [(.int (own_kk q6)), (.ref x5), (.int (xv kn))])) _
        refine X575.iaload hx (j := (own_kk q6)) (v := (.int (zv kn))) (by rw [hh575]; exact Ar580.1) (State.isArrayOf_alike hZ.alike Ar580.2.1) Ar580.2.2 hin580 hat580 (g := (mkF m 539 #[vJ q1, .second, vJ q2, .second, vJ q3, .second, vJ q4, .second, vJ q5, .second, vJ q6, .second, vR x1, vR x2, vR ob, vI ww, vR x4, vI (own_kk q6), vR x5, vI (own_of q6), vJ q6, .second, vR y1, vR y2, vR y3, vR ou, vI (1 : Int32), vI (own_ucmp (e1 o) (e3 o)), .unset] [(.int (own_kk q6)), (.ref x5), (.int (xv kn))])) rfl rfl (hb hby at_539) _ ?_
        exact kt
      clear R579
      by_cases hlt : (xv kn) < (zv kn)
      · have R582 : ∀ tg, Steps p.tables e below (T575.setTop (mkF m 584 #[vJ q1, .second, vJ q2, .second, vJ q3, .second, vJ q4, .second, vJ q5, .second, vJ q6, .second, vR x1, vR x2, vR ob, vI ww, vR x4, vI (own_kk q6), vR x5, vI (own_of q6), vJ q6, .second, vR y1, vR y2, vR y3, vR ou, vI (1 : Int32), vI (own_ucmp (e1 o) (e3 o)), vI (-1 : Int32)] [(.int (1 : Int32))])) tg → Steps p.tables e below (T0.setTop (mkF m 350 #[vJ q1, .second, vJ q2, .second, vJ q3, .second, vJ q4, .second, vJ q5, .second, vJ q6, .second, vR x1, vR x2, vR ob, vI ww, vR x4, vI (own_kk q6), vR x5, vI (own_of q6), vJ q6, .second, vR y1, vR y2, vR y3, vR ou, .unset, .unset, .unset] [(.int (0 : Int32)), (.ref ou)])) tg := by
          intro tg kt
          refine R581 _ ?_
          show Steps p.tables e below (T575.setTop (mkF m 540 #[vJ q1, .second, vJ q2, .second, vJ q3, .second, vJ q4, .second, vJ q5, .second, vJ q6, .second, vR x1, vR x2, vR ob, vI ww, vR x4, vI (own_kk q6), vR x5, vI (own_of q6), vJ q6, .second, vR y1, vR y2, vR y3, vR ou, vI (1 : Int32), vI (own_ucmp (e1 o) (e3 o)), .unset] [(.int (zv kn)), (.int (xv kn))])) _
          refine XS.icmpNo X575.here hx rfl (hb hby at_540) rfl (tlt (hlt : (xv kn) < (zv kn))).2.1 ?_
          refine XS.iconst X575.here hx rfl (hb hby at_543) ?_
          show Steps p.tables e below (T575.setTop (mkF m 544 #[vJ q1, .second, vJ q2, .second, vJ q3, .second, vJ q4, .second, vJ q5, .second, vJ q6, .second, vR x1, vR x2, vR ob, vI ww, vR x4, vI (own_kk q6), vR x5, vI (own_of q6), vJ q6, .second, vR y1, vR y2, vR y3, vR ou, vI (1 : Int32), vI (own_ucmp (e1 o) (e3 o)), .unset] [(.int (-1 : Int32))])) _
          refine XS.goto X575.here hx rfl (pc0 := 544) (pc' := 565) rfl (hb hby at_544) (by decide) (by decide) ?_
          show Steps p.tables e below (T575.setTop (mkF m 565 #[vJ q1, .second, vJ q2, .second, vJ q3, .second, vJ q4, .second, vJ q5, .second, vJ q6, .second, vR x1, vR x2, vR ob, vI ww, vR x4, vI (own_kk q6), vR x5, vI (own_of q6), vJ q6, .second, vR y1, vR y2, vR y3, vR ou, vI (1 : Int32), vI (own_ucmp (e1 o) (e3 o)), .unset] [(.int (-1 : Int32))])) _
          refine XS.istore X575.here hx rfl (hb hby at_565) rfl (l' := #[vJ q1, .second, vJ q2, .second, vJ q3, .second, vJ q4, .second, vJ q5, .second, vJ q6, .second, vR x1, vR x2, vR ob, vI ww, vR x4, vI (own_kk q6), vR x5, vI (own_of q6), vJ q6, .second, vR y1, vR y2, vR y3, vR ou, vI (1 : Int32), vI (own_ucmp (e1 o) (e3 o)), vI (-1 : Int32)]) rfl ?_
          refine XS.iload X575.here hx rfl (hb hby at_567) rfl ?_
          show Steps p.tables e below (T575.setTop (mkF m 569 #[vJ q1, .second, vJ q2, .second, vJ q3, .second, vJ q4, .second, vJ q5, .second, vJ q6, .second, vR x1, vR x2, vR ob, vI ww, vR x4, vI (own_kk q6), vR x5, vI (own_of q6), vJ q6, .second, vR y1, vR y2, vR y3, vR ou, vI (1 : Int32), vI (own_ucmp (e1 o) (e3 o)), vI (-1 : Int32)] [(.int (1 : Int32))])) _
          refine XS.ifNo X575.here hx rfl (hb hby at_569) rfl ((if0 _ _).trans (feq (by decide : ¬ ((1 : Int32) = (0 : Int32)))).1) ?_
          refine XS.iload X575.here hx rfl (hb hby at_572) rfl ?_
          refine XS.iload X575.here hx rfl (hb hby at_574) rfl ?_
          show Steps p.tables e below (T575.setTop (mkF m 576 #[vJ q1, .second, vJ q2, .second, vJ q3, .second, vJ q4, .second, vJ q5, .second, vJ q6, .second, vR x1, vR x2, vR ob, vI ww, vR x4, vI (own_kk q6), vR x5, vI (own_of q6), vJ q6, .second, vR y1, vR y2, vR y3, vR ou, vI (1 : Int32), vI (own_ucmp (e1 o) (e3 o)), vI (-1 : Int32)] [(.int (-1 : Int32)), (.int (own_ucmp (e1 o) (e3 o)))])) _
          refine XS.icmpNo X575.here hx rfl (hb hby at_576) rfl (teq (((hkey1.2 hwv).2 hc0).trans (if_pos hlt) : (own_ucmp (e1 o) (e3 o)) = (-1 : Int32))).2 ?_
          refine XS.iconst X575.here hx rfl (hb hby at_579) ?_
          show Steps p.tables e below (T575.setTop (mkF m 580 #[vJ q1, .second, vJ q2, .second, vJ q3, .second, vJ q4, .second, vJ q5, .second, vJ q6, .second, vR x1, vR x2, vR ob, vI ww, vR x4, vI (own_kk q6), vR x5, vI (own_of q6), vJ q6, .second, vR y1, vR y2, vR y3, vR ou, vI (1 : Int32), vI (own_ucmp (e1 o) (e3 o)), vI (-1 : Int32)] [(.int (1 : Int32))])) _
          refine XS.goto X575.here hx rfl (pc0 := 580) (pc' := 584) rfl (hb hby at_580) (by decide) (by decide) ?_
          exact kt
        clear R581
        exact ⟨_, _, _, X575, hh575, N575, R582⟩
      · have R583 : ∀ tg, Steps p.tables e below (T575.setTop (mkF m 551 #[vJ q1, .second, vJ q2, .second, vJ q3, .second, vJ q4, .second, vJ q5, .second, vJ q6, .second, vR x1, vR x2, vR ob, vI ww, vR x4, vI (own_kk q6), vR x5, vI (own_of q6), vJ q6, .second, vR y1, vR y2, vR y3, vR ou, vI (1 : Int32), vI (own_ucmp (e1 o) (e3 o)), .unset] [(.int (own_kk q6)), (.ref x4)])) tg → Steps p.tables e below (T0.setTop (mkF m 350 #[vJ q1, .second, vJ q2, .second, vJ q3, .second, vJ q4, .second, vJ q5, .second, vJ q6, .second, vR x1, vR x2, vR ob, vI ww, vR x4, vI (own_kk q6), vR x5, vI (own_of q6), vJ q6, .second, vR y1, vR y2, vR y3, vR ou, .unset, .unset, .unset] [(.int (0 : Int32)), (.ref ou)])) tg := by
          intro tg kt
          refine R581 _ ?_
          show Steps p.tables e below (T575.setTop (mkF m 540 #[vJ q1, .second, vJ q2, .second, vJ q3, .second, vJ q4, .second, vJ q5, .second, vJ q6, .second, vR x1, vR x2, vR ob, vI ww, vR x4, vI (own_kk q6), vR x5, vI (own_of q6), vJ q6, .second, vR y1, vR y2, vR y3, vR ou, vI (1 : Int32), vI (own_ucmp (e1 o) (e3 o)), .unset] [(.int (zv kn)), (.int (xv kn))])) _
          refine XS.icmpYes X575.here hx rfl (pc0 := 540) (pc' := 547) rfl (hb hby at_540) rfl (flt (hlt : ¬ ((xv kn) < (zv kn)))).2.1 (by decide) (by decide) ?_
          refine XS.aload X575.here hx rfl (hb hby at_547) rfl rfl ?_
          refine XS.iload X575.here hx rfl (hb hby at_549) rfl ?_
          exact kt
        clear R581
        obtain ⟨cl584, Ar584, hin584, hat584⟩ := VX.at (j := (own_kk q6)) (k := kn) k0 kj hk3
        have R585 : ∀ tg, Steps p.tables e below (T575.setTop (mkF m 556 #[vJ q1, .second, vJ q2, .second, vJ q3, .second, vJ q4, .second, vJ q5, .second, vJ q6, .second, vR x1, vR x2, vR ob, vI ww, vR x4, vI (own_kk q6), vR x5, vI (own_of q6), vJ q6, .second, vR y1, vR y2, vR y3, vR ou, vI (1 : Int32), vI (own_ucmp (e1 o) (e3 o)), .unset] [(.int (own_kk q6)), (.ref x5), (.int (xv kn))])) tg → Steps p.tables e below (T0.setTop (mkF m 350 #[vJ q1, .second, vJ q2, .second, vJ q3, .second, vJ q4, .second, vJ q5, .second, vJ q6, .second, vR x1, vR x2, vR ob, vI ww, vR x4, vI (own_kk q6), vR x5, vI (own_of q6), vJ q6, .second, vR y1, vR y2, vR y3, vR ou, .unset, .unset, .unset] [(.int (0 : Int32)), (.ref ou)])) tg := by
          intro tg kt
          refine R583 _ ?_
          show Steps p.tables e below (T575.setTop (mkF m 551 #[vJ q1, .second, vJ q2, .second, vJ q3, .second, vJ q4, .second, vJ q5, .second, vJ q6, .second, vR x1, vR x2, vR ob, vI ww, vR x4, vI (own_kk q6), vR x5, vI (own_of q6), vJ q6, .second, vR y1, vR y2, vR y3, vR ou, vI (1 : Int32), vI (own_ucmp (e1 o) (e3 o)), .unset] [(.int (own_kk q6)), (.ref x4)])) _
          refine X575.iaload hx (j := (own_kk q6)) (v := (.int (xv kn))) (by rw [hh575]; exact Ar584.1) (State.isArrayOf_alike hZ.alike Ar584.2.1) Ar584.2.2 hin584 hat584 (g := (mkF m 551 #[vJ q1, .second, vJ q2, .second, vJ q3, .second, vJ q4, .second, vJ q5, .second, vJ q6, .second, vR x1, vR x2, vR ob, vI ww, vR x4, vI (own_kk q6), vR x5, vI (own_of q6), vJ q6, .second, vR y1, vR y2, vR y3, vR ou, vI (1 : Int32), vI (own_ucmp (e1 o) (e3 o)), .unset] [(.int (own_kk q6)), (.ref x4)])) rfl rfl (hb hby at_551) _ ?_
          refine XS.aload X575.here hx rfl (hb hby at_552) rfl rfl ?_
          refine XS.iload X575.here hx rfl (hb hby at_554) rfl ?_
          exact kt
        clear R583
        obtain ⟨cl586, Ar586, hin586, hat586⟩ := VZ.at (j := (own_kk q6)) (k := kn) k0 kj hk3
        have R587 : ∀ tg, Steps p.tables e below (T575.setTop (mkF m 557 #[vJ q1, .second, vJ q2, .second, vJ q3, .second, vJ q4, .second, vJ q5, .second, vJ q6, .second, vR x1, vR x2, vR ob, vI ww, vR x4, vI (own_kk q6), vR x5, vI (own_of q6), vJ q6, .second, vR y1, vR y2, vR y3, vR ou, vI (1 : Int32), vI (own_ucmp (e1 o) (e3 o)), .unset] [(.int (zv kn)), (.int (xv kn))])) tg → Steps p.tables e below (T0.setTop (mkF m 350 #[vJ q1, .second, vJ q2, .second, vJ q3, .second, vJ q4, .second, vJ q5, .second, vJ q6, .second, vR x1, vR x2, vR ob, vI ww, vR x4, vI (own_kk q6), vR x5, vI (own_of q6), vJ q6, .second, vR y1, vR y2, vR y3, vR ou, .unset, .unset, .unset] [(.int (0 : Int32)), (.ref ou)])) tg := by
          intro tg kt
          refine R585 _ ?_
          show Steps p.tables e below (T575.setTop (mkF m 556 #[vJ q1, .second, vJ q2, .second, vJ q3, .second, vJ q4, .second, vJ q5, .second, vJ q6, .second, vR x1, vR x2, vR ob, vI ww, vR x4, vI (own_kk q6), vR x5, vI (own_of q6), vJ q6, .second, vR y1, vR y2, vR y3, vR ou, vI (1 : Int32), vI (own_ucmp (e1 o) (e3 o)), .unset] [(.int (own_kk q6)), (.ref x5), (.int (xv kn))])) _
          refine X575.iaload hx (j := (own_kk q6)) (v := (.int (zv kn))) (by rw [hh575]; exact Ar586.1) (State.isArrayOf_alike hZ.alike Ar586.2.1) Ar586.2.2 hin586 hat586 (g := (mkF m 556 #[vJ q1, .second, vJ q2, .second, vJ q3, .second, vJ q4, .second, vJ q5, .second, vJ q6, .second, vR x1, vR x2, vR ob, vI ww, vR x4, vI (own_kk q6), vR x5, vI (own_of q6), vJ q6, .second, vR y1, vR y2, vR y3, vR ou, vI (1 : Int32), vI (own_ucmp (e1 o) (e3 o)), .unset] [(.int (own_kk q6)), (.ref x5), (.int (xv kn))])) rfl rfl (hb hby at_556) _ ?_
          exact kt
        clear R585
        by_cases heq : (xv kn) = (zv kn)
        · have R588 : ∀ tg, Steps p.tables e below (T575.setTop (mkF m 584 #[vJ q1, .second, vJ q2, .second, vJ q3, .second, vJ q4, .second, vJ q5, .second, vJ q6, .second, vR x1, vR x2, vR ob, vI ww, vR x4, vI (own_kk q6), vR x5, vI (own_of q6), vJ q6, .second, vR y1, vR y2, vR y3, vR ou, vI (1 : Int32), vI (own_ucmp (e1 o) (e3 o)), vI (0 : Int32)] [(.int (1 : Int32))])) tg → Steps p.tables e below (T0.setTop (mkF m 350 #[vJ q1, .second, vJ q2, .second, vJ q3, .second, vJ q4, .second, vJ q5, .second, vJ q6, .second, vR x1, vR x2, vR ob, vI ww, vR x4, vI (own_kk q6), vR x5, vI (own_of q6), vJ q6, .second, vR y1, vR y2, vR y3, vR ou, .unset, .unset, .unset] [(.int (0 : Int32)), (.ref ou)])) tg := by
            intro tg kt
            refine R587 _ ?_
            show Steps p.tables e below (T575.setTop (mkF m 557 #[vJ q1, .second, vJ q2, .second, vJ q3, .second, vJ q4, .second, vJ q5, .second, vJ q6, .second, vR x1, vR x2, vR ob, vI ww, vR x4, vI (own_kk q6), vR x5, vI (own_of q6), vJ q6, .second, vR y1, vR y2, vR y3, vR ou, vI (1 : Int32), vI (own_ucmp (e1 o) (e3 o)), .unset] [(.int (zv kn)), (.int (xv kn))])) _
            refine XS.icmpNo X575.here hx rfl (hb hby at_557) rfl (teq (heq : (xv kn) = (zv kn))).2 ?_
            refine XS.iconst X575.here hx rfl (hb hby at_560) ?_
            show Steps p.tables e below (T575.setTop (mkF m 561 #[vJ q1, .second, vJ q2, .second, vJ q3, .second, vJ q4, .second, vJ q5, .second, vJ q6, .second, vR x1, vR x2, vR ob, vI ww, vR x4, vI (own_kk q6), vR x5, vI (own_of q6), vJ q6, .second, vR y1, vR y2, vR y3, vR ou, vI (1 : Int32), vI (own_ucmp (e1 o) (e3 o)), .unset] [(.int (0 : Int32))])) _
            refine XS.goto X575.here hx rfl (pc0 := 561) (pc' := 565) rfl (hb hby at_561) (by decide) (by decide) ?_
            show Steps p.tables e below (T575.setTop (mkF m 565 #[vJ q1, .second, vJ q2, .second, vJ q3, .second, vJ q4, .second, vJ q5, .second, vJ q6, .second, vR x1, vR x2, vR ob, vI ww, vR x4, vI (own_kk q6), vR x5, vI (own_of q6), vJ q6, .second, vR y1, vR y2, vR y3, vR ou, vI (1 : Int32), vI (own_ucmp (e1 o) (e3 o)), .unset] [(.int (0 : Int32))])) _
            refine XS.istore X575.here hx rfl (hb hby at_565) rfl (l' := #[vJ q1, .second, vJ q2, .second, vJ q3, .second, vJ q4, .second, vJ q5, .second, vJ q6, .second, vR x1, vR x2, vR ob, vI ww, vR x4, vI (own_kk q6), vR x5, vI (own_of q6), vJ q6, .second, vR y1, vR y2, vR y3, vR ou, vI (1 : Int32), vI (own_ucmp (e1 o) (e3 o)), vI (0 : Int32)]) rfl ?_
            refine XS.iload X575.here hx rfl (hb hby at_567) rfl ?_
            show Steps p.tables e below (T575.setTop (mkF m 569 #[vJ q1, .second, vJ q2, .second, vJ q3, .second, vJ q4, .second, vJ q5, .second, vJ q6, .second, vR x1, vR x2, vR ob, vI ww, vR x4, vI (own_kk q6), vR x5, vI (own_of q6), vJ q6, .second, vR y1, vR y2, vR y3, vR ou, vI (1 : Int32), vI (own_ucmp (e1 o) (e3 o)), vI (0 : Int32)] [(.int (1 : Int32))])) _
            refine XS.ifNo X575.here hx rfl (hb hby at_569) rfl ((if0 _ _).trans (feq (by decide : ¬ ((1 : Int32) = (0 : Int32)))).1) ?_
            refine XS.iload X575.here hx rfl (hb hby at_572) rfl ?_
            refine XS.iload X575.here hx rfl (hb hby at_574) rfl ?_
            show Steps p.tables e below (T575.setTop (mkF m 576 #[vJ q1, .second, vJ q2, .second, vJ q3, .second, vJ q4, .second, vJ q5, .second, vJ q6, .second, vR x1, vR x2, vR ob, vI ww, vR x4, vI (own_kk q6), vR x5, vI (own_of q6), vJ q6, .second, vR y1, vR y2, vR y3, vR ou, vI (1 : Int32), vI (own_ucmp (e1 o) (e3 o)), vI (0 : Int32)] [(.int (0 : Int32)), (.int (own_ucmp (e1 o) (e3 o)))])) _
            refine XS.icmpNo X575.here hx rfl (hb hby at_576) rfl (teq (((hkey1.2 hwv).2 hc0).trans ((if_neg hlt).trans (if_pos heq)) : (own_ucmp (e1 o) (e3 o)) = (0 : Int32))).2 ?_
            refine XS.iconst X575.here hx rfl (hb hby at_579) ?_
            show Steps p.tables e below (T575.setTop (mkF m 580 #[vJ q1, .second, vJ q2, .second, vJ q3, .second, vJ q4, .second, vJ q5, .second, vJ q6, .second, vR x1, vR x2, vR ob, vI ww, vR x4, vI (own_kk q6), vR x5, vI (own_of q6), vJ q6, .second, vR y1, vR y2, vR y3, vR ou, vI (1 : Int32), vI (own_ucmp (e1 o) (e3 o)), vI (0 : Int32)] [(.int (1 : Int32))])) _
            refine XS.goto X575.here hx rfl (pc0 := 580) (pc' := 584) rfl (hb hby at_580) (by decide) (by decide) ?_
            exact kt
          clear R587
          exact ⟨_, _, _, X575, hh575, N575, R588⟩
        · have R589 : ∀ tg, Steps p.tables e below (T575.setTop (mkF m 584 #[vJ q1, .second, vJ q2, .second, vJ q3, .second, vJ q4, .second, vJ q5, .second, vJ q6, .second, vR x1, vR x2, vR ob, vI ww, vR x4, vI (own_kk q6), vR x5, vI (own_of q6), vJ q6, .second, vR y1, vR y2, vR y3, vR ou, vI (1 : Int32), vI (own_ucmp (e1 o) (e3 o)), vI (1 : Int32)] [(.int (1 : Int32))])) tg → Steps p.tables e below (T0.setTop (mkF m 350 #[vJ q1, .second, vJ q2, .second, vJ q3, .second, vJ q4, .second, vJ q5, .second, vJ q6, .second, vR x1, vR x2, vR ob, vI ww, vR x4, vI (own_kk q6), vR x5, vI (own_of q6), vJ q6, .second, vR y1, vR y2, vR y3, vR ou, .unset, .unset, .unset] [(.int (0 : Int32)), (.ref ou)])) tg := by
            intro tg kt
            refine R587 _ ?_
            show Steps p.tables e below (T575.setTop (mkF m 557 #[vJ q1, .second, vJ q2, .second, vJ q3, .second, vJ q4, .second, vJ q5, .second, vJ q6, .second, vR x1, vR x2, vR ob, vI ww, vR x4, vI (own_kk q6), vR x5, vI (own_of q6), vJ q6, .second, vR y1, vR y2, vR y3, vR ou, vI (1 : Int32), vI (own_ucmp (e1 o) (e3 o)), .unset] [(.int (zv kn)), (.int (xv kn))])) _
            refine XS.icmpYes X575.here hx rfl (pc0 := 557) (pc' := 564) rfl (hb hby at_557) rfl (feq (heq : ¬ ((xv kn) = (zv kn)))).2 (by decide) (by decide) ?_
            refine XS.iconst X575.here hx rfl (hb hby at_564) ?_
            show Steps p.tables e below (T575.setTop (mkF m 565 #[vJ q1, .second, vJ q2, .second, vJ q3, .second, vJ q4, .second, vJ q5, .second, vJ q6, .second, vR x1, vR x2, vR ob, vI ww, vR x4, vI (own_kk q6), vR x5, vI (own_of q6), vJ q6, .second, vR y1, vR y2, vR y3, vR ou, vI (1 : Int32), vI (own_ucmp (e1 o) (e3 o)), .unset] [(.int (1 : Int32))])) _
            refine XS.istore X575.here hx rfl (hb hby at_565) rfl (l' := #[vJ q1, .second, vJ q2, .second, vJ q3, .second, vJ q4, .second, vJ q5, .second, vJ q6, .second, vR x1, vR x2, vR ob, vI ww, vR x4, vI (own_kk q6), vR x5, vI (own_of q6), vJ q6, .second, vR y1, vR y2, vR y3, vR ou, vI (1 : Int32), vI (own_ucmp (e1 o) (e3 o)), vI (1 : Int32)]) rfl ?_
            refine XS.iload X575.here hx rfl (hb hby at_567) rfl ?_
            show Steps p.tables e below (T575.setTop (mkF m 569 #[vJ q1, .second, vJ q2, .second, vJ q3, .second, vJ q4, .second, vJ q5, .second, vJ q6, .second, vR x1, vR x2, vR ob, vI ww, vR x4, vI (own_kk q6), vR x5, vI (own_of q6), vJ q6, .second, vR y1, vR y2, vR y3, vR ou, vI (1 : Int32), vI (own_ucmp (e1 o) (e3 o)), vI (1 : Int32)] [(.int (1 : Int32))])) _
            refine XS.ifNo X575.here hx rfl (hb hby at_569) rfl ((if0 _ _).trans (feq (by decide : ¬ ((1 : Int32) = (0 : Int32)))).1) ?_
            refine XS.iload X575.here hx rfl (hb hby at_572) rfl ?_
            refine XS.iload X575.here hx rfl (hb hby at_574) rfl ?_
            show Steps p.tables e below (T575.setTop (mkF m 576 #[vJ q1, .second, vJ q2, .second, vJ q3, .second, vJ q4, .second, vJ q5, .second, vJ q6, .second, vR x1, vR x2, vR ob, vI ww, vR x4, vI (own_kk q6), vR x5, vI (own_of q6), vJ q6, .second, vR y1, vR y2, vR y3, vR ou, vI (1 : Int32), vI (own_ucmp (e1 o) (e3 o)), vI (1 : Int32)] [(.int (1 : Int32)), (.int (own_ucmp (e1 o) (e3 o)))])) _
            refine XS.icmpNo X575.here hx rfl (hb hby at_576) rfl (teq (((hkey1.2 hwv).2 hc0).trans ((if_neg hlt).trans (if_neg heq)) : (own_ucmp (e1 o) (e3 o)) = (1 : Int32))).2 ?_
            refine XS.iconst X575.here hx rfl (hb hby at_579) ?_
            show Steps p.tables e below (T575.setTop (mkF m 580 #[vJ q1, .second, vJ q2, .second, vJ q3, .second, vJ q4, .second, vJ q5, .second, vJ q6, .second, vR x1, vR x2, vR ob, vI ww, vR x4, vI (own_kk q6), vR x5, vI (own_of q6), vJ q6, .second, vR y1, vR y2, vR y3, vR ou, vI (1 : Int32), vI (own_ucmp (e1 o) (e3 o)), vI (1 : Int32)] [(.int (1 : Int32))])) _
            refine XS.goto X575.here hx rfl (pc0 := 580) (pc' := 584) rfl (hb hby at_580) (by decide) (by decide) ?_
            exact kt
          clear R587
          exact ⟨_, _, _, X575, hh575, N575, R589⟩
theorem pd_7 : parseMethodDescriptor "(II)I" = some ⟨[.int, .int], some .int⟩ := by decide +kernel
theorem pd_8 : parseMethodDescriptor "([I[I)V" = some ⟨[(.array .int), (.array .int)], none⟩ := by decide +kernel
theorem pd_9 : parseMethodDescriptor "()I" = some ⟨[], some .int⟩ := by decide +kernel
theorem pd_10 : parseMethodDescriptor "(III)I" = some ⟨[.int, .int, .int], some .int⟩ := by decide +kernel
theorem ef_rm_law (m : MethodId) (q1 : Int64) (q2 : Int64) (q3 : Int64) (q4 : Int64) (q5 : Int64) (q6 : Int64) : entryFrame m #[(.long q1), (.long q2), (.long q3), (.long q4), (.long q5), (.long q6)] maxLocals = mkF m 0 #[vJ q1, .second, vJ q2, .second, vJ q3, .second, vJ q4, .second, vJ q5, .second, vJ q6, .second, .unset, .unset, .unset, .unset, .unset, .unset, .unset, .unset, .unset, .unset, .unset, .unset, .unset, .unset, .unset, .unset, .unset] [] := by first | (simp [entryFrame, mkF, argsToLocals, Value.category, maxLocals]; done) | rfl
def Q_rm_law (Z : State) (q1 : Int64) (q2 : Int64) (q3 : Int64) (q4 : Int64) (q5 : Int64) (q6 : Int64) (h0 : Heap) (n0 : Nat) (v : Option Value) (h : Heap) (L : List Loc) : Prop := v = some (.int (1 : Int32)) ∧ Fr n0 L
set_option maxRecDepth 65536 in
set_option maxHeartbeats 40000000 in
theorem rm_law (l : Launch) (Z : State) (a0 : Array Value) (hw : ∀ d ∈ tables_1, d.before a0 Z = true) (ws : List Jvm.Cond) (q1 : Int64) (q2 : Int64) (q3 : Int64) (q4 : Int64) (q5 : Int64) (q6 : Int64) (h0 : Heap) (n0 : Nat) (Z0 : n0 ≤ h0.size) :
    MetFree l x (head1 (Jvm.Cond.code x code maxLocals ret :: ws) room_1) (fun a U => a = #[(.long q1), (.long q2), (.long q3), (.long q4), (.long q5), (.long q6)] ∧ Z.Warmed39 U.vm ∧ U.heap = h0) (fun _ _ _ _ _ => True) (fun _ U oC U' => ∃ v L, oC = .returned v ∧ Q_rm_law Z q1 q2 q3 q4 q5 q6 h0 n0 v U'.heap L ∧ FrameEnd U oC U' L room_1.cells room_1.slots) := by
  refine MetFree.of_bodySF (plainFor_of_name pn_3) hisR ?_
  intro p e s m args below meth c s₁ Bd hml0 hP hK
  obtain ⟨rfl, hZ, hh⟩ := hP
  have hx := Bd.exec
  have hby := Bd.bytes
  have hml : c.maxLocals = 29 := hml0
  have hown : s.vm.findClass "com/example/inexact_odds/inexactodds/language/EncodingEncodePinLaw" = some m.cls := findClass_of_methodNamed Bd.named
  have hnm := (name_of_methodNamed Bd.named Bd.method).1
  have X0 : Stand p l e room_1 s m #[(.long q1), (.long q2), (.long q3), (.long q4), (.long q5), (.long q6)] below meth c s₁ [] 0 0 := Stand.of_body Bd
  have e0 : s₁.heap = h0 := by rw [← hh, Bd.state]; rfl
  have N0 := Fr.nil n0
  have pre0 : ∀ tg, Steps p.tables e below (s₁.setTop (mkF m 0 #[vJ q1, .second, vJ q2, .second, vJ q3, .second, vJ q4, .second, vJ q5, .second, vJ q6, .second, .unset, .unset, .unset, .unset, .unset, .unset, .unset, .unset, .unset, .unset, .unset, .unset, .unset, .unset, .unset, .unset, .unset] [])) tg → Steps p.tables e below (s₁.setTop (entryFrame m #[(.long q1), (.long q2), (.long q3), (.long q4), (.long q5), (.long q6)] maxLocals)) tg := fun t k => castTop (ef_rm_law m q1 q2 q3 q4 q5 q6) k
  have pre00 : ∀ tg, Steps p.tables e below (s₁.setTop (mkF m 0 #[vJ q1, .second, vJ q2, .second, vJ q3, .second, vJ q4, .second, vJ q5, .second, vJ q6, .second, .unset, .unset, .unset, .unset, .unset, .unset, .unset, .unset, .unset, .unset, .unset, .unset, .unset, .unset, .unset, .unset, .unset] [])) tg → Steps p.tables e below (s₁.setTop (mkF m 0 #[vJ q1, .second, vJ q2, .second, vJ q3, .second, vJ q4, .second, vJ q5, .second, vJ q6, .second, .unset, .unset, .unset, .unset, .unset, .unset, .unset, .unset, .unset, .unset, .unset, .unset, .unset, .unset, .unset, .unset, .unset] [])) tg := fun _ k => k
  have hlh : ∀ j, j < 3 → ((own_v3 (own_lw q1) (own_lw q2) (own_lw q3)) j).toInt ≤ ((own_v3 (own_hg q1) (own_hg q2) (own_hg q3)) j).toInt := own_all3 (own_lw_hg q1) (own_lw_hg q2) (own_lw_hg q3)
  obtain ⟨lo, hlo⟩ : ∃ f : Nat → Int32, f = (own_v3 (own_lw q1) (own_lw q2) (own_lw q3)) := ⟨_, rfl⟩
  obtain ⟨hi, hhi⟩ : ∃ f : Nat → Int32, f = (own_v3 (own_hg q1) (own_hg q2) (own_hg q3)) := ⟨_, rfl⟩
  rw [← hlo, ← hhi] at hlh
  have hxx := own_vv lo hi (q4.toInt32) ((own_ush q4 (32 : Int32)).toInt32) (q5.toInt32) hlh
  obtain ⟨xv, hxv⟩ : ∃ f : Nat → Int32, f = (own_v3 (own_vl (lo 0) (hi 0) (q4.toInt32)) (own_vl (lo 1) (hi 1) ((own_ush q4 (32 : Int32)).toInt32)) (own_vl (lo 2) (hi 2) (q5.toInt32))) := ⟨_, rfl⟩
  rw [← hxv] at hxx
  obtain ⟨kn, hk3, hkk⟩ := own_kk_at q6
  obtain ⟨hzz, hsame⟩ := own_zz lo hi xv kn hk3 ((own_ush q5 (32 : Int32)).toInt32) hlh hxx
  obtain ⟨zv, hzv⟩ : ∃ f : Nat → Int32, f = (own_set xv kn (own_vl (lo kn) (hi kn) ((own_ush q5 (32 : Int32)).toInt32))) := ⟨_, rfl⟩
  rw [← hzv] at hzz hsame
  obtain ⟨w2, hw2, hwds, hwn, hdec, hkey⟩ := own_fin2 lo hi xv zv kn hk3 hlh hxx hzz hsame
  obtain ⟨o, ho, ho3⟩ := own_of_at q6
  obtain ⟨ww, hww⟩ : ∃ z : Int32, z = ((own_F lo hi 3).1 + (1 : Int32)) := ⟨_, rfl⟩
  rw [← hww] at hwds
  obtain ⟨W1, W2, W3, W4⟩ := own_W ww w2 hwds hw2
  obtain ⟨k0, kj⟩ := own_nat0 (own_kk q6) kn hkk
  obtain ⟨of0, ofj⟩ := own_nat0 (own_of q6) o ho
  have hnn := own_o6 ho3 hw2
  have R609 : ∀ tg, Steps p.tables e below (s₁.setTop (mkF m 1 #[vJ q1, .second, vJ q2, .second, vJ q3, .second, vJ q4, .second, vJ q5, .second, vJ q6, .second, .unset, .unset, .unset, .unset, .unset, .unset, .unset, .unset, .unset, .unset, .unset, .unset, .unset, .unset, .unset, .unset, .unset] [(.int (3 : Int32))])) tg → Steps p.tables e below (s₁.setTop (mkF m 0 #[vJ q1, .second, vJ q2, .second, vJ q3, .second, vJ q4, .second, vJ q5, .second, vJ q6, .second, .unset, .unset, .unset, .unset, .unset, .unset, .unset, .unset, .unset, .unset, .unset, .unset, .unset, .unset, .unset, .unset, .unset] [])) tg := by
    intro tg kt
    refine pre00 _ ?_
    show Steps p.tables e below (s₁.setTop (mkF m 0 #[vJ q1, .second, vJ q2, .second, vJ q3, .second, vJ q4, .second, vJ q5, .second, vJ q6, .second, .unset, .unset, .unset, .unset, .unset, .unset, .unset, .unset, .unset, .unset, .unset, .unset, .unset, .unset, .unset, .unset, .unset] [])) _
    refine XS.iconst X0.here hx rfl (hb hby at_0) ?_
    exact kt
  obtain ⟨T610, h610, k610, X610, e610, E610, A610, Q610, st610⟩ := newPE X0 hx hZ (hw _ (List.mem_of_getElem? (i := 0) rfl)) e0 (g := (mkF m 1 #[vJ q1, .second, vJ q2, .second, vJ q3, .second, vJ q4, .second, vJ q5, .second, vJ q6, .second, .unset, .unset, .unset, .unset, .unset, .unset, .unset, .unset, .unset, .unset, .unset, .unset, .unset, .unset, .unset, .unset, .unset] [(.int (3 : Int32))])) rfl (hb hby at_1) rfl (by decide) (cap := 3) (by decide) (by decide) (by decide) (by decide) (ad := "[I") (by decide)
  obtain ⟨x1, g610⟩ : ∃ z, z = h0.size := ⟨_, rfl⟩
  rw [← g610] at A610 Q610 st610
  have g_x1 : n0 ≤ x1 := Nat.le_trans Z0 (Nat.le_of_eq g610.symm)
  have Zs610 : n0 ≤ h610.size := Nat.le_trans Z0 E610.1
  have V1r : AV Z h610 x1 .int 3 (fun _ => defaultValue .int) := AV.new A610 rfl rfl
  have E_x1 := Q610
  have V1 : AV Z h610 x1 .int 3 (fun j => .int ((fun _ => (0 : Int32)) j)) := V1r
  have R611 : ∀ tg, Steps p.tables e below (T610.setTop (mkF m 6 #[vJ q1, .second, vJ q2, .second, vJ q3, .second, vJ q4, .second, vJ q5, .second, vJ q6, .second, vR x1, .unset, .unset, .unset, .unset, .unset, .unset, .unset, .unset, .unset, .unset, .unset, .unset, .unset, .unset, .unset, .unset] [(.int (3 : Int32))])) tg → Steps p.tables e below (s₁.setTop (mkF m 0 #[vJ q1, .second, vJ q2, .second, vJ q3, .second, vJ q4, .second, vJ q5, .second, vJ q6, .second, .unset, .unset, .unset, .unset, .unset, .unset, .unset, .unset, .unset, .unset, .unset, .unset, .unset, .unset, .unset, .unset, .unset] [])) tg := by
    intro tg kt
    refine R609 _ ?_
    refine st610 _ ?_
    show Steps p.tables e below (T610.setTop (mkF m 3 #[vJ q1, .second, vJ q2, .second, vJ q3, .second, vJ q4, .second, vJ q5, .second, vJ q6, .second, .unset, .unset, .unset, .unset, .unset, .unset, .unset, .unset, .unset, .unset, .unset, .unset, .unset, .unset, .unset, .unset, .unset] [(.ref x1)])) _
    refine XS.astore X610.here hx rfl (hb hby at_3) rfl rfl (l' := #[vJ q1, .second, vJ q2, .second, vJ q3, .second, vJ q4, .second, vJ q5, .second, vJ q6, .second, vR x1, .unset, .unset, .unset, .unset, .unset, .unset, .unset, .unset, .unset, .unset, .unset, .unset, .unset, .unset, .unset, .unset]) rfl ?_
    refine XS.iconst X610.here hx rfl (hb hby at_5) ?_
    exact kt
  clear R609 st610
  obtain ⟨T612, h612, k612, X612, e612, E612, A612, st612⟩ := newP X610 hx hZ (hw _ (List.mem_of_getElem? (i := 0) rfl)) e610 (g := (mkF m 6 #[vJ q1, .second, vJ q2, .second, vJ q3, .second, vJ q4, .second, vJ q5, .second, vJ q6, .second, vR x1, .unset, .unset, .unset, .unset, .unset, .unset, .unset, .unset, .unset, .unset, .unset, .unset, .unset, .unset, .unset, .unset] [(.int (3 : Int32))])) rfl (hb hby at_6) rfl (by decide) (cap := 3) (by decide) (by decide) (by decide) (by decide)
  obtain ⟨x2, g612⟩ : ∃ z, z = h610.size := ⟨_, rfl⟩
  rw [← g612] at A612 st612
  have g_x2 : n0 ≤ x2 := Nat.le_trans Zs610 (Nat.le_of_eq g612.symm)
  have ne_x1_x2 : x1 ≠ x2 := Nat.ne_of_lt (Nat.lt_of_lt_of_le E_x1.lt (Nat.le_of_eq g612.symm))
  have E_x1_612 := E_x1.ext E612
  have V1_612 := V1.ext E612
  have Zs612 : n0 ≤ h612.size := Nat.le_trans Zs610 E612.1
  have V2r : AV Z h612 x2 .int 3 (fun _ => defaultValue .int) := AV.new A612 rfl rfl
  have V2 : AV Z h612 x2 .int 3 (fun j => .int ((fun _ => (0 : Int32)) j)) := V2r
  have R613 : ∀ tg, Steps p.tables e below (T612.setTop (mkF m 20 #[vJ q1, .second, vJ q2, .second, vJ q3, .second, vJ q4, .second, vJ q5, .second, vJ q6, .second, vR x1, vR x2, .unset, .unset, .unset, .unset, .unset, .unset, .unset, .unset, .unset, .unset, .unset, .unset, .unset, .unset, .unset] [(.int (((q1.toUInt64 >>> ((32 : Int32) &&& 0x3f).toInt64.toUInt64).toInt64).toInt32)), (.int (q1.toInt32)), (.int (0 : Int32)), (.ref x1)])) tg → Steps p.tables e below (s₁.setTop (mkF m 0 #[vJ q1, .second, vJ q2, .second, vJ q3, .second, vJ q4, .second, vJ q5, .second, vJ q6, .second, .unset, .unset, .unset, .unset, .unset, .unset, .unset, .unset, .unset, .unset, .unset, .unset, .unset, .unset, .unset, .unset, .unset] [])) tg := by
    intro tg kt
    refine R611 _ ?_
    refine st612 _ ?_
    show Steps p.tables e below (T612.setTop (mkF m 8 #[vJ q1, .second, vJ q2, .second, vJ q3, .second, vJ q4, .second, vJ q5, .second, vJ q6, .second, vR x1, .unset, .unset, .unset, .unset, .unset, .unset, .unset, .unset, .unset, .unset, .unset, .unset, .unset, .unset, .unset, .unset] [(.ref x2)])) _
    refine XS.astore X612.here hx rfl (hb hby at_8) rfl rfl (l' := #[vJ q1, .second, vJ q2, .second, vJ q3, .second, vJ q4, .second, vJ q5, .second, vJ q6, .second, vR x1, vR x2, .unset, .unset, .unset, .unset, .unset, .unset, .unset, .unset, .unset, .unset, .unset, .unset, .unset, .unset, .unset]) rfl ?_
    refine XS.aload X612.here hx rfl (hb hby at_10) rfl rfl ?_
    refine XS.iconst X612.here hx rfl (hb hby at_12) ?_
    show Steps p.tables e below (T612.setTop (mkF m 13 #[vJ q1, .second, vJ q2, .second, vJ q3, .second, vJ q4, .second, vJ q5, .second, vJ q6, .second, vR x1, vR x2, .unset, .unset, .unset, .unset, .unset, .unset, .unset, .unset, .unset, .unset, .unset, .unset, .unset, .unset, .unset] [(.int (0 : Int32)), (.ref x1)])) _
    refine XS.lloadN X612.here hx rfl (hb hby at_13) rfl ?_
    show Steps p.tables e below (T612.setTop (mkF m 14 #[vJ q1, .second, vJ q2, .second, vJ q3, .second, vJ q4, .second, vJ q5, .second, vJ q6, .second, vR x1, vR x2, .unset, .unset, .unset, .unset, .unset, .unset, .unset, .unset, .unset, .unset, .unset, .unset, .unset, .unset, .unset] [(.long q1), (.int (0 : Int32)), (.ref x1)])) _
    refine XS.l2i X612.here hx rfl (hb hby at_14) rfl ?_
    refine XS.lloadN X612.here hx rfl (hb hby at_15) rfl ?_
    refine XS.bipush X612.here hx rfl (hb hby at_16) ?_
    show Steps p.tables e below (T612.setTop (mkF m 18 #[vJ q1, .second, vJ q2, .second, vJ q3, .second, vJ q4, .second, vJ q5, .second, vJ q6, .second, vR x1, vR x2, .unset, .unset, .unset, .unset, .unset, .unset, .unset, .unset, .unset, .unset, .unset, .unset, .unset, .unset, .unset] [(.int (32 : Int32)), (.long q1), (.int (q1.toInt32)), (.int (0 : Int32)), (.ref x1)])) _
    refine XS.lushr X612.here hx rfl (hb hby at_18) rfl ?_
    show Steps p.tables e below (T612.setTop (mkF m 19 #[vJ q1, .second, vJ q2, .second, vJ q3, .second, vJ q4, .second, vJ q5, .second, vJ q6, .second, vR x1, vR x2, .unset, .unset, .unset, .unset, .unset, .unset, .unset, .unset, .unset, .unset, .unset, .unset, .unset, .unset, .unset] [(.long ((q1.toUInt64 >>> ((32 : Int32) &&& 0x3f).toInt64.toUInt64).toInt64)), (.int (q1.toInt32)), (.int (0 : Int32)), (.ref x1)])) _
    refine XS.l2i X612.here hx rfl (hb hby at_19) rfl ?_
    exact kt
  clear R611 st612
  have R614 : ∀ tg, Steps p.tables e below (T612.setTop (mkF m 20 #[vJ q1, .second, vJ q2, .second, vJ q3, .second, vJ q4, .second, vJ q5, .second, vJ q6, .second, vR x1, vR x2, .unset, .unset, .unset, .unset, .unset, .unset, .unset, .unset, .unset, .unset, .unset, .unset, .unset, .unset, .unset] [(.int ((own_ush q1 (32 : Int32)).toInt32)), (.int (q1.toInt32)), (.int (0 : Int32)), (.ref x1)])) tg → Steps p.tables e below (s₁.setTop (mkF m 0 #[vJ q1, .second, vJ q2, .second, vJ q3, .second, vJ q4, .second, vJ q5, .second, vJ q6, .second, .unset, .unset, .unset, .unset, .unset, .unset, .unset, .unset, .unset, .unset, .unset, .unset, .unset, .unset, .unset, .unset, .unset] [])) tg := R613
  obtain ⟨_, _, ⟨T615, L615, k615, n615⟩, -, X615, ⟨Lc615, hQ615, l615, y615, z615⟩, st615⟩ := Jvm.LawKit.callS X612 hx (y := (⟨"java/lang/Math", "min", "(II)I"⟩ : MethodName)) hown (mvT hZ (hw _ (List.mem_of_getElem? (i := 1) rfl))) (mvT hZ (hw _ (List.mem_of_getElem? (i := 2) rfl))) (mvT hZ (hw _ (List.mem_of_getElem? (i := 3) rfl))) (mvT hZ (hw _ (List.mem_of_getElem? (i := 4) rfl))) (by decide) (backOf (W := 2) (rm_min l Z a0 hw [] (q1.toInt32) ((own_ush q1 (32 : Int32)).toInt32) h612 n0 Zs612) hZ (hw _ (List.mem_of_getElem? (i := 4) rfl)) (hw _ (List.mem_of_getElem? (i := 3) rfl)) (by decide) (by decide)) (g := (mkF m 20 #[vJ q1, .second, vJ q2, .second, vJ q3, .second, vJ q4, .second, vJ q5, .second, vJ q6, .second, vR x1, vR x2, .unset, .unset, .unset, .unset, .unset, .unset, .unset, .unset, .unset, .unset, .unset, .unset, .unset, .unset, .unset] [(.int ((own_ush q1 (32 : Int32)).toInt32)), (.int (q1.toInt32)), (.int (0 : Int32)), (.ref x1)])) rfl (by rw [hml]; rfl) (argsL := [(.int (q1.toInt32)), (.int ((own_ush q1 (32 : Int32)).toInt32))]) (rest := [(.int (0 : Int32)), (.ref x1)]) (lenOf pd_7 rfl) rfl (by show 2 * 0 + _ ≤ _; exact Nat.le_of_eq rfl) (hb hby at_20) (fun _ _ => ⟨rfl, e612, (by decide : 2 + 0 ≤ _), (by decide : 6 + 0 ≤ _)⟩)
  dsimp only [Pt.U, Pt.locs, Pt.cells, Pt.slots] at X615 l615 y615 z615 st615 hQ615
  rw [l615, y615, z615] at X615
  obtain ⟨rfl, N615q, hh615⟩ := hQ615
  have N615 := Fr.app N0 N615q
  have R616 : ∀ tg, Steps p.tables e below (T615.setTop (mkF m 23 #[vJ q1, .second, vJ q2, .second, vJ q3, .second, vJ q4, .second, vJ q5, .second, vJ q6, .second, vR x1, vR x2, .unset, .unset, .unset, .unset, .unset, .unset, .unset, .unset, .unset, .unset, .unset, .unset, .unset, .unset, .unset] [(.int (own_lw q1)), (.int (0 : Int32)), (.ref x1)])) tg → Steps p.tables e below (s₁.setTop (mkF m 0 #[vJ q1, .second, vJ q2, .second, vJ q3, .second, vJ q4, .second, vJ q5, .second, vJ q6, .second, .unset, .unset, .unset, .unset, .unset, .unset, .unset, .unset, .unset, .unset, .unset, .unset, .unset, .unset, .unset, .unset, .unset] [])) tg := by
    intro tg kt
    refine R614 _ ?_
    refine st615 _ ?_
    exact kt
  clear R614 st615
  obtain ⟨cl617, Ar617, hin617, -⟩ := V1_612.at (j := (0 : Int32)) (k := 0) (by decide) rfl (by decide)
  obtain ⟨T618, h618, X618, e618, W618, st618⟩ := stI X615 hx hZ hh615 Ar617 (j := (0 : Int32)) hin617 (g := (mkF m 23 #[vJ q1, .second, vJ q2, .second, vJ q3, .second, vJ q4, .second, vJ q5, .second, vJ q6, .second, vR x1, vR x2, .unset, .unset, .unset, .unset, .unset, .unset, .unset, .unset, .unset, .unset, .unset, .unset, .unset, .unset, .unset] [(.int (own_lw q1)), (.int (0 : Int32)), (.ref x1)])) rfl rfl (hb hby at_23)
  have N618 := Fr.snoc X618 N615 g_x1
  rw [show ((0 : Int32) : Int32).toNatClampNeg = 0 from rfl] at W618
  have V1_618 : AV Z h618 x1 .int 3 (fun j => .int ((own_set (fun _ => (0 : Int32)) 0 (own_lw q1)) j)) := V1_612.setI W618
  have E_x1_618 := E_x1_612.wr W618
  have V2_618 := V2.other W618 (Ne.symm ne_x1_x2)
  clear E_x1_612
  have Zs618 : n0 ≤ h618.size := Nat.le_trans Zs612 (Keep.of_wr W618).1
  have R619 : ∀ tg, Steps p.tables e below (T618.setTop (mkF m 34 #[vJ q1, .second, vJ q2, .second, vJ q3, .second, vJ q4, .second, vJ q5, .second, vJ q6, .second, vR x1, vR x2, .unset, .unset, .unset, .unset, .unset, .unset, .unset, .unset, .unset, .unset, .unset, .unset, .unset, .unset, .unset] [(.int (((q1.toUInt64 >>> ((32 : Int32) &&& 0x3f).toInt64.toUInt64).toInt64).toInt32)), (.int (q1.toInt32)), (.int (0 : Int32)), (.ref x2)])) tg → Steps p.tables e below (s₁.setTop (mkF m 0 #[vJ q1, .second, vJ q2, .second, vJ q3, .second, vJ q4, .second, vJ q5, .second, vJ q6, .second, .unset, .unset, .unset, .unset, .unset, .unset, .unset, .unset, .unset, .unset, .unset, .unset, .unset, .unset, .unset, .unset, .unset] [])) tg := by
    intro tg kt
    refine R616 _ ?_
    refine st618 _ ?_
    refine XS.aload X618.here hx rfl (hb hby at_24) rfl rfl ?_
    refine XS.iconst X618.here hx rfl (hb hby at_26) ?_
    show Steps p.tables e below (T618.setTop (mkF m 27 #[vJ q1, .second, vJ q2, .second, vJ q3, .second, vJ q4, .second, vJ q5, .second, vJ q6, .second, vR x1, vR x2, .unset, .unset, .unset, .unset, .unset, .unset, .unset, .unset, .unset, .unset, .unset, .unset, .unset, .unset, .unset] [(.int (0 : Int32)), (.ref x2)])) _
    refine XS.lloadN X618.here hx rfl (hb hby at_27) rfl ?_
    show Steps p.tables e below (T618.setTop (mkF m 28 #[vJ q1, .second, vJ q2, .second, vJ q3, .second, vJ q4, .second, vJ q5, .second, vJ q6, .second, vR x1, vR x2, .unset, .unset, .unset, .unset, .unset, .unset, .unset, .unset, .unset, .unset, .unset, .unset, .unset, .unset, .unset] [(.long q1), (.int (0 : Int32)), (.ref x2)])) _
    refine XS.l2i X618.here hx rfl (hb hby at_28) rfl ?_
    refine XS.lloadN X618.here hx rfl (hb hby at_29) rfl ?_
    refine XS.bipush X618.here hx rfl (hb hby at_30) ?_
    show Steps p.tables e below (T618.setTop (mkF m 32 #[vJ q1, .second, vJ q2, .second, vJ q3, .second, vJ q4, .second, vJ q5, .second, vJ q6, .second, vR x1, vR x2, .unset, .unset, .unset, .unset, .unset, .unset, .unset, .unset, .unset, .unset, .unset, .unset, .unset, .unset, .unset] [(.int (32 : Int32)), (.long q1), (.int (q1.toInt32)), (.int (0 : Int32)), (.ref x2)])) _
    refine XS.lushr X618.here hx rfl (hb hby at_32) rfl ?_
    show Steps p.tables e below (T618.setTop (mkF m 33 #[vJ q1, .second, vJ q2, .second, vJ q3, .second, vJ q4, .second, vJ q5, .second, vJ q6, .second, vR x1, vR x2, .unset, .unset, .unset, .unset, .unset, .unset, .unset, .unset, .unset, .unset, .unset, .unset, .unset, .unset, .unset] [(.long ((q1.toUInt64 >>> ((32 : Int32) &&& 0x3f).toInt64.toUInt64).toInt64)), (.int (q1.toInt32)), (.int (0 : Int32)), (.ref x2)])) _
    refine XS.l2i X618.here hx rfl (hb hby at_33) rfl ?_
    exact kt
  clear R616 st618
  have R620 : ∀ tg, Steps p.tables e below (T618.setTop (mkF m 34 #[vJ q1, .second, vJ q2, .second, vJ q3, .second, vJ q4, .second, vJ q5, .second, vJ q6, .second, vR x1, vR x2, .unset, .unset, .unset, .unset, .unset, .unset, .unset, .unset, .unset, .unset, .unset, .unset, .unset, .unset, .unset] [(.int ((own_ush q1 (32 : Int32)).toInt32)), (.int (q1.toInt32)), (.int (0 : Int32)), (.ref x2)])) tg → Steps p.tables e below (s₁.setTop (mkF m 0 #[vJ q1, .second, vJ q2, .second, vJ q3, .second, vJ q4, .second, vJ q5, .second, vJ q6, .second, .unset, .unset, .unset, .unset, .unset, .unset, .unset, .unset, .unset, .unset, .unset, .unset, .unset, .unset, .unset, .unset, .unset] [])) tg := R619
  obtain ⟨_, _, ⟨T621, L621, k621, n621⟩, -, X621, ⟨Lc621, hQ621, l621, y621, z621⟩, st621⟩ := Jvm.LawKit.callS X618 hx (y := (⟨"java/lang/Math", "max", "(II)I"⟩ : MethodName)) hown (mvT hZ (hw _ (List.mem_of_getElem? (i := 5) rfl))) (mvT hZ (hw _ (List.mem_of_getElem? (i := 6) rfl))) (mvT hZ (hw _ (List.mem_of_getElem? (i := 3) rfl))) (mvT hZ (hw _ (List.mem_of_getElem? (i := 7) rfl))) (by decide) (backOf (W := 2) (rm_max l Z a0 hw [] (q1.toInt32) ((own_ush q1 (32 : Int32)).toInt32) h618 n0 Zs618) hZ (hw _ (List.mem_of_getElem? (i := 7) rfl)) (hw _ (List.mem_of_getElem? (i := 3) rfl)) (by decide) (by decide)) (g := (mkF m 34 #[vJ q1, .second, vJ q2, .second, vJ q3, .second, vJ q4, .second, vJ q5, .second, vJ q6, .second, vR x1, vR x2, .unset, .unset, .unset, .unset, .unset, .unset, .unset, .unset, .unset, .unset, .unset, .unset, .unset, .unset, .unset] [(.int ((own_ush q1 (32 : Int32)).toInt32)), (.int (q1.toInt32)), (.int (0 : Int32)), (.ref x2)])) rfl (by rw [hml]; rfl) (argsL := [(.int (q1.toInt32)), (.int ((own_ush q1 (32 : Int32)).toInt32))]) (rest := [(.int (0 : Int32)), (.ref x2)]) (lenOf pd_7 rfl) rfl (by show 2 * 0 + _ ≤ _; exact Nat.le_of_eq rfl) (hb hby at_34) (fun _ _ => ⟨rfl, e618, (by decide : 2 + 0 ≤ _), (by decide : 6 + 0 ≤ _)⟩)
  dsimp only [Pt.U, Pt.locs, Pt.cells, Pt.slots] at X621 l621 y621 z621 st621 hQ621
  rw [l621, y621, z621] at X621
  obtain ⟨rfl, N621q, hh621⟩ := hQ621
  have N621 := Fr.app N618 N621q
  have R622 : ∀ tg, Steps p.tables e below (T621.setTop (mkF m 37 #[vJ q1, .second, vJ q2, .second, vJ q3, .second, vJ q4, .second, vJ q5, .second, vJ q6, .second, vR x1, vR x2, .unset, .unset, .unset, .unset, .unset, .unset, .unset, .unset, .unset, .unset, .unset, .unset, .unset, .unset, .unset] [(.int (own_hg q1)), (.int (0 : Int32)), (.ref x2)])) tg → Steps p.tables e below (s₁.setTop (mkF m 0 #[vJ q1, .second, vJ q2, .second, vJ q3, .second, vJ q4, .second, vJ q5, .second, vJ q6, .second, .unset, .unset, .unset, .unset, .unset, .unset, .unset, .unset, .unset, .unset, .unset, .unset, .unset, .unset, .unset, .unset, .unset] [])) tg := by
    intro tg kt
    refine R620 _ ?_
    refine st621 _ ?_
    exact kt
  clear R620 st621
  obtain ⟨cl623, Ar623, hin623, -⟩ := V2_618.at (j := (0 : Int32)) (k := 0) (by decide) rfl (by decide)
  obtain ⟨T624, h624, X624, e624, W624, st624⟩ := stI X621 hx hZ hh621 Ar623 (j := (0 : Int32)) hin623 (g := (mkF m 37 #[vJ q1, .second, vJ q2, .second, vJ q3, .second, vJ q4, .second, vJ q5, .second, vJ q6, .second, vR x1, vR x2, .unset, .unset, .unset, .unset, .unset, .unset, .unset, .unset, .unset, .unset, .unset, .unset, .unset, .unset, .unset] [(.int (own_hg q1)), (.int (0 : Int32)), (.ref x2)])) rfl rfl (hb hby at_37)
  have N624 := Fr.snoc X624 N621 g_x2
  rw [show ((0 : Int32) : Int32).toNatClampNeg = 0 from rfl] at W624
  have V2_624 : AV Z h624 x2 .int 3 (fun j => .int ((own_set (fun _ => (0 : Int32)) 0 (own_hg q1)) j)) := V2_618.setI W624
  have E_x1_624 := E_x1_618.wr W624
  have V1_624 := V1_618.other W624 ne_x1_x2
  clear E_x1_618 V1_618
  have Zs624 : n0 ≤ h624.size := Nat.le_trans Zs618 (Keep.of_wr W624).1
  have R625 : ∀ tg, Steps p.tables e below (T624.setTop (mkF m 48 #[vJ q1, .second, vJ q2, .second, vJ q3, .second, vJ q4, .second, vJ q5, .second, vJ q6, .second, vR x1, vR x2, .unset, .unset, .unset, .unset, .unset, .unset, .unset, .unset, .unset, .unset, .unset, .unset, .unset, .unset, .unset] [(.int (((q2.toUInt64 >>> ((32 : Int32) &&& 0x3f).toInt64.toUInt64).toInt64).toInt32)), (.int (q2.toInt32)), (.int (1 : Int32)), (.ref x1)])) tg → Steps p.tables e below (s₁.setTop (mkF m 0 #[vJ q1, .second, vJ q2, .second, vJ q3, .second, vJ q4, .second, vJ q5, .second, vJ q6, .second, .unset, .unset, .unset, .unset, .unset, .unset, .unset, .unset, .unset, .unset, .unset, .unset, .unset, .unset, .unset, .unset, .unset] [])) tg := by
    intro tg kt
    refine R622 _ ?_
    refine st624 _ ?_
    refine XS.aload X624.here hx rfl (hb hby at_38) rfl rfl ?_
    refine XS.iconst X624.here hx rfl (hb hby at_40) ?_
    show Steps p.tables e below (T624.setTop (mkF m 41 #[vJ q1, .second, vJ q2, .second, vJ q3, .second, vJ q4, .second, vJ q5, .second, vJ q6, .second, vR x1, vR x2, .unset, .unset, .unset, .unset, .unset, .unset, .unset, .unset, .unset, .unset, .unset, .unset, .unset, .unset, .unset] [(.int (1 : Int32)), (.ref x1)])) _
    refine XS.lloadN X624.here hx rfl (hb hby at_41) rfl ?_
    show Steps p.tables e below (T624.setTop (mkF m 42 #[vJ q1, .second, vJ q2, .second, vJ q3, .second, vJ q4, .second, vJ q5, .second, vJ q6, .second, vR x1, vR x2, .unset, .unset, .unset, .unset, .unset, .unset, .unset, .unset, .unset, .unset, .unset, .unset, .unset, .unset, .unset] [(.long q2), (.int (1 : Int32)), (.ref x1)])) _
    refine XS.l2i X624.here hx rfl (hb hby at_42) rfl ?_
    refine XS.lloadN X624.here hx rfl (hb hby at_43) rfl ?_
    refine XS.bipush X624.here hx rfl (hb hby at_44) ?_
    show Steps p.tables e below (T624.setTop (mkF m 46 #[vJ q1, .second, vJ q2, .second, vJ q3, .second, vJ q4, .second, vJ q5, .second, vJ q6, .second, vR x1, vR x2, .unset, .unset, .unset, .unset, .unset, .unset, .unset, .unset, .unset, .unset, .unset, .unset, .unset, .unset, .unset] [(.int (32 : Int32)), (.long q2), (.int (q2.toInt32)), (.int (1 : Int32)), (.ref x1)])) _
    refine XS.lushr X624.here hx rfl (hb hby at_46) rfl ?_
    show Steps p.tables e below (T624.setTop (mkF m 47 #[vJ q1, .second, vJ q2, .second, vJ q3, .second, vJ q4, .second, vJ q5, .second, vJ q6, .second, vR x1, vR x2, .unset, .unset, .unset, .unset, .unset, .unset, .unset, .unset, .unset, .unset, .unset, .unset, .unset, .unset, .unset] [(.long ((q2.toUInt64 >>> ((32 : Int32) &&& 0x3f).toInt64.toUInt64).toInt64)), (.int (q2.toInt32)), (.int (1 : Int32)), (.ref x1)])) _
    refine XS.l2i X624.here hx rfl (hb hby at_47) rfl ?_
    exact kt
  clear R622 st624
  have R626 : ∀ tg, Steps p.tables e below (T624.setTop (mkF m 48 #[vJ q1, .second, vJ q2, .second, vJ q3, .second, vJ q4, .second, vJ q5, .second, vJ q6, .second, vR x1, vR x2, .unset, .unset, .unset, .unset, .unset, .unset, .unset, .unset, .unset, .unset, .unset, .unset, .unset, .unset, .unset] [(.int ((own_ush q2 (32 : Int32)).toInt32)), (.int (q2.toInt32)), (.int (1 : Int32)), (.ref x1)])) tg → Steps p.tables e below (s₁.setTop (mkF m 0 #[vJ q1, .second, vJ q2, .second, vJ q3, .second, vJ q4, .second, vJ q5, .second, vJ q6, .second, .unset, .unset, .unset, .unset, .unset, .unset, .unset, .unset, .unset, .unset, .unset, .unset, .unset, .unset, .unset, .unset, .unset] [])) tg := R625
  obtain ⟨_, _, ⟨T627, L627, k627, n627⟩, -, X627, ⟨Lc627, hQ627, l627, y627, z627⟩, st627⟩ := Jvm.LawKit.callS X624 hx (y := (⟨"java/lang/Math", "min", "(II)I"⟩ : MethodName)) hown (mvT hZ (hw _ (List.mem_of_getElem? (i := 1) rfl))) (mvT hZ (hw _ (List.mem_of_getElem? (i := 2) rfl))) (mvT hZ (hw _ (List.mem_of_getElem? (i := 3) rfl))) (mvT hZ (hw _ (List.mem_of_getElem? (i := 4) rfl))) (by decide) (backOf (W := 2) (rm_min l Z a0 hw [] (q2.toInt32) ((own_ush q2 (32 : Int32)).toInt32) h624 n0 Zs624) hZ (hw _ (List.mem_of_getElem? (i := 4) rfl)) (hw _ (List.mem_of_getElem? (i := 3) rfl)) (by decide) (by decide)) (g := (mkF m 48 #[vJ q1, .second, vJ q2, .second, vJ q3, .second, vJ q4, .second, vJ q5, .second, vJ q6, .second, vR x1, vR x2, .unset, .unset, .unset, .unset, .unset, .unset, .unset, .unset, .unset, .unset, .unset, .unset, .unset, .unset, .unset] [(.int ((own_ush q2 (32 : Int32)).toInt32)), (.int (q2.toInt32)), (.int (1 : Int32)), (.ref x1)])) rfl (by rw [hml]; rfl) (argsL := [(.int (q2.toInt32)), (.int ((own_ush q2 (32 : Int32)).toInt32))]) (rest := [(.int (1 : Int32)), (.ref x1)]) (lenOf pd_7 rfl) rfl (by show 2 * 0 + _ ≤ _; exact Nat.le_of_eq rfl) (hb hby at_48) (fun _ _ => ⟨rfl, e624, (by decide : 2 + 0 ≤ _), (by decide : 6 + 0 ≤ _)⟩)
  dsimp only [Pt.U, Pt.locs, Pt.cells, Pt.slots] at X627 l627 y627 z627 st627 hQ627
  rw [l627, y627, z627] at X627
  obtain ⟨rfl, N627q, hh627⟩ := hQ627
  have N627 := Fr.app N624 N627q
  have R628 : ∀ tg, Steps p.tables e below (T627.setTop (mkF m 51 #[vJ q1, .second, vJ q2, .second, vJ q3, .second, vJ q4, .second, vJ q5, .second, vJ q6, .second, vR x1, vR x2, .unset, .unset, .unset, .unset, .unset, .unset, .unset, .unset, .unset, .unset, .unset, .unset, .unset, .unset, .unset] [(.int (own_lw q2)), (.int (1 : Int32)), (.ref x1)])) tg → Steps p.tables e below (s₁.setTop (mkF m 0 #[vJ q1, .second, vJ q2, .second, vJ q3, .second, vJ q4, .second, vJ q5, .second, vJ q6, .second, .unset, .unset, .unset, .unset, .unset, .unset, .unset, .unset, .unset, .unset, .unset, .unset, .unset, .unset, .unset, .unset, .unset] [])) tg := by
    intro tg kt
    refine R626 _ ?_
    refine st627 _ ?_
    exact kt
  clear R626 st627
  obtain ⟨cl629, Ar629, hin629, -⟩ := V1_624.at (j := (1 : Int32)) (k := 1) (by decide) rfl (by decide)
  obtain ⟨T630, h630, X630, e630, W630, st630⟩ := stI X627 hx hZ hh627 Ar629 (j := (1 : Int32)) hin629 (g := (mkF m 51 #[vJ q1, .second, vJ q2, .second, vJ q3, .second, vJ q4, .second, vJ q5, .second, vJ q6, .second, vR x1, vR x2, .unset, .unset, .unset, .unset, .unset, .unset, .unset, .unset, .unset, .unset, .unset, .unset, .unset, .unset, .unset] [(.int (own_lw q2)), (.int (1 : Int32)), (.ref x1)])) rfl rfl (hb hby at_51)
  have N630 := Fr.snoc X630 N627 g_x1
  rw [show ((1 : Int32) : Int32).toNatClampNeg = 1 from rfl] at W630
  have V1_630 : AV Z h630 x1 .int 3 (fun j => .int ((own_set (own_set (fun _ => (0 : Int32)) 0 (own_lw q1)) 1 (own_lw q2)) j)) := V1_624.setI W630
  have E_x1_630 := E_x1_624.wr W630
  have V2_630 := V2_624.other W630 (Ne.symm ne_x1_x2)
  clear E_x1_624 V2_624
  have Zs630 : n0 ≤ h630.size := Nat.le_trans Zs624 (Keep.of_wr W630).1
  have R631 : ∀ tg, Steps p.tables e below (T630.setTop (mkF m 62 #[vJ q1, .second, vJ q2, .second, vJ q3, .second, vJ q4, .second, vJ q5, .second, vJ q6, .second, vR x1, vR x2, .unset, .unset, .unset, .unset, .unset, .unset, .unset, .unset, .unset, .unset, .unset, .unset, .unset, .unset, .unset] [(.int (((q2.toUInt64 >>> ((32 : Int32) &&& 0x3f).toInt64.toUInt64).toInt64).toInt32)), (.int (q2.toInt32)), (.int (1 : Int32)), (.ref x2)])) tg → Steps p.tables e below (s₁.setTop (mkF m 0 #[vJ q1, .second, vJ q2, .second, vJ q3, .second, vJ q4, .second, vJ q5, .second, vJ q6, .second, .unset, .unset, .unset, .unset, .unset, .unset, .unset, .unset, .unset, .unset, .unset, .unset, .unset, .unset, .unset, .unset, .unset] [])) tg := by
    intro tg kt
    refine R628 _ ?_
    refine st630 _ ?_
    refine XS.aload X630.here hx rfl (hb hby at_52) rfl rfl ?_
    refine XS.iconst X630.here hx rfl (hb hby at_54) ?_
    show Steps p.tables e below (T630.setTop (mkF m 55 #[vJ q1, .second, vJ q2, .second, vJ q3, .second, vJ q4, .second, vJ q5, .second, vJ q6, .second, vR x1, vR x2, .unset, .unset, .unset, .unset, .unset, .unset, .unset, .unset, .unset, .unset, .unset, .unset, .unset, .unset, .unset] [(.int (1 : Int32)), (.ref x2)])) _
    refine XS.lloadN X630.here hx rfl (hb hby at_55) rfl ?_
    show Steps p.tables e below (T630.setTop (mkF m 56 #[vJ q1, .second, vJ q2, .second, vJ q3, .second, vJ q4, .second, vJ q5, .second, vJ q6, .second, vR x1, vR x2, .unset, .unset, .unset, .unset, .unset, .unset, .unset, .unset, .unset, .unset, .unset, .unset, .unset, .unset, .unset] [(.long q2), (.int (1 : Int32)), (.ref x2)])) _
    refine XS.l2i X630.here hx rfl (hb hby at_56) rfl ?_
    refine XS.lloadN X630.here hx rfl (hb hby at_57) rfl ?_
    refine XS.bipush X630.here hx rfl (hb hby at_58) ?_
    show Steps p.tables e below (T630.setTop (mkF m 60 #[vJ q1, .second, vJ q2, .second, vJ q3, .second, vJ q4, .second, vJ q5, .second, vJ q6, .second, vR x1, vR x2, .unset, .unset, .unset, .unset, .unset, .unset, .unset, .unset, .unset, .unset, .unset, .unset, .unset, .unset, .unset] [(.int (32 : Int32)), (.long q2), (.int (q2.toInt32)), (.int (1 : Int32)), (.ref x2)])) _
    refine XS.lushr X630.here hx rfl (hb hby at_60) rfl ?_
    show Steps p.tables e below (T630.setTop (mkF m 61 #[vJ q1, .second, vJ q2, .second, vJ q3, .second, vJ q4, .second, vJ q5, .second, vJ q6, .second, vR x1, vR x2, .unset, .unset, .unset, .unset, .unset, .unset, .unset, .unset, .unset, .unset, .unset, .unset, .unset, .unset, .unset] [(.long ((q2.toUInt64 >>> ((32 : Int32) &&& 0x3f).toInt64.toUInt64).toInt64)), (.int (q2.toInt32)), (.int (1 : Int32)), (.ref x2)])) _
    refine XS.l2i X630.here hx rfl (hb hby at_61) rfl ?_
    exact kt
  clear R628 st630
  have R632 : ∀ tg, Steps p.tables e below (T630.setTop (mkF m 62 #[vJ q1, .second, vJ q2, .second, vJ q3, .second, vJ q4, .second, vJ q5, .second, vJ q6, .second, vR x1, vR x2, .unset, .unset, .unset, .unset, .unset, .unset, .unset, .unset, .unset, .unset, .unset, .unset, .unset, .unset, .unset] [(.int ((own_ush q2 (32 : Int32)).toInt32)), (.int (q2.toInt32)), (.int (1 : Int32)), (.ref x2)])) tg → Steps p.tables e below (s₁.setTop (mkF m 0 #[vJ q1, .second, vJ q2, .second, vJ q3, .second, vJ q4, .second, vJ q5, .second, vJ q6, .second, .unset, .unset, .unset, .unset, .unset, .unset, .unset, .unset, .unset, .unset, .unset, .unset, .unset, .unset, .unset, .unset, .unset] [])) tg := R631
  obtain ⟨_, _, ⟨T633, L633, k633, n633⟩, -, X633, ⟨Lc633, hQ633, l633, y633, z633⟩, st633⟩ := Jvm.LawKit.callS X630 hx (y := (⟨"java/lang/Math", "max", "(II)I"⟩ : MethodName)) hown (mvT hZ (hw _ (List.mem_of_getElem? (i := 5) rfl))) (mvT hZ (hw _ (List.mem_of_getElem? (i := 6) rfl))) (mvT hZ (hw _ (List.mem_of_getElem? (i := 3) rfl))) (mvT hZ (hw _ (List.mem_of_getElem? (i := 7) rfl))) (by decide) (backOf (W := 2) (rm_max l Z a0 hw [] (q2.toInt32) ((own_ush q2 (32 : Int32)).toInt32) h630 n0 Zs630) hZ (hw _ (List.mem_of_getElem? (i := 7) rfl)) (hw _ (List.mem_of_getElem? (i := 3) rfl)) (by decide) (by decide)) (g := (mkF m 62 #[vJ q1, .second, vJ q2, .second, vJ q3, .second, vJ q4, .second, vJ q5, .second, vJ q6, .second, vR x1, vR x2, .unset, .unset, .unset, .unset, .unset, .unset, .unset, .unset, .unset, .unset, .unset, .unset, .unset, .unset, .unset] [(.int ((own_ush q2 (32 : Int32)).toInt32)), (.int (q2.toInt32)), (.int (1 : Int32)), (.ref x2)])) rfl (by rw [hml]; rfl) (argsL := [(.int (q2.toInt32)), (.int ((own_ush q2 (32 : Int32)).toInt32))]) (rest := [(.int (1 : Int32)), (.ref x2)]) (lenOf pd_7 rfl) rfl (by show 2 * 0 + _ ≤ _; exact Nat.le_of_eq rfl) (hb hby at_62) (fun _ _ => ⟨rfl, e630, (by decide : 2 + 0 ≤ _), (by decide : 6 + 0 ≤ _)⟩)
  dsimp only [Pt.U, Pt.locs, Pt.cells, Pt.slots] at X633 l633 y633 z633 st633 hQ633
  rw [l633, y633, z633] at X633
  obtain ⟨rfl, N633q, hh633⟩ := hQ633
  have N633 := Fr.app N630 N633q
  have R634 : ∀ tg, Steps p.tables e below (T633.setTop (mkF m 65 #[vJ q1, .second, vJ q2, .second, vJ q3, .second, vJ q4, .second, vJ q5, .second, vJ q6, .second, vR x1, vR x2, .unset, .unset, .unset, .unset, .unset, .unset, .unset, .unset, .unset, .unset, .unset, .unset, .unset, .unset, .unset] [(.int (own_hg q2)), (.int (1 : Int32)), (.ref x2)])) tg → Steps p.tables e below (s₁.setTop (mkF m 0 #[vJ q1, .second, vJ q2, .second, vJ q3, .second, vJ q4, .second, vJ q5, .second, vJ q6, .second, .unset, .unset, .unset, .unset, .unset, .unset, .unset, .unset, .unset, .unset, .unset, .unset, .unset, .unset, .unset, .unset, .unset] [])) tg := by
    intro tg kt
    refine R632 _ ?_
    refine st633 _ ?_
    exact kt
  clear R632 st633
  obtain ⟨cl635, Ar635, hin635, -⟩ := V2_630.at (j := (1 : Int32)) (k := 1) (by decide) rfl (by decide)
  obtain ⟨T636, h636, X636, e636, W636, st636⟩ := stI X633 hx hZ hh633 Ar635 (j := (1 : Int32)) hin635 (g := (mkF m 65 #[vJ q1, .second, vJ q2, .second, vJ q3, .second, vJ q4, .second, vJ q5, .second, vJ q6, .second, vR x1, vR x2, .unset, .unset, .unset, .unset, .unset, .unset, .unset, .unset, .unset, .unset, .unset, .unset, .unset, .unset, .unset] [(.int (own_hg q2)), (.int (1 : Int32)), (.ref x2)])) rfl rfl (hb hby at_65)
  have N636 := Fr.snoc X636 N633 g_x2
  rw [show ((1 : Int32) : Int32).toNatClampNeg = 1 from rfl] at W636
  have V2_636 : AV Z h636 x2 .int 3 (fun j => .int ((own_set (own_set (fun _ => (0 : Int32)) 0 (own_hg q1)) 1 (own_hg q2)) j)) := V2_630.setI W636
  have E_x1_636 := E_x1_630.wr W636
  have V1_636 := V1_630.other W636 ne_x1_x2
  clear E_x1_630 V1_630
  have Zs636 : n0 ≤ h636.size := Nat.le_trans Zs630 (Keep.of_wr W636).1
  have R637 : ∀ tg, Steps p.tables e below (T636.setTop (mkF m 78 #[vJ q1, .second, vJ q2, .second, vJ q3, .second, vJ q4, .second, vJ q5, .second, vJ q6, .second, vR x1, vR x2, .unset, .unset, .unset, .unset, .unset, .unset, .unset, .unset, .unset, .unset, .unset, .unset, .unset, .unset, .unset] [(.int (((q3.toUInt64 >>> ((32 : Int32) &&& 0x3f).toInt64.toUInt64).toInt64).toInt32)), (.int (q3.toInt32)), (.int (2 : Int32)), (.ref x1)])) tg → Steps p.tables e below (s₁.setTop (mkF m 0 #[vJ q1, .second, vJ q2, .second, vJ q3, .second, vJ q4, .second, vJ q5, .second, vJ q6, .second, .unset, .unset, .unset, .unset, .unset, .unset, .unset, .unset, .unset, .unset, .unset, .unset, .unset, .unset, .unset, .unset, .unset] [])) tg := by
    intro tg kt
    refine R634 _ ?_
    refine st636 _ ?_
    refine XS.aload X636.here hx rfl (hb hby at_66) rfl rfl ?_
    refine XS.iconst X636.here hx rfl (hb hby at_68) ?_
    show Steps p.tables e below (T636.setTop (mkF m 69 #[vJ q1, .second, vJ q2, .second, vJ q3, .second, vJ q4, .second, vJ q5, .second, vJ q6, .second, vR x1, vR x2, .unset, .unset, .unset, .unset, .unset, .unset, .unset, .unset, .unset, .unset, .unset, .unset, .unset, .unset, .unset] [(.int (2 : Int32)), (.ref x1)])) _
    refine XS.lload X636.here hx rfl (hb hby at_69) rfl ?_
    show Steps p.tables e below (T636.setTop (mkF m 71 #[vJ q1, .second, vJ q2, .second, vJ q3, .second, vJ q4, .second, vJ q5, .second, vJ q6, .second, vR x1, vR x2, .unset, .unset, .unset, .unset, .unset, .unset, .unset, .unset, .unset, .unset, .unset, .unset, .unset, .unset, .unset] [(.long q3), (.int (2 : Int32)), (.ref x1)])) _
    refine XS.l2i X636.here hx rfl (hb hby at_71) rfl ?_
    refine XS.lload X636.here hx rfl (hb hby at_72) rfl ?_
    refine XS.bipush X636.here hx rfl (hb hby at_74) ?_
    show Steps p.tables e below (T636.setTop (mkF m 76 #[vJ q1, .second, vJ q2, .second, vJ q3, .second, vJ q4, .second, vJ q5, .second, vJ q6, .second, vR x1, vR x2, .unset, .unset, .unset, .unset, .unset, .unset, .unset, .unset, .unset, .unset, .unset, .unset, .unset, .unset, .unset] [(.int (32 : Int32)), (.long q3), (.int (q3.toInt32)), (.int (2 : Int32)), (.ref x1)])) _
    refine XS.lushr X636.here hx rfl (hb hby at_76) rfl ?_
    show Steps p.tables e below (T636.setTop (mkF m 77 #[vJ q1, .second, vJ q2, .second, vJ q3, .second, vJ q4, .second, vJ q5, .second, vJ q6, .second, vR x1, vR x2, .unset, .unset, .unset, .unset, .unset, .unset, .unset, .unset, .unset, .unset, .unset, .unset, .unset, .unset, .unset] [(.long ((q3.toUInt64 >>> ((32 : Int32) &&& 0x3f).toInt64.toUInt64).toInt64)), (.int (q3.toInt32)), (.int (2 : Int32)), (.ref x1)])) _
    refine XS.l2i X636.here hx rfl (hb hby at_77) rfl ?_
    exact kt
  clear R634 st636
  have R638 : ∀ tg, Steps p.tables e below (T636.setTop (mkF m 78 #[vJ q1, .second, vJ q2, .second, vJ q3, .second, vJ q4, .second, vJ q5, .second, vJ q6, .second, vR x1, vR x2, .unset, .unset, .unset, .unset, .unset, .unset, .unset, .unset, .unset, .unset, .unset, .unset, .unset, .unset, .unset] [(.int ((own_ush q3 (32 : Int32)).toInt32)), (.int (q3.toInt32)), (.int (2 : Int32)), (.ref x1)])) tg → Steps p.tables e below (s₁.setTop (mkF m 0 #[vJ q1, .second, vJ q2, .second, vJ q3, .second, vJ q4, .second, vJ q5, .second, vJ q6, .second, .unset, .unset, .unset, .unset, .unset, .unset, .unset, .unset, .unset, .unset, .unset, .unset, .unset, .unset, .unset, .unset, .unset] [])) tg := R637
  obtain ⟨_, _, ⟨T639, L639, k639, n639⟩, -, X639, ⟨Lc639, hQ639, l639, y639, z639⟩, st639⟩ := Jvm.LawKit.callS X636 hx (y := (⟨"java/lang/Math", "min", "(II)I"⟩ : MethodName)) hown (mvT hZ (hw _ (List.mem_of_getElem? (i := 1) rfl))) (mvT hZ (hw _ (List.mem_of_getElem? (i := 2) rfl))) (mvT hZ (hw _ (List.mem_of_getElem? (i := 3) rfl))) (mvT hZ (hw _ (List.mem_of_getElem? (i := 4) rfl))) (by decide) (backOf (W := 2) (rm_min l Z a0 hw [] (q3.toInt32) ((own_ush q3 (32 : Int32)).toInt32) h636 n0 Zs636) hZ (hw _ (List.mem_of_getElem? (i := 4) rfl)) (hw _ (List.mem_of_getElem? (i := 3) rfl)) (by decide) (by decide)) (g := (mkF m 78 #[vJ q1, .second, vJ q2, .second, vJ q3, .second, vJ q4, .second, vJ q5, .second, vJ q6, .second, vR x1, vR x2, .unset, .unset, .unset, .unset, .unset, .unset, .unset, .unset, .unset, .unset, .unset, .unset, .unset, .unset, .unset] [(.int ((own_ush q3 (32 : Int32)).toInt32)), (.int (q3.toInt32)), (.int (2 : Int32)), (.ref x1)])) rfl (by rw [hml]; rfl) (argsL := [(.int (q3.toInt32)), (.int ((own_ush q3 (32 : Int32)).toInt32))]) (rest := [(.int (2 : Int32)), (.ref x1)]) (lenOf pd_7 rfl) rfl (by show 2 * 0 + _ ≤ _; exact Nat.le_of_eq rfl) (hb hby at_78) (fun _ _ => ⟨rfl, e636, (by decide : 2 + 0 ≤ _), (by decide : 6 + 0 ≤ _)⟩)
  dsimp only [Pt.U, Pt.locs, Pt.cells, Pt.slots] at X639 l639 y639 z639 st639 hQ639
  rw [l639, y639, z639] at X639
  obtain ⟨rfl, N639q, hh639⟩ := hQ639
  have N639 := Fr.app N636 N639q
  have R640 : ∀ tg, Steps p.tables e below (T639.setTop (mkF m 81 #[vJ q1, .second, vJ q2, .second, vJ q3, .second, vJ q4, .second, vJ q5, .second, vJ q6, .second, vR x1, vR x2, .unset, .unset, .unset, .unset, .unset, .unset, .unset, .unset, .unset, .unset, .unset, .unset, .unset, .unset, .unset] [(.int (own_lw q3)), (.int (2 : Int32)), (.ref x1)])) tg → Steps p.tables e below (s₁.setTop (mkF m 0 #[vJ q1, .second, vJ q2, .second, vJ q3, .second, vJ q4, .second, vJ q5, .second, vJ q6, .second, .unset, .unset, .unset, .unset, .unset, .unset, .unset, .unset, .unset, .unset, .unset, .unset, .unset, .unset, .unset, .unset, .unset] [])) tg := by
    intro tg kt
    refine R638 _ ?_
    refine st639 _ ?_
    exact kt
  clear R638 st639
  obtain ⟨cl641, Ar641, hin641, -⟩ := V1_636.at (j := (2 : Int32)) (k := 2) (by decide) rfl (by decide)
  obtain ⟨T642, h642, X642, e642, W642, st642⟩ := stI X639 hx hZ hh639 Ar641 (j := (2 : Int32)) hin641 (g := (mkF m 81 #[vJ q1, .second, vJ q2, .second, vJ q3, .second, vJ q4, .second, vJ q5, .second, vJ q6, .second, vR x1, vR x2, .unset, .unset, .unset, .unset, .unset, .unset, .unset, .unset, .unset, .unset, .unset, .unset, .unset, .unset, .unset] [(.int (own_lw q3)), (.int (2 : Int32)), (.ref x1)])) rfl rfl (hb hby at_81)
  have N642 := Fr.snoc X642 N639 g_x1
  rw [show ((2 : Int32) : Int32).toNatClampNeg = 2 from rfl] at W642
  have V1_642 : AV Z h642 x1 .int 3 (fun j => .int ((own_set (own_set (own_set (fun _ => (0 : Int32)) 0 (own_lw q1)) 1 (own_lw q2)) 2 (own_lw q3)) j)) := V1_636.setI W642
  have E_x1_642 := E_x1_636.wr W642
  have V2_642 := V2_636.other W642 (Ne.symm ne_x1_x2)
  clear E_x1_636 V2_636
  have Zs642 : n0 ≤ h642.size := Nat.le_trans Zs636 (Keep.of_wr W642).1
  have R643 : ∀ tg, Steps p.tables e below (T642.setTop (mkF m 94 #[vJ q1, .second, vJ q2, .second, vJ q3, .second, vJ q4, .second, vJ q5, .second, vJ q6, .second, vR x1, vR x2, .unset, .unset, .unset, .unset, .unset, .unset, .unset, .unset, .unset, .unset, .unset, .unset, .unset, .unset, .unset] [(.int (((q3.toUInt64 >>> ((32 : Int32) &&& 0x3f).toInt64.toUInt64).toInt64).toInt32)), (.int (q3.toInt32)), (.int (2 : Int32)), (.ref x2)])) tg → Steps p.tables e below (s₁.setTop (mkF m 0 #[vJ q1, .second, vJ q2, .second, vJ q3, .second, vJ q4, .second, vJ q5, .second, vJ q6, .second, .unset, .unset, .unset, .unset, .unset, .unset, .unset, .unset, .unset, .unset, .unset, .unset, .unset, .unset, .unset, .unset, .unset] [])) tg := by
    intro tg kt
    refine R640 _ ?_
    refine st642 _ ?_
    refine XS.aload X642.here hx rfl (hb hby at_82) rfl rfl ?_
    refine XS.iconst X642.here hx rfl (hb hby at_84) ?_
    show Steps p.tables e below (T642.setTop (mkF m 85 #[vJ q1, .second, vJ q2, .second, vJ q3, .second, vJ q4, .second, vJ q5, .second, vJ q6, .second, vR x1, vR x2, .unset, .unset, .unset, .unset, .unset, .unset, .unset, .unset, .unset, .unset, .unset, .unset, .unset, .unset, .unset] [(.int (2 : Int32)), (.ref x2)])) _
    refine XS.lload X642.here hx rfl (hb hby at_85) rfl ?_
    show Steps p.tables e below (T642.setTop (mkF m 87 #[vJ q1, .second, vJ q2, .second, vJ q3, .second, vJ q4, .second, vJ q5, .second, vJ q6, .second, vR x1, vR x2, .unset, .unset, .unset, .unset, .unset, .unset, .unset, .unset, .unset, .unset, .unset, .unset, .unset, .unset, .unset] [(.long q3), (.int (2 : Int32)), (.ref x2)])) _
    refine XS.l2i X642.here hx rfl (hb hby at_87) rfl ?_
    refine XS.lload X642.here hx rfl (hb hby at_88) rfl ?_
    refine XS.bipush X642.here hx rfl (hb hby at_90) ?_
    show Steps p.tables e below (T642.setTop (mkF m 92 #[vJ q1, .second, vJ q2, .second, vJ q3, .second, vJ q4, .second, vJ q5, .second, vJ q6, .second, vR x1, vR x2, .unset, .unset, .unset, .unset, .unset, .unset, .unset, .unset, .unset, .unset, .unset, .unset, .unset, .unset, .unset] [(.int (32 : Int32)), (.long q3), (.int (q3.toInt32)), (.int (2 : Int32)), (.ref x2)])) _
    refine XS.lushr X642.here hx rfl (hb hby at_92) rfl ?_
    show Steps p.tables e below (T642.setTop (mkF m 93 #[vJ q1, .second, vJ q2, .second, vJ q3, .second, vJ q4, .second, vJ q5, .second, vJ q6, .second, vR x1, vR x2, .unset, .unset, .unset, .unset, .unset, .unset, .unset, .unset, .unset, .unset, .unset, .unset, .unset, .unset, .unset] [(.long ((q3.toUInt64 >>> ((32 : Int32) &&& 0x3f).toInt64.toUInt64).toInt64)), (.int (q3.toInt32)), (.int (2 : Int32)), (.ref x2)])) _
    refine XS.l2i X642.here hx rfl (hb hby at_93) rfl ?_
    exact kt
  clear R640 st642
  have R644 : ∀ tg, Steps p.tables e below (T642.setTop (mkF m 94 #[vJ q1, .second, vJ q2, .second, vJ q3, .second, vJ q4, .second, vJ q5, .second, vJ q6, .second, vR x1, vR x2, .unset, .unset, .unset, .unset, .unset, .unset, .unset, .unset, .unset, .unset, .unset, .unset, .unset, .unset, .unset] [(.int ((own_ush q3 (32 : Int32)).toInt32)), (.int (q3.toInt32)), (.int (2 : Int32)), (.ref x2)])) tg → Steps p.tables e below (s₁.setTop (mkF m 0 #[vJ q1, .second, vJ q2, .second, vJ q3, .second, vJ q4, .second, vJ q5, .second, vJ q6, .second, .unset, .unset, .unset, .unset, .unset, .unset, .unset, .unset, .unset, .unset, .unset, .unset, .unset, .unset, .unset, .unset, .unset] [])) tg := R643
  obtain ⟨_, _, ⟨T645, L645, k645, n645⟩, -, X645, ⟨Lc645, hQ645, l645, y645, z645⟩, st645⟩ := Jvm.LawKit.callS X642 hx (y := (⟨"java/lang/Math", "max", "(II)I"⟩ : MethodName)) hown (mvT hZ (hw _ (List.mem_of_getElem? (i := 5) rfl))) (mvT hZ (hw _ (List.mem_of_getElem? (i := 6) rfl))) (mvT hZ (hw _ (List.mem_of_getElem? (i := 3) rfl))) (mvT hZ (hw _ (List.mem_of_getElem? (i := 7) rfl))) (by decide) (backOf (W := 2) (rm_max l Z a0 hw [] (q3.toInt32) ((own_ush q3 (32 : Int32)).toInt32) h642 n0 Zs642) hZ (hw _ (List.mem_of_getElem? (i := 7) rfl)) (hw _ (List.mem_of_getElem? (i := 3) rfl)) (by decide) (by decide)) (g := (mkF m 94 #[vJ q1, .second, vJ q2, .second, vJ q3, .second, vJ q4, .second, vJ q5, .second, vJ q6, .second, vR x1, vR x2, .unset, .unset, .unset, .unset, .unset, .unset, .unset, .unset, .unset, .unset, .unset, .unset, .unset, .unset, .unset] [(.int ((own_ush q3 (32 : Int32)).toInt32)), (.int (q3.toInt32)), (.int (2 : Int32)), (.ref x2)])) rfl (by rw [hml]; rfl) (argsL := [(.int (q3.toInt32)), (.int ((own_ush q3 (32 : Int32)).toInt32))]) (rest := [(.int (2 : Int32)), (.ref x2)]) (lenOf pd_7 rfl) rfl (by show 2 * 0 + _ ≤ _; exact Nat.le_of_eq rfl) (hb hby at_94) (fun _ _ => ⟨rfl, e642, (by decide : 2 + 0 ≤ _), (by decide : 6 + 0 ≤ _)⟩)
  dsimp only [Pt.U, Pt.locs, Pt.cells, Pt.slots] at X645 l645 y645 z645 st645 hQ645
  rw [l645, y645, z645] at X645
  obtain ⟨rfl, N645q, hh645⟩ := hQ645
  have N645 := Fr.app N642 N645q
  have R646 : ∀ tg, Steps p.tables e below (T645.setTop (mkF m 97 #[vJ q1, .second, vJ q2, .second, vJ q3, .second, vJ q4, .second, vJ q5, .second, vJ q6, .second, vR x1, vR x2, .unset, .unset, .unset, .unset, .unset, .unset, .unset, .unset, .unset, .unset, .unset, .unset, .unset, .unset, .unset] [(.int (own_hg q3)), (.int (2 : Int32)), (.ref x2)])) tg → Steps p.tables e below (s₁.setTop (mkF m 0 #[vJ q1, .second, vJ q2, .second, vJ q3, .second, vJ q4, .second, vJ q5, .second, vJ q6, .second, .unset, .unset, .unset, .unset, .unset, .unset, .unset, .unset, .unset, .unset, .unset, .unset, .unset, .unset, .unset, .unset, .unset] [])) tg := by
    intro tg kt
    refine R644 _ ?_
    refine st645 _ ?_
    exact kt
  clear R644 st645
  obtain ⟨cl647, Ar647, hin647, -⟩ := V2_642.at (j := (2 : Int32)) (k := 2) (by decide) rfl (by decide)
  obtain ⟨T648, h648, X648, e648, W648, st648⟩ := stI X645 hx hZ hh645 Ar647 (j := (2 : Int32)) hin647 (g := (mkF m 97 #[vJ q1, .second, vJ q2, .second, vJ q3, .second, vJ q4, .second, vJ q5, .second, vJ q6, .second, vR x1, vR x2, .unset, .unset, .unset, .unset, .unset, .unset, .unset, .unset, .unset, .unset, .unset, .unset, .unset, .unset, .unset] [(.int (own_hg q3)), (.int (2 : Int32)), (.ref x2)])) rfl rfl (hb hby at_97)
  have N648 := Fr.snoc X648 N645 g_x2
  rw [show ((2 : Int32) : Int32).toNatClampNeg = 2 from rfl] at W648
  have V2_648 : AV Z h648 x2 .int 3 (fun j => .int ((own_set (own_set (own_set (fun _ => (0 : Int32)) 0 (own_hg q1)) 1 (own_hg q2)) 2 (own_hg q3)) j)) := V2_642.setI W648
  have E_x1_648 := E_x1_642.wr W648
  have V1_648 := V1_642.other W648 ne_x1_x2
  clear E_x1_642 V1_642
  have Zs648 : n0 ≤ h648.size := Nat.le_trans Zs642 (Keep.of_wr W648).1
  have R649 : ∀ tg, Steps p.tables e below (T648.setTop (mkF m 98 #[vJ q1, .second, vJ q2, .second, vJ q3, .second, vJ q4, .second, vJ q5, .second, vJ q6, .second, vR x1, vR x2, .unset, .unset, .unset, .unset, .unset, .unset, .unset, .unset, .unset, .unset, .unset, .unset, .unset, .unset, .unset] [])) tg → Steps p.tables e below (s₁.setTop (mkF m 0 #[vJ q1, .second, vJ q2, .second, vJ q3, .second, vJ q4, .second, vJ q5, .second, vJ q6, .second, .unset, .unset, .unset, .unset, .unset, .unset, .unset, .unset, .unset, .unset, .unset, .unset, .unset, .unset, .unset, .unset, .unset] [])) tg := by
    intro tg kt
    refine R646 _ ?_
    refine st648 _ ?_
    exact kt
  clear R646 st648
  have V1z : AV Z h648 x1 .int 3 (fun j => .int (lo j)) := by rw [hlo]; exact AV.congr V1_648 (fun j hj => congrArg _ (own_three (own_v3 (own_lw q1) (own_lw q2) (own_lw q3)) _ j hj))
  have V2z : AV Z h648 x2 .int 3 (fun j => .int (hi j)) := by rw [hhi]; exact AV.congr V2_648 (fun j hj => congrArg _ (own_three (own_v3 (own_hg q1) (own_hg q2) (own_hg q3)) _ j hj))
  obtain ⟨T650, h650, X650, e650, E650, A650, D650, -, st650⟩ := newO X648 hx hZ hown (hw _ (List.mem_of_getElem? (i := 8) rfl)) (hw _ (List.mem_of_getElem? (i := 9) rfl)) (hw _ (List.mem_of_getElem? (i := 10) rfl)) e648 (g := (mkF m 98 #[vJ q1, .second, vJ q2, .second, vJ q3, .second, vJ q4, .second, vJ q5, .second, vJ q6, .second, vR x1, vR x2, .unset, .unset, .unset, .unset, .unset, .unset, .unset, .unset, .unset, .unset, .unset, .unset, .unset, .unset, .unset] [])) rfl (hb hby at_98) (by decide) (by decide)
  obtain ⟨ob, g650⟩ : ∃ z, z = h648.size := ⟨_, rfl⟩
  rw [← g650] at A650 D650 st650
  have E_ob := A650
  have g_ob : n0 ≤ ob := Nat.le_trans Zs648 (Nat.le_of_eq g650.symm)
  have ne_x1_ob : x1 ≠ ob := Nat.ne_of_lt (Nat.lt_of_lt_of_le E_x1_648.lt (Nat.le_of_eq g650.symm))
  have ne_x2_ob : x2 ≠ ob := Nat.ne_of_lt (Nat.lt_of_lt_of_le V2z.lt (Nat.le_of_eq g650.symm))
  have E_x1_650 := E_x1_648.ext E650
  have V1_650 := V1z.ext E650
  have V2_650 := V2z.ext E650
  clear E_x1_648
  have Zs650 : n0 ≤ h650.size := Nat.le_trans Zs648 E650.1
  have Fl : Fld Z h650 ob "com/example/inexact_odds/inexactodds/language/Encoding" "low" "[I" .null := D650 (Or.inr (hw _ (List.mem_of_getElem? (i := 27) rfl))) (ty := (.array .int)) (by decide)
  have Fw : Fld Z h650 ob "com/example/inexact_odds/inexactodds/language/Encoding" "word" "[I" .null := D650 (Or.inr (hw _ (List.mem_of_getElem? (i := 29) rfl))) (ty := (.array .int)) (by decide)
  have Fs : Fld Z h650 ob "com/example/inexact_odds/inexactodds/language/Encoding" "shift" "[I" .null := D650 (Or.inr (hw _ (List.mem_of_getElem? (i := 31) rfl))) (ty := (.array .int)) (by decide)
  have Fm : Fld Z h650 ob "com/example/inexact_odds/inexactodds/language/Encoding" "mask" "[J" .null := D650 (Or.inr (hw _ (List.mem_of_getElem? (i := 34) rfl))) (ty := (.array .long)) (by decide)
  have Fc : Fld Z h650 ob "com/example/inexact_odds/inexactodds/language/Encoding" "words" "I" (.int (0 : Int32)) := D650 (Or.inr (hw _ (List.mem_of_getElem? (i := 46) rfl))) (ty := .int) (by decide)
  have R651 : ∀ tg, Steps p.tables e below (T650.setTop (mkF m 106 #[vJ q1, .second, vJ q2, .second, vJ q3, .second, vJ q4, .second, vJ q5, .second, vJ q6, .second, vR x1, vR x2, .unset, .unset, .unset, .unset, .unset, .unset, .unset, .unset, .unset, .unset, .unset, .unset, .unset, .unset, .unset] [(.ref x2), (.ref x1), (.ref ob), (.ref ob)])) tg → Steps p.tables e below (s₁.setTop (mkF m 0 #[vJ q1, .second, vJ q2, .second, vJ q3, .second, vJ q4, .second, vJ q5, .second, vJ q6, .second, .unset, .unset, .unset, .unset, .unset, .unset, .unset, .unset, .unset, .unset, .unset, .unset, .unset, .unset, .unset, .unset, .unset] [])) tg := by
    intro tg kt
    refine R649 _ ?_
    refine st650 _ ?_
    refine XS.dup X650.here hx rfl (hb hby at_101) rfl rfl ?_
    refine XS.aload X650.here hx rfl (hb hby at_102) rfl rfl ?_
    show Steps p.tables e below (T650.setTop (mkF m 104 #[vJ q1, .second, vJ q2, .second, vJ q3, .second, vJ q4, .second, vJ q5, .second, vJ q6, .second, vR x1, vR x2, .unset, .unset, .unset, .unset, .unset, .unset, .unset, .unset, .unset, .unset, .unset, .unset, .unset, .unset, .unset] [(.ref x1), (.ref ob), (.ref ob)])) _
    refine XS.aload X650.here hx rfl (hb hby at_104) rfl rfl ?_
    exact kt
  clear R649 st650
  obtain ⟨_, _, ⟨T652, L652, k652, n652⟩, -, X652, ⟨Lc652, hQ652, l652, y652, z652⟩, st652⟩ := X650.specialBack hx (y := (⟨"com/example/inexact_odds/inexactodds/language/Encoding", "<init>", "([I[I)V"⟩ : MethodName)) rfl hown (mvT hZ (hw _ (List.mem_of_getElem? (i := 11) rfl))) (mvT hZ (hw _ (List.mem_of_getElem? (i := 12) rfl))) (mvT hZ (hw _ (List.mem_of_getElem? (i := 13) rfl))) (by decide) (backOf (W := 1) (rm_enc l Z a0 hw [] ob x1 x2 lo hi h650 n0 Zs650 E_ob Fl Fw Fs Fm Fc V1_650 V2_650 E_x1_650 g_ob (Ne.symm ne_x1_ob) (Ne.symm ne_x2_ob)) hZ (hw _ (List.mem_of_getElem? (i := 13) rfl)) (hw _ (List.mem_of_getElem? (i := 10) rfl)) (by decide) (by decide)) (g := (mkF m 106 #[vJ q1, .second, vJ q2, .second, vJ q3, .second, vJ q4, .second, vJ q5, .second, vJ q6, .second, vR x1, vR x2, .unset, .unset, .unset, .unset, .unset, .unset, .unset, .unset, .unset, .unset, .unset, .unset, .unset, .unset, .unset] [(.ref x2), (.ref x1), (.ref ob), (.ref ob)])) rfl (by rw [hml]; rfl) (Steps.refl _) (a := ob) (argsL := [(.ref x1), (.ref x2)]) (rest := [(.ref ob)]) (lenOf pd_8 rfl) rfl (by show 2 * 0 + _ ≤ _; exact Nat.le_of_eq rfl) (hb hby at_106) (fun _ _ => ⟨rfl, e650, (by decide : 3 + 4 ≤ _), (by decide : 11 + 12 ≤ _)⟩)
  dsimp only [Pt.U, Pt.locs, Pt.cells, Pt.slots] at X652 l652 y652 z652 st652 hQ652
  rw [l652, y652, z652] at X652
  obtain ⟨rfl, N652q, K652, Ex652, c1, c2, c3, c4, Gl, Gw, Gs, Gm, Gc, U1, U2, U3, U4⟩ := hQ652
  have N652 := Fr.app N648 N652q
  have E_x1_653 := E_x1_650.keep K652
  have V1_653 := V1_650.keep K652 (own_notin1 ne_x1_ob)
  have V2_653 := V2_650.keep K652 (own_notin1 ne_x2_ob)
  clear E_x1_650 V1_650 V2_650
  have Zs653 : n0 ≤ T652.heap.size := Nat.le_trans Zs650 K652.1
  rw [← hww] at Gc
  have R654 : ∀ tg, Steps p.tables e below (T652.setTop (mkF m 113 #[vJ q1, .second, vJ q2, .second, vJ q3, .second, vJ q4, .second, vJ q5, .second, vJ q6, .second, vR x1, vR x2, vR ob, .unset, .unset, .unset, .unset, .unset, .unset, .unset, .unset, .unset, .unset, .unset, .unset, .unset, .unset] [(.ref ob)])) tg → Steps p.tables e below (s₁.setTop (mkF m 0 #[vJ q1, .second, vJ q2, .second, vJ q3, .second, vJ q4, .second, vJ q5, .second, vJ q6, .second, .unset, .unset, .unset, .unset, .unset, .unset, .unset, .unset, .unset, .unset, .unset, .unset, .unset, .unset, .unset, .unset, .unset] [])) tg := by
    intro tg kt
    refine R651 _ ?_
    refine st652.trans ?_
    show Steps p.tables e below (T652.setTop (mkF m 109 #[vJ q1, .second, vJ q2, .second, vJ q3, .second, vJ q4, .second, vJ q5, .second, vJ q6, .second, vR x1, vR x2, .unset, .unset, .unset, .unset, .unset, .unset, .unset, .unset, .unset, .unset, .unset, .unset, .unset, .unset, .unset] [(.ref ob)])) _
    refine XS.astore X652.here hx rfl (hb hby at_109) rfl rfl (l' := #[vJ q1, .second, vJ q2, .second, vJ q3, .second, vJ q4, .second, vJ q5, .second, vJ q6, .second, vR x1, vR x2, vR ob, .unset, .unset, .unset, .unset, .unset, .unset, .unset, .unset, .unset, .unset, .unset, .unset, .unset, .unset]) rfl ?_
    refine XS.aload X652.here hx rfl (hb hby at_111) rfl rfl ?_
    exact kt
  clear R651 st652
  obtain ⟨cq655, kq655, q655a, q655b, q655c⟩ := isOf hZ rfl Ex652
  obtain ⟨_, _, ⟨T655, L655, k655, n655⟩, -, X655, ⟨Lc655, hQ655, l655, y655, z655⟩, st655⟩ := X652.virtualBack hx (y := (⟨"com/example/inexact_odds/inexactodds/language/Encoding", "words", "()I"⟩ : MethodName)) (z := (⟨"com/example/inexact_odds/inexactodds/language/Encoding", "words", "()I"⟩ : MethodName)) hown (mvT hZ (hw _ (List.mem_of_getElem? (i := 47) rfl))) (mvT hZ (hw _ (List.mem_of_getElem? (i := 48) rfl))) (notFace_of_selects (args := #[]) (mvT hZ (hw _ (List.mem_of_getElem? (i := 50) rfl)))) (mvT hZ (hw _ (List.mem_of_getElem? (i := 50) rfl))) (mvT hZ (hw _ (List.mem_of_getElem? (i := 49) rfl))) (by decide) (backOf (W := 0) (rm_words l Z a0 hw [] ob ww T652.heap n0 Zs653 Gc) hZ (hw _ (List.mem_of_getElem? (i := 51) rfl)) (hw _ (List.mem_of_getElem? (i := 10) rfl)) (by decide) (by decide)) q655a q655c (g := (mkF m 113 #[vJ q1, .second, vJ q2, .second, vJ q3, .second, vJ q4, .second, vJ q5, .second, vJ q6, .second, vR x1, vR x2, vR ob, .unset, .unset, .unset, .unset, .unset, .unset, .unset, .unset, .unset, .unset, .unset, .unset, .unset, .unset] [(.ref ob)])) rfl (by rw [hml]; rfl) (Steps.refl _) (argsL := []) (rest := []) (lenOf pd_9 rfl) rfl (by show 2 * 0 + _ ≤ _; exact Nat.le_of_eq rfl) (hb hby at_113) (fun _ _ => ⟨rfl, rfl, (by decide : 7 + 0 ≤ _), (by decide : 23 + 0 ≤ _)⟩)
  dsimp only [Pt.U, Pt.locs, Pt.cells, Pt.slots] at X655 l655 y655 z655 st655 hQ655
  rw [l655, y655, z655] at X655
  obtain ⟨rfl, N655q, hh655⟩ := hQ655
  have N655 := Fr.app N652 N655q
  have R656 : ∀ tg, Steps p.tables e below (T655.setTop (mkF m 133 #[vJ q1, .second, vJ q2, .second, vJ q3, .second, vJ q4, .second, vJ q5, .second, vJ q6, .second, vR x1, vR x2, vR ob, vI ww, .unset, .unset, .unset, .unset, .unset, .unset, .unset, .unset, .unset, .unset, .unset, .unset, .unset] [(.int (3 : Int32))])) tg → Steps p.tables e below (s₁.setTop (mkF m 0 #[vJ q1, .second, vJ q2, .second, vJ q3, .second, vJ q4, .second, vJ q5, .second, vJ q6, .second, .unset, .unset, .unset, .unset, .unset, .unset, .unset, .unset, .unset, .unset, .unset, .unset, .unset, .unset, .unset, .unset, .unset] [])) tg := by
    intro tg kt
    refine R654 _ ?_
    refine st655.trans ?_
    show Steps p.tables e below (T655.setTop (mkF m 116 #[vJ q1, .second, vJ q2, .second, vJ q3, .second, vJ q4, .second, vJ q5, .second, vJ q6, .second, vR x1, vR x2, vR ob, .unset, .unset, .unset, .unset, .unset, .unset, .unset, .unset, .unset, .unset, .unset, .unset, .unset, .unset] [(.int ww)])) _
    refine XS.istore X655.here hx rfl (hb hby at_116) rfl (l' := #[vJ q1, .second, vJ q2, .second, vJ q3, .second, vJ q4, .second, vJ q5, .second, vJ q6, .second, vR x1, vR x2, vR ob, vI ww, .unset, .unset, .unset, .unset, .unset, .unset, .unset, .unset, .unset, .unset, .unset, .unset, .unset]) rfl ?_
    refine XS.iload X655.here hx rfl (hb hby at_118) rfl ?_
    refine XS.iconst X655.here hx rfl (hb hby at_120) ?_
    show Steps p.tables e below (T655.setTop (mkF m 121 #[vJ q1, .second, vJ q2, .second, vJ q3, .second, vJ q4, .second, vJ q5, .second, vJ q6, .second, vR x1, vR x2, vR ob, vI ww, .unset, .unset, .unset, .unset, .unset, .unset, .unset, .unset, .unset, .unset, .unset, .unset, .unset] [(.int (1 : Int32)), (.int ww)])) _
    refine XS.icmpNo X655.here hx rfl (hb hby at_121) rfl (flt (W1 : ¬ (ww < (1 : Int32)))).1 ?_
    refine XS.iload X655.here hx rfl (hb hby at_124) rfl ?_
    refine XS.iconst X655.here hx rfl (hb hby at_126) ?_
    show Steps p.tables e below (T655.setTop (mkF m 127 #[vJ q1, .second, vJ q2, .second, vJ q3, .second, vJ q4, .second, vJ q5, .second, vJ q6, .second, vR x1, vR x2, vR ob, vI ww, .unset, .unset, .unset, .unset, .unset, .unset, .unset, .unset, .unset, .unset, .unset, .unset, .unset] [(.int (2 : Int32)), (.int ww)])) _
    refine XS.icmpYes X655.here hx rfl (pc0 := 127) (pc' := 132) rfl (hb hby at_127) rfl (flt (W2 : ¬ ((2 : Int32) < ww))).2.2.2 (by decide) (by decide) ?_
    refine XS.iconst X655.here hx rfl (hb hby at_132) ?_
    exact kt
  clear R654 st655
  obtain ⟨T657, h657, k657, X657, e657, E657, A657, st657⟩ := newP X655 hx hZ (hw _ (List.mem_of_getElem? (i := 0) rfl)) hh655 (g := (mkF m 133 #[vJ q1, .second, vJ q2, .second, vJ q3, .second, vJ q4, .second, vJ q5, .second, vJ q6, .second, vR x1, vR x2, vR ob, vI ww, .unset, .unset, .unset, .unset, .unset, .unset, .unset, .unset, .unset, .unset, .unset, .unset, .unset] [(.int (3 : Int32))])) rfl (hb hby at_133) rfl (by decide) (cap := 3) (by decide) (by decide) (by decide) (by decide)
  obtain ⟨x4, g657⟩ : ∃ z, z = T652.heap.size := ⟨_, rfl⟩
  rw [← g657] at A657 st657
  have g_x4 : n0 ≤ x4 := Nat.le_trans Zs653 (Nat.le_of_eq g657.symm)
  have ne_x1_x4 : x1 ≠ x4 := Nat.ne_of_lt (Nat.lt_of_lt_of_le V1_653.lt (Nat.le_of_eq g657.symm))
  have ne_x2_x4 : x2 ≠ x4 := Nat.ne_of_lt (Nat.lt_of_lt_of_le V2_653.lt (Nat.le_of_eq g657.symm))
  have ne_ob_x4 : ob ≠ x4 := Nat.ne_of_lt (Nat.lt_of_lt_of_le Gl.lt (Nat.le_of_eq g657.symm))
  have ne_c1_x4 : c1 ≠ x4 := Nat.ne_of_lt (Nat.lt_of_lt_of_le U1.lt (Nat.le_of_eq g657.symm))
  have ne_c2_x4 : c2 ≠ x4 := Nat.ne_of_lt (Nat.lt_of_lt_of_le U2.lt (Nat.le_of_eq g657.symm))
  have ne_c3_x4 : c3 ≠ x4 := Nat.ne_of_lt (Nat.lt_of_lt_of_le U3.lt (Nat.le_of_eq g657.symm))
  have ne_c4_x4 : c4 ≠ x4 := Nat.ne_of_lt (Nat.lt_of_lt_of_le U4.lt (Nat.le_of_eq g657.symm))
  have V1_657 := V1_653.ext E657
  have V2_657 := V2_653.ext E657
  have Fl_657 := Gl.ext E657
  have Fw_657 := Gw.ext E657
  have Fs_657 := Gs.ext E657
  have Fm_657 := Gm.ext E657
  have Fc_657 := Gc.ext E657
  have E_ob_657 := Ex652.ext E657
  have U1_657 := U1.ext E657
  have U2_657 := U2.ext E657
  have U3_657 := U3.ext E657
  have U4_657 := U4.ext E657
  clear V1_653 V2_653
  have Zs657 : n0 ≤ h657.size := Nat.le_trans Zs653 E657.1
  have VXr : AV Z h657 x4 .int 3 (fun _ => defaultValue .int) := AV.new A657 rfl rfl
  have VX : AV Z h657 x4 .int 3 (fun j => .int ((fun _ => (0 : Int32)) j)) := VXr
  have R658 : ∀ tg, Steps p.tables e below (T657.setTop (mkF m 143 #[vJ q1, .second, vJ q2, .second, vJ q3, .second, vJ q4, .second, vJ q5, .second, vJ q6, .second, vR x1, vR x2, vR ob, vI ww, vR x4, .unset, .unset, .unset, .unset, .unset, .unset, .unset, .unset, .unset, .unset, .unset, .unset] [(.int (0 : Int32)), (.ref x1), (.int (0 : Int32)), (.ref x4)])) tg → Steps p.tables e below (s₁.setTop (mkF m 0 #[vJ q1, .second, vJ q2, .second, vJ q3, .second, vJ q4, .second, vJ q5, .second, vJ q6, .second, .unset, .unset, .unset, .unset, .unset, .unset, .unset, .unset, .unset, .unset, .unset, .unset, .unset, .unset, .unset, .unset, .unset] [])) tg := by
    intro tg kt
    refine R656 _ ?_
    refine st657 _ ?_
    show Steps p.tables e below (T657.setTop (mkF m 135 #[vJ q1, .second, vJ q2, .second, vJ q3, .second, vJ q4, .second, vJ q5, .second, vJ q6, .second, vR x1, vR x2, vR ob, vI ww, .unset, .unset, .unset, .unset, .unset, .unset, .unset, .unset, .unset, .unset, .unset, .unset, .unset] [(.ref x4)])) _
    refine XS.astore X657.here hx rfl (hb hby at_135) rfl rfl (l' := #[vJ q1, .second, vJ q2, .second, vJ q3, .second, vJ q4, .second, vJ q5, .second, vJ q6, .second, vR x1, vR x2, vR ob, vI ww, vR x4, .unset, .unset, .unset, .unset, .unset, .unset, .unset, .unset, .unset, .unset, .unset, .unset]) rfl ?_
    refine XS.aload X657.here hx rfl (hb hby at_137) rfl rfl ?_
    refine XS.iconst X657.here hx rfl (hb hby at_139) ?_
    show Steps p.tables e below (T657.setTop (mkF m 140 #[vJ q1, .second, vJ q2, .second, vJ q3, .second, vJ q4, .second, vJ q5, .second, vJ q6, .second, vR x1, vR x2, vR ob, vI ww, vR x4, .unset, .unset, .unset, .unset, .unset, .unset, .unset, .unset, .unset, .unset, .unset, .unset] [(.int (0 : Int32)), (.ref x4)])) _
    refine XS.aload X657.here hx rfl (hb hby at_140) rfl rfl ?_
    refine XS.iconst X657.here hx rfl (hb hby at_142) ?_
    exact kt
  clear R656 st657
  obtain ⟨cl659, Ar659, hin659, hat659⟩ := V1_657.at (j := (0 : Int32)) (k := 0) (by decide) rfl (by decide)
  have R660 : ∀ tg, Steps p.tables e below (T657.setTop (mkF m 147 #[vJ q1, .second, vJ q2, .second, vJ q3, .second, vJ q4, .second, vJ q5, .second, vJ q6, .second, vR x1, vR x2, vR ob, vI ww, vR x4, .unset, .unset, .unset, .unset, .unset, .unset, .unset, .unset, .unset, .unset, .unset, .unset] [(.int (0 : Int32)), (.ref x2), (.int (lo 0)), (.int (0 : Int32)), (.ref x4)])) tg → Steps p.tables e below (s₁.setTop (mkF m 0 #[vJ q1, .second, vJ q2, .second, vJ q3, .second, vJ q4, .second, vJ q5, .second, vJ q6, .second, .unset, .unset, .unset, .unset, .unset, .unset, .unset, .unset, .unset, .unset, .unset, .unset, .unset, .unset, .unset, .unset, .unset] [])) tg := by
    intro tg kt
    refine R658 _ ?_
    show Steps p.tables e below (T657.setTop (mkF m 143 #[vJ q1, .second, vJ q2, .second, vJ q3, .second, vJ q4, .second, vJ q5, .second, vJ q6, .second, vR x1, vR x2, vR ob, vI ww, vR x4, .unset, .unset, .unset, .unset, .unset, .unset, .unset, .unset, .unset, .unset, .unset, .unset] [(.int (0 : Int32)), (.ref x1), (.int (0 : Int32)), (.ref x4)])) _
    refine X657.iaload hx (j := (0 : Int32)) (v := (.int (lo 0))) (by rw [e657]; exact Ar659.1) (State.isArrayOf_alike hZ.alike Ar659.2.1) Ar659.2.2 hin659 hat659 (g := (mkF m 143 #[vJ q1, .second, vJ q2, .second, vJ q3, .second, vJ q4, .second, vJ q5, .second, vJ q6, .second, vR x1, vR x2, vR ob, vI ww, vR x4, .unset, .unset, .unset, .unset, .unset, .unset, .unset, .unset, .unset, .unset, .unset, .unset] [(.int (0 : Int32)), (.ref x1), (.int (0 : Int32)), (.ref x4)])) rfl rfl (hb hby at_143) _ ?_
    refine XS.aload X657.here hx rfl (hb hby at_144) rfl rfl ?_
    refine XS.iconst X657.here hx rfl (hb hby at_146) ?_
    exact kt
  clear R658
  obtain ⟨cl661, Ar661, hin661, hat661⟩ := V2_657.at (j := (0 : Int32)) (k := 0) (by decide) rfl (by decide)
  have R662 : ∀ tg, Steps p.tables e below (T657.setTop (mkF m 151 #[vJ q1, .second, vJ q2, .second, vJ q3, .second, vJ q4, .second, vJ q5, .second, vJ q6, .second, vR x1, vR x2, vR ob, vI ww, vR x4, .unset, .unset, .unset, .unset, .unset, .unset, .unset, .unset, .unset, .unset, .unset, .unset] [(.int (q4.toInt32)), (.int (hi 0)), (.int (lo 0)), (.int (0 : Int32)), (.ref x4)])) tg → Steps p.tables e below (s₁.setTop (mkF m 0 #[vJ q1, .second, vJ q2, .second, vJ q3, .second, vJ q4, .second, vJ q5, .second, vJ q6, .second, .unset, .unset, .unset, .unset, .unset, .unset, .unset, .unset, .unset, .unset, .unset, .unset, .unset, .unset, .unset, .unset, .unset] [])) tg := by
    intro tg kt
    refine R660 _ ?_
    show Steps p.tables e below (T657.setTop (mkF m 147 #[vJ q1, .second, vJ q2, .second, vJ q3, .second, vJ q4, .second, vJ q5, .second, vJ q6, .second, vR x1, vR x2, vR ob, vI ww, vR x4, .unset, .unset, .unset, .unset, .unset, .unset, .unset, .unset, .unset, .unset, .unset, .unset] [(.int (0 : Int32)), (.ref x2), (.int (lo 0)), (.int (0 : Int32)), (.ref x4)])) _
    refine X657.iaload hx (j := (0 : Int32)) (v := (.int (hi 0))) (by rw [e657]; exact Ar661.1) (State.isArrayOf_alike hZ.alike Ar661.2.1) Ar661.2.2 hin661 hat661 (g := (mkF m 147 #[vJ q1, .second, vJ q2, .second, vJ q3, .second, vJ q4, .second, vJ q5, .second, vJ q6, .second, vR x1, vR x2, vR ob, vI ww, vR x4, .unset, .unset, .unset, .unset, .unset, .unset, .unset, .unset, .unset, .unset, .unset, .unset] [(.int (0 : Int32)), (.ref x2), (.int (lo 0)), (.int (0 : Int32)), (.ref x4)])) rfl rfl (hb hby at_147) _ ?_
    refine XS.lload X657.here hx rfl (hb hby at_148) rfl ?_
    show Steps p.tables e below (T657.setTop (mkF m 150 #[vJ q1, .second, vJ q2, .second, vJ q3, .second, vJ q4, .second, vJ q5, .second, vJ q6, .second, vR x1, vR x2, vR ob, vI ww, vR x4, .unset, .unset, .unset, .unset, .unset, .unset, .unset, .unset, .unset, .unset, .unset, .unset] [(.long q4), (.int (hi 0)), (.int (lo 0)), (.int (0 : Int32)), (.ref x4)])) _
    refine XS.l2i X657.here hx rfl (hb hby at_150) rfl ?_
    exact kt
  clear R660
  obtain ⟨_, _, ⟨T663, L663, k663, n663⟩, -, X663, ⟨Lc663, hQ663, l663, y663, z663⟩, st663⟩ := Jvm.LawKit.callS X657 hx (y := (⟨"com/example/inexact_odds/inexactodds/language/EncodingEncodePinLaw", "pick", "(III)I"⟩ : MethodName)) hown (mvT hZ (hw _ (List.mem_of_getElem? (i := 52) rfl))) (mvT hZ (hw _ (List.mem_of_getElem? (i := 53) rfl))) (mvT hZ (hw _ (List.mem_of_getElem? (i := 54) rfl))) (mvT hZ (hw _ (List.mem_of_getElem? (i := 55) rfl))) (by decide) (backOf (W := 2) (rm_pick l Z a0 hw [] (lo 0) (hi 0) (q4.toInt32) h657 n0 Zs657 (hlh 0 (by decide))) hZ (hw _ (List.mem_of_getElem? (i := 55) rfl)) (hw _ (List.mem_of_getElem? (i := 54) rfl)) (by decide) (by decide)) (g := (mkF m 151 #[vJ q1, .second, vJ q2, .second, vJ q3, .second, vJ q4, .second, vJ q5, .second, vJ q6, .second, vR x1, vR x2, vR ob, vI ww, vR x4, .unset, .unset, .unset, .unset, .unset, .unset, .unset, .unset, .unset, .unset, .unset, .unset] [(.int (q4.toInt32)), (.int (hi 0)), (.int (lo 0)), (.int (0 : Int32)), (.ref x4)])) rfl (by rw [hml]; rfl) (argsL := [(.int (lo 0)), (.int (hi 0)), (.int (q4.toInt32))]) (rest := [(.int (0 : Int32)), (.ref x4)]) (lenOf pd_10 rfl) rfl (by show 2 * 0 + _ ≤ _; exact Nat.le_of_eq rfl) (hb hby at_151) (fun _ _ => ⟨rfl, e657, (by decide : 8 + 0 ≤ _), (by decide : 26 + 0 ≤ _)⟩)
  dsimp only [Pt.U, Pt.locs, Pt.cells, Pt.slots] at X663 l663 y663 z663 st663 hQ663
  rw [l663, y663, z663] at X663
  obtain ⟨rfl, N663q, hh663⟩ := hQ663
  have N663 := Fr.app N655 N663q
  have R664 : ∀ tg, Steps p.tables e below (T663.setTop (mkF m 154 #[vJ q1, .second, vJ q2, .second, vJ q3, .second, vJ q4, .second, vJ q5, .second, vJ q6, .second, vR x1, vR x2, vR ob, vI ww, vR x4, .unset, .unset, .unset, .unset, .unset, .unset, .unset, .unset, .unset, .unset, .unset, .unset] [(.int (own_vl (lo 0) (hi 0) (q4.toInt32))), (.int (0 : Int32)), (.ref x4)])) tg → Steps p.tables e below (s₁.setTop (mkF m 0 #[vJ q1, .second, vJ q2, .second, vJ q3, .second, vJ q4, .second, vJ q5, .second, vJ q6, .second, .unset, .unset, .unset, .unset, .unset, .unset, .unset, .unset, .unset, .unset, .unset, .unset, .unset, .unset, .unset, .unset, .unset] [])) tg := by
    intro tg kt
    refine R662 _ ?_
    refine st663 _ ?_
    exact kt
  clear R662 st663
  obtain ⟨cl665, Ar665, hin665, -⟩ := VX.at (j := (0 : Int32)) (k := 0) (by decide) rfl (by decide)
  obtain ⟨T666, h666, X666, e666, W666, st666⟩ := stI X663 hx hZ hh663 Ar665 (j := (0 : Int32)) hin665 (g := (mkF m 154 #[vJ q1, .second, vJ q2, .second, vJ q3, .second, vJ q4, .second, vJ q5, .second, vJ q6, .second, vR x1, vR x2, vR ob, vI ww, vR x4, .unset, .unset, .unset, .unset, .unset, .unset, .unset, .unset, .unset, .unset, .unset, .unset] [(.int (own_vl (lo 0) (hi 0) (q4.toInt32))), (.int (0 : Int32)), (.ref x4)])) rfl rfl (hb hby at_154)
  have N666 := Fr.snoc X666 N663 g_x4
  rw [show ((0 : Int32) : Int32).toNatClampNeg = 0 from rfl] at W666
  have VX_666 : AV Z h666 x4 .int 3 (fun j => .int ((own_set (fun _ => (0 : Int32)) 0 (own_vl (lo 0) (hi 0) (q4.toInt32))) j)) := VX.setI W666
  have V1_666 := V1_657.other W666 ne_x1_x4
  have V2_666 := V2_657.other W666 ne_x2_x4
  have Fl_666 := Fl_657.other W666 (Or.inl ne_ob_x4)
  have Fw_666 := Fw_657.other W666 (Or.inl ne_ob_x4)
  have Fs_666 := Fs_657.other W666 (Or.inl ne_ob_x4)
  have Fm_666 := Fm_657.other W666 (Or.inl ne_ob_x4)
  have Fc_666 := Fc_657.other W666 (Or.inl ne_ob_x4)
  have E_ob_666 := E_ob_657.wr W666
  have U1_666 := U1_657.other W666 ne_c1_x4
  have U2_666 := U2_657.other W666 ne_c2_x4
  have U3_666 := U3_657.other W666 ne_c3_x4
  have U4_666 := U4_657.other W666 ne_c4_x4
  clear V1_657 V2_657 Fl_657 Fw_657 Fs_657 Fm_657 Fc_657 E_ob_657 U1_657 U2_657 U3_657 U4_657
  have Zs666 : n0 ≤ h666.size := Nat.le_trans Zs657 (Keep.of_wr W666).1
  have R667 : ∀ tg, Steps p.tables e below (T666.setTop (mkF m 161 #[vJ q1, .second, vJ q2, .second, vJ q3, .second, vJ q4, .second, vJ q5, .second, vJ q6, .second, vR x1, vR x2, vR ob, vI ww, vR x4, .unset, .unset, .unset, .unset, .unset, .unset, .unset, .unset, .unset, .unset, .unset, .unset] [(.int (1 : Int32)), (.ref x1), (.int (1 : Int32)), (.ref x4)])) tg → Steps p.tables e below (s₁.setTop (mkF m 0 #[vJ q1, .second, vJ q2, .second, vJ q3, .second, vJ q4, .second, vJ q5, .second, vJ q6, .second, .unset, .unset, .unset, .unset, .unset, .unset, .unset, .unset, .unset, .unset, .unset, .unset, .unset, .unset, .unset, .unset, .unset] [])) tg := by
    intro tg kt
    refine R664 _ ?_
    refine st666 _ ?_
    refine XS.aload X666.here hx rfl (hb hby at_155) rfl rfl ?_
    refine XS.iconst X666.here hx rfl (hb hby at_157) ?_
    show Steps p.tables e below (T666.setTop (mkF m 158 #[vJ q1, .second, vJ q2, .second, vJ q3, .second, vJ q4, .second, vJ q5, .second, vJ q6, .second, vR x1, vR x2, vR ob, vI ww, vR x4, .unset, .unset, .unset, .unset, .unset, .unset, .unset, .unset, .unset, .unset, .unset, .unset] [(.int (1 : Int32)), (.ref x4)])) _
    refine XS.aload X666.here hx rfl (hb hby at_158) rfl rfl ?_
    refine XS.iconst X666.here hx rfl (hb hby at_160) ?_
    exact kt
  clear R664 st666
  obtain ⟨cl668, Ar668, hin668, hat668⟩ := V1_666.at (j := (1 : Int32)) (k := 1) (by decide) rfl (by decide)
  have R669 : ∀ tg, Steps p.tables e below (T666.setTop (mkF m 165 #[vJ q1, .second, vJ q2, .second, vJ q3, .second, vJ q4, .second, vJ q5, .second, vJ q6, .second, vR x1, vR x2, vR ob, vI ww, vR x4, .unset, .unset, .unset, .unset, .unset, .unset, .unset, .unset, .unset, .unset, .unset, .unset] [(.int (1 : Int32)), (.ref x2), (.int (lo 1)), (.int (1 : Int32)), (.ref x4)])) tg → Steps p.tables e below (s₁.setTop (mkF m 0 #[vJ q1, .second, vJ q2, .second, vJ q3, .second, vJ q4, .second, vJ q5, .second, vJ q6, .second, .unset, .unset, .unset, .unset, .unset, .unset, .unset, .unset, .unset, .unset, .unset, .unset, .unset, .unset, .unset, .unset, .unset] [])) tg := by
    intro tg kt
    refine R667 _ ?_
    show Steps p.tables e below (T666.setTop (mkF m 161 #[vJ q1, .second, vJ q2, .second, vJ q3, .second, vJ q4, .second, vJ q5, .second, vJ q6, .second, vR x1, vR x2, vR ob, vI ww, vR x4, .unset, .unset, .unset, .unset, .unset, .unset, .unset, .unset, .unset, .unset, .unset, .unset] [(.int (1 : Int32)), (.ref x1), (.int (1 : Int32)), (.ref x4)])) _
    refine X666.iaload hx (j := (1 : Int32)) (v := (.int (lo 1))) (by rw [e666]; exact Ar668.1) (State.isArrayOf_alike hZ.alike Ar668.2.1) Ar668.2.2 hin668 hat668 (g := (mkF m 161 #[vJ q1, .second, vJ q2, .second, vJ q3, .second, vJ q4, .second, vJ q5, .second, vJ q6, .second, vR x1, vR x2, vR ob, vI ww, vR x4, .unset, .unset, .unset, .unset, .unset, .unset, .unset, .unset, .unset, .unset, .unset, .unset] [(.int (1 : Int32)), (.ref x1), (.int (1 : Int32)), (.ref x4)])) rfl rfl (hb hby at_161) _ ?_
    refine XS.aload X666.here hx rfl (hb hby at_162) rfl rfl ?_
    refine XS.iconst X666.here hx rfl (hb hby at_164) ?_
    exact kt
  clear R667
  obtain ⟨cl670, Ar670, hin670, hat670⟩ := V2_666.at (j := (1 : Int32)) (k := 1) (by decide) rfl (by decide)
  have R671 : ∀ tg, Steps p.tables e below (T666.setTop (mkF m 172 #[vJ q1, .second, vJ q2, .second, vJ q3, .second, vJ q4, .second, vJ q5, .second, vJ q6, .second, vR x1, vR x2, vR ob, vI ww, vR x4, .unset, .unset, .unset, .unset, .unset, .unset, .unset, .unset, .unset, .unset, .unset, .unset] [(.int (((q4.toUInt64 >>> ((32 : Int32) &&& 0x3f).toInt64.toUInt64).toInt64).toInt32)), (.int (hi 1)), (.int (lo 1)), (.int (1 : Int32)), (.ref x4)])) tg → Steps p.tables e below (s₁.setTop (mkF m 0 #[vJ q1, .second, vJ q2, .second, vJ q3, .second, vJ q4, .second, vJ q5, .second, vJ q6, .second, .unset, .unset, .unset, .unset, .unset, .unset, .unset, .unset, .unset, .unset, .unset, .unset, .unset, .unset, .unset, .unset, .unset] [])) tg := by
    intro tg kt
    refine R669 _ ?_
    show Steps p.tables e below (T666.setTop (mkF m 165 #[vJ q1, .second, vJ q2, .second, vJ q3, .second, vJ q4, .second, vJ q5, .second, vJ q6, .second, vR x1, vR x2, vR ob, vI ww, vR x4, .unset, .unset, .unset, .unset, .unset, .unset, .unset, .unset, .unset, .unset, .unset, .unset] [(.int (1 : Int32)), (.ref x2), (.int (lo 1)), (.int (1 : Int32)), (.ref x4)])) _
    refine X666.iaload hx (j := (1 : Int32)) (v := (.int (hi 1))) (by rw [e666]; exact Ar670.1) (State.isArrayOf_alike hZ.alike Ar670.2.1) Ar670.2.2 hin670 hat670 (g := (mkF m 165 #[vJ q1, .second, vJ q2, .second, vJ q3, .second, vJ q4, .second, vJ q5, .second, vJ q6, .second, vR x1, vR x2, vR ob, vI ww, vR x4, .unset, .unset, .unset, .unset, .unset, .unset, .unset, .unset, .unset, .unset, .unset, .unset] [(.int (1 : Int32)), (.ref x2), (.int (lo 1)), (.int (1 : Int32)), (.ref x4)])) rfl rfl (hb hby at_165) _ ?_
    refine XS.lload X666.here hx rfl (hb hby at_166) rfl ?_
    refine XS.bipush X666.here hx rfl (hb hby at_168) ?_
    show Steps p.tables e below (T666.setTop (mkF m 170 #[vJ q1, .second, vJ q2, .second, vJ q3, .second, vJ q4, .second, vJ q5, .second, vJ q6, .second, vR x1, vR x2, vR ob, vI ww, vR x4, .unset, .unset, .unset, .unset, .unset, .unset, .unset, .unset, .unset, .unset, .unset, .unset] [(.int (32 : Int32)), (.long q4), (.int (hi 1)), (.int (lo 1)), (.int (1 : Int32)), (.ref x4)])) _
    refine XS.lushr X666.here hx rfl (hb hby at_170) rfl ?_
    show Steps p.tables e below (T666.setTop (mkF m 171 #[vJ q1, .second, vJ q2, .second, vJ q3, .second, vJ q4, .second, vJ q5, .second, vJ q6, .second, vR x1, vR x2, vR ob, vI ww, vR x4, .unset, .unset, .unset, .unset, .unset, .unset, .unset, .unset, .unset, .unset, .unset, .unset] [(.long ((q4.toUInt64 >>> ((32 : Int32) &&& 0x3f).toInt64.toUInt64).toInt64)), (.int (hi 1)), (.int (lo 1)), (.int (1 : Int32)), (.ref x4)])) _
    refine XS.l2i X666.here hx rfl (hb hby at_171) rfl ?_
    exact kt
  clear R669
  have R672 : ∀ tg, Steps p.tables e below (T666.setTop (mkF m 172 #[vJ q1, .second, vJ q2, .second, vJ q3, .second, vJ q4, .second, vJ q5, .second, vJ q6, .second, vR x1, vR x2, vR ob, vI ww, vR x4, .unset, .unset, .unset, .unset, .unset, .unset, .unset, .unset, .unset, .unset, .unset, .unset] [(.int ((own_ush q4 (32 : Int32)).toInt32)), (.int (hi 1)), (.int (lo 1)), (.int (1 : Int32)), (.ref x4)])) tg → Steps p.tables e below (s₁.setTop (mkF m 0 #[vJ q1, .second, vJ q2, .second, vJ q3, .second, vJ q4, .second, vJ q5, .second, vJ q6, .second, .unset, .unset, .unset, .unset, .unset, .unset, .unset, .unset, .unset, .unset, .unset, .unset, .unset, .unset, .unset, .unset, .unset] [])) tg := R671
  obtain ⟨_, _, ⟨T673, L673, k673, n673⟩, -, X673, ⟨Lc673, hQ673, l673, y673, z673⟩, st673⟩ := Jvm.LawKit.callS X666 hx (y := (⟨"com/example/inexact_odds/inexactodds/language/EncodingEncodePinLaw", "pick", "(III)I"⟩ : MethodName)) hown (mvT hZ (hw _ (List.mem_of_getElem? (i := 52) rfl))) (mvT hZ (hw _ (List.mem_of_getElem? (i := 53) rfl))) (mvT hZ (hw _ (List.mem_of_getElem? (i := 54) rfl))) (mvT hZ (hw _ (List.mem_of_getElem? (i := 55) rfl))) (by decide) (backOf (W := 2) (rm_pick l Z a0 hw [] (lo 1) (hi 1) ((own_ush q4 (32 : Int32)).toInt32) h666 n0 Zs666 (hlh 1 (by decide))) hZ (hw _ (List.mem_of_getElem? (i := 55) rfl)) (hw _ (List.mem_of_getElem? (i := 54) rfl)) (by decide) (by decide)) (g := (mkF m 172 #[vJ q1, .second, vJ q2, .second, vJ q3, .second, vJ q4, .second, vJ q5, .second, vJ q6, .second, vR x1, vR x2, vR ob, vI ww, vR x4, .unset, .unset, .unset, .unset, .unset, .unset, .unset, .unset, .unset, .unset, .unset, .unset] [(.int ((own_ush q4 (32 : Int32)).toInt32)), (.int (hi 1)), (.int (lo 1)), (.int (1 : Int32)), (.ref x4)])) rfl (by rw [hml]; rfl) (argsL := [(.int (lo 1)), (.int (hi 1)), (.int ((own_ush q4 (32 : Int32)).toInt32))]) (rest := [(.int (1 : Int32)), (.ref x4)]) (lenOf pd_10 rfl) rfl (by show 2 * 0 + _ ≤ _; exact Nat.le_of_eq rfl) (hb hby at_172) (fun _ _ => ⟨rfl, e666, (by decide : 8 + 0 ≤ _), (by decide : 26 + 0 ≤ _)⟩)
  dsimp only [Pt.U, Pt.locs, Pt.cells, Pt.slots] at X673 l673 y673 z673 st673 hQ673
  rw [l673, y673, z673] at X673
  obtain ⟨rfl, N673q, hh673⟩ := hQ673
  have N673 := Fr.app N666 N673q
  have R674 : ∀ tg, Steps p.tables e below (T673.setTop (mkF m 175 #[vJ q1, .second, vJ q2, .second, vJ q3, .second, vJ q4, .second, vJ q5, .second, vJ q6, .second, vR x1, vR x2, vR ob, vI ww, vR x4, .unset, .unset, .unset, .unset, .unset, .unset, .unset, .unset, .unset, .unset, .unset, .unset] [(.int (own_vl (lo 1) (hi 1) ((own_ush q4 (32 : Int32)).toInt32))), (.int (1 : Int32)), (.ref x4)])) tg → Steps p.tables e below (s₁.setTop (mkF m 0 #[vJ q1, .second, vJ q2, .second, vJ q3, .second, vJ q4, .second, vJ q5, .second, vJ q6, .second, .unset, .unset, .unset, .unset, .unset, .unset, .unset, .unset, .unset, .unset, .unset, .unset, .unset, .unset, .unset, .unset, .unset] [])) tg := by
    intro tg kt
    refine R672 _ ?_
    refine st673 _ ?_
    exact kt
  clear R672 st673
  obtain ⟨cl675, Ar675, hin675, -⟩ := VX_666.at (j := (1 : Int32)) (k := 1) (by decide) rfl (by decide)
  obtain ⟨T676, h676, X676, e676, W676, st676⟩ := stI X673 hx hZ hh673 Ar675 (j := (1 : Int32)) hin675 (g := (mkF m 175 #[vJ q1, .second, vJ q2, .second, vJ q3, .second, vJ q4, .second, vJ q5, .second, vJ q6, .second, vR x1, vR x2, vR ob, vI ww, vR x4, .unset, .unset, .unset, .unset, .unset, .unset, .unset, .unset, .unset, .unset, .unset, .unset] [(.int (own_vl (lo 1) (hi 1) ((own_ush q4 (32 : Int32)).toInt32))), (.int (1 : Int32)), (.ref x4)])) rfl rfl (hb hby at_175)
  have N676 := Fr.snoc X676 N673 g_x4
  rw [show ((1 : Int32) : Int32).toNatClampNeg = 1 from rfl] at W676
  have VX_676 : AV Z h676 x4 .int 3 (fun j => .int ((own_set (own_set (fun _ => (0 : Int32)) 0 (own_vl (lo 0) (hi 0) (q4.toInt32))) 1 (own_vl (lo 1) (hi 1) ((own_ush q4 (32 : Int32)).toInt32))) j)) := VX_666.setI W676
  have V1_676 := V1_666.other W676 ne_x1_x4
  have V2_676 := V2_666.other W676 ne_x2_x4
  have Fl_676 := Fl_666.other W676 (Or.inl ne_ob_x4)
  have Fw_676 := Fw_666.other W676 (Or.inl ne_ob_x4)
  have Fs_676 := Fs_666.other W676 (Or.inl ne_ob_x4)
  have Fm_676 := Fm_666.other W676 (Or.inl ne_ob_x4)
  have Fc_676 := Fc_666.other W676 (Or.inl ne_ob_x4)
  have E_ob_676 := E_ob_666.wr W676
  have U1_676 := U1_666.other W676 ne_c1_x4
  have U2_676 := U2_666.other W676 ne_c2_x4
  have U3_676 := U3_666.other W676 ne_c3_x4
  have U4_676 := U4_666.other W676 ne_c4_x4
  clear V1_666 V2_666 Fl_666 Fw_666 Fs_666 Fm_666 Fc_666 E_ob_666 U1_666 U2_666 U3_666 U4_666
  have Zs676 : n0 ≤ h676.size := Nat.le_trans Zs666 (Keep.of_wr W676).1
  have R677 : ∀ tg, Steps p.tables e below (T676.setTop (mkF m 182 #[vJ q1, .second, vJ q2, .second, vJ q3, .second, vJ q4, .second, vJ q5, .second, vJ q6, .second, vR x1, vR x2, vR ob, vI ww, vR x4, .unset, .unset, .unset, .unset, .unset, .unset, .unset, .unset, .unset, .unset, .unset, .unset] [(.int (2 : Int32)), (.ref x1), (.int (2 : Int32)), (.ref x4)])) tg → Steps p.tables e below (s₁.setTop (mkF m 0 #[vJ q1, .second, vJ q2, .second, vJ q3, .second, vJ q4, .second, vJ q5, .second, vJ q6, .second, .unset, .unset, .unset, .unset, .unset, .unset, .unset, .unset, .unset, .unset, .unset, .unset, .unset, .unset, .unset, .unset, .unset] [])) tg := by
    intro tg kt
    refine R674 _ ?_
    refine st676 _ ?_
    refine XS.aload X676.here hx rfl (hb hby at_176) rfl rfl ?_
    refine XS.iconst X676.here hx rfl (hb hby at_178) ?_
    show Steps p.tables e below (T676.setTop (mkF m 179 #[vJ q1, .second, vJ q2, .second, vJ q3, .second, vJ q4, .second, vJ q5, .second, vJ q6, .second, vR x1, vR x2, vR ob, vI ww, vR x4, .unset, .unset, .unset, .unset, .unset, .unset, .unset, .unset, .unset, .unset, .unset, .unset] [(.int (2 : Int32)), (.ref x4)])) _
    refine XS.aload X676.here hx rfl (hb hby at_179) rfl rfl ?_
    refine XS.iconst X676.here hx rfl (hb hby at_181) ?_
    exact kt
  clear R674 st676
  obtain ⟨cl678, Ar678, hin678, hat678⟩ := V1_676.at (j := (2 : Int32)) (k := 2) (by decide) rfl (by decide)
  have R679 : ∀ tg, Steps p.tables e below (T676.setTop (mkF m 186 #[vJ q1, .second, vJ q2, .second, vJ q3, .second, vJ q4, .second, vJ q5, .second, vJ q6, .second, vR x1, vR x2, vR ob, vI ww, vR x4, .unset, .unset, .unset, .unset, .unset, .unset, .unset, .unset, .unset, .unset, .unset, .unset] [(.int (2 : Int32)), (.ref x2), (.int (lo 2)), (.int (2 : Int32)), (.ref x4)])) tg → Steps p.tables e below (s₁.setTop (mkF m 0 #[vJ q1, .second, vJ q2, .second, vJ q3, .second, vJ q4, .second, vJ q5, .second, vJ q6, .second, .unset, .unset, .unset, .unset, .unset, .unset, .unset, .unset, .unset, .unset, .unset, .unset, .unset, .unset, .unset, .unset, .unset] [])) tg := by
    intro tg kt
    refine R677 _ ?_
    show Steps p.tables e below (T676.setTop (mkF m 182 #[vJ q1, .second, vJ q2, .second, vJ q3, .second, vJ q4, .second, vJ q5, .second, vJ q6, .second, vR x1, vR x2, vR ob, vI ww, vR x4, .unset, .unset, .unset, .unset, .unset, .unset, .unset, .unset, .unset, .unset, .unset, .unset] [(.int (2 : Int32)), (.ref x1), (.int (2 : Int32)), (.ref x4)])) _
    refine X676.iaload hx (j := (2 : Int32)) (v := (.int (lo 2))) (by rw [e676]; exact Ar678.1) (State.isArrayOf_alike hZ.alike Ar678.2.1) Ar678.2.2 hin678 hat678 (g := (mkF m 182 #[vJ q1, .second, vJ q2, .second, vJ q3, .second, vJ q4, .second, vJ q5, .second, vJ q6, .second, vR x1, vR x2, vR ob, vI ww, vR x4, .unset, .unset, .unset, .unset, .unset, .unset, .unset, .unset, .unset, .unset, .unset, .unset] [(.int (2 : Int32)), (.ref x1), (.int (2 : Int32)), (.ref x4)])) rfl rfl (hb hby at_182) _ ?_
    refine XS.aload X676.here hx rfl (hb hby at_183) rfl rfl ?_
    refine XS.iconst X676.here hx rfl (hb hby at_185) ?_
    exact kt
  clear R677
  obtain ⟨cl680, Ar680, hin680, hat680⟩ := V2_676.at (j := (2 : Int32)) (k := 2) (by decide) rfl (by decide)
  have R681 : ∀ tg, Steps p.tables e below (T676.setTop (mkF m 190 #[vJ q1, .second, vJ q2, .second, vJ q3, .second, vJ q4, .second, vJ q5, .second, vJ q6, .second, vR x1, vR x2, vR ob, vI ww, vR x4, .unset, .unset, .unset, .unset, .unset, .unset, .unset, .unset, .unset, .unset, .unset, .unset] [(.int (q5.toInt32)), (.int (hi 2)), (.int (lo 2)), (.int (2 : Int32)), (.ref x4)])) tg → Steps p.tables e below (s₁.setTop (mkF m 0 #[vJ q1, .second, vJ q2, .second, vJ q3, .second, vJ q4, .second, vJ q5, .second, vJ q6, .second, .unset, .unset, .unset, .unset, .unset, .unset, .unset, .unset, .unset, .unset, .unset, .unset, .unset, .unset, .unset, .unset, .unset] [])) tg := by
    intro tg kt
    refine R679 _ ?_
    show Steps p.tables e below (T676.setTop (mkF m 186 #[vJ q1, .second, vJ q2, .second, vJ q3, .second, vJ q4, .second, vJ q5, .second, vJ q6, .second, vR x1, vR x2, vR ob, vI ww, vR x4, .unset, .unset, .unset, .unset, .unset, .unset, .unset, .unset, .unset, .unset, .unset, .unset] [(.int (2 : Int32)), (.ref x2), (.int (lo 2)), (.int (2 : Int32)), (.ref x4)])) _
    refine X676.iaload hx (j := (2 : Int32)) (v := (.int (hi 2))) (by rw [e676]; exact Ar680.1) (State.isArrayOf_alike hZ.alike Ar680.2.1) Ar680.2.2 hin680 hat680 (g := (mkF m 186 #[vJ q1, .second, vJ q2, .second, vJ q3, .second, vJ q4, .second, vJ q5, .second, vJ q6, .second, vR x1, vR x2, vR ob, vI ww, vR x4, .unset, .unset, .unset, .unset, .unset, .unset, .unset, .unset, .unset, .unset, .unset, .unset] [(.int (2 : Int32)), (.ref x2), (.int (lo 2)), (.int (2 : Int32)), (.ref x4)])) rfl rfl (hb hby at_186) _ ?_
    refine XS.lload X676.here hx rfl (hb hby at_187) rfl ?_
    show Steps p.tables e below (T676.setTop (mkF m 189 #[vJ q1, .second, vJ q2, .second, vJ q3, .second, vJ q4, .second, vJ q5, .second, vJ q6, .second, vR x1, vR x2, vR ob, vI ww, vR x4, .unset, .unset, .unset, .unset, .unset, .unset, .unset, .unset, .unset, .unset, .unset, .unset] [(.long q5), (.int (hi 2)), (.int (lo 2)), (.int (2 : Int32)), (.ref x4)])) _
    refine XS.l2i X676.here hx rfl (hb hby at_189) rfl ?_
    exact kt
  clear R679
  obtain ⟨_, _, ⟨T682, L682, k682, n682⟩, -, X682, ⟨Lc682, hQ682, l682, y682, z682⟩, st682⟩ := Jvm.LawKit.callS X676 hx (y := (⟨"com/example/inexact_odds/inexactodds/language/EncodingEncodePinLaw", "pick", "(III)I"⟩ : MethodName)) hown (mvT hZ (hw _ (List.mem_of_getElem? (i := 52) rfl))) (mvT hZ (hw _ (List.mem_of_getElem? (i := 53) rfl))) (mvT hZ (hw _ (List.mem_of_getElem? (i := 54) rfl))) (mvT hZ (hw _ (List.mem_of_getElem? (i := 55) rfl))) (by decide) (backOf (W := 2) (rm_pick l Z a0 hw [] (lo 2) (hi 2) (q5.toInt32) h676 n0 Zs676 (hlh 2 (by decide))) hZ (hw _ (List.mem_of_getElem? (i := 55) rfl)) (hw _ (List.mem_of_getElem? (i := 54) rfl)) (by decide) (by decide)) (g := (mkF m 190 #[vJ q1, .second, vJ q2, .second, vJ q3, .second, vJ q4, .second, vJ q5, .second, vJ q6, .second, vR x1, vR x2, vR ob, vI ww, vR x4, .unset, .unset, .unset, .unset, .unset, .unset, .unset, .unset, .unset, .unset, .unset, .unset] [(.int (q5.toInt32)), (.int (hi 2)), (.int (lo 2)), (.int (2 : Int32)), (.ref x4)])) rfl (by rw [hml]; rfl) (argsL := [(.int (lo 2)), (.int (hi 2)), (.int (q5.toInt32))]) (rest := [(.int (2 : Int32)), (.ref x4)]) (lenOf pd_10 rfl) rfl (by show 2 * 0 + _ ≤ _; exact Nat.le_of_eq rfl) (hb hby at_190) (fun _ _ => ⟨rfl, e676, (by decide : 8 + 0 ≤ _), (by decide : 26 + 0 ≤ _)⟩)
  dsimp only [Pt.U, Pt.locs, Pt.cells, Pt.slots] at X682 l682 y682 z682 st682 hQ682
  rw [l682, y682, z682] at X682
  obtain ⟨rfl, N682q, hh682⟩ := hQ682
  have N682 := Fr.app N676 N682q
  have R683 : ∀ tg, Steps p.tables e below (T682.setTop (mkF m 193 #[vJ q1, .second, vJ q2, .second, vJ q3, .second, vJ q4, .second, vJ q5, .second, vJ q6, .second, vR x1, vR x2, vR ob, vI ww, vR x4, .unset, .unset, .unset, .unset, .unset, .unset, .unset, .unset, .unset, .unset, .unset, .unset] [(.int (own_vl (lo 2) (hi 2) (q5.toInt32))), (.int (2 : Int32)), (.ref x4)])) tg → Steps p.tables e below (s₁.setTop (mkF m 0 #[vJ q1, .second, vJ q2, .second, vJ q3, .second, vJ q4, .second, vJ q5, .second, vJ q6, .second, .unset, .unset, .unset, .unset, .unset, .unset, .unset, .unset, .unset, .unset, .unset, .unset, .unset, .unset, .unset, .unset, .unset] [])) tg := by
    intro tg kt
    refine R681 _ ?_
    refine st682 _ ?_
    exact kt
  clear R681 st682
  obtain ⟨cl684, Ar684, hin684, -⟩ := VX_676.at (j := (2 : Int32)) (k := 2) (by decide) rfl (by decide)
  obtain ⟨T685, h685, X685, e685, W685, st685⟩ := stI X682 hx hZ hh682 Ar684 (j := (2 : Int32)) hin684 (g := (mkF m 193 #[vJ q1, .second, vJ q2, .second, vJ q3, .second, vJ q4, .second, vJ q5, .second, vJ q6, .second, vR x1, vR x2, vR ob, vI ww, vR x4, .unset, .unset, .unset, .unset, .unset, .unset, .unset, .unset, .unset, .unset, .unset, .unset] [(.int (own_vl (lo 2) (hi 2) (q5.toInt32))), (.int (2 : Int32)), (.ref x4)])) rfl rfl (hb hby at_193)
  have N685 := Fr.snoc X685 N682 g_x4
  rw [show ((2 : Int32) : Int32).toNatClampNeg = 2 from rfl] at W685
  have VX_685 : AV Z h685 x4 .int 3 (fun j => .int ((own_set (own_set (own_set (fun _ => (0 : Int32)) 0 (own_vl (lo 0) (hi 0) (q4.toInt32))) 1 (own_vl (lo 1) (hi 1) ((own_ush q4 (32 : Int32)).toInt32))) 2 (own_vl (lo 2) (hi 2) (q5.toInt32))) j)) := VX_676.setI W685
  have V1_685 := V1_676.other W685 ne_x1_x4
  have V2_685 := V2_676.other W685 ne_x2_x4
  have Fl_685 := Fl_676.other W685 (Or.inl ne_ob_x4)
  have Fw_685 := Fw_676.other W685 (Or.inl ne_ob_x4)
  have Fs_685 := Fs_676.other W685 (Or.inl ne_ob_x4)
  have Fm_685 := Fm_676.other W685 (Or.inl ne_ob_x4)
  have Fc_685 := Fc_676.other W685 (Or.inl ne_ob_x4)
  have E_ob_685 := E_ob_676.wr W685
  have U1_685 := U1_676.other W685 ne_c1_x4
  have U2_685 := U2_676.other W685 ne_c2_x4
  have U3_685 := U3_676.other W685 ne_c3_x4
  have U4_685 := U4_676.other W685 ne_c4_x4
  clear V1_676 V2_676 Fl_676 Fw_676 Fs_676 Fm_676 Fc_676 E_ob_676 U1_676 U2_676 U3_676 U4_676
  have Zs685 : n0 ≤ h685.size := Nat.le_trans Zs676 (Keep.of_wr W685).1
  have R686 : ∀ tg, Steps p.tables e below (T685.setTop (mkF m 194 #[vJ q1, .second, vJ q2, .second, vJ q3, .second, vJ q4, .second, vJ q5, .second, vJ q6, .second, vR x1, vR x2, vR ob, vI ww, vR x4, .unset, .unset, .unset, .unset, .unset, .unset, .unset, .unset, .unset, .unset, .unset, .unset] [])) tg → Steps p.tables e below (s₁.setTop (mkF m 0 #[vJ q1, .second, vJ q2, .second, vJ q3, .second, vJ q4, .second, vJ q5, .second, vJ q6, .second, .unset, .unset, .unset, .unset, .unset, .unset, .unset, .unset, .unset, .unset, .unset, .unset, .unset, .unset, .unset, .unset, .unset] [])) tg := by
    intro tg kt
    refine R683 _ ?_
    refine st685 _ ?_
    exact kt
  clear R683 st685
  have VXz : AV Z h685 x4 .int 3 (fun j => .int (xv j)) := by rw [hxv]; exact AV.congr VX_685 (fun j hj => congrArg _ (own_three (own_v3 (own_vl (lo 0) (hi 0) (q4.toInt32)) (own_vl (lo 1) (hi 1) ((own_ush q4 (32 : Int32)).toInt32)) (own_vl (lo 2) (hi 2) (q5.toInt32))) _ j hj))
  have R687 : ∀ tg, Steps p.tables e below (T685.setTop (mkF m 206 #[vJ q1, .second, vJ q2, .second, vJ q3, .second, vJ q4, .second, vJ q5, .second, vJ q6, .second, vR x1, vR x2, vR ob, vI ww, vR x4, .unset, .unset, .unset, .unset, .unset, .unset, .unset, .unset, .unset, .unset, .unset, .unset] [(.int (((((q6.toUInt64 >>> ((60 : Int32) &&& 0x3f).toInt64.toUInt64).toInt64) &&& (3 : Int64)).toInt32) - (((((q6.toUInt64 >>> ((60 : Int32) &&& 0x3f).toInt64.toUInt64).toInt64) &&& (3 : Int64)).toInt32) / (3 : Int32)) * (3 : Int32)))])) tg → Steps p.tables e below (s₁.setTop (mkF m 0 #[vJ q1, .second, vJ q2, .second, vJ q3, .second, vJ q4, .second, vJ q5, .second, vJ q6, .second, .unset, .unset, .unset, .unset, .unset, .unset, .unset, .unset, .unset, .unset, .unset, .unset, .unset, .unset, .unset, .unset, .unset] [])) tg := by
    intro tg kt
    refine R686 _ ?_
    show Steps p.tables e below (T685.setTop (mkF m 194 #[vJ q1, .second, vJ q2, .second, vJ q3, .second, vJ q4, .second, vJ q5, .second, vJ q6, .second, vR x1, vR x2, vR ob, vI ww, vR x4, .unset, .unset, .unset, .unset, .unset, .unset, .unset, .unset, .unset, .unset, .unset, .unset] [])) _
    refine XS.lload X685.here hx rfl (hb hby at_194) rfl ?_
    refine XS.bipush X685.here hx rfl (hb hby at_196) ?_
    show Steps p.tables e below (T685.setTop (mkF m 198 #[vJ q1, .second, vJ q2, .second, vJ q3, .second, vJ q4, .second, vJ q5, .second, vJ q6, .second, vR x1, vR x2, vR ob, vI ww, vR x4, .unset, .unset, .unset, .unset, .unset, .unset, .unset, .unset, .unset, .unset, .unset, .unset] [(.int (60 : Int32)), (.long q6)])) _
    refine XS.lushr X685.here hx rfl (hb hby at_198) rfl ?_
    show Steps p.tables e below (T685.setTop (mkF m 199 #[vJ q1, .second, vJ q2, .second, vJ q3, .second, vJ q4, .second, vJ q5, .second, vJ q6, .second, vR x1, vR x2, vR ob, vI ww, vR x4, .unset, .unset, .unset, .unset, .unset, .unset, .unset, .unset, .unset, .unset, .unset, .unset] [(.long ((q6.toUInt64 >>> ((60 : Int32) &&& 0x3f).toInt64.toUInt64).toInt64))])) _
    refine X685.ldc2Long hx hown (mvT hZ (hw _ (List.mem_of_getElem? (i := 57) rfl))) (g := (mkF m 199 #[vJ q1, .second, vJ q2, .second, vJ q3, .second, vJ q4, .second, vJ q5, .second, vJ q6, .second, vR x1, vR x2, vR ob, vI ww, vR x4, .unset, .unset, .unset, .unset, .unset, .unset, .unset, .unset, .unset, .unset, .unset, .unset] [(.long ((q6.toUInt64 >>> ((60 : Int32) &&& 0x3f).toInt64.toUInt64).toInt64))])) rfl (hb hby at_199) _ ?_
    show Steps p.tables e below (T685.setTop (mkF m 202 #[vJ q1, .second, vJ q2, .second, vJ q3, .second, vJ q4, .second, vJ q5, .second, vJ q6, .second, vR x1, vR x2, vR ob, vI ww, vR x4, .unset, .unset, .unset, .unset, .unset, .unset, .unset, .unset, .unset, .unset, .unset, .unset] [(.long (3 : Int64)), (.long ((q6.toUInt64 >>> ((60 : Int32) &&& 0x3f).toInt64.toUInt64).toInt64))])) _
    refine XS.land X685.here hx rfl (hb hby at_202) rfl ?_
    show Steps p.tables e below (T685.setTop (mkF m 203 #[vJ q1, .second, vJ q2, .second, vJ q3, .second, vJ q4, .second, vJ q5, .second, vJ q6, .second, vR x1, vR x2, vR ob, vI ww, vR x4, .unset, .unset, .unset, .unset, .unset, .unset, .unset, .unset, .unset, .unset, .unset, .unset] [(.long (((q6.toUInt64 >>> ((60 : Int32) &&& 0x3f).toInt64.toUInt64).toInt64) &&& (3 : Int64)))])) _
    refine XS.l2i X685.here hx rfl (hb hby at_203) rfl ?_
    refine XS.iconst X685.here hx rfl (hb hby at_204) ?_
    show Steps p.tables e below (T685.setTop (mkF m 205 #[vJ q1, .second, vJ q2, .second, vJ q3, .second, vJ q4, .second, vJ q5, .second, vJ q6, .second, vR x1, vR x2, vR ob, vI ww, vR x4, .unset, .unset, .unset, .unset, .unset, .unset, .unset, .unset, .unset, .unset, .unset, .unset] [(.int (3 : Int32)), (.int ((((q6.toUInt64 >>> ((60 : Int32) &&& 0x3f).toInt64.toUInt64).toInt64) &&& (3 : Int64)).toInt32))])) _
    refine XS.irem X685.here hx rfl (hb hby at_205) rfl (by decide) ?_
    exact kt
  clear R686
  have R688 : ∀ tg, Steps p.tables e below (T685.setTop (mkF m 206 #[vJ q1, .second, vJ q2, .second, vJ q3, .second, vJ q4, .second, vJ q5, .second, vJ q6, .second, vR x1, vR x2, vR ob, vI ww, vR x4, .unset, .unset, .unset, .unset, .unset, .unset, .unset, .unset, .unset, .unset, .unset, .unset] [(.int (own_kk q6))])) tg → Steps p.tables e below (s₁.setTop (mkF m 0 #[vJ q1, .second, vJ q2, .second, vJ q3, .second, vJ q4, .second, vJ q5, .second, vJ q6, .second, .unset, .unset, .unset, .unset, .unset, .unset, .unset, .unset, .unset, .unset, .unset, .unset, .unset, .unset, .unset, .unset, .unset] [])) tg := R687
  have R689 : ∀ tg, Steps p.tables e below (T685.setTop (mkF m 209 #[vJ q1, .second, vJ q2, .second, vJ q3, .second, vJ q4, .second, vJ q5, .second, vJ q6, .second, vR x1, vR x2, vR ob, vI ww, vR x4, vI (own_kk q6), .unset, .unset, .unset, .unset, .unset, .unset, .unset, .unset, .unset, .unset, .unset] [(.int (3 : Int32))])) tg → Steps p.tables e below (s₁.setTop (mkF m 0 #[vJ q1, .second, vJ q2, .second, vJ q3, .second, vJ q4, .second, vJ q5, .second, vJ q6, .second, .unset, .unset, .unset, .unset, .unset, .unset, .unset, .unset, .unset, .unset, .unset, .unset, .unset, .unset, .unset, .unset, .unset] [])) tg := by
    intro tg kt
    refine R688 _ ?_
    show Steps p.tables e below (T685.setTop (mkF m 206 #[vJ q1, .second, vJ q2, .second, vJ q3, .second, vJ q4, .second, vJ q5, .second, vJ q6, .second, vR x1, vR x2, vR ob, vI ww, vR x4, .unset, .unset, .unset, .unset, .unset, .unset, .unset, .unset, .unset, .unset, .unset, .unset] [(.int (own_kk q6))])) _
    refine XS.istore X685.here hx rfl (hb hby at_206) rfl (l' := #[vJ q1, .second, vJ q2, .second, vJ q3, .second, vJ q4, .second, vJ q5, .second, vJ q6, .second, vR x1, vR x2, vR ob, vI ww, vR x4, vI (own_kk q6), .unset, .unset, .unset, .unset, .unset, .unset, .unset, .unset, .unset, .unset, .unset]) rfl ?_
    refine XS.iconst X685.here hx rfl (hb hby at_208) ?_
    exact kt
  clear R688
  obtain ⟨T690, h690, k690, X690, e690, E690, A690, st690⟩ := newP X685 hx hZ (hw _ (List.mem_of_getElem? (i := 0) rfl)) e685 (g := (mkF m 209 #[vJ q1, .second, vJ q2, .second, vJ q3, .second, vJ q4, .second, vJ q5, .second, vJ q6, .second, vR x1, vR x2, vR ob, vI ww, vR x4, vI (own_kk q6), .unset, .unset, .unset, .unset, .unset, .unset, .unset, .unset, .unset, .unset, .unset] [(.int (3 : Int32))])) rfl (hb hby at_209) rfl (by decide) (cap := 3) (by decide) (by decide) (by decide) (by decide)
  obtain ⟨x5, g690⟩ : ∃ z, z = h685.size := ⟨_, rfl⟩
  rw [← g690] at A690 st690
  have g_x5 : n0 ≤ x5 := Nat.le_trans Zs685 (Nat.le_of_eq g690.symm)
  have ne_x1_x5 : x1 ≠ x5 := Nat.ne_of_lt (Nat.lt_of_lt_of_le V1_685.lt (Nat.le_of_eq g690.symm))
  have ne_x2_x5 : x2 ≠ x5 := Nat.ne_of_lt (Nat.lt_of_lt_of_le V2_685.lt (Nat.le_of_eq g690.symm))
  have ne_ob_x5 : ob ≠ x5 := Nat.ne_of_lt (Nat.lt_of_lt_of_le Fl_685.lt (Nat.le_of_eq g690.symm))
  have ne_c1_x5 : c1 ≠ x5 := Nat.ne_of_lt (Nat.lt_of_lt_of_le U1_685.lt (Nat.le_of_eq g690.symm))
  have ne_c2_x5 : c2 ≠ x5 := Nat.ne_of_lt (Nat.lt_of_lt_of_le U2_685.lt (Nat.le_of_eq g690.symm))
  have ne_c3_x5 : c3 ≠ x5 := Nat.ne_of_lt (Nat.lt_of_lt_of_le U3_685.lt (Nat.le_of_eq g690.symm))
  have ne_c4_x5 : c4 ≠ x5 := Nat.ne_of_lt (Nat.lt_of_lt_of_le U4_685.lt (Nat.le_of_eq g690.symm))
  have ne_x4_x5 : x4 ≠ x5 := Nat.ne_of_lt (Nat.lt_of_lt_of_le VXz.lt (Nat.le_of_eq g690.symm))
  have V1_690 := V1_685.ext E690
  have V2_690 := V2_685.ext E690
  have Fl_690 := Fl_685.ext E690
  have Fw_690 := Fw_685.ext E690
  have Fs_690 := Fs_685.ext E690
  have Fm_690 := Fm_685.ext E690
  have Fc_690 := Fc_685.ext E690
  have E_ob_690 := E_ob_685.ext E690
  have U1_690 := U1_685.ext E690
  have U2_690 := U2_685.ext E690
  have U3_690 := U3_685.ext E690
  have U4_690 := U4_685.ext E690
  have VX_690 := VXz.ext E690
  clear V1_685 V2_685 Fl_685 Fw_685 Fs_685 Fm_685 Fc_685 E_ob_685 U1_685 U2_685 U3_685 U4_685
  have Zs690 : n0 ≤ h690.size := Nat.le_trans Zs685 E690.1
  have VZr : AV Z h690 x5 .int 3 (fun _ => defaultValue .int) := AV.new A690 rfl rfl
  have VZ : AV Z h690 x5 .int 3 (fun j => .int ((fun _ => (0 : Int32)) j)) := VZr
  have R691 : ∀ tg, Steps p.tables e below (T690.setTop (mkF m 219 #[vJ q1, .second, vJ q2, .second, vJ q3, .second, vJ q4, .second, vJ q5, .second, vJ q6, .second, vR x1, vR x2, vR ob, vI ww, vR x4, vI (own_kk q6), vR x5, .unset, .unset, .unset, .unset, .unset, .unset, .unset, .unset, .unset, .unset] [(.int (0 : Int32)), (.ref x4), (.int (0 : Int32)), (.ref x5)])) tg → Steps p.tables e below (s₁.setTop (mkF m 0 #[vJ q1, .second, vJ q2, .second, vJ q3, .second, vJ q4, .second, vJ q5, .second, vJ q6, .second, .unset, .unset, .unset, .unset, .unset, .unset, .unset, .unset, .unset, .unset, .unset, .unset, .unset, .unset, .unset, .unset, .unset] [])) tg := by
    intro tg kt
    refine R689 _ ?_
    refine st690 _ ?_
    show Steps p.tables e below (T690.setTop (mkF m 211 #[vJ q1, .second, vJ q2, .second, vJ q3, .second, vJ q4, .second, vJ q5, .second, vJ q6, .second, vR x1, vR x2, vR ob, vI ww, vR x4, vI (own_kk q6), .unset, .unset, .unset, .unset, .unset, .unset, .unset, .unset, .unset, .unset, .unset] [(.ref x5)])) _
    refine XS.astore X690.here hx rfl (hb hby at_211) rfl rfl (l' := #[vJ q1, .second, vJ q2, .second, vJ q3, .second, vJ q4, .second, vJ q5, .second, vJ q6, .second, vR x1, vR x2, vR ob, vI ww, vR x4, vI (own_kk q6), vR x5, .unset, .unset, .unset, .unset, .unset, .unset, .unset, .unset, .unset, .unset]) rfl ?_
    refine XS.aload X690.here hx rfl (hb hby at_213) rfl rfl ?_
    refine XS.iconst X690.here hx rfl (hb hby at_215) ?_
    show Steps p.tables e below (T690.setTop (mkF m 216 #[vJ q1, .second, vJ q2, .second, vJ q3, .second, vJ q4, .second, vJ q5, .second, vJ q6, .second, vR x1, vR x2, vR ob, vI ww, vR x4, vI (own_kk q6), vR x5, .unset, .unset, .unset, .unset, .unset, .unset, .unset, .unset, .unset, .unset] [(.int (0 : Int32)), (.ref x5)])) _
    refine XS.aload X690.here hx rfl (hb hby at_216) rfl rfl ?_
    refine XS.iconst X690.here hx rfl (hb hby at_218) ?_
    exact kt
  clear R689 st690
  obtain ⟨cl692, Ar692, hin692, hat692⟩ := VX_690.at (j := (0 : Int32)) (k := 0) (by decide) rfl (by decide)
  have R693 : ∀ tg, Steps p.tables e below (T690.setTop (mkF m 220 #[vJ q1, .second, vJ q2, .second, vJ q3, .second, vJ q4, .second, vJ q5, .second, vJ q6, .second, vR x1, vR x2, vR ob, vI ww, vR x4, vI (own_kk q6), vR x5, .unset, .unset, .unset, .unset, .unset, .unset, .unset, .unset, .unset, .unset] [(.int (xv 0)), (.int (0 : Int32)), (.ref x5)])) tg → Steps p.tables e below (s₁.setTop (mkF m 0 #[vJ q1, .second, vJ q2, .second, vJ q3, .second, vJ q4, .second, vJ q5, .second, vJ q6, .second, .unset, .unset, .unset, .unset, .unset, .unset, .unset, .unset, .unset, .unset, .unset, .unset, .unset, .unset, .unset, .unset, .unset] [])) tg := by
    intro tg kt
    refine R691 _ ?_
    show Steps p.tables e below (T690.setTop (mkF m 219 #[vJ q1, .second, vJ q2, .second, vJ q3, .second, vJ q4, .second, vJ q5, .second, vJ q6, .second, vR x1, vR x2, vR ob, vI ww, vR x4, vI (own_kk q6), vR x5, .unset, .unset, .unset, .unset, .unset, .unset, .unset, .unset, .unset, .unset] [(.int (0 : Int32)), (.ref x4), (.int (0 : Int32)), (.ref x5)])) _
    refine X690.iaload hx (j := (0 : Int32)) (v := (.int (xv 0))) (by rw [e690]; exact Ar692.1) (State.isArrayOf_alike hZ.alike Ar692.2.1) Ar692.2.2 hin692 hat692 (g := (mkF m 219 #[vJ q1, .second, vJ q2, .second, vJ q3, .second, vJ q4, .second, vJ q5, .second, vJ q6, .second, vR x1, vR x2, vR ob, vI ww, vR x4, vI (own_kk q6), vR x5, .unset, .unset, .unset, .unset, .unset, .unset, .unset, .unset, .unset, .unset] [(.int (0 : Int32)), (.ref x4), (.int (0 : Int32)), (.ref x5)])) rfl rfl (hb hby at_219) _ ?_
    exact kt
  clear R691
  obtain ⟨cl694, Ar694, hin694, -⟩ := VZ.at (j := (0 : Int32)) (k := 0) (by decide) rfl (by decide)
  obtain ⟨T695, h695, X695, e695, W695, st695⟩ := stI X690 hx hZ e690 Ar694 (j := (0 : Int32)) hin694 (g := (mkF m 220 #[vJ q1, .second, vJ q2, .second, vJ q3, .second, vJ q4, .second, vJ q5, .second, vJ q6, .second, vR x1, vR x2, vR ob, vI ww, vR x4, vI (own_kk q6), vR x5, .unset, .unset, .unset, .unset, .unset, .unset, .unset, .unset, .unset, .unset] [(.int (xv 0)), (.int (0 : Int32)), (.ref x5)])) rfl rfl (hb hby at_220)
  have N695 := Fr.snoc X695 N685 g_x5
  rw [show ((0 : Int32) : Int32).toNatClampNeg = 0 from rfl] at W695
  have VZ_695 : AV Z h695 x5 .int 3 (fun j => .int ((own_set (fun _ => (0 : Int32)) 0 (xv 0)) j)) := VZ.setI W695
  have V1_695 := V1_690.other W695 ne_x1_x5
  have V2_695 := V2_690.other W695 ne_x2_x5
  have Fl_695 := Fl_690.other W695 (Or.inl ne_ob_x5)
  have Fw_695 := Fw_690.other W695 (Or.inl ne_ob_x5)
  have Fs_695 := Fs_690.other W695 (Or.inl ne_ob_x5)
  have Fm_695 := Fm_690.other W695 (Or.inl ne_ob_x5)
  have Fc_695 := Fc_690.other W695 (Or.inl ne_ob_x5)
  have E_ob_695 := E_ob_690.wr W695
  have U1_695 := U1_690.other W695 ne_c1_x5
  have U2_695 := U2_690.other W695 ne_c2_x5
  have U3_695 := U3_690.other W695 ne_c3_x5
  have U4_695 := U4_690.other W695 ne_c4_x5
  have VX_695 := VX_690.other W695 ne_x4_x5
  clear V1_690 V2_690 Fl_690 Fw_690 Fs_690 Fm_690 Fc_690 E_ob_690 U1_690 U2_690 U3_690 U4_690 VX_690
  have Zs695 : n0 ≤ h695.size := Nat.le_trans Zs690 (Keep.of_wr W695).1
  have R696 : ∀ tg, Steps p.tables e below (T695.setTop (mkF m 227 #[vJ q1, .second, vJ q2, .second, vJ q3, .second, vJ q4, .second, vJ q5, .second, vJ q6, .second, vR x1, vR x2, vR ob, vI ww, vR x4, vI (own_kk q6), vR x5, .unset, .unset, .unset, .unset, .unset, .unset, .unset, .unset, .unset, .unset] [(.int (1 : Int32)), (.ref x4), (.int (1 : Int32)), (.ref x5)])) tg → Steps p.tables e below (s₁.setTop (mkF m 0 #[vJ q1, .second, vJ q2, .second, vJ q3, .second, vJ q4, .second, vJ q5, .second, vJ q6, .second, .unset, .unset, .unset, .unset, .unset, .unset, .unset, .unset, .unset, .unset, .unset, .unset, .unset, .unset, .unset, .unset, .unset] [])) tg := by
    intro tg kt
    refine R693 _ ?_
    refine st695 _ ?_
    refine XS.aload X695.here hx rfl (hb hby at_221) rfl rfl ?_
    refine XS.iconst X695.here hx rfl (hb hby at_223) ?_
    show Steps p.tables e below (T695.setTop (mkF m 224 #[vJ q1, .second, vJ q2, .second, vJ q3, .second, vJ q4, .second, vJ q5, .second, vJ q6, .second, vR x1, vR x2, vR ob, vI ww, vR x4, vI (own_kk q6), vR x5, .unset, .unset, .unset, .unset, .unset, .unset, .unset, .unset, .unset, .unset] [(.int (1 : Int32)), (.ref x5)])) _
    refine XS.aload X695.here hx rfl (hb hby at_224) rfl rfl ?_
    refine XS.iconst X695.here hx rfl (hb hby at_226) ?_
    exact kt
  clear R693 st695
  obtain ⟨cl697, Ar697, hin697, hat697⟩ := VX_695.at (j := (1 : Int32)) (k := 1) (by decide) rfl (by decide)
  have R698 : ∀ tg, Steps p.tables e below (T695.setTop (mkF m 228 #[vJ q1, .second, vJ q2, .second, vJ q3, .second, vJ q4, .second, vJ q5, .second, vJ q6, .second, vR x1, vR x2, vR ob, vI ww, vR x4, vI (own_kk q6), vR x5, .unset, .unset, .unset, .unset, .unset, .unset, .unset, .unset, .unset, .unset] [(.int (xv 1)), (.int (1 : Int32)), (.ref x5)])) tg → Steps p.tables e below (s₁.setTop (mkF m 0 #[vJ q1, .second, vJ q2, .second, vJ q3, .second, vJ q4, .second, vJ q5, .second, vJ q6, .second, .unset, .unset, .unset, .unset, .unset, .unset, .unset, .unset, .unset, .unset, .unset, .unset, .unset, .unset, .unset, .unset, .unset] [])) tg := by
    intro tg kt
    refine R696 _ ?_
    show Steps p.tables e below (T695.setTop (mkF m 227 #[vJ q1, .second, vJ q2, .second, vJ q3, .second, vJ q4, .second, vJ q5, .second, vJ q6, .second, vR x1, vR x2, vR ob, vI ww, vR x4, vI (own_kk q6), vR x5, .unset, .unset, .unset, .unset, .unset, .unset, .unset, .unset, .unset, .unset] [(.int (1 : Int32)), (.ref x4), (.int (1 : Int32)), (.ref x5)])) _
    refine X695.iaload hx (j := (1 : Int32)) (v := (.int (xv 1))) (by rw [e695]; exact Ar697.1) (State.isArrayOf_alike hZ.alike Ar697.2.1) Ar697.2.2 hin697 hat697 (g := (mkF m 227 #[vJ q1, .second, vJ q2, .second, vJ q3, .second, vJ q4, .second, vJ q5, .second, vJ q6, .second, vR x1, vR x2, vR ob, vI ww, vR x4, vI (own_kk q6), vR x5, .unset, .unset, .unset, .unset, .unset, .unset, .unset, .unset, .unset, .unset] [(.int (1 : Int32)), (.ref x4), (.int (1 : Int32)), (.ref x5)])) rfl rfl (hb hby at_227) _ ?_
    exact kt
  clear R696
  obtain ⟨cl699, Ar699, hin699, -⟩ := VZ_695.at (j := (1 : Int32)) (k := 1) (by decide) rfl (by decide)
  obtain ⟨T700, h700, X700, e700, W700, st700⟩ := stI X695 hx hZ e695 Ar699 (j := (1 : Int32)) hin699 (g := (mkF m 228 #[vJ q1, .second, vJ q2, .second, vJ q3, .second, vJ q4, .second, vJ q5, .second, vJ q6, .second, vR x1, vR x2, vR ob, vI ww, vR x4, vI (own_kk q6), vR x5, .unset, .unset, .unset, .unset, .unset, .unset, .unset, .unset, .unset, .unset] [(.int (xv 1)), (.int (1 : Int32)), (.ref x5)])) rfl rfl (hb hby at_228)
  have N700 := Fr.snoc X700 N695 g_x5
  rw [show ((1 : Int32) : Int32).toNatClampNeg = 1 from rfl] at W700
  have VZ_700 : AV Z h700 x5 .int 3 (fun j => .int ((own_set (own_set (fun _ => (0 : Int32)) 0 (xv 0)) 1 (xv 1)) j)) := VZ_695.setI W700
  have V1_700 := V1_695.other W700 ne_x1_x5
  have V2_700 := V2_695.other W700 ne_x2_x5
  have Fl_700 := Fl_695.other W700 (Or.inl ne_ob_x5)
  have Fw_700 := Fw_695.other W700 (Or.inl ne_ob_x5)
  have Fs_700 := Fs_695.other W700 (Or.inl ne_ob_x5)
  have Fm_700 := Fm_695.other W700 (Or.inl ne_ob_x5)
  have Fc_700 := Fc_695.other W700 (Or.inl ne_ob_x5)
  have E_ob_700 := E_ob_695.wr W700
  have U1_700 := U1_695.other W700 ne_c1_x5
  have U2_700 := U2_695.other W700 ne_c2_x5
  have U3_700 := U3_695.other W700 ne_c3_x5
  have U4_700 := U4_695.other W700 ne_c4_x5
  have VX_700 := VX_695.other W700 ne_x4_x5
  clear V1_695 V2_695 Fl_695 Fw_695 Fs_695 Fm_695 Fc_695 E_ob_695 U1_695 U2_695 U3_695 U4_695 VX_695
  have Zs700 : n0 ≤ h700.size := Nat.le_trans Zs695 (Keep.of_wr W700).1
  have R701 : ∀ tg, Steps p.tables e below (T700.setTop (mkF m 235 #[vJ q1, .second, vJ q2, .second, vJ q3, .second, vJ q4, .second, vJ q5, .second, vJ q6, .second, vR x1, vR x2, vR ob, vI ww, vR x4, vI (own_kk q6), vR x5, .unset, .unset, .unset, .unset, .unset, .unset, .unset, .unset, .unset, .unset] [(.int (2 : Int32)), (.ref x4), (.int (2 : Int32)), (.ref x5)])) tg → Steps p.tables e below (s₁.setTop (mkF m 0 #[vJ q1, .second, vJ q2, .second, vJ q3, .second, vJ q4, .second, vJ q5, .second, vJ q6, .second, .unset, .unset, .unset, .unset, .unset, .unset, .unset, .unset, .unset, .unset, .unset, .unset, .unset, .unset, .unset, .unset, .unset] [])) tg := by
    intro tg kt
    refine R698 _ ?_
    refine st700 _ ?_
    refine XS.aload X700.here hx rfl (hb hby at_229) rfl rfl ?_
    refine XS.iconst X700.here hx rfl (hb hby at_231) ?_
    show Steps p.tables e below (T700.setTop (mkF m 232 #[vJ q1, .second, vJ q2, .second, vJ q3, .second, vJ q4, .second, vJ q5, .second, vJ q6, .second, vR x1, vR x2, vR ob, vI ww, vR x4, vI (own_kk q6), vR x5, .unset, .unset, .unset, .unset, .unset, .unset, .unset, .unset, .unset, .unset] [(.int (2 : Int32)), (.ref x5)])) _
    refine XS.aload X700.here hx rfl (hb hby at_232) rfl rfl ?_
    refine XS.iconst X700.here hx rfl (hb hby at_234) ?_
    exact kt
  clear R698 st700
  obtain ⟨cl702, Ar702, hin702, hat702⟩ := VX_700.at (j := (2 : Int32)) (k := 2) (by decide) rfl (by decide)
  have R703 : ∀ tg, Steps p.tables e below (T700.setTop (mkF m 236 #[vJ q1, .second, vJ q2, .second, vJ q3, .second, vJ q4, .second, vJ q5, .second, vJ q6, .second, vR x1, vR x2, vR ob, vI ww, vR x4, vI (own_kk q6), vR x5, .unset, .unset, .unset, .unset, .unset, .unset, .unset, .unset, .unset, .unset] [(.int (xv 2)), (.int (2 : Int32)), (.ref x5)])) tg → Steps p.tables e below (s₁.setTop (mkF m 0 #[vJ q1, .second, vJ q2, .second, vJ q3, .second, vJ q4, .second, vJ q5, .second, vJ q6, .second, .unset, .unset, .unset, .unset, .unset, .unset, .unset, .unset, .unset, .unset, .unset, .unset, .unset, .unset, .unset, .unset, .unset] [])) tg := by
    intro tg kt
    refine R701 _ ?_
    show Steps p.tables e below (T700.setTop (mkF m 235 #[vJ q1, .second, vJ q2, .second, vJ q3, .second, vJ q4, .second, vJ q5, .second, vJ q6, .second, vR x1, vR x2, vR ob, vI ww, vR x4, vI (own_kk q6), vR x5, .unset, .unset, .unset, .unset, .unset, .unset, .unset, .unset, .unset, .unset] [(.int (2 : Int32)), (.ref x4), (.int (2 : Int32)), (.ref x5)])) _
    refine X700.iaload hx (j := (2 : Int32)) (v := (.int (xv 2))) (by rw [e700]; exact Ar702.1) (State.isArrayOf_alike hZ.alike Ar702.2.1) Ar702.2.2 hin702 hat702 (g := (mkF m 235 #[vJ q1, .second, vJ q2, .second, vJ q3, .second, vJ q4, .second, vJ q5, .second, vJ q6, .second, vR x1, vR x2, vR ob, vI ww, vR x4, vI (own_kk q6), vR x5, .unset, .unset, .unset, .unset, .unset, .unset, .unset, .unset, .unset, .unset] [(.int (2 : Int32)), (.ref x4), (.int (2 : Int32)), (.ref x5)])) rfl rfl (hb hby at_235) _ ?_
    exact kt
  clear R701
  obtain ⟨cl704, Ar704, hin704, -⟩ := VZ_700.at (j := (2 : Int32)) (k := 2) (by decide) rfl (by decide)
  obtain ⟨T705, h705, X705, e705, W705, st705⟩ := stI X700 hx hZ e700 Ar704 (j := (2 : Int32)) hin704 (g := (mkF m 236 #[vJ q1, .second, vJ q2, .second, vJ q3, .second, vJ q4, .second, vJ q5, .second, vJ q6, .second, vR x1, vR x2, vR ob, vI ww, vR x4, vI (own_kk q6), vR x5, .unset, .unset, .unset, .unset, .unset, .unset, .unset, .unset, .unset, .unset] [(.int (xv 2)), (.int (2 : Int32)), (.ref x5)])) rfl rfl (hb hby at_236)
  have N705 := Fr.snoc X705 N700 g_x5
  rw [show ((2 : Int32) : Int32).toNatClampNeg = 2 from rfl] at W705
  have VZ_705 : AV Z h705 x5 .int 3 (fun j => .int ((own_set (own_set (own_set (fun _ => (0 : Int32)) 0 (xv 0)) 1 (xv 1)) 2 (xv 2)) j)) := VZ_700.setI W705
  have V1_705 := V1_700.other W705 ne_x1_x5
  have V2_705 := V2_700.other W705 ne_x2_x5
  have Fl_705 := Fl_700.other W705 (Or.inl ne_ob_x5)
  have Fw_705 := Fw_700.other W705 (Or.inl ne_ob_x5)
  have Fs_705 := Fs_700.other W705 (Or.inl ne_ob_x5)
  have Fm_705 := Fm_700.other W705 (Or.inl ne_ob_x5)
  have Fc_705 := Fc_700.other W705 (Or.inl ne_ob_x5)
  have E_ob_705 := E_ob_700.wr W705
  have U1_705 := U1_700.other W705 ne_c1_x5
  have U2_705 := U2_700.other W705 ne_c2_x5
  have U3_705 := U3_700.other W705 ne_c3_x5
  have U4_705 := U4_700.other W705 ne_c4_x5
  have VX_705 := VX_700.other W705 ne_x4_x5
  clear V1_700 V2_700 Fl_700 Fw_700 Fs_700 Fm_700 Fc_700 E_ob_700 U1_700 U2_700 U3_700 U4_700 VX_700
  have Zs705 : n0 ≤ h705.size := Nat.le_trans Zs700 (Keep.of_wr W705).1
  have R706 : ∀ tg, Steps p.tables e below (T705.setTop (mkF m 245 #[vJ q1, .second, vJ q2, .second, vJ q3, .second, vJ q4, .second, vJ q5, .second, vJ q6, .second, vR x1, vR x2, vR ob, vI ww, vR x4, vI (own_kk q6), vR x5, .unset, .unset, .unset, .unset, .unset, .unset, .unset, .unset, .unset, .unset] [(.int (own_kk q6)), (.ref x1), (.int (own_kk q6)), (.ref x5)])) tg → Steps p.tables e below (s₁.setTop (mkF m 0 #[vJ q1, .second, vJ q2, .second, vJ q3, .second, vJ q4, .second, vJ q5, .second, vJ q6, .second, .unset, .unset, .unset, .unset, .unset, .unset, .unset, .unset, .unset, .unset, .unset, .unset, .unset, .unset, .unset, .unset, .unset] [])) tg := by
    intro tg kt
    refine R703 _ ?_
    refine st705 _ ?_
    refine XS.aload X705.here hx rfl (hb hby at_237) rfl rfl ?_
    refine XS.iload X705.here hx rfl (hb hby at_239) rfl ?_
    show Steps p.tables e below (T705.setTop (mkF m 241 #[vJ q1, .second, vJ q2, .second, vJ q3, .second, vJ q4, .second, vJ q5, .second, vJ q6, .second, vR x1, vR x2, vR ob, vI ww, vR x4, vI (own_kk q6), vR x5, .unset, .unset, .unset, .unset, .unset, .unset, .unset, .unset, .unset, .unset] [(.int (own_kk q6)), (.ref x5)])) _
    refine XS.aload X705.here hx rfl (hb hby at_241) rfl rfl ?_
    refine XS.iload X705.here hx rfl (hb hby at_243) rfl ?_
    exact kt
  clear R703 st705
  have VZz : AV Z h705 x5 .int 3 (fun j => .int (xv j)) := AV.congr VZ_705 (fun j hj => congrArg _ (own_three xv _ j hj))
  obtain ⟨cl707, Ar707, hin707, hat707⟩ := V1_705.at (j := (own_kk q6)) (k := kn) k0 kj hk3
  have R708 : ∀ tg, Steps p.tables e below (T705.setTop (mkF m 250 #[vJ q1, .second, vJ q2, .second, vJ q3, .second, vJ q4, .second, vJ q5, .second, vJ q6, .second, vR x1, vR x2, vR ob, vI ww, vR x4, vI (own_kk q6), vR x5, .unset, .unset, .unset, .unset, .unset, .unset, .unset, .unset, .unset, .unset] [(.int (own_kk q6)), (.ref x2), (.int (lo kn)), (.int (own_kk q6)), (.ref x5)])) tg → Steps p.tables e below (s₁.setTop (mkF m 0 #[vJ q1, .second, vJ q2, .second, vJ q3, .second, vJ q4, .second, vJ q5, .second, vJ q6, .second, .unset, .unset, .unset, .unset, .unset, .unset, .unset, .unset, .unset, .unset, .unset, .unset, .unset, .unset, .unset, .unset, .unset] [])) tg := by
    intro tg kt
    refine R706 _ ?_
    show Steps p.tables e below (T705.setTop (mkF m 245 #[vJ q1, .second, vJ q2, .second, vJ q3, .second, vJ q4, .second, vJ q5, .second, vJ q6, .second, vR x1, vR x2, vR ob, vI ww, vR x4, vI (own_kk q6), vR x5, .unset, .unset, .unset, .unset, .unset, .unset, .unset, .unset, .unset, .unset] [(.int (own_kk q6)), (.ref x1), (.int (own_kk q6)), (.ref x5)])) _
    refine X705.iaload hx (j := (own_kk q6)) (v := (.int (lo kn))) (by rw [e705]; exact Ar707.1) (State.isArrayOf_alike hZ.alike Ar707.2.1) Ar707.2.2 hin707 hat707 (g := (mkF m 245 #[vJ q1, .second, vJ q2, .second, vJ q3, .second, vJ q4, .second, vJ q5, .second, vJ q6, .second, vR x1, vR x2, vR ob, vI ww, vR x4, vI (own_kk q6), vR x5, .unset, .unset, .unset, .unset, .unset, .unset, .unset, .unset, .unset, .unset] [(.int (own_kk q6)), (.ref x1), (.int (own_kk q6)), (.ref x5)])) rfl rfl (hb hby at_245) _ ?_
    refine XS.aload X705.here hx rfl (hb hby at_246) rfl rfl ?_
    refine XS.iload X705.here hx rfl (hb hby at_248) rfl ?_
    exact kt
  clear R706
  obtain ⟨cl709, Ar709, hin709, hat709⟩ := V2_705.at (j := (own_kk q6)) (k := kn) k0 kj hk3
  have R710 : ∀ tg, Steps p.tables e below (T705.setTop (mkF m 257 #[vJ q1, .second, vJ q2, .second, vJ q3, .second, vJ q4, .second, vJ q5, .second, vJ q6, .second, vR x1, vR x2, vR ob, vI ww, vR x4, vI (own_kk q6), vR x5, .unset, .unset, .unset, .unset, .unset, .unset, .unset, .unset, .unset, .unset] [(.int (((q5.toUInt64 >>> ((32 : Int32) &&& 0x3f).toInt64.toUInt64).toInt64).toInt32)), (.int (hi kn)), (.int (lo kn)), (.int (own_kk q6)), (.ref x5)])) tg → Steps p.tables e below (s₁.setTop (mkF m 0 #[vJ q1, .second, vJ q2, .second, vJ q3, .second, vJ q4, .second, vJ q5, .second, vJ q6, .second, .unset, .unset, .unset, .unset, .unset, .unset, .unset, .unset, .unset, .unset, .unset, .unset, .unset, .unset, .unset, .unset, .unset] [])) tg := by
    intro tg kt
    refine R708 _ ?_
    show Steps p.tables e below (T705.setTop (mkF m 250 #[vJ q1, .second, vJ q2, .second, vJ q3, .second, vJ q4, .second, vJ q5, .second, vJ q6, .second, vR x1, vR x2, vR ob, vI ww, vR x4, vI (own_kk q6), vR x5, .unset, .unset, .unset, .unset, .unset, .unset, .unset, .unset, .unset, .unset] [(.int (own_kk q6)), (.ref x2), (.int (lo kn)), (.int (own_kk q6)), (.ref x5)])) _
    refine X705.iaload hx (j := (own_kk q6)) (v := (.int (hi kn))) (by rw [e705]; exact Ar709.1) (State.isArrayOf_alike hZ.alike Ar709.2.1) Ar709.2.2 hin709 hat709 (g := (mkF m 250 #[vJ q1, .second, vJ q2, .second, vJ q3, .second, vJ q4, .second, vJ q5, .second, vJ q6, .second, vR x1, vR x2, vR ob, vI ww, vR x4, vI (own_kk q6), vR x5, .unset, .unset, .unset, .unset, .unset, .unset, .unset, .unset, .unset, .unset] [(.int (own_kk q6)), (.ref x2), (.int (lo kn)), (.int (own_kk q6)), (.ref x5)])) rfl rfl (hb hby at_250) _ ?_
    refine XS.lload X705.here hx rfl (hb hby at_251) rfl ?_
    refine XS.bipush X705.here hx rfl (hb hby at_253) ?_
    show Steps p.tables e below (T705.setTop (mkF m 255 #[vJ q1, .second, vJ q2, .second, vJ q3, .second, vJ q4, .second, vJ q5, .second, vJ q6, .second, vR x1, vR x2, vR ob, vI ww, vR x4, vI (own_kk q6), vR x5, .unset, .unset, .unset, .unset, .unset, .unset, .unset, .unset, .unset, .unset] [(.int (32 : Int32)), (.long q5), (.int (hi kn)), (.int (lo kn)), (.int (own_kk q6)), (.ref x5)])) _
    refine XS.lushr X705.here hx rfl (hb hby at_255) rfl ?_
    show Steps p.tables e below (T705.setTop (mkF m 256 #[vJ q1, .second, vJ q2, .second, vJ q3, .second, vJ q4, .second, vJ q5, .second, vJ q6, .second, vR x1, vR x2, vR ob, vI ww, vR x4, vI (own_kk q6), vR x5, .unset, .unset, .unset, .unset, .unset, .unset, .unset, .unset, .unset, .unset] [(.long ((q5.toUInt64 >>> ((32 : Int32) &&& 0x3f).toInt64.toUInt64).toInt64)), (.int (hi kn)), (.int (lo kn)), (.int (own_kk q6)), (.ref x5)])) _
    refine XS.l2i X705.here hx rfl (hb hby at_256) rfl ?_
    exact kt
  clear R708
  have R711 : ∀ tg, Steps p.tables e below (T705.setTop (mkF m 257 #[vJ q1, .second, vJ q2, .second, vJ q3, .second, vJ q4, .second, vJ q5, .second, vJ q6, .second, vR x1, vR x2, vR ob, vI ww, vR x4, vI (own_kk q6), vR x5, .unset, .unset, .unset, .unset, .unset, .unset, .unset, .unset, .unset, .unset] [(.int ((own_ush q5 (32 : Int32)).toInt32)), (.int (hi kn)), (.int (lo kn)), (.int (own_kk q6)), (.ref x5)])) tg → Steps p.tables e below (s₁.setTop (mkF m 0 #[vJ q1, .second, vJ q2, .second, vJ q3, .second, vJ q4, .second, vJ q5, .second, vJ q6, .second, .unset, .unset, .unset, .unset, .unset, .unset, .unset, .unset, .unset, .unset, .unset, .unset, .unset, .unset, .unset, .unset, .unset] [])) tg := R710
  obtain ⟨_, _, ⟨T712, L712, k712, n712⟩, -, X712, ⟨Lc712, hQ712, l712, y712, z712⟩, st712⟩ := Jvm.LawKit.callS X705 hx (y := (⟨"com/example/inexact_odds/inexactodds/language/EncodingEncodePinLaw", "pick", "(III)I"⟩ : MethodName)) hown (mvT hZ (hw _ (List.mem_of_getElem? (i := 52) rfl))) (mvT hZ (hw _ (List.mem_of_getElem? (i := 53) rfl))) (mvT hZ (hw _ (List.mem_of_getElem? (i := 54) rfl))) (mvT hZ (hw _ (List.mem_of_getElem? (i := 55) rfl))) (by decide) (backOf (W := 2) (rm_pick l Z a0 hw [] (lo kn) (hi kn) ((own_ush q5 (32 : Int32)).toInt32) h705 n0 Zs705 (hlh kn hk3)) hZ (hw _ (List.mem_of_getElem? (i := 55) rfl)) (hw _ (List.mem_of_getElem? (i := 54) rfl)) (by decide) (by decide)) (g := (mkF m 257 #[vJ q1, .second, vJ q2, .second, vJ q3, .second, vJ q4, .second, vJ q5, .second, vJ q6, .second, vR x1, vR x2, vR ob, vI ww, vR x4, vI (own_kk q6), vR x5, .unset, .unset, .unset, .unset, .unset, .unset, .unset, .unset, .unset, .unset] [(.int ((own_ush q5 (32 : Int32)).toInt32)), (.int (hi kn)), (.int (lo kn)), (.int (own_kk q6)), (.ref x5)])) rfl (by rw [hml]; rfl) (argsL := [(.int (lo kn)), (.int (hi kn)), (.int ((own_ush q5 (32 : Int32)).toInt32))]) (rest := [(.int (own_kk q6)), (.ref x5)]) (lenOf pd_10 rfl) rfl (by show 2 * 0 + _ ≤ _; exact Nat.le_of_eq rfl) (hb hby at_257) (fun _ _ => ⟨rfl, e705, (by decide : 9 + 0 ≤ _), (by decide : 29 + 0 ≤ _)⟩)
  dsimp only [Pt.U, Pt.locs, Pt.cells, Pt.slots] at X712 l712 y712 z712 st712 hQ712
  rw [l712, y712, z712] at X712
  obtain ⟨rfl, N712q, hh712⟩ := hQ712
  have N712 := Fr.app N705 N712q
  have R713 : ∀ tg, Steps p.tables e below (T712.setTop (mkF m 260 #[vJ q1, .second, vJ q2, .second, vJ q3, .second, vJ q4, .second, vJ q5, .second, vJ q6, .second, vR x1, vR x2, vR ob, vI ww, vR x4, vI (own_kk q6), vR x5, .unset, .unset, .unset, .unset, .unset, .unset, .unset, .unset, .unset, .unset] [(.int (own_vl (lo kn) (hi kn) ((own_ush q5 (32 : Int32)).toInt32))), (.int (own_kk q6)), (.ref x5)])) tg → Steps p.tables e below (s₁.setTop (mkF m 0 #[vJ q1, .second, vJ q2, .second, vJ q3, .second, vJ q4, .second, vJ q5, .second, vJ q6, .second, .unset, .unset, .unset, .unset, .unset, .unset, .unset, .unset, .unset, .unset, .unset, .unset, .unset, .unset, .unset, .unset, .unset] [])) tg := by
    intro tg kt
    refine R711 _ ?_
    refine st712 _ ?_
    exact kt
  clear R711 st712
  obtain ⟨cl714, Ar714, hin714, -⟩ := VZz.at (j := (own_kk q6)) (k := kn) k0 kj hk3
  obtain ⟨T715, h715, X715, e715, W715, st715⟩ := stI X712 hx hZ hh712 Ar714 (j := (own_kk q6)) hin714 (g := (mkF m 260 #[vJ q1, .second, vJ q2, .second, vJ q3, .second, vJ q4, .second, vJ q5, .second, vJ q6, .second, vR x1, vR x2, vR ob, vI ww, vR x4, vI (own_kk q6), vR x5, .unset, .unset, .unset, .unset, .unset, .unset, .unset, .unset, .unset, .unset] [(.int (own_vl (lo kn) (hi kn) ((own_ush q5 (32 : Int32)).toInt32))), (.int (own_kk q6)), (.ref x5)])) rfl rfl (hb hby at_260)
  have N715 := Fr.snoc X715 N712 g_x5
  rw [show ((own_kk q6) : Int32).toNatClampNeg = kn from kj] at W715
  have VZ_715 : AV Z h715 x5 .int 3 (fun j => .int ((own_set xv kn (own_vl (lo kn) (hi kn) ((own_ush q5 (32 : Int32)).toInt32))) j)) := VZz.setI W715
  have V1_715 := V1_705.other W715 ne_x1_x5
  have V2_715 := V2_705.other W715 ne_x2_x5
  have Fl_715 := Fl_705.other W715 (Or.inl ne_ob_x5)
  have Fw_715 := Fw_705.other W715 (Or.inl ne_ob_x5)
  have Fs_715 := Fs_705.other W715 (Or.inl ne_ob_x5)
  have Fm_715 := Fm_705.other W715 (Or.inl ne_ob_x5)
  have Fc_715 := Fc_705.other W715 (Or.inl ne_ob_x5)
  have E_ob_715 := E_ob_705.wr W715
  have U1_715 := U1_705.other W715 ne_c1_x5
  have U2_715 := U2_705.other W715 ne_c2_x5
  have U3_715 := U3_705.other W715 ne_c3_x5
  have U4_715 := U4_705.other W715 ne_c4_x5
  have VX_715 := VX_705.other W715 ne_x4_x5
  clear V1_705 V2_705 Fl_705 Fw_705 Fs_705 Fm_705 Fc_705 E_ob_705 U1_705 U2_705 U3_705 U4_705 VX_705
  have Zs715 : n0 ≤ h715.size := Nat.le_trans Zs705 (Keep.of_wr W715).1
  have R716 : ∀ tg, Steps p.tables e below (T715.setTop (mkF m 261 #[vJ q1, .second, vJ q2, .second, vJ q3, .second, vJ q4, .second, vJ q5, .second, vJ q6, .second, vR x1, vR x2, vR ob, vI ww, vR x4, vI (own_kk q6), vR x5, .unset, .unset, .unset, .unset, .unset, .unset, .unset, .unset, .unset, .unset] [])) tg → Steps p.tables e below (s₁.setTop (mkF m 0 #[vJ q1, .second, vJ q2, .second, vJ q3, .second, vJ q4, .second, vJ q5, .second, vJ q6, .second, .unset, .unset, .unset, .unset, .unset, .unset, .unset, .unset, .unset, .unset, .unset, .unset, .unset, .unset, .unset, .unset, .unset] [])) tg := by
    intro tg kt
    refine R713 _ ?_
    refine st715 _ ?_
    exact kt
  clear R713 st715
  have VZy : AV Z h715 x5 .int 3 (fun j => .int (zv j)) := by rw [hzv]; exact VZ_715
  obtain ⟨T717, h717, L717, y1, y2, y3, ou, X717, e717, N717, Zs717, VX717, VZ717, VO717, Y1717, Y2717, Y3717, st717⟩ := own_l3 q1 q2 q3 q4 q5 q6 x1 x2 ob x4 x5 c1 c2 c3 c4 ww lo hi xv zv o w2 X715 hx hZ hw hby hml hown e715 N715 Zs715 V1_715 Fl_715 Fw_715 Fs_715 Fm_715 Fc_715 E_ob_715 U1_715 U2_715 U3_715 U4_715 VX_715 VZy hwds hw2 hwn ho hnn
  have R718 : ∀ tg, Steps p.tables e below (T717.setTop (mkF m 350 #[vJ q1, .second, vJ q2, .second, vJ q3, .second, vJ q4, .second, vJ q5, .second, vJ q6, .second, vR x1, vR x2, vR ob, vI ww, vR x4, vI (own_kk q6), vR x5, vI (own_of q6), vJ q6, .second, vR y1, vR y2, vR y3, vR ou, .unset, .unset, .unset] [(.int (0 : Int32)), (.ref ou)])) tg → Steps p.tables e below (s₁.setTop (mkF m 0 #[vJ q1, .second, vJ q2, .second, vJ q3, .second, vJ q4, .second, vJ q5, .second, vJ q6, .second, .unset, .unset, .unset, .unset, .unset, .unset, .unset, .unset, .unset, .unset, .unset, .unset, .unset, .unset, .unset, .unset, .unset] [])) tg := by
    intro tg kt
    refine R716 _ ?_
    refine st717 _ ?_
    exact kt
  clear R716 st717
  have HO1 := own_H (fun _ => q6) q6 o w2 (own_of q6) ww lo xv (own_sf lo hi) hw2 (fun _ => rfl) ho ho3 hwds
  have HO2 := own_H (fun _ => (q6 ^^^ (-1 : Int64))) (q6 ^^^ (-1 : Int64)) o w2 (own_of q6) ww lo lo (own_sf lo hi) hw2 (fun _ => rfl) ho ho3 hwds
  have HO3 := own_H (fun _ => q6) q6 o w2 (own_of q6) ww lo zv (own_sf lo hi) hw2 (fun _ => rfl) ho ho3 hwds
  obtain ⟨zl0, zl1⟩ := own_enc_lo (fun _ => (q6 ^^^ (-1 : Int64))) o w2 lo (own_sf lo hi) hw2
  obtain ⟨T719, L719, Ls719, X719, e719, N719, st719⟩ := own_l4 q1 q2 q3 q4 q5 q6 x1 x2 ob x4 x5 y1 y2 y3 ou ww xv zv (own_dec (own_enc (fun _ => q6) o (w2 + 1) (own_wn w2) lo xv (own_sf lo hi)) o (own_wn w2) lo (own_sf lo hi) (own_mk lo hi)) (own_enc (fun _ => q6) o (w2 + 1) (own_wn w2) lo xv (own_sf lo hi)) (own_enc (fun _ => (q6 ^^^ (-1 : Int64))) o (w2 + 1) (own_wn w2) lo lo (own_sf lo hi)) (own_enc (fun _ => q6) o (w2 + 1) (own_wn w2) lo zv (own_sf lo hi)) o w2 kn X717 hx hZ hw hby hml hown e717 N717 Zs717 VX717 VZ717 VO717 Y1717 Y2717 Y3717 (hdec (fun _ => q6) o) HO1 HO2 HO3 zl0 zl1 hw2 W3 W4 hk3 k0 kj ho ho3 of0 ofj (hkey (fun _ => q6) (fun _ => q6) o)
  have R720 : ∀ tg, Steps p.tables e below (T719.setTop (mkF m 584 Ls719 [(.int (1 : Int32))])) tg → Steps p.tables e below (s₁.setTop (mkF m 0 #[vJ q1, .second, vJ q2, .second, vJ q3, .second, vJ q4, .second, vJ q5, .second, vJ q6, .second, .unset, .unset, .unset, .unset, .unset, .unset, .unset, .unset, .unset, .unset, .unset, .unset, .unset, .unset, .unset, .unset, .unset] [])) tg := fun tg kt => R718 tg (st719 tg kt)
  obtain ⟨fs, hr, hrun, hended, hW, hsame⟩ := X719.leave (v := some (.int (1 : Int32))) (fun h => by rw [Bd.returns] at h; cases h)
  refine ⟨_, _, pre0 _ (R720 _ ?_), hrun, hended, _, _, rfl, ?_, ⟨_, rfl⟩, hW, hsame.mono (by decide) (by decide)⟩
  · exact retN X719 hx (t := .boolean) Bd.returns (by simp) (hb hby at_584) hr
  · show Q_rm_law Z q1 q2 q3 q4 q5 q6 h0 n0 _ T719.heap _
    rw [e719]
    exact ⟨rfl, N719⟩
set_option maxRecDepth 65536 in
set_option maxHeartbeats 40000000 in
theorem comes_1 {Post : Tables → Env → Array Value → State → Outcome → State → Prop} (hpost : ∀ tb e args s v u, (limb_1_1.after args s (.returned v) u = true ∧ limb_1_2.after args s (.returned v) u = true ∧ True) → FrameEnd s (.returned v) u (Jvm.fieldLocs frame_1_writes args s ++ Jvm.arrayLocs frame_1_arrays args s ++ Jvm.staticLocs frame_1_statics s) 40 192 → Post tb e args s (.returned v) u) :
    ArmFor flags0 classFile x code maxLocals ret World_1 tables_1 room_1 Calls_1 rest_1 Pre_1 Post := by
  intro l hfl _ _ p e ha hc hk s m args below hf hA hF happ hP
  obtain ⟨hcalls, hrest, hpre⟩ := hP
  obtain ⟨-, -, -, hnamed, -, -, -, hat⟩ := (Spec.applies_iff hf).mp happ
  obtain ⟨hg, hn⟩ := and_e (Cond.before_iff.mp (show (Jvm.Cond.and given_1 narrow_1).before args s = true from hpre))
  obtain ⟨gc, gr0⟩ := and_e hg
  obtain ⟨ga0, gr1⟩ := and_e gr0
  obtain ⟨ga1, gr2⟩ := and_e gr1
  obtain ⟨ga2, gr3⟩ := and_e gr2
  obtain ⟨ga3, gr4⟩ := and_e gr3
  obtain ⟨ga4, gr5⟩ := and_e gr4
  obtain ⟨w0, w1, w2, w3, w4, w5, rfl⟩ : ∃ w0 w1 w2 w3 w4 w5 : Value, args = #[w0, w1, w2, w3, w4, w5] := by
    have hs : args.size = 6 := by simpa [Cond.value, given_1] using gc
    obtain ⟨L⟩ := args
    match L, hs with
    | [w0, w1, w2, w3, w4, w5], _ => exact ⟨w0, w1, w2, w3, w4, w5, rfl⟩
  have hw := fun d (hd : d ∈ tables_1) => atoms_spec (ws := Jvm.Cond.code x code maxLocals ret :: tables_1) hat d (List.mem_cons_of_mem _ hd)
  have hfit : Fit s := fun {y c} hc i hi => by
    obtain ⟨ha, rfl⟩ := Array.getElem?_eq_some_iff.mp hc
    have q := List.all_eq_true.mp ((Array.all_eq_true_iff_forall_mem.mp hF) _ (Array.getElem_mem ha)) i (List.mem_range.mpr hi)
    simpa [Array.getElem?_eq_getElem hi] using q
  obtain ⟨i0, ei0⟩ := isL_v ga0
  obtain rfl : w0 = (.long i0) := Option.some.inj ei0
  obtain ⟨i1, ei1⟩ := isL_v ga1
  obtain rfl : w1 = (.long i1) := Option.some.inj ei1
  obtain ⟨i2, ei2⟩ := isL_v ga2
  obtain rfl : w2 = (.long i2) := Option.some.inj ei2
  obtain ⟨i3, ei3⟩ := isL_v ga3
  obtain rfl : w3 = (.long i3) := Option.some.inj ei3
  obtain ⟨i4, ei4⟩ := isL_v ga4
  obtain rfl : w4 = (.long i4) := Option.some.inj ei4
  obtain ⟨i5, ei5⟩ := isL_v gr5
  obtain rfl : w5 = (.long i5) := Option.some.inj ei5
  obtain ⟨n, o, h1, h2, h3, _, L, rfl, ⟨rfl, N⟩, hq⟩ := rm_law l s _ hw tables_1 i0 i1 i2 i3 i4 i5 s.heap s.heap.size (Nat.le_refl _)  p e ha hc hk s m _ below hf ((Spec.applies_iff_loose hf).mp happ).1 ⟨rfl, State.Warmed39.refl s, rfl⟩ trivial
  refine ⟨n, _, h1, h2, h3, hpost _ _ _ _ _ _ ⟨Cond.after_iff.mpr rfl, Cond.after_iff.mpr (eq_i res_at (Term.int_eval (1)) rfl), trivial⟩ ⟨hq.1, hq.2.1, (hq.2.2.sift fun y hy => Or.inr (N y hy)).mono (by decide) (by decide)⟩⟩
theorem main_1_1 : Claimed_1_1 := comes_1 fun _ _ _ _ _ _ h hF => ⟨h.1, hF⟩
theorem main_1_2 : Claimed_1_2 := comes_1 fun _ _ _ _ _ _ h hF => ⟨h.2.1, hF⟩
end Jvm.Pilot.@@N@@
namespace Jvm.Pilot.@@N@@
open Jvm Jvm.ClassFile Sem Op Lib Jvm.Free Jvm.Stand Jvm.Pilot.@@N@@.Jvm.D
/-! MADE BY PROGRAM (witnessworld.py) out of the Statement's table words and the real class files: 18 classes; the members and pool entries that the words name. The judged class is class 1, her method 5. -/
namespace start1
open Jvm.ClassFile
def u (s : String) : CpInfo := .utf8 (stringToUtf16 s)
/-- a pool by its gaps: so many unusable entries, then the entry; so many at the end -/
def gap : Nat → List CpInfo → List CpInfo
  | 0, r => r
  | n + 1, r => .unusable :: gap n r
def poolList (es : List (Nat × CpInfo)) (last : Nat) : List CpInfo := es.foldr (fun e r => gap e.1 (e.2 :: r)) (gap last [])
def pool (es : List (Nat × CpInfo)) (last : Nat) : Array CpInfo := ⟨poolList es last⟩
def fileOf (pool : Array CpInfo) (this : Nat) (attrs : Array Attribute := #[]) (ms : Array MethodInfo := #[]) (fl : Nat := 33) (sup : Nat := 0) (ifs : Array Nat := #[]) (fds : Array FieldInfo := #[]) : ClassFile where
  minorVersion := 0
  majorVersion := 65
  constantPool := pool
  accessFlags := fl
  thisClass := this
  superClass := sup
  interfaces := ifs
  fields := fds
  methods := ms
  attributes := attrs
def plain (name : String) (sup : Option ClassId) : Class where
  name := name
  kind := .ordinary
  loader := none
  accessFlags := 33
  super := sup
  interfaces := #[]
  cf := none
  fields := #[]
  methods := #[]
  instanceTypes := #[]
  staticTypes := #[]
  resolved := #[]
  callSites := []
  init := .initialized
  statics := none
  mirror := none

def pool0 : Array CpInfo := pool [(5, u "<init>"), (0, u "()V"), (1, .class_ 10), (1, u "java/lang/Object"), (85, u "clone"), (0, u "()Ljava/lang/Object;")] 26

def k0c0 : Code := { maxStack := 0, maxLocals := 1, code := object_method_1_code, exceptionTable := #[], attributes := #[] }
def k0m0 : Method := { name := "<init>", desc := "()V", sig := { parameters := [], returnType := none }, accessFlags := 1, code := some k0c0 }
def k0m1 : Method := { name := "clone", desc := "()Ljava/lang/Object;", sig := { parameters := [], returnType := some (.object "java/lang/Object") }, accessFlags := 260, code := none }
/-- java/lang/Object -/
def k0 : Class := { plain "java/lang/Object" none with
  accessFlags := 33
  interfaces := #[]
  cf := some (fileOf pool0 8 #[] #[{ accessFlags := 1, nameIndex := 5, descriptorIndex := 6, attributes := #[] }, { accessFlags := 260, nameIndex := 96, descriptorIndex := 97, attributes := #[] }] 33 0 #[] #[])
  fields := #[]
  methods := #[k0m0, k0m1]
  instanceTypes := #[]
  staticTypes := #[]
  resolved := Array.replicate 124 none
  statics := none }

def pool1 : Array CpInfo := pool [(2, .class_ 4), (1, u "java/lang/Object"), (0, u "<init>"), (0, u "()V"), (0, .long 4294967295), (1, .long 9223372036854775808), (1, .methodref 12 13), (0, .class_ 14), (0, .nameAndType 15 16), (0, u "java/lang/Math"), (0, u "min"), (0, u "(II)I"), (0, .methodref 12 18), (0, .nameAndType 19 16), (0, u "max"), (0, .class_ 21), (0, u "com/example/inexact_odds/inexactodds/language/Encoding"), (0, .methodref 20 23), (0, .nameAndType 5 24), (0, u "([I[I)V"), (0, .methodref 20 26), (0, .nameAndType 27 28), (0, u "words"), (0, u "()I"), (0, .methodref 30 31), (0, .class_ 32), (0, .nameAndType 33 34), (0, u "com/example/inexact_odds/inexactodds/language/EncodingEncodePinLaw"), (0, u "pick"), (0, u "(III)I"), (0, .long 3), (1, .methodref 30 38), (0, .nameAndType 39 40), (0, u "filled"), (0, u "(J)[J"), (0, .long 18446744073709551615), (1, .methodref 20 44), (0, .nameAndType 45 46), (0, u "encode"), (0, u "([I[JI)V"), (0, .methodref 20 48), (0, .nameAndType 49 50), (0, u "decode"), (0, u "([JI[I)V"), (0, .methodref 30 52), (0, .nameAndType 53 54), (0, u "outsideKept"), (0, u "([JIIJ)Z"), (0, .methodref 30 56), (0, .nameAndType 57 58), (0, u "ucmp"), (0, u "(JJ)I"), (3, u "law"), (0, u "(JJJJJJ)Z")] 6

def k1m0 : Method := { name := "<init>", desc := "()V", sig := { parameters := [], returnType := none }, accessFlags := 1, code := none }
def k1c1 : Code := { maxStack := 8, maxLocals := 5, code := method_2_code, exceptionTable := #[], attributes := #[] }
def k1m1 : Method := { name := "pick", desc := "(III)I", sig := { parameters := [.int, .int, .int], returnType := some .int }, accessFlags := 10, code := some k1c1 }
def k1c2 : Code := { maxStack := 4, maxLocals := 3, code := method_3_code, exceptionTable := #[], attributes := #[] }
def k1m2 : Method := { name := "filled", desc := "(J)[J", sig := { parameters := [.long], returnType := some (.array .long) }, accessFlags := 10, code := some k1c2 }
def k1c3 : Code := { maxStack := 4, maxLocals := 5, code := method_4_code, exceptionTable := #[], attributes := #[] }
def k1m3 : Method := { name := "outsideKept", desc := "([JIIJ)Z", sig := { parameters := [(.array .long), .int, .int, .long], returnType := some .boolean }, accessFlags := 10, code := some k1c3 }
def k1c4 : Code := { maxStack := 4, maxLocals := 8, code := method_5_code, exceptionTable := #[], attributes := #[] }
def k1m4 : Method := { name := "ucmp", desc := "(JJ)I", sig := { parameters := [.long, .long], returnType := some .int }, accessFlags := 10, code := some k1c4 }
def k1c5 : Code := { maxStack := 7, maxLocals := 29, code := code, exceptionTable := #[], attributes := #[] }
def k1m5 : Method := { name := "law", desc := "(JJJJJJ)Z", sig := { parameters := [.long, .long, .long, .long, .long, .long], returnType := some .boolean }, accessFlags := 9, code := some k1c5 }
/-- com/example/inexact_odds/inexactodds/language/EncodingEncodePinLaw -/
def k1 : Class := { plain "com/example/inexact_odds/inexactodds/language/EncodingEncodePinLaw" (some 0) with
  accessFlags := 49
  interfaces := #[]
  cf := some (fileOf pool1 30 #[] #[{ accessFlags := 1, nameIndex := 5, descriptorIndex := 6, attributes := #[] }, { accessFlags := 10, nameIndex := 33, descriptorIndex := 34, attributes := #[] }, { accessFlags := 10, nameIndex := 39, descriptorIndex := 40, attributes := #[] }, { accessFlags := 10, nameIndex := 53, descriptorIndex := 54, attributes := #[] }, { accessFlags := 10, nameIndex := 57, descriptorIndex := 58, attributes := #[] }, { accessFlags := 9, nameIndex := 62, descriptorIndex := 63, attributes := #[] }] 49 2 #[] #[])
  fields := #[]
  methods := #[k1m0, k1m1, k1m2, k1m3, k1m4, k1m5]
  instanceTypes := #[]
  staticTypes := #[]
  resolved := Array.replicate 70 none
  statics := none }

def pool2 : Array CpInfo := pool [(1, .class_ 2), (0, u "java/lang/Math"), (1, .class_ 6), (1, u "java/lang/Object"), (0, u "<init>"), (0, u "()V"), (89, .class_ 100), (1, u "java/lang/Math$RandomNumberGeneratorHolder"), (71, u "negativeZeroFloatBits"), (0, u "J"), (2, u "negativeZeroDoubleBits"), (21, u "max"), (2, u "min"), (43, u "$assertionsDisabled"), (0, u "Z"), (88, u "(II)I"), (2, u "twoToTheDoubleScaleDown"), (0, u "D"), (4, u "twoToTheDoubleScaleUp"), (9, u "E"), (3, u "PI"), (2, u "TAU"), (2, u "DEGREES_TO_RADIANS"), (0, u "RADIANS_TO_DEGREES")] 94

def k2m0 : Method := { name := "<init>", desc := "()V", sig := { parameters := [], returnType := none }, accessFlags := 2, code := none }
def k2c1 : Code := { maxStack := 2, maxLocals := 2, code := jdk_29_method_65_code, exceptionTable := #[], attributes := #[] }
def k2m1 : Method := { name := "max", desc := "(II)I", sig := { parameters := [.int, .int], returnType := some .int }, accessFlags := 9, code := some k2c1 }
def k2c2 : Code := { maxStack := 2, maxLocals := 2, code := jdk_29_method_69_code, exceptionTable := #[], attributes := #[] }
def k2m2 : Method := { name := "min", desc := "(II)I", sig := { parameters := [.int, .int], returnType := some .int }, accessFlags := 9, code := some k2c2 }
/-- java/lang/Math -/
def k2 : Class := { plain "java/lang/Math" (some 0) with
  accessFlags := 49
  interfaces := #[]
  cf := some (fileOf pool2 1 #[.nestMembers #[98]] #[{ accessFlags := 2, nameIndex := 7, descriptorIndex := 8, attributes := #[] }, { accessFlags := 9, nameIndex := 198, descriptorIndex := 335, attributes := #[] }, { accessFlags := 9, nameIndex := 201, descriptorIndex := 335, attributes := #[] }] 49 4 #[] #[{ accessFlags := 25, nameIndex := 354, descriptorIndex := 339, attributes := #[] }, { accessFlags := 25, nameIndex := 358, descriptorIndex := 339, attributes := #[] }, { accessFlags := 25, nameIndex := 361, descriptorIndex := 339, attributes := #[] }, { accessFlags := 26, nameIndex := 364, descriptorIndex := 339, attributes := #[] }, { accessFlags := 26, nameIndex := 365, descriptorIndex := 339, attributes := #[] }, { accessFlags := 26, nameIndex := 172, descriptorIndex := 173, attributes := #[] }, { accessFlags := 26, nameIndex := 176, descriptorIndex := 173, attributes := #[] }, { accessFlags := 8, nameIndex := 344, descriptorIndex := 339, attributes := #[] }, { accessFlags := 8, nameIndex := 338, descriptorIndex := 339, attributes := #[] }, { accessFlags := 4120, nameIndex := 245, descriptorIndex := 246, attributes := #[] }])
  fields := #[{ name := "E", type := .double, accessFlags := 25, slot := 0, constantValue := 0 }, { name := "PI", type := .double, accessFlags := 25, slot := 1, constantValue := 0 }, { name := "TAU", type := .double, accessFlags := 25, slot := 2, constantValue := 0 }, { name := "DEGREES_TO_RADIANS", type := .double, accessFlags := 26, slot := 3, constantValue := 0 }, { name := "RADIANS_TO_DEGREES", type := .double, accessFlags := 26, slot := 4, constantValue := 0 }, { name := "negativeZeroFloatBits", type := .long, accessFlags := 26, slot := 5, constantValue := 0 }, { name := "negativeZeroDoubleBits", type := .long, accessFlags := 26, slot := 6, constantValue := 0 }, { name := "twoToTheDoubleScaleUp", type := .double, accessFlags := 8, slot := 7, constantValue := 0 }, { name := "twoToTheDoubleScaleDown", type := .double, accessFlags := 8, slot := 8, constantValue := 0 }, { name := "$assertionsDisabled", type := .boolean, accessFlags := 4120, slot := 9, constantValue := 0 }]
  methods := #[k2m0, k2m1, k2m2]
  instanceTypes := #[]
  staticTypes := #[.double, .double, .double, .double, .double, .long, .long, .double, .double, .boolean]
  resolved := Array.replicate 460 none
  statics := none }

def pool3 : Array CpInfo := pool [(1, .methodref 2 3), (0, .class_ 4), (0, .nameAndType 5 6), (0, u "java/lang/Object"), (0, u "<init>"), (0, u "()V"), (0, .methodref 8 9), (0, .class_ 10), (0, .nameAndType 11 12), (0, u "[I"), (0, u "clone"), (0, u "()Ljava/lang/Object;"), (0, .fieldref 14 15), (0, .class_ 16), (0, .nameAndType 17 10), (0, u "com/example/inexact_odds/inexactodds/language/Encoding"), (0, u "low"), (0, .fieldref 14 19), (0, .nameAndType 20 10), (0, u "word"), (0, .fieldref 14 22), (0, .nameAndType 23 10), (0, u "shift"), (0, .fieldref 14 25), (0, .nameAndType 26 27), (0, u "mask"), (0, u "[J"), (0, .methodref 29 30), (0, .class_ 31), (0, .nameAndType 32 33), (0, u "java/lang/Long"), (0, u "numberOfLeadingZeros"), (0, u "(J)I"), (0, .long 18446744073709551615), (1, .fieldref 14 37), (0, .nameAndType 38 39), (0, u "words"), (0, u "I"), (0, u "([I[I)V"), (4, u "()I"), (0, u "encode"), (0, u "([I[JI)V"), (0, u "decode"), (0, u "([JI[I)V")] 2

def k3c0 : Code := { maxStack := 6, maxLocals := 9, code := prog_37_method_1_code, exceptionTable := #[], attributes := #[] }
def k3m0 : Method := { name := "<init>", desc := "([I[I)V", sig := { parameters := [(.array .int), (.array .int)], returnType := none }, accessFlags := 0, code := some k3c0 }
def k3c1 : Code := { maxStack := 1, maxLocals := 1, code := prog_37_method_2_code, exceptionTable := #[], attributes := #[] }
def k3m1 : Method := { name := "words", desc := "()I", sig := { parameters := [], returnType := some .int }, accessFlags := 0, code := some k3c1 }
def k3c2 : Code := { maxStack := 8, maxLocals := 5, code := prog_37_method_3_code, exceptionTable := #[], attributes := #[] }
def k3m2 : Method := { name := "encode", desc := "([I[JI)V", sig := { parameters := [(.array .int), (.array .long), .int], returnType := none }, accessFlags := 0, code := some k3c2 }
def k3c3 : Code := { maxStack := 6, maxLocals := 5, code := prog_37_method_4_code, exceptionTable := #[], attributes := #[] }
def k3m3 : Method := { name := "decode", desc := "([JI[I)V", sig := { parameters := [(.array .long), .int, (.array .int)], returnType := none }, accessFlags := 0, code := some k3c3 }
/-- com/example/inexact_odds/inexactodds/language/Encoding -/
def k3 : Class := { plain "com/example/inexact_odds/inexactodds/language/Encoding" (some 0) with
  accessFlags := 48
  interfaces := #[]
  cf := some (fileOf pool3 14 #[] #[{ accessFlags := 0, nameIndex := 5, descriptorIndex := 40, attributes := #[] }, { accessFlags := 0, nameIndex := 38, descriptorIndex := 45, attributes := #[] }, { accessFlags := 0, nameIndex := 46, descriptorIndex := 47, attributes := #[] }, { accessFlags := 0, nameIndex := 48, descriptorIndex := 49, attributes := #[] }] 48 2 #[] #[{ accessFlags := 18, nameIndex := 17, descriptorIndex := 10, attributes := #[] }, { accessFlags := 18, nameIndex := 20, descriptorIndex := 10, attributes := #[] }, { accessFlags := 18, nameIndex := 23, descriptorIndex := 10, attributes := #[] }, { accessFlags := 18, nameIndex := 26, descriptorIndex := 27, attributes := #[] }, { accessFlags := 18, nameIndex := 38, descriptorIndex := 39, attributes := #[] }])
  fields := #[{ name := "low", type := (.array .int), accessFlags := 18, slot := 0, constantValue := 0 }, { name := "word", type := (.array .int), accessFlags := 18, slot := 1, constantValue := 0 }, { name := "shift", type := (.array .int), accessFlags := 18, slot := 2, constantValue := 0 }, { name := "mask", type := (.array .long), accessFlags := 18, slot := 3, constantValue := 0 }, { name := "words", type := .int, accessFlags := 18, slot := 4, constantValue := 0 }]
  methods := #[k3m0, k3m1, k3m2, k3m3]
  instanceTypes := #[(.array .int), (.array .int), (.array .int), (.array .long), .int]
  staticTypes := #[]
  resolved := Array.replicate 52 none
  statics := none }

def pool4 : Array CpInfo := pool [(1, .class_ 2), (0, u "java/lang/Cloneable"), (0, .class_ 4), (0, u "java/lang/Object")] 2

/-- java/lang/Cloneable -/
def k4 : Class := { plain "java/lang/Cloneable" (some 0) with
  accessFlags := 1537
  interfaces := #[]
  cf := some (fileOf pool4 1 #[] #[] 1537 3 #[] #[])
  fields := #[]
  methods := #[]
  instanceTypes := #[]
  staticTypes := #[]
  resolved := Array.replicate 7 none
  statics := none }

def pool5 : Array CpInfo := pool [(1, .class_ 2), (0, u "java/io/Serializable"), (0, .class_ 4), (0, u "java/lang/Object")] 2

/-- java/io/Serializable -/
def k5 : Class := { plain "java/io/Serializable" (some 0) with
  accessFlags := 1537
  interfaces := #[]
  cf := some (fileOf pool5 1 #[] #[] 1537 3 #[] #[])
  fields := #[]
  methods := #[]
  instanceTypes := #[]
  staticTypes := #[]
  resolved := Array.replicate 7 none
  statics := none }

def pool6 : Array CpInfo := pool [(2, .class_ 4), (1, u "java/lang/Object"), (0, u "<init>"), (0, u "()V"), (1, .class_ 10), (1, u "java/lang/Number"), (2, .class_ 14), (0, u "java/io/Serializable"), (0, u "serialVersionUID"), (0, u "J")] 20

def k6m0 : Method := { name := "<init>", desc := "()V", sig := { parameters := [], returnType := none }, accessFlags := 1, code := none }
/-- java/lang/Number -/
def k6 : Class := { plain "java/lang/Number" (some 0) with
  accessFlags := 1057
  interfaces := #[5]
  cf := some (fileOf pool6 8 #[] #[{ accessFlags := 1, nameIndex := 5, descriptorIndex := 6, attributes := #[] }] 1057 2 #[13] #[{ accessFlags := 26, nameIndex := 15, descriptorIndex := 16, attributes := #[] }])
  fields := #[{ name := "serialVersionUID", type := .long, accessFlags := 26, slot := 0, constantValue := 0 }]
  methods := #[k6m0]
  instanceTypes := #[]
  staticTypes := #[.long]
  resolved := Array.replicate 37 none
  statics := none }

def pool7 : Array CpInfo := pool [(1, .class_ 2), (0, u "java/lang/Comparable"), (0, .class_ 4), (0, u "java/lang/Object")] 7

/-- java/lang/Comparable -/
def k7 : Class := { plain "java/lang/Comparable" (some 0) with
  accessFlags := 1537
  interfaces := #[]
  cf := some (fileOf pool7 1 #[] #[] 1537 3 #[] #[])
  fields := #[]
  methods := #[]
  instanceTypes := #[]
  staticTypes := #[]
  resolved := Array.replicate 12 none
  statics := none }

def pool8 : Array CpInfo := pool [(1, .class_ 2), (0, u "java/lang/constant/Constable"), (0, .class_ 4), (0, u "java/lang/Object")] 6

/-- java/lang/constant/Constable -/
def k8 : Class := { plain "java/lang/constant/Constable" (some 0) with
  accessFlags := 1537
  interfaces := #[]
  cf := some (fileOf pool8 1 #[] #[] 1537 3 #[] #[])
  fields := #[]
  methods := #[]
  instanceTypes := #[]
  staticTypes := #[]
  resolved := Array.replicate 11 none
  statics := none }

def pool9 : Array CpInfo := pool [(1, .class_ 2), (0, u "java/lang/constant/ConstantDesc"), (0, .class_ 4), (0, u "java/lang/Object")] 32

/-- java/lang/constant/ConstantDesc -/
def k9 : Class := { plain "java/lang/constant/ConstantDesc" (some 0) with
  accessFlags := 1537
  interfaces := #[]
  cf := some (fileOf pool9 1 #[] #[] 1537 3 #[] #[])
  fields := #[]
  methods := #[]
  instanceTypes := #[]
  staticTypes := #[]
  resolved := Array.replicate 37 none
  statics := none }

def pool10 : Array CpInfo := pool [(1, .class_ 2), (0, u "java/lang/Long"), (15, .class_ 20), (1, u "java/lang/Integer"), (79, u "numberOfLeadingZeros"), (0, u "(J)I"), (133, .class_ 237), (1, u "java/lang/Long$LongCache"), (33, .class_ 272), (0, u "java/lang/Number"), (2, u "value"), (0, u "J"), (31, .methodref 18 309), (0, .nameAndType 100 310), (0, u "(I)I"), (50, u "TYPE"), (0, u "Ljava/lang/Class;"), (0, .class_ 364), (0, u "java/lang/Comparable"), (0, .class_ 366), (0, u "java/lang/constant/Constable"), (0, .class_ 368), (0, u "java/lang/constant/ConstantDesc"), (0, u "MIN_VALUE"), (1, u "MAX_VALUE"), (4, u "SIZE"), (0, u "I"), (1, u "BYTES"), (1, u "serialVersionUID")] 142

def k10c0 : Code := { maxStack := 3, maxLocals := 3, code := jdk_35_method_48_code, exceptionTable := #[], attributes := #[] }
def k10m0 : Method := { name := "numberOfLeadingZeros", desc := "(J)I", sig := { parameters := [.long], returnType := some .int }, accessFlags := 9, code := some k10c0 }
/-- java/lang/Long -/
def k10 : Class := { plain "java/lang/Long" (some 6) with
  accessFlags := 49
  interfaces := #[7, 8, 9]
  cf := some (fileOf pool10 1 #[.nestMembers #[235]] #[{ accessFlags := 9, nameIndex := 100, descriptorIndex := 101, attributes := #[] }] 49 271 #[363, 365, 367] #[{ accessFlags := 25, nameIndex := 369, descriptorIndex := 276, attributes := #[] }, { accessFlags := 25, nameIndex := 371, descriptorIndex := 276, attributes := #[] }, { accessFlags := 25, nameIndex := 361, descriptorIndex := 362, attributes := #[] }, { accessFlags := 18, nameIndex := 275, descriptorIndex := 276, attributes := #[] }, { accessFlags := 25, nameIndex := 376, descriptorIndex := 377, attributes := #[] }, { accessFlags := 25, nameIndex := 379, descriptorIndex := 377, attributes := #[] }, { accessFlags := 26, nameIndex := 381, descriptorIndex := 276, attributes := #[] }])
  fields := #[{ name := "MIN_VALUE", type := .long, accessFlags := 25, slot := 0, constantValue := 0 }, { name := "MAX_VALUE", type := .long, accessFlags := 25, slot := 1, constantValue := 0 }, { name := "TYPE", type := (.object "java/lang/Class"), accessFlags := 25, slot := 2, constantValue := 0 }, { name := "value", type := .long, accessFlags := 18, slot := 0, constantValue := 0 }, { name := "SIZE", type := .int, accessFlags := 25, slot := 3, constantValue := 0 }, { name := "BYTES", type := .int, accessFlags := 25, slot := 4, constantValue := 0 }, { name := "serialVersionUID", type := .long, accessFlags := 26, slot := 5, constantValue := 0 }]
  methods := #[k10m0]
  instanceTypes := #[.long]
  staticTypes := #[.long, .long, (.object "java/lang/Class"), .int, .int, .long]
  resolved := Array.replicate 524 none
  statics := none }

def pool11 : Array CpInfo := pool [(1, .class_ 2), (0, u "java/lang/Integer"), (16, u "digits"), (0, u "[C"), (32, u "numberOfLeadingZeros"), (0, u "(I)I"), (30, u "DigitOnes"), (0, u "[B"), (2, u "DigitTens"), (99, .class_ 190), (0, u "java/lang/Integer$IntegerCache"), (3, u "I"), (8, .class_ 204), (0, u "java/lang/Number"), (2, u "value"), (56, .integer 65536), (37, u "TYPE"), (0, u "Ljava/lang/Class;"), (0, .class_ 305), (0, u "java/lang/Comparable"), (0, .class_ 307), (0, u "java/lang/constant/Constable"), (0, .class_ 309), (0, u "java/lang/constant/ConstantDesc"), (0, u "MIN_VALUE"), (1, u "MAX_VALUE"), (3, u "SIZE"), (1, u "BYTES"), (1, u "serialVersionUID"), (0, u "J")] 131

def k11c0 : Code := { maxStack := 3, maxLocals := 2, code := jdk_33_method_47_code, exceptionTable := #[], attributes := #[] }
def k11m0 : Method := { name := "numberOfLeadingZeros", desc := "(I)I", sig := { parameters := [.int], returnType := some .int }, accessFlags := 9, code := some k11c0 }
/-- java/lang/Integer -/
def k11 : Class := { plain "java/lang/Integer" (some 6) with
  accessFlags := 49
  interfaces := #[7, 8, 9]
  cf := some (fileOf pool11 1 #[.nestMembers #[189]] #[{ accessFlags := 9, nameIndex := 53, descriptorIndex := 54, attributes := #[] }] 49 203 #[304, 306, 308] #[{ accessFlags := 25, nameIndex := 310, descriptorIndex := 194, attributes := #[] }, { accessFlags := 25, nameIndex := 312, descriptorIndex := 194, attributes := #[] }, { accessFlags := 25, nameIndex := 302, descriptorIndex := 303, attributes := #[] }, { accessFlags := 24, nameIndex := 19, descriptorIndex := 20, attributes := #[] }, { accessFlags := 24, nameIndex := 89, descriptorIndex := 86, attributes := #[] }, { accessFlags := 24, nameIndex := 85, descriptorIndex := 86, attributes := #[] }, { accessFlags := 18, nameIndex := 207, descriptorIndex := 194, attributes := #[] }, { accessFlags := 25, nameIndex := 316, descriptorIndex := 194, attributes := #[] }, { accessFlags := 25, nameIndex := 318, descriptorIndex := 194, attributes := #[] }, { accessFlags := 26, nameIndex := 320, descriptorIndex := 321, attributes := #[] }])
  fields := #[{ name := "MIN_VALUE", type := .int, accessFlags := 25, slot := 0, constantValue := 0 }, { name := "MAX_VALUE", type := .int, accessFlags := 25, slot := 1, constantValue := 0 }, { name := "TYPE", type := (.object "java/lang/Class"), accessFlags := 25, slot := 2, constantValue := 0 }, { name := "digits", type := (.array .char), accessFlags := 24, slot := 3, constantValue := 0 }, { name := "DigitTens", type := (.array .byte), accessFlags := 24, slot := 4, constantValue := 0 }, { name := "DigitOnes", type := (.array .byte), accessFlags := 24, slot := 5, constantValue := 0 }, { name := "value", type := .int, accessFlags := 18, slot := 0, constantValue := 0 }, { name := "SIZE", type := .int, accessFlags := 25, slot := 6, constantValue := 0 }, { name := "BYTES", type := .int, accessFlags := 25, slot := 7, constantValue := 0 }, { name := "serialVersionUID", type := .long, accessFlags := 26, slot := 8, constantValue := 0 }]
  methods := #[k11m0]
  instanceTypes := #[.int]
  staticTypes := #[.int, .int, (.object "java/lang/Class"), (.array .char), (.array .byte), (.array .byte), .int, .int, .long]
  resolved := Array.replicate 453 none
  statics := none }

/-- the primitive byte -/
def k12 : Class := { plain "byte" none with kind := .primitive 'B', accessFlags := 0x411 }
/-- [B -/
def k13 : Class := { plain "[B" (some 0) with kind := .array 12 .byte, interfaces := #[4, 5], accessFlags := 1041 }

/-- the primitive int -/
def k14 : Class := { plain "int" none with kind := .primitive 'I', accessFlags := 0x411 }
/-- [I -/
def k15 : Class := { plain "[I" (some 0) with kind := .array 14 .int, interfaces := #[4, 5], accessFlags := 1041 }

/-- the primitive long -/
def k16 : Class := { plain "long" none with kind := .primitive 'J', accessFlags := 0x411 }
/-- [J -/
def k17 : Class := { plain "[J" (some 0) with kind := .array 16 .long, interfaces := #[4, 5], accessFlags := 1041 }

def heap : Heap := #[]
def classes : Array Class := #[k0, k1, k2, k3, k4, k5, k6, k7, k8, k9, k10, k11, k12, k13, k14, k15, k16, k17]
def interned : List (Array UInt16 × Addr) := []
def slotsUsed : Nat := 0
def theMethod : MethodId := ⟨1, 5⟩
def args0 : Array Value := #[.long 5, .long 7, .long 9, .long 1, .long 2, .long 3]
def aboutOver (below : List Frame) : State where
  vm := { classes := classes, interned := interned.toArray }
  heap := heap
  slotsUsed := slotsUsed
  threads := #[{ frames := .invoking theMethod args0 :: below }]
def below0 : List Frame := [.native { method := ⟨0, 0⟩, args := #[] }]
def about1 : State := aboutOver below0
def p0 : Program := .bare "" "" ""
def e0 : Env := launch0.env 0 0 0
theorem w_frames : about1.frames = Frame.invoking theMethod args0 :: below0 := rfl
set_option maxRecDepth 65536 in
theorem w_args : argsFit about1.vm theMethod args0 = true := by decide +kernel
set_option maxRecDepth 65536 in
theorem w_heap : heapFits about1 = true := by decide +kernel
set_option maxRecDepth 65536 in
theorem w_runnable : about1.curStatus? = some .runnable := by decide +kernel
set_option maxRecDepth 65536 in
theorem w_alone : about1.alone = true := by decide +kernel
set_option maxRecDepth 65536 in
theorem w_named : about1.methodNamed? x = some theMethod := by decide +kernel
set_option maxRecDepth 65536 in
theorem w_hears : about1.hears theMethod below0 = true := by decide +kernel
set_option maxRecDepth 65536 in
theorem w_ripe : about1.ripe theMethod args0 below0 = true := by decide +kernel
theorem w_running : about1.status = .running := rfl
set_option maxRecDepth 65536 in
theorem w_room : about1.hasRoom e0.platform room_1 = true :=
  launch0.hasRoom_least _ room_1 (by decide +kernel) (by decide +kernel) (by decide +kernel) (by decide +kernel) (by decide +kernel) (by decide +kernel)
theorem allAtoms_all (ts : List Jvm.Cond) (a : Array Jvm.Value) (st : Jvm.State) : (allAtoms ts).before a st = ts.all (fun c => c.before a st) := by
  induction ts with
  | nil => rfl
  | cons c t ih =>
    show (Jvm.Cond.and c (allAtoms t)).before a st = _
    rw [Jvm.Cond.before_and, ih, List.all_cons]
def words1 : List Jvm.Cond := Jvm.Cond.code x code maxLocals ret :: tables_1
/-- a 'code' word, met by the world's own term for the bytes: nothing is compared byte by byte -/
theorem code_word {y : MethodName} {bytes : ByteArray} {mx : Nat} {rt : Option FieldType} {a : Array Value} {s : State} {m : MethodId} {meth : Method} {c : Code} (h1 : s.methodNamed? y = some m) (h2 : s.vm.method? m = some meth) (h3 : meth.code = some c) (h4 : c.code = bytes)
    (h5 : (c.maxLocals == mx && c.exceptionTable.isEmpty && decide (c.maxStack ≤ mostOperands) && decide (meth.sig.returnType = rt) && !meth.locks && decide (parseMethodDescriptor y.desc = some meth.sig)) = true) : (Jvm.Cond.code y bytes mx rt).before a s = true := by
  simp only [Bool.and_eq_true, beq_iff_eq, Bool.not_eq_true', decide_eq_true_eq] at h5
  obtain ⟨⟨⟨⟨⟨g1, g2⟩, g3⟩, g4⟩, g5⟩, g6⟩ := h5
  simp [Cond.before, Cond.holds, Cond.value, h1, h2, h3, h4, g1, g2, g3, g4, g5, g6]
def isCode : Jvm.Cond → Bool
  | .code _ _ _ _ => true
  | _ => false
theorem all_split {L : List Jvm.Cond} {P : Jvm.Cond → Bool} (h1 : L.all (fun c => isCode c || P c) = true) (h2 : ∀ c ∈ L.filter isCode, P c = true) : L.all P = true := by
  refine List.all_eq_true.mpr fun c hc => ?_
  have h := List.all_eq_true.mp h1 c hc
  rcases Bool.eq_false_or_eq_true (isCode c) with hi | hi
  · exact h2 c (List.mem_filter.mpr ⟨hc, hi⟩)
  · simpa [hi] using h
set_option maxRecDepth 65536 in
theorem w_c0 : (Jvm.Cond.code x code maxLocals ret).before args0 about1 = true := code_word (m := ⟨1, 5⟩) (meth := k1m5) (c := k1c5) (by decide +kernel) rfl rfl rfl (by decide +kernel)
set_option maxRecDepth 65536 in
theorem w_c1 : (Jvm.Cond.code ({ cls := "java/lang/Math", name := "min", desc := "(II)I" } : Jvm.MethodName) jdk_29_method_69_code (2 : Nat) (Option.some Jvm.ClassFile.FieldType.int)).before args0 about1 = true := code_word (m := ⟨2, 2⟩) (meth := k2m2) (c := k2c2) (by decide +kernel) rfl rfl rfl (by decide +kernel)
set_option maxRecDepth 65536 in
theorem w_c2 : (Jvm.Cond.code ({ cls := "java/lang/Math", name := "max", desc := "(II)I" } : Jvm.MethodName) jdk_29_method_65_code (2 : Nat) (Option.some Jvm.ClassFile.FieldType.int)).before args0 about1 = true := code_word (m := ⟨2, 1⟩) (meth := k2m1) (c := k2c1) (by decide +kernel) rfl rfl rfl (by decide +kernel)
set_option maxRecDepth 65536 in
theorem w_c3 : (Jvm.Cond.code ({ cls := "com/example/inexact_odds/inexactodds/language/Encoding", name := "<init>", desc := "([I[I)V" } : Jvm.MethodName) prog_37_method_1_code (9 : Nat) (Option.none : Option Jvm.ClassFile.FieldType)).before args0 about1 = true := code_word (m := ⟨3, 0⟩) (meth := k3m0) (c := k3c0) (by decide +kernel) rfl rfl rfl (by decide +kernel)
set_option maxRecDepth 65536 in
theorem w_c4 : (Jvm.Cond.code ({ cls := "java/lang/Object", name := "<init>", desc := "()V" } : Jvm.MethodName) object_method_1_code (1 : Nat) (Option.none : Option Jvm.ClassFile.FieldType)).before args0 about1 = true := code_word (m := ⟨0, 0⟩) (meth := k0m0) (c := k0c0) (by decide +kernel) rfl rfl rfl (by decide +kernel)
set_option maxRecDepth 65536 in
theorem w_c5 : (Jvm.Cond.code ({ cls := "java/lang/Long", name := "numberOfLeadingZeros", desc := "(J)I" } : Jvm.MethodName) jdk_35_method_48_code (3 : Nat) (Option.some Jvm.ClassFile.FieldType.int)).before args0 about1 = true := code_word (m := ⟨10, 0⟩) (meth := k10m0) (c := k10c0) (by decide +kernel) rfl rfl rfl (by decide +kernel)
set_option maxRecDepth 65536 in
theorem w_c6 : (Jvm.Cond.code ({ cls := "java/lang/Integer", name := "numberOfLeadingZeros", desc := "(I)I" } : Jvm.MethodName) jdk_33_method_47_code (2 : Nat) (Option.some Jvm.ClassFile.FieldType.int)).before args0 about1 = true := code_word (m := ⟨11, 0⟩) (meth := k11m0) (c := k11c0) (by decide +kernel) rfl rfl rfl (by decide +kernel)
set_option maxRecDepth 65536 in
theorem w_c7 : (Jvm.Cond.code ({ cls := "com/example/inexact_odds/inexactodds/language/Encoding", name := "words", desc := "()I" } : Jvm.MethodName) prog_37_method_2_code (1 : Nat) (Option.some Jvm.ClassFile.FieldType.int)).before args0 about1 = true := code_word (m := ⟨3, 1⟩) (meth := k3m1) (c := k3c1) (by decide +kernel) rfl rfl rfl (by decide +kernel)
set_option maxRecDepth 65536 in
theorem w_c8 : (Jvm.Cond.code ({ cls := "com/example/inexact_odds/inexactodds/language/EncodingEncodePinLaw", name := "pick", desc := "(III)I" } : Jvm.MethodName) method_2_code (5 : Nat) (Option.some Jvm.ClassFile.FieldType.int)).before args0 about1 = true := code_word (m := ⟨1, 1⟩) (meth := k1m1) (c := k1c1) (by decide +kernel) rfl rfl rfl (by decide +kernel)
set_option maxRecDepth 65536 in
theorem w_c9 : (Jvm.Cond.code ({ cls := "com/example/inexact_odds/inexactodds/language/EncodingEncodePinLaw", name := "filled", desc := "(J)[J" } : Jvm.MethodName) method_3_code (3 : Nat) (Option.some (Jvm.ClassFile.FieldType.array Jvm.ClassFile.FieldType.long))).before args0 about1 = true := code_word (m := ⟨1, 2⟩) (meth := k1m2) (c := k1c2) (by decide +kernel) rfl rfl rfl (by decide +kernel)
set_option maxRecDepth 65536 in
theorem w_c10 : (Jvm.Cond.code ({ cls := "com/example/inexact_odds/inexactodds/language/Encoding", name := "encode", desc := "([I[JI)V" } : Jvm.MethodName) prog_37_method_3_code (5 : Nat) (Option.none : Option Jvm.ClassFile.FieldType)).before args0 about1 = true := code_word (m := ⟨3, 2⟩) (meth := k3m2) (c := k3c2) (by decide +kernel) rfl rfl rfl (by decide +kernel)
set_option maxRecDepth 65536 in
theorem w_c11 : (Jvm.Cond.code ({ cls := "com/example/inexact_odds/inexactodds/language/Encoding", name := "decode", desc := "([JI[I)V" } : Jvm.MethodName) prog_37_method_4_code (5 : Nat) (Option.none : Option Jvm.ClassFile.FieldType)).before args0 about1 = true := code_word (m := ⟨3, 3⟩) (meth := k3m3) (c := k3c3) (by decide +kernel) rfl rfl rfl (by decide +kernel)
set_option maxRecDepth 65536 in
theorem w_c12 : (Jvm.Cond.code ({ cls := "com/example/inexact_odds/inexactodds/language/EncodingEncodePinLaw", name := "outsideKept", desc := "([JIIJ)Z" } : Jvm.MethodName) method_4_code (5 : Nat) (Option.some Jvm.ClassFile.FieldType.boolean)).before args0 about1 = true := code_word (m := ⟨1, 3⟩) (meth := k1m3) (c := k1c3) (by decide +kernel) rfl rfl rfl (by decide +kernel)
set_option maxRecDepth 65536 in
theorem w_c13 : (Jvm.Cond.code ({ cls := "com/example/inexact_odds/inexactodds/language/EncodingEncodePinLaw", name := "ucmp", desc := "(JJ)I" } : Jvm.MethodName) method_5_code (8 : Nat) (Option.some Jvm.ClassFile.FieldType.int)).before args0 about1 = true := code_word (m := ⟨1, 4⟩) (meth := k1m4) (c := k1c4) (by decide +kernel) rfl rfl rfl (by decide +kernel)
def codes1 : List Jvm.Cond := [Jvm.Cond.code x code maxLocals ret, Jvm.Cond.code ({ cls := "java/lang/Math", name := "min", desc := "(II)I" } : Jvm.MethodName) jdk_29_method_69_code (2 : Nat) (Option.some Jvm.ClassFile.FieldType.int), Jvm.Cond.code ({ cls := "java/lang/Math", name := "max", desc := "(II)I" } : Jvm.MethodName) jdk_29_method_65_code (2 : Nat) (Option.some Jvm.ClassFile.FieldType.int), Jvm.Cond.code ({ cls := "com/example/inexact_odds/inexactodds/language/Encoding", name := "<init>", desc := "([I[I)V" } : Jvm.MethodName) prog_37_method_1_code (9 : Nat) (Option.none : Option Jvm.ClassFile.FieldType), Jvm.Cond.code ({ cls := "java/lang/Object", name := "<init>", desc := "()V" } : Jvm.MethodName) object_method_1_code (1 : Nat) (Option.none : Option Jvm.ClassFile.FieldType), Jvm.Cond.code ({ cls := "java/lang/Long", name := "numberOfLeadingZeros", desc := "(J)I" } : Jvm.MethodName) jdk_35_method_48_code (3 : Nat) (Option.some Jvm.ClassFile.FieldType.int), Jvm.Cond.code ({ cls := "java/lang/Integer", name := "numberOfLeadingZeros", desc := "(I)I" } : Jvm.MethodName) jdk_33_method_47_code (2 : Nat) (Option.some Jvm.ClassFile.FieldType.int), Jvm.Cond.code ({ cls := "com/example/inexact_odds/inexactodds/language/Encoding", name := "words", desc := "()I" } : Jvm.MethodName) prog_37_method_2_code (1 : Nat) (Option.some Jvm.ClassFile.FieldType.int), Jvm.Cond.code ({ cls := "com/example/inexact_odds/inexactodds/language/EncodingEncodePinLaw", name := "pick", desc := "(III)I" } : Jvm.MethodName) method_2_code (5 : Nat) (Option.some Jvm.ClassFile.FieldType.int), Jvm.Cond.code ({ cls := "com/example/inexact_odds/inexactodds/language/EncodingEncodePinLaw", name := "filled", desc := "(J)[J" } : Jvm.MethodName) method_3_code (3 : Nat) (Option.some (Jvm.ClassFile.FieldType.array Jvm.ClassFile.FieldType.long)), Jvm.Cond.code ({ cls := "com/example/inexact_odds/inexactodds/language/Encoding", name := "encode", desc := "([I[JI)V" } : Jvm.MethodName) prog_37_method_3_code (5 : Nat) (Option.none : Option Jvm.ClassFile.FieldType), Jvm.Cond.code ({ cls := "com/example/inexact_odds/inexactodds/language/Encoding", name := "decode", desc := "([JI[I)V" } : Jvm.MethodName) prog_37_method_4_code (5 : Nat) (Option.none : Option Jvm.ClassFile.FieldType), Jvm.Cond.code ({ cls := "com/example/inexact_odds/inexactodds/language/EncodingEncodePinLaw", name := "outsideKept", desc := "([JIIJ)Z" } : Jvm.MethodName) method_4_code (5 : Nat) (Option.some Jvm.ClassFile.FieldType.boolean), Jvm.Cond.code ({ cls := "com/example/inexact_odds/inexactodds/language/EncodingEncodePinLaw", name := "ucmp", desc := "(JJ)I" } : Jvm.MethodName) method_5_code (8 : Nat) (Option.some Jvm.ClassFile.FieldType.int)]
set_option maxRecDepth 65536 in
theorem codes_eq : words1.filter isCode = codes1 := rfl
theorem w_codes : ∀ c ∈ words1.filter isCode, c.before args0 about1 = true := by
  rw [codes_eq]
  intro c hc
  simp only [codes1, List.mem_cons, List.not_mem_nil, or_false] at hc
  rcases hc with rfl | rfl | rfl | rfl | rfl | rfl | rfl | rfl | rfl | rfl | rfl | rfl | rfl | rfl
  · exact w_c0
  · exact w_c1
  · exact w_c2
  · exact w_c3
  · exact w_c4
  · exact w_c5
  · exact w_c6
  · exact w_c7
  · exact w_c8
  · exact w_c9
  · exact w_c10
  · exact w_c11
  · exact w_c12
  · exact w_c13
set_option maxRecDepth 65536 in
theorem w_t1 : (words1.take 24).all (fun c => isCode c || c.before args0 about1) = true := by decide +kernel
set_option maxRecDepth 65536 in
theorem w_t2 : ((words1.drop 24).take 24).all (fun c => isCode c || c.before args0 about1) = true := by decide +kernel
set_option maxRecDepth 65536 in
theorem w_t3 : (((words1.drop 24).drop 24).take 24).all (fun c => isCode c || c.before args0 about1) = true := by decide +kernel
set_option maxRecDepth 65536 in
theorem w_t4 : (((words1.drop 24).drop 24).drop 24).all (fun c => isCode c || c.before args0 about1) = true := by decide +kernel
theorem w_tables : (allAtoms (Jvm.Cond.code x code maxLocals ret :: tables_1)).before args0 about1 = true := by
  rw [allAtoms_all]
  show words1.all (fun c => c.before args0 about1) = true
  refine all_split ?_ w_codes
  rw [← List.take_append_drop 24 words1, List.all_append, w_t1, ← List.take_append_drop 24 (words1.drop 24), List.all_append, w_t2, ← List.take_append_drop 24 ((words1.drop 24).drop 24), List.all_append, w_t3, w_t4]
  rfl
set_option maxRecDepth 65536 in
theorem w_case : (Jvm.Cond.and given_1 narrow_1).before args0 about1 = true := by decide +kernel
theorem w_applies : (headSpec (Jvm.Cond.code x code maxLocals ret :: tables_1) room_1).applies x e0.platform about1 = true :=
  (Spec.applies_iff w_frames).mpr ⟨w_running, w_runnable, w_alone, w_named, w_hears, w_ripe, w_room, w_tables⟩
theorem atStart : AtStart classFile x code maxLocals ret World_1 tables_1 room_1 Calls_1 rest_1 Pre_1 launch0 p0 e0 about1 theMethod args0 below0 :=
  ⟨lists_1, trivial, launch0.admits_env _ _ _, launch0.least_env, fairChoices_fair.cas, fairChoices_fair.clock, w_frames, w_args, w_heap, w_applies, trivial, trivial, w_case⟩
end start1
theorem witness_1 : WitnessClaimed_1 := ⟨start1.p0, start1.e0, start1.about1, start1.theMethod, start1.args0, start1.below0, start1.atStart⟩
end Jvm.Pilot.@@N@@
