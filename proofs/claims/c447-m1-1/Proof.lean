import JvmDerived
import JvmDerived.Pilot.@@N@@Statement
import JvmDerived.Pilot.@@N@@Code
set_option linter.unusedVariables false
set_option linter.unusedSimpArgs false
namespace Jvm.RoadKit
open Sem ClassFile Op Lib Jvm.Stand Jvm.Free Jvm.LawKit
section New
variable {p : Program} {l : Launch} {e : Env} {R : Room} {s : State} {m : MethodId} {args : Array Value} {below : List Frame} {meth : Method} {c : Code} {T : State} {locs : List Loc} {cells slots : Nat}
theorem retI (X : Stand p l e R s m args below meth c T locs cells slots) (hx : p.tables.exec = Jvm.exec) {pc : Nat} {Ls : Array Slot} {z : Int32} {rest : List Value} (hret : meth.sig.returnType = some .int) (hd : decode c.code pc = .ok (.ireturn, 1)) {fs : List Frame}
    (hl : ∀ (f : JFrame) (acts : List Action), f.method = m → f.locked = none → f.entered = [] → (doReturn e (T.setTop f) acts (some (.int z))).1 = T.setFrames fs) : Steps p.tables e below (T.setTop (mkF m pc Ls (.int z :: rest))) (T.setFrames fs) := by
  have hm' : T.vm.method? m = some meth := X.method'
  have hn : narrow .int (.int z) = .int z := rfl
  show Steps p.tables e below (T.setTop { method := m, pc := pc, locals := Ls, stack := _ :: rest, locked := none }) _
  jvm_step X.here [X.here.top, hx, hd, hm', hret, hn]
  first | (intro acts; rw [hl _ acts rfl rfl rfl]) | rw [hl _ _ rfl rfl rfl]
  exact Steps.refl _
end New
end Jvm.RoadKit
namespace Jvm.Pilot.@@N@@
open Jvm Jvm.ClassFile Sem Op Lib Jvm.Free Jvm.Stand Jvm.LawKit Jvm.RoadKit Bundle Jvm.Pilot.@@N@@.Jvm.D
def AV (Z : State) (h : Heap) (a : Addr) (ty : FieldType) (n : Nat) (f : Nat → Value) : Prop := ∃ c : Cell, Arr Z h a c ty ∧ c.slots.size = n ∧ ∀ j, j < n → c.slots[j]? = some (f j) ∧ fits ty (f j) = true
def own_upd (f : Nat → Value) (k : Nat) (v : Value) : Nat → Value := fun j => if j = k then v else f j
section AVs
variable {Z : State} {h h' : Heap} {a b : Addr} {ty : FieldType} {n : Nat} {f : Nat → Value} {v : Value} {sl : Nat}
theorem AV.lt (A : AV Z h a ty n f) : a < h.size := by obtain ⟨c, A, -⟩ := A; exact A.lt
theorem AV.ext (A : AV Z h a ty n f) (E : Ext h h') : AV Z h' a ty n f := by obtain ⟨c, A, r⟩ := A; exact ⟨c, A.ext E, r⟩
theorem AV.other (A : AV Z h b ty n f) (W : Wr h h' a sl v) (q : b ≠ a) : AV Z h' b ty n f := by obtain ⟨c, A, r⟩ := A; exact ⟨c, A.other W q, r⟩
theorem AV.keep {ws : List Addr} (A : AV Z h a ty n f) (K : Keep h h' ws) (q : a ∉ ws) : AV Z h' a ty n f := by obtain ⟨c, A, r⟩ := A; exact ⟨c, ⟨K.2.1 a c A.1 q, A.2⟩, r⟩
theorem AV.new {k : ClassId} {z : Int32} (A : Arr Z h a (newA k ty z) ty) (hz : z.toNatClampNeg = n) (hf : fits ty (defaultValue ty) = true) : AV Z h a ty n (fun _ => defaultValue ty) := ⟨_, A, by rw [sz_new]; exact hz, fun j hj => ⟨by simp [newA, hz, hj], hf⟩⟩
theorem AV.set (A : AV Z h a ty n f) (W : Wr h h' a sl v) (hv : fits ty v = true) : AV Z h' a ty n (own_upd f sl v) := by
  obtain ⟨c, A, S, H⟩ := A
  refine ⟨_, A.same W, by rw [sz_set]; exact S, fun j hj => ?_⟩
  by_cases e : j = sl
  · subst e
    exact ⟨by simp [Cell.setSlot, own_upd, S, hj], by simp [own_upd, hv]⟩
  · have e2 : (c.setSlot sl v).slots[j]? = c.slots[j]? := Array.getElem?_setIfInBounds_ne (Ne.symm e)
    exact ⟨by rw [e2, own_upd, if_neg e]; exact (H j hj).1, by rw [own_upd, if_neg e]; exact (H j hj).2⟩
theorem AV.at (A : AV Z h a ty n f) {j : Int32} {k : Nat} (h0 : ¬ j < 0) (hj : j.toNatClampNeg = k) (hk : k < n) : ∃ c : Cell, Arr Z h a c ty ∧ ¬ (j < 0 ∨ c.slots.size ≤ j.toNatClampNeg) ∧ c.slots[j.toNatClampNeg]? = some (f k) := by
  obtain ⟨c, A, S, H⟩ := A
  exact ⟨c, A, fun q => q.elim h0 (fun r => by omega), by rw [hj]; exact (H k hk).1⟩
theorem AV.len (A : AV Z h a ty n f) : ∃ c : Cell, Arr Z h a c ty ∧ c.slots.size.toInt32 = n.toInt32 := by
  obtain ⟨c, A, S, H⟩ := A
  exact ⟨c, A, by rw [S]⟩
theorem AV.congr (A : AV Z h a ty n f) {g : Nat → Value} (e : ∀ j, j < n → f j = g j) : AV Z h a ty n g := by
  obtain ⟨c, A, S, H⟩ := A
  exact ⟨c, A, S, fun j hj => by rw [← e j hj]; exact H j hj⟩
theorem AV.fit (A : AV Z h a ty n f) {j : Nat} (hj : j < n) : fits ty (f j) = true := by
  obtain ⟨c, A, S, H⟩ := A
  exact (H j hj).2
end AVs
theorem own_notin1 {a b : Addr} (h : a ≠ b) : a ∉ [b] := fun q => h (List.mem_singleton.mp q)
theorem own_notin2 {a b c : Addr} (h : a ≠ b) (h2 : a ≠ c) : a ∉ [b, c] := fun q => by
  rcases List.mem_cons.mp q with r | r
  · exact h r
  · exact own_notin1 h2 r
theorem own_notin0 {a : Addr} : a ∉ ([] : List Addr) := nofun
theorem own_trans0 {ws : List Addr} {n : Nat} : ∀ x ∈ ([] : List Addr), x ∈ ws ∨ n ≤ x := nofun
theorem own_trans1 {ws : List Addr} {n : Nat} {a : Addr} (h : a ∈ ws ∨ n ≤ a) : ∀ x ∈ [a], x ∈ ws ∨ n ≤ x := fun x q => by cases List.mem_singleton.mp q; exact h
theorem own_trans2 {ws : List Addr} {n : Nat} {a b : Addr} (h : a ∈ ws ∨ n ≤ a) (h2 : b ∈ ws ∨ n ≤ b) : ∀ x ∈ [a, b], x ∈ ws ∨ n ≤ x := fun x q => by
  rcases List.mem_cons.mp q with r | r
  · cases r; exact h
  · cases List.mem_singleton.mp r; exact h2
theorem own_irem (x y : Int32) : x - (x / y) * y = x % y := by
  have b1 := Int32.le_toInt (x % y)
  have b2 := Int32.toInt_lt (x % y)
  rw [Int32.toInt_mod] at b1 b2
  rw [← Int32.toInt_inj, Int32.toInt_mod]
  have k := Int.tmod_def x.toInt y.toInt
  have m : (x - (x / y) * y).toInt = (x.toInt - x.toInt.tdiv y.toInt * y.toInt).bmod (2 ^ 32) := by
    simp only [Int32.toInt_sub, Int32.toInt_mul, Int32.toInt_div, Int.bmod_mul_bmod, Int.sub_bmod_bmod]
  rw [m, show x.toInt - x.toInt.tdiv y.toInt * y.toInt = x.toInt.tmod y.toInt by rw [k, Int.mul_comm]]
  exact Int.bmod_eq_of_le (by omega) (by omega)
def own_dig (r : Int32) : Int32 := ((48 : Int32) + (r - (r / (10 : Int32)) * (10 : Int32))).toInt8.toInt32
def own_pd (a : Nat) : Nat → Int32 → (Nat → Value) → (Nat → Value)
  | 0, _, f => f
  | k + 1, r, f => own_pd a k (r / (10 : Int32)) (own_upd f (a + k) (.int (nar .byte (own_dig r))))
def own_dv : Nat → Int32 → Int32
  | 0, r => r
  | k + 1, r => own_dv k (r / (10 : Int32))
theorem own_dv_toInt : ∀ (k : Nat) (r : Int32), 0 ≤ r.toInt → (own_dv k r).toInt = r.toInt / (10 : Int) ^ k ∧ 0 ≤ (own_dv k r).toInt
  | 0, r, h => by simp [own_dv, h]
  | k + 1, r, h => by
    have d := (c_idiv r (10 : Int32) 10 rfl (by decide)).1 h
    have h' : 0 ≤ (r / (10 : Int32)).toInt := by rw [d]; omega
    obtain ⟨e1, e2⟩ := own_dv_toInt k _ h'
    refine ⟨?_, e2⟩
    show (own_dv k (r / (10 : Int32))).toInt = _
    rw [e1, d, Int.ediv_ediv_of_nonneg (by decide), Int.pow_succ, Int.mul_comm]
theorem own_pd_at (a : Nat) : ∀ (k : Nat) (r : Int32) (f : Nat → Value) (j : Nat), own_pd a k r f j = if a ≤ j ∧ j < a + k then .int (nar .byte (own_dig (own_dv (a + k - 1 - j) r))) else f j
  | 0, r, f, j => by rw [own_pd, if_neg (by omega)]
  | k + 1, r, f, j => by
    rw [own_pd, own_pd_at a k]
    by_cases h : a ≤ j ∧ j < a + k
    · rw [if_pos h, if_pos (by omega)]
      rw [show a + (k + 1) - 1 - j = (a + k - 1 - j) + 1 by omega]
      rfl
    · rw [if_neg h]
      by_cases h2 : j = a + k
      · subst h2
        rw [if_pos (by omega), show a + (k + 1) - 1 - (a + k) = 0 by omega]
        simp [own_upd, own_dv]
      · rw [if_neg (by omega), own_upd, if_neg h2]
theorem own_nar (x : Int32) : nar .byte (x.toInt8.toInt32) = x.toInt8.toInt32 := by
  have := Jvm.Free.XT.narrow_b x
  simp only [nar]
  simpa using this
def own_p10 (k : Nat) : Int64 := Int64.ofNat (10 ^ k)
theorem own_p10_toInt : ∀ k : Fin 14, (own_p10 k.1).toInt = (10 : Int) ^ k.1 ∧ own_p10 k.1 ≠ -1 := by decide +kernel
theorem own_digit (v : Int32) (hv : 0 ≤ v.toInt) (k : Nat) (hk : k < 14) : own_dig (own_dv k v) = ((48 : Int32) + ((v.toInt64 / own_p10 k) - ((v.toInt64 / own_p10 k) / (10 : Int64)) * (10 : Int64)).toInt32).toInt8.toInt32 := by
  obtain ⟨p1, p2⟩ := own_p10_toInt ⟨k, hk⟩
  obtain ⟨e1, e2⟩ := own_dv_toInt k v hv
  have w := c_i2l v
  have q := (c_ldiv v.toInt64 (own_p10 k) _ p1 p2).1 (by rw [w]; exact hv)
  have q0 : 0 ≤ (v.toInt64 / own_p10 k).toInt := by rw [q, w]; rw [← e1]; exact e2
  have r := (c_lrem (v.toInt64 / own_p10 k) (10 : Int64) 10 rfl).1 q0
  have r2 := (c_irem (own_dv k v) (10 : Int32) 10 rfl).1 e2
  have e : ((v.toInt64 / own_p10 k) - ((v.toInt64 / own_p10 k) / (10 : Int64)) * (10 : Int64)).toInt32 = (own_dv k v) % (10 : Int32) := by
    rw [← Int32.toInt_inj, r2]
    have z := c_l2i ((v.toInt64 / own_p10 k) - ((v.toInt64 / own_p10 k) / (10 : Int64)) * (10 : Int64))
    have b1 := Int32.le_toInt ((v.toInt64 / own_p10 k) - ((v.toInt64 / own_p10 k) / (10 : Int64)) * (10 : Int64)).toInt32
    have b2 := Int32.toInt_lt ((v.toInt64 / own_p10 k) - ((v.toInt64 / own_p10 k) / (10 : Int64)) * (10 : Int64)).toInt32
    rw [r, q, w, ← e1] at z
    omega
  rw [e, own_dig, own_irem]
theorem own_pw : ∀ j, j < 14 → (own_upd (own_upd (own_upd (own_upd (own_upd (own_upd (own_upd (own_upd (own_upd (own_upd (own_upd (own_upd (own_upd (own_upd (fun _ => defaultValue .long) 0 (.long (1 : Int64))) 1 (.long (10 : Int64))) 2 (.long (100 : Int64))) 3 (.long (1000 : Int64))) 4 (.long (10000 : Int64))) 5 (.long (100000 : Int64))) 6 (.long (1000000 : Int64))) 7 (.long (10000000 : Int64))) 8 (.long (100000000 : Int64))) 9 (.long (1000000000 : Int64))) 10 (.long (10000000000 : Int64))) 11 (.long (100000000000 : Int64))) 12 (.long (1000000000000 : Int64))) 13 (.long (10000000000000 : Int64))) j = (fun j => Value.long (own_p10 j)) j := by decide +kernel
theorem own_at_b (p : Int32) : 0 ≤ (p &&& (3 : Int32)).toInt ∧ (p &&& (3 : Int32)).toInt ≤ 3 := c_and p 3 (by decide)
theorem own_wd_ne (a : Int32) (h : 0 ≤ a.toInt ∧ a.toInt ≤ 3) : ((15 : Int32) - a) ≠ 0 := fun e => by
  have q := c_isub (15 : Int32) a
  rw [e] at q
  have z : (0 : Int32).toInt = 0 := rfl
  have f : (15 : Int32).toInt = 15 := rfl
  omega
theorem own_wd_b (p a w : Int32) (h : 0 ≤ a.toInt ∧ a.toInt ≤ 3) (e : w = ((p &&& (2147483647 : Int32)) - ((p &&& (2147483647 : Int32)) / ((15 : Int32) - a)) * ((15 : Int32) - a))) : 0 ≤ w.toInt ∧ a.toInt + w.toInt ≤ 14 := by
  rw [own_irem] at e
  have q := c_isub (15 : Int32) a
  have f : (15 : Int32).toInt = 15 := rfl
  have b1 := Int32.le_toInt ((15 : Int32) - a)
  have b2 := Int32.toInt_lt ((15 : Int32) - a)
  have s : ((15 : Int32) - a).toInt = 15 - a.toInt := by omega
  have g := (c_and p (2147483647 : Int32) (by decide)).1
  have r := (c_irem (p &&& (2147483647 : Int32)) ((15 : Int32) - a) _ s).1 g
  rw [← e] at r
  have r1 := Int.emod_nonneg (p &&& (2147483647 : Int32)).toInt (show 15 - a.toInt ≠ 0 by omega)
  have r2 := Int.emod_lt_of_pos (p &&& (2147483647 : Int32)).toInt (show 0 < 15 - a.toInt by omega)
  omega
theorem own_dn (d : Int32) (a k : Nat) (hd : d.toInt = a + ((k + 1 : Nat) : Int) - 1) : (d + (-1 : Int32)).toInt = a + (k : Int) - 1 ∧ ¬ d < 0 ∧ d.toNatClampNeg = a + k := by
  have q := c_iadd d (-1 : Int32)
  have b1 := Int32.le_toInt (d + (-1 : Int32))
  have b2 := Int32.toInt_lt (d + (-1 : Int32))
  have b3 := Int32.toInt_lt d
  have m1 : (-1 : Int32).toInt = -1 := rfl
  have m0 : (0 : Int32).toInt = 0 := rfl
  refine ⟨by omega, by rw [Int32.lt_iff_toInt_lt]; omega, by simp only [Int32.toNatClampNeg]; omega⟩
theorem own_dlt (d p2 : Int32) (a k : Nat) (hat : p2.toInt = a) (hd : d.toInt = a + ((k + 1 : Nat) : Int) - 1) : ¬ d < p2 := by rw [Int32.lt_iff_toInt_lt]; omega
theorem own_dlt0 (d p2 : Int32) (a : Nat) (hat : p2.toInt = a) (hd : d.toInt = a + ((0 : Nat) : Int) - 1) : d < p2 := by rw [Int32.lt_iff_toInt_lt]; omega
theorem own_d10 (r : Int32) (h : 0 ≤ r.toInt) : 0 ≤ (r / (10 : Int32)).toInt := by
  rw [(c_idiv r (10 : Int32) 10 rfl (by decide)).1 h]; omega
theorem own_first (p2 p4 : Int32) (a w : Nat) (h1 : p2.toInt = a) (h2 : p4.toInt = w) (h : a + w ≤ 14) : ((p2 + p4) - (1 : Int32)).toInt = a + (w : Int) - 1 := by
  have q1 := c_iadd p2 p4
  have q2 := c_isub (p2 + p4) (1 : Int32)
  have q3 := Int32.le_toInt (p2 + p4)
  have q4 := Int32.toInt_lt (p2 + p4)
  have q5 := Int32.le_toInt ((p2 + p4) - (1 : Int32))
  have q6 := Int32.toInt_lt ((p2 + p4) - (1 : Int32))
  have q7 : (1 : Int32).toInt = 1 := rfl
  omega
theorem own_sum2 (a w : Int32) (an wn : Nat) (h1 : a.toInt = an) (h2 : w.toInt = wn) (h : an + wn ≤ 14) : (a + w).toInt = an + wn := by
  have q1 := c_iadd a w
  have q2 := Int32.le_toInt (a + w)
  have q3 := Int32.toInt_lt (a + w)
  omega
theorem own_H1 (a w vv ff x : Int32) (an wn i : Nat) (h1 : a.toInt = an) (hs : (a + w).toInt = an + wn) (hxi : x.toInt = i) (h : x < a ∨ ¬ x < (a + w)) : (own_pd an wn vv (fun _ => .int ff)) i = .int ff := by
  rw [own_pd_at, if_neg]
  rw [Int32.lt_iff_toInt_lt, Int32.lt_iff_toInt_lt, hs, hxi, h1] at h
  omega
theorem own_H2 (a w vv ff x : Int32) (an wn i : Nat) (h1 : a.toInt = an) (hs : (a + w).toInt = an + wn) (hN : an + wn ≤ 14) (hv : 0 ≤ vv.toInt) (hxi : x.toInt = i) (g1 : ¬ x < a) (g2 : x < (a + w)) :
    ∃ (kk : Nat) (pw : Int64), kk < 14 ∧ ¬ (((a + w) - (1 : Int32)) - x) < 0 ∧ (((a + w) - (1 : Int32)) - x).toNatClampNeg = kk ∧ (fun j => Value.long (own_p10 j)) kk = .long pw ∧ pw ≠ 0 ∧ (own_pd an wn vv (fun _ => .int ff)) i = .int ((48 : Int32) + ((vv.toInt64 / pw) - ((vv.toInt64 / pw) / (10 : Int64)) * (10 : Int64)).toInt32).toInt8.toInt32 := by
  rw [Int32.lt_iff_toInt_lt, hxi, h1] at g1
  rw [Int32.lt_iff_toInt_lt, hs, hxi] at g2
  have q1 := c_isub (a + w) (1 : Int32)
  have q2 := c_isub ((a + w) - (1 : Int32)) x
  have q3 := Int32.le_toInt ((a + w) - (1 : Int32))
  have q4 := Int32.toInt_lt ((a + w) - (1 : Int32))
  have q5 := Int32.le_toInt (((a + w) - (1 : Int32)) - x)
  have q6 := Int32.toInt_lt (((a + w) - (1 : Int32)) - x)
  have q7 : (1 : Int32).toInt = 1 := rfl
  have q8 : (0 : Int32).toInt = 0 := rfl
  have e : (((a + w) - (1 : Int32)) - x).toInt = ((an + wn - 1 - i : Nat) : Int) := by omega
  refine ⟨an + wn - 1 - i, own_p10 (an + wn - 1 - i), by omega, by rw [Int32.lt_iff_toInt_lt]; omega, by simp only [Int32.toNatClampNeg]; omega, rfl, fun z => ?_, ?_⟩
  · have := (own_p10_toInt ⟨an + wn - 1 - i, by omega⟩).1
    simp only [z] at this
    have p : (0 : Int) < 10 ^ (an + wn - 1 - i) := Int.pow_pos (by decide)
    rw [← this] at p
    exact absurd p (by decide)
  · rw [own_pd_at, if_pos (by omega), own_dig, own_nar, ← own_dig, own_digit vv hv _ (by omega)]
theorem own_nat (x : Int32) (h : 0 ≤ x.toInt) : ∃ n : Nat, x.toInt = n := ⟨x.toInt.toNat, by omega⟩
theorem own_fill (ff p4 : Int32) (h : ff = p4.toInt8.toInt32) : ∀ j, j < 14 → (own_upd (own_upd (own_upd (own_upd (own_upd (own_upd (own_upd (own_upd (own_upd (own_upd (own_upd (own_upd (own_upd (own_upd (fun _ => defaultValue .byte) 0 (.int (nar .byte ff))) 1 (.int (nar .byte ff))) 2 (.int (nar .byte ff))) 3 (.int (nar .byte ff))) 4 (.int (nar .byte ff))) 5 (.int (nar .byte ff))) 6 (.int (nar .byte ff))) 7 (.int (nar .byte ff))) 8 (.int (nar .byte ff))) 9 (.int (nar .byte ff))) 10 (.int (nar .byte ff))) 11 (.int (nar .byte ff))) 12 (.int (nar .byte ff))) 13 (.int (nar .byte ff))) j = (fun _ => Value.int ff) j := by
  intro j hj
  have en : nar .byte ff = ff := by rw [h]; exact own_nar p4
  have c : j = 0 ∨ j = 1 ∨ j = 2 ∨ j = 3 ∨ j = 4 ∨ j = 5 ∨ j = 6 ∨ j = 7 ∨ j = 8 ∨ j = 9 ∨ j = 10 ∨ j = 11 ∨ j = 12 ∨ j = 13 := by omega
  rcases c with rfl | rfl | rfl | rfl | rfl | rfl | rfl | rfl | rfl | rfl | rfl | rfl | rfl | rfl <;> simp [own_upd, en]
theorem own_v_b (p : Int32) : 0 ≤ (p &&& (2147483647 : Int32)).toInt := (c_and p (2147483647 : Int32) (by decide)).1
theorem d1_10 : decode prog_1_method_8_code 10 = .ok (.iload 5, 2) := by decide +kernel
theorem d1_12 : decode prog_1_method_8_code 12 = .ok (.iload_n 1, 1) := by decide +kernel
theorem d1_13 : decode prog_1_method_8_code 13 = .ok (.if_icmp .lt 29, 3) := by decide +kernel
theorem d1_16 : decode prog_1_method_8_code 16 = .ok (.aload_n 0, 1) := by decide +kernel
theorem d1_17 : decode prog_1_method_8_code 17 = .ok (.iload 5, 2) := by decide +kernel
theorem d1_19 : decode prog_1_method_8_code 19 = .ok (.bipush 48, 2) := by decide +kernel
theorem d1_21 : decode prog_1_method_8_code 21 = .ok (.iload 4, 2) := by decide +kernel
theorem d1_23 : decode prog_1_method_8_code 23 = .ok (.bipush 10, 2) := by decide +kernel
theorem d1_25 : decode prog_1_method_8_code 25 = .ok (.irem, 1) := by decide +kernel
theorem d1_26 : decode prog_1_method_8_code 26 = .ok (.iadd, 1) := by decide +kernel
theorem d1_27 : decode prog_1_method_8_code 27 = .ok (.i2b, 1) := by decide +kernel
theorem d1_28 : decode prog_1_method_8_code 28 = .ok (.bastore, 1) := by decide +kernel
theorem d1_29 : decode prog_1_method_8_code 29 = .ok (.iload 4, 2) := by decide +kernel
theorem d1_31 : decode prog_1_method_8_code 31 = .ok (.bipush 10, 2) := by decide +kernel
theorem d1_33 : decode prog_1_method_8_code 33 = .ok (.idiv, 1) := by decide +kernel
theorem d1_34 : decode prog_1_method_8_code 34 = .ok (.istore 4, 2) := by decide +kernel
theorem d1_36 : decode prog_1_method_8_code 36 = .ok (.iinc 5 (-1), 3) := by decide +kernel
theorem d1_39 : decode prog_1_method_8_code 39 = .ok (.goto (-29), 3) := by decide +kernel
set_option maxRecDepth 65536 in
set_option maxHeartbeats 40000000 in
theorem lp_pd {p : Program} {l : Launch} {e : Env} {R : Room} {s : State} {m : MethodId} {args : Array Value} {below : List Frame} {meth : Method} {c : Code} {Z : State} {a0 : Array Value} {n0 : Nat} {cells slots : Nat} (a1 : Addr) (p2 p3 p4 : Int32) (hx : p.tables.exec = Jvm.exec) (hZ : Z.Warmed39 s.vm) (hw : ∀ d ∈ tables_1, d.before a0 Z = true) (hby : c.code = prog_1_method_8_code) (hml : c.maxLocals = 6) (hown : s.vm.findClass "com/example/travessia/travessia/core/Bytes" = some m.cls) (ga : n0 ≤ a1) (at_ N : Nat) (hat : p2.toInt = at_) :
    ∀ (k : Nat) {T0 : State} {locs : List Loc} {h0 : Heap} {f : Nat → Value} (r d : Int32) (X0 : Stand p l e R s m args below meth c T0 locs cells slots) (e0 : T0.heap = h0) (N0 : Fr n0 locs) (V0 : AV Z h0 a1 .byte N f) (hd : d.toInt = at_ + k - 1) (hN : at_ + k ≤ N) (hr : 0 ≤ r.toInt),
    ∃ (T' : State) (h' : Heap) (L' : List Loc) (r' d' : Int32), Stand p l e R s m args below meth c T' L' cells slots ∧ T'.heap = h' ∧ Fr n0 L' ∧ Keep h0 h' [a1] ∧ AV Z h' a1 .byte N (own_pd at_ k r f) ∧ ∀ t, Steps p.tables e below (T'.setTop (mkF m 42 #[.val (.ref a1), .val (.int p2), .val (.int p3), .val (.int p4), .val (.int r'), .val (.int d')] [])) t → Steps p.tables e below (T0.setTop (mkF m 10 #[.val (.ref a1), .val (.int p2), .val (.int p3), .val (.int p4), .val (.int r), .val (.int d)] [])) t := by
  intro k
  induction k with
  | zero =>
    intro T0 locs h0 f r d X0 e0 N0 V0 hd hN hr
    have R1 : ∀ t, Steps p.tables e below (T0.setTop (mkF m 42 #[.val (.ref a1), .val (.int p2), .val (.int p3), .val (.int p4), .val (.int r), .val (.int d)] [])) t → Steps p.tables e below (T0.setTop (mkF m 10 #[.val (.ref a1), .val (.int p2), .val (.int p3), .val (.int p4), .val (.int r), .val (.int d)] [])) t := by
      intro t kt
      refine (fun (t : State) (k : Steps p.tables e below (T0.setTop (mkF m 10 #[.val (.ref a1), .val (.int p2), .val (.int p3), .val (.int p4), .val (.int r), .val (.int d)] [])) t) => k) _ ?_
      show Steps p.tables e below (T0.setTop (mkF m 10 #[.val (.ref a1), .val (.int p2), .val (.int p3), .val (.int p4), .val (.int r), .val (.int d)] [])) _
      refine XS.iload X0.here hx rfl (hb hby d1_10) rfl ?_
      show Steps p.tables e below (T0.setTop (mkF m 12 #[.val (.ref a1), .val (.int p2), .val (.int p3), .val (.int p4), .val (.int r), .val (.int d)] [(.int d)])) _
      refine XS.iloadN X0.here hx rfl (hb hby d1_12) rfl ?_
      show Steps p.tables e below (T0.setTop (mkF m 13 #[.val (.ref a1), .val (.int p2), .val (.int p3), .val (.int p4), .val (.int r), .val (.int d)] [(.int p2), (.int d)])) _
      refine XS.icmpYes X0.here hx rfl (pc0 := 13) (pc' := 42) rfl (hb hby d1_13) rfl (tlt (own_dlt0 d p2 at_ hat hd : d < p2)).1 (by decide) (by decide) ?_
      exact kt
    exact ⟨T0, h0, locs, r, d, X0, e0, N0, Keep.refl _ _, V0, R1⟩
  | succ k ih =>
    intro T0 locs h0 f r d X0 e0 N0 V0 hd hN hr
    have Z0 : n0 ≤ h0.size := Nat.le_trans ga (Nat.le_of_lt V0.lt)
    obtain ⟨hd1, h0d, hdn⟩ := own_dn d at_ k hd
    have R2 : ∀ t, Steps p.tables e below (T0.setTop (mkF m 28 #[.val (.ref a1), .val (.int p2), .val (.int p3), .val (.int p4), .val (.int r), .val (.int d)] [(.int (((48 : Int32) + (r - (r / (10 : Int32)) * (10 : Int32))).toInt8.toInt32)), (.int d), (.ref a1)])) t → Steps p.tables e below (T0.setTop (mkF m 10 #[.val (.ref a1), .val (.int p2), .val (.int p3), .val (.int p4), .val (.int r), .val (.int d)] [])) t := by
      intro t kt
      refine (fun (t : State) (k : Steps p.tables e below (T0.setTop (mkF m 10 #[.val (.ref a1), .val (.int p2), .val (.int p3), .val (.int p4), .val (.int r), .val (.int d)] [])) t) => k) _ ?_
      show Steps p.tables e below (T0.setTop (mkF m 10 #[.val (.ref a1), .val (.int p2), .val (.int p3), .val (.int p4), .val (.int r), .val (.int d)] [])) _
      refine XS.iload X0.here hx rfl (hb hby d1_10) rfl ?_
      show Steps p.tables e below (T0.setTop (mkF m 12 #[.val (.ref a1), .val (.int p2), .val (.int p3), .val (.int p4), .val (.int r), .val (.int d)] [(.int d)])) _
      refine XS.iloadN X0.here hx rfl (hb hby d1_12) rfl ?_
      show Steps p.tables e below (T0.setTop (mkF m 13 #[.val (.ref a1), .val (.int p2), .val (.int p3), .val (.int p4), .val (.int r), .val (.int d)] [(.int p2), (.int d)])) _
      refine XS.icmpNo X0.here hx rfl (hb hby d1_13) rfl (flt (own_dlt d p2 at_ k hat hd : ¬ (d < p2))).1 ?_
      show Steps p.tables e below (T0.setTop (mkF m 16 #[.val (.ref a1), .val (.int p2), .val (.int p3), .val (.int p4), .val (.int r), .val (.int d)] [])) _
      refine XS.aloadN X0.here hx rfl (hb hby d1_16) rfl rfl ?_
      show Steps p.tables e below (T0.setTop (mkF m 17 #[.val (.ref a1), .val (.int p2), .val (.int p3), .val (.int p4), .val (.int r), .val (.int d)] [(.ref a1)])) _
      refine XS.iload X0.here hx rfl (hb hby d1_17) rfl ?_
      show Steps p.tables e below (T0.setTop (mkF m 19 #[.val (.ref a1), .val (.int p2), .val (.int p3), .val (.int p4), .val (.int r), .val (.int d)] [(.int d), (.ref a1)])) _
      refine XS.bipush X0.here hx rfl (hb hby d1_19) ?_
      show Steps p.tables e below (T0.setTop (mkF m 21 #[.val (.ref a1), .val (.int p2), .val (.int p3), .val (.int p4), .val (.int r), .val (.int d)] [(.int (48 : Int32)), (.int d), (.ref a1)])) _
      refine XS.iload X0.here hx rfl (hb hby d1_21) rfl ?_
      show Steps p.tables e below (T0.setTop (mkF m 23 #[.val (.ref a1), .val (.int p2), .val (.int p3), .val (.int p4), .val (.int r), .val (.int d)] [(.int r), (.int (48 : Int32)), (.int d), (.ref a1)])) _
      refine XS.bipush X0.here hx rfl (hb hby d1_23) ?_
      show Steps p.tables e below (T0.setTop (mkF m 25 #[.val (.ref a1), .val (.int p2), .val (.int p3), .val (.int p4), .val (.int r), .val (.int d)] [(.int (10 : Int32)), (.int r), (.int (48 : Int32)), (.int d), (.ref a1)])) _
      refine XS.irem X0.here hx rfl (hb hby d1_25) rfl (by decide) ?_
      show Steps p.tables e below (T0.setTop (mkF m 26 #[.val (.ref a1), .val (.int p2), .val (.int p3), .val (.int p4), .val (.int r), .val (.int d)] [(.int (r - (r / (10 : Int32)) * (10 : Int32))), (.int (48 : Int32)), (.int d), (.ref a1)])) _
      refine XS.iadd X0.here hx rfl (hb hby d1_26) rfl ?_
      show Steps p.tables e below (T0.setTop (mkF m 27 #[.val (.ref a1), .val (.int p2), .val (.int p3), .val (.int p4), .val (.int r), .val (.int d)] [(.int ((48 : Int32) + (r - (r / (10 : Int32)) * (10 : Int32)))), (.int d), (.ref a1)])) _
      refine XS.i2b X0.here hx rfl (hb hby d1_27) rfl ?_
      exact kt
    obtain ⟨cl3, Ar3, hin3, -⟩ := V0.at (j := d) (k := (at_ + k)) h0d hdn (Nat.lt_of_succ_le hN)
    obtain ⟨T4, h4, X4, e4, W4, st4⟩ := stB X0 hx hZ e0 Ar3 (j := d) hin3 (g := (mkF m 28 #[.val (.ref a1), .val (.int p2), .val (.int p3), .val (.int p4), .val (.int r), .val (.int d)] [(.int (((48 : Int32) + (r - (r / (10 : Int32)) * (10 : Int32))).toInt8.toInt32)), (.int d), (.ref a1)])) rfl rfl (hb hby d1_28)
    have N4 := Fr.snoc X4 N0 ga
    rw [show (d : Int32).toNatClampNeg = (at_ + k) from hdn] at W4
    have V_4 := V0.set W4 (fits_nar_byte _)
    have Zs4 : n0 ≤ h4.size := Nat.le_trans Z0 (Keep.of_wr W4).1
    have Kw4 : Keep h0 h4 [a1] := Keep.wr (Keep.refl h0 [a1]) W4 (Or.inl (List.mem_of_getElem? (i := 0) rfl))
    have R5 : ∀ t, Steps p.tables e below (T4.setTop (mkF m 10 #[.val (.ref a1), .val (.int p2), .val (.int p3), .val (.int p4), .val (.int (r / (10 : Int32))), .val (.int (d + (-1 : Int32)))] [])) t → Steps p.tables e below (T0.setTop (mkF m 10 #[.val (.ref a1), .val (.int p2), .val (.int p3), .val (.int p4), .val (.int r), .val (.int d)] [])) t := by
      intro t kt
      refine R2 _ ?_
      refine st4 _ ?_
      show Steps p.tables e below (T4.setTop (mkF m 29 #[.val (.ref a1), .val (.int p2), .val (.int p3), .val (.int p4), .val (.int r), .val (.int d)] [])) _
      refine XS.iload X4.here hx rfl (hb hby d1_29) rfl ?_
      show Steps p.tables e below (T4.setTop (mkF m 31 #[.val (.ref a1), .val (.int p2), .val (.int p3), .val (.int p4), .val (.int r), .val (.int d)] [(.int r)])) _
      refine XS.bipush X4.here hx rfl (hb hby d1_31) ?_
      show Steps p.tables e below (T4.setTop (mkF m 33 #[.val (.ref a1), .val (.int p2), .val (.int p3), .val (.int p4), .val (.int r), .val (.int d)] [(.int (10 : Int32)), (.int r)])) _
      refine XS.idiv X4.here hx rfl (hb hby d1_33) rfl (by decide) ?_
      show Steps p.tables e below (T4.setTop (mkF m 34 #[.val (.ref a1), .val (.int p2), .val (.int p3), .val (.int p4), .val (.int r), .val (.int d)] [(.int (r / (10 : Int32)))])) _
      refine XS.istore X4.here hx rfl (hb hby d1_34) rfl (l' := #[.val (.ref a1), .val (.int p2), .val (.int p3), .val (.int p4), .val (.int (r / (10 : Int32))), .val (.int d)]) rfl ?_
      show Steps p.tables e below (T4.setTop (mkF m 36 #[.val (.ref a1), .val (.int p2), .val (.int p3), .val (.int p4), .val (.int (r / (10 : Int32))), .val (.int d)] [])) _
      refine XS.iinc X4.here hx rfl (hb hby d1_36) rfl (l' := #[.val (.ref a1), .val (.int p2), .val (.int p3), .val (.int p4), .val (.int (r / (10 : Int32))), .val (.int (d + (-1 : Int32)))]) rfl ?_
      show Steps p.tables e below (T4.setTop (mkF m 39 #[.val (.ref a1), .val (.int p2), .val (.int p3), .val (.int p4), .val (.int (r / (10 : Int32))), .val (.int (d + (-1 : Int32)))] [])) _
      refine XS.goto X4.here hx rfl (pc0 := 39) (pc' := 10) rfl (hb hby d1_39) (by decide) (by decide) ?_
      exact kt
    obtain ⟨T', h', L', r', d', X', e', N', K', V', st'⟩ := ih (r / (10 : Int32)) (d + (-1 : Int32)) X4 e4 N4 V_4 hd1 (Nat.le_trans (Nat.le_succ _) hN) (own_d10 r hr)
    exact ⟨T', h', L', r', d', X', e', N', Keep.trans Kw4 K' (own_trans1 (Or.inl (List.mem_of_getElem? (i := 0) rfl))), V', fun t q => R5 _ (st' t q)⟩
theorem pn_0 : plainName "com/example/travessia/travessia/core/Bytes" = true := by first | (simp [plainName, overriddenIn]; done) | decide +kernel
theorem d1_0 : decode prog_1_method_8_code 0 = .ok (.iload_n 2, 1) := by decide +kernel
theorem d1_1 : decode prog_1_method_8_code 1 = .ok (.istore 4, 2) := by decide +kernel
theorem d1_3 : decode prog_1_method_8_code 3 = .ok (.iload_n 1, 1) := by decide +kernel
theorem d1_4 : decode prog_1_method_8_code 4 = .ok (.iload_n 3, 1) := by decide +kernel
theorem d1_5 : decode prog_1_method_8_code 5 = .ok (.iadd, 1) := by decide +kernel
theorem d1_6 : decode prog_1_method_8_code 6 = .ok (.iconst 1, 1) := by decide +kernel
theorem d1_7 : decode prog_1_method_8_code 7 = .ok (.isub, 1) := by decide +kernel
theorem d1_8 : decode prog_1_method_8_code 8 = .ok (.istore 5, 2) := by decide +kernel
theorem d1_42 : decode prog_1_method_8_code 42 = .ok (.return_, 1) := by decide +kernel
theorem ef_rm_pd (m : MethodId) (a1 : Addr) (p2 : Int32) (p3 : Int32) (p4 : Int32) : entryFrame m #[(.ref a1), (.int p2), (.int p3), (.int p4)] 6 = mkF m 0 #[.val (.ref a1), .val (.int p2), .val (.int p3), .val (.int p4), .unset, .unset] [] := by first | (simp [entryFrame, mkF, argsToLocals, Value.category]; done) | rfl
def Q_rm_pd (Z : State) (a1 : Addr) (p2 : Int32) (p3 : Int32) (p4 : Int32) (at_ : Nat) (wn : Nat) (f : Nat → Value) (h0 : Heap) (n0 : Nat) (v : Option Value) (h : Heap) (L : List Loc) : Prop := v = none ∧ Fr n0 L ∧ Keep h0 h [a1] ∧ AV Z h a1 .byte 14 (own_pd at_ wn p3 f)
set_option maxRecDepth 65536 in
set_option maxHeartbeats 40000000 in
theorem rm_pd (l : Launch) (Z : State) (a0 : Array Value) (hw : ∀ d ∈ tables_1, d.before a0 Z = true) (ws : List Jvm.Cond) (a1 : Addr) (p2 : Int32) (p3 : Int32) (p4 : Int32) (at_ : Nat) (wn : Nat) (f : Nat → Value) (h0 : Heap) (n0 : Nat) (Z0 : n0 ≤ h0.size) (V0 : AV Z h0 a1 .byte 14 f) (ga : n0 ≤ a1) (hat : p2.toInt = at_) (hwn : p4.toInt = wn) (hN : at_ + wn ≤ 14) (hr : 0 ≤ p3.toInt) :
    MetFree l (⟨"com/example/travessia/travessia/core/Bytes", "putDigits", "([BIII)V"⟩ : MethodName) (head1 (Jvm.Cond.code (⟨"com/example/travessia/travessia/core/Bytes", "putDigits", "([BIII)V"⟩ : MethodName) prog_1_method_8_code 6 none :: ws) ({ frames := 0, cells := 0, slots := 0, locals := 0 } : Room)) (fun a U => a = #[(.ref a1), (.int p2), (.int p3), (.int p4)] ∧ Z.Warmed39 U.vm ∧ U.heap = h0) (fun _ _ _ _ _ => True) (fun _ U o U' => ∃ v L, o = .returned v ∧ Q_rm_pd Z a1 p2 p3 p4 at_ wn f h0 n0 v U'.heap L ∧ FrameEnd U o U' L ({ frames := 0, cells := 0, slots := 0, locals := 0 } : Room).cells ({ frames := 0, cells := 0, slots := 0, locals := 0 } : Room).slots) := by
  refine MetFree.of_bodySF (plainFor_of_name pn_0) hisR ?_
  intro p e s m args below meth c s₁ Bd hml0 hP hK
  obtain ⟨rfl, hZ, hh⟩ := hP
  have hx := Bd.exec
  have hby := Bd.bytes
  have hml : c.maxLocals = 6 := hml0
  have hown : s.vm.findClass "com/example/travessia/travessia/core/Bytes" = some m.cls := findClass_of_methodNamed Bd.named
  have hnm := (name_of_methodNamed Bd.named Bd.method).1
  have X0 : Stand p l e ({ frames := 0, cells := 0, slots := 0, locals := 0 } : Room) s m #[(.ref a1), (.int p2), (.int p3), (.int p4)] below meth c s₁ [] 0 0 := Stand.of_body Bd
  have e0 : s₁.heap = h0 := by rw [← hh, Bd.state]; rfl
  have N0 := Fr.nil n0
  have pre0 : ∀ t, Steps p.tables e below (s₁.setTop (mkF m 0 #[.val (.ref a1), .val (.int p2), .val (.int p3), .val (.int p4), .unset, .unset] [])) t → Steps p.tables e below (s₁.setTop (entryFrame m #[(.ref a1), (.int p2), (.int p3), (.int p4)] 6)) t := fun t k => castTop (ef_rm_pd m a1 p2 p3 p4) k
  have pre00 : ∀ t, Steps p.tables e below (s₁.setTop (mkF m 0 #[.val (.ref a1), .val (.int p2), .val (.int p3), .val (.int p4), .unset, .unset] [])) t → Steps p.tables e below (s₁.setTop (mkF m 0 #[.val (.ref a1), .val (.int p2), .val (.int p3), .val (.int p4), .unset, .unset] [])) t := fun _ k => k
  have R6 : ∀ t, Steps p.tables e below (s₁.setTop (mkF m 10 #[.val (.ref a1), .val (.int p2), .val (.int p3), .val (.int p4), .val (.int p3), .val (.int ((p2 + p4) - (1 : Int32)))] [])) t → Steps p.tables e below (s₁.setTop (mkF m 0 #[.val (.ref a1), .val (.int p2), .val (.int p3), .val (.int p4), .unset, .unset] [])) t := by
    intro t kt
    refine pre00 _ ?_
    show Steps p.tables e below (s₁.setTop (mkF m 0 #[.val (.ref a1), .val (.int p2), .val (.int p3), .val (.int p4), .unset, .unset] [])) _
    refine XS.iloadN X0.here hx rfl (hb hby d1_0) rfl ?_
    show Steps p.tables e below (s₁.setTop (mkF m 1 #[.val (.ref a1), .val (.int p2), .val (.int p3), .val (.int p4), .unset, .unset] [(.int p3)])) _
    refine XS.istore X0.here hx rfl (hb hby d1_1) rfl (l' := #[.val (.ref a1), .val (.int p2), .val (.int p3), .val (.int p4), .val (.int p3), .unset]) rfl ?_
    show Steps p.tables e below (s₁.setTop (mkF m 3 #[.val (.ref a1), .val (.int p2), .val (.int p3), .val (.int p4), .val (.int p3), .unset] [])) _
    refine XS.iloadN X0.here hx rfl (hb hby d1_3) rfl ?_
    show Steps p.tables e below (s₁.setTop (mkF m 4 #[.val (.ref a1), .val (.int p2), .val (.int p3), .val (.int p4), .val (.int p3), .unset] [(.int p2)])) _
    refine XS.iloadN X0.here hx rfl (hb hby d1_4) rfl ?_
    show Steps p.tables e below (s₁.setTop (mkF m 5 #[.val (.ref a1), .val (.int p2), .val (.int p3), .val (.int p4), .val (.int p3), .unset] [(.int p4), (.int p2)])) _
    refine XS.iadd X0.here hx rfl (hb hby d1_5) rfl ?_
    show Steps p.tables e below (s₁.setTop (mkF m 6 #[.val (.ref a1), .val (.int p2), .val (.int p3), .val (.int p4), .val (.int p3), .unset] [(.int (p2 + p4))])) _
    refine XS.iconst X0.here hx rfl (hb hby d1_6) ?_
    show Steps p.tables e below (s₁.setTop (mkF m 7 #[.val (.ref a1), .val (.int p2), .val (.int p3), .val (.int p4), .val (.int p3), .unset] [(.int (1 : Int32)), (.int (p2 + p4))])) _
    refine XS.isub X0.here hx rfl (hb hby d1_7) rfl ?_
    show Steps p.tables e below (s₁.setTop (mkF m 8 #[.val (.ref a1), .val (.int p2), .val (.int p3), .val (.int p4), .val (.int p3), .unset] [(.int ((p2 + p4) - (1 : Int32)))])) _
    refine XS.istore X0.here hx rfl (hb hby d1_8) rfl (l' := #[.val (.ref a1), .val (.int p2), .val (.int p3), .val (.int p4), .val (.int p3), .val (.int ((p2 + p4) - (1 : Int32)))]) rfl ?_
    exact kt
  obtain ⟨T7, h7, L7, r7, d7, X7, e7, N7, K7, V7, st7⟩ := lp_pd a1 p2 p3 p4 hx hZ hw hby hml hown ga at_ 14 hat wn p3 ((p2 + p4) - (1 : Int32)) X0 e0 N0 V0 (own_first p2 p4 at_ wn hat hwn hN) hN hr
  have R8 : ∀ t, Steps p.tables e below (T7.setTop (mkF m 42 #[.val (.ref a1), .val (.int p2), .val (.int p3), .val (.int p4), .val (.int r7), .val (.int d7)] [])) t → Steps p.tables e below (s₁.setTop (mkF m 0 #[.val (.ref a1), .val (.int p2), .val (.int p3), .val (.int p4), .unset, .unset] [])) t := by
    intro t kt
    refine R6 _ ?_
    refine st7 _ ?_
    exact kt
  obtain ⟨fs, hr, hrun, hended, hW, hsame⟩ := X7.leave (v := none) (fun _ => rfl)
  refine ⟨_, _, pre0 _ (R8 _ ?_), hrun, hended, _, _, rfl, ?_, ⟨_, rfl⟩, hW, hsame.mono (by decide) (by decide)⟩
  · exact X7.returnOut hx Bd.returns (hb hby d1_42) hr
  · show Q_rm_pd Z a1 p2 p3 p4 at_ wn f h0 n0 _ T7.heap _
    rw [e7]
    exact ⟨rfl, N7, K7, V7⟩
theorem pn_1 : plainName "com/example/travessia/travessia/core/BytesPutDigitsPinLaw" = true := by first | (simp [plainName, overriddenIn]; done) | decide +kernel
theorem d2_0 : decode method_3_code 0 = .ok (.iload_n 1, 1) := by decide +kernel
theorem d2_1 : decode method_3_code 1 = .ok (.iload_n 2, 1) := by decide +kernel
theorem d2_2 : decode method_3_code 2 = .ok (.if_icmp .lt 10, 3) := by decide +kernel
theorem d2_12 : decode method_3_code 12 = .ok (.aload_n 0, 1) := by decide +kernel
theorem d2_13 : decode method_3_code 13 = .ok (.iload_n 1, 1) := by decide +kernel
theorem d2_14 : decode method_3_code 14 = .ok (.baload, 1) := by decide +kernel
theorem d2_15 : decode method_3_code 15 = .ok (.iload 6, 2) := by decide +kernel
theorem d2_17 : decode method_3_code 17 = .ok (.if_icmp .ne 7, 3) := by decide +kernel
theorem d2_20 : decode method_3_code 20 = .ok (.iconst 1, 1) := by decide +kernel
theorem d2_21 : decode method_3_code 21 = .ok (.goto 4, 3) := by decide +kernel
theorem d2_25 : decode method_3_code 25 = .ok (.ireturn, 1) := by decide +kernel
theorem d2_5 : decode method_3_code 5 = .ok (.iload_n 1, 1) := by decide +kernel
theorem d2_6 : decode method_3_code 6 = .ok (.iload_n 2, 1) := by decide +kernel
theorem d2_7 : decode method_3_code 7 = .ok (.iload_n 3, 1) := by decide +kernel
theorem d2_8 : decode method_3_code 8 = .ok (.iadd, 1) := by decide +kernel
theorem d2_9 : decode method_3_code 9 = .ok (.if_icmp .lt 17, 3) := by decide +kernel
theorem d2_26 : decode method_3_code 26 = .ok (.iload_n 2, 1) := by decide +kernel
theorem d2_27 : decode method_3_code 27 = .ok (.iload_n 3, 1) := by decide +kernel
theorem d2_28 : decode method_3_code 28 = .ok (.iadd, 1) := by decide +kernel
theorem d2_29 : decode method_3_code 29 = .ok (.iconst 1, 1) := by decide +kernel
theorem d2_30 : decode method_3_code 30 = .ok (.isub, 1) := by decide +kernel
theorem d2_31 : decode method_3_code 31 = .ok (.iload_n 1, 1) := by decide +kernel
theorem d2_32 : decode method_3_code 32 = .ok (.isub, 1) := by decide +kernel
theorem d2_33 : decode method_3_code 33 = .ok (.istore 8, 2) := by decide +kernel
theorem d2_35 : decode method_3_code 35 = .ok (.lload 4, 2) := by decide +kernel
theorem d2_37 : decode method_3_code 37 = .ok (.aload 7, 2) := by decide +kernel
theorem d2_39 : decode method_3_code 39 = .ok (.iload 8, 2) := by decide +kernel
theorem d2_41 : decode method_3_code 41 = .ok (.laload, 1) := by decide +kernel
theorem d2_42 : decode method_3_code 42 = .ok (.ldiv, 1) := by decide +kernel
theorem d2_43 : decode method_3_code 43 = .ok (.ldc2_w 8, 3) := by decide +kernel
theorem d2_46 : decode method_3_code 46 = .ok (.lrem, 1) := by decide +kernel
theorem d2_47 : decode method_3_code 47 = .ok (.lstore 9, 2) := by decide +kernel
theorem d2_49 : decode method_3_code 49 = .ok (.aload_n 0, 1) := by decide +kernel
theorem d2_50 : decode method_3_code 50 = .ok (.iload_n 1, 1) := by decide +kernel
theorem d2_51 : decode method_3_code 51 = .ok (.baload, 1) := by decide +kernel
theorem d2_52 : decode method_3_code 52 = .ok (.bipush 48, 2) := by decide +kernel
theorem d2_54 : decode method_3_code 54 = .ok (.lload 9, 2) := by decide +kernel
theorem d2_56 : decode method_3_code 56 = .ok (.l2i, 1) := by decide +kernel
theorem d2_57 : decode method_3_code 57 = .ok (.iadd, 1) := by decide +kernel
theorem d2_58 : decode method_3_code 58 = .ok (.i2b, 1) := by decide +kernel
theorem d2_59 : decode method_3_code 59 = .ok (.if_icmp .ne 7, 3) := by decide +kernel
theorem d2_62 : decode method_3_code 62 = .ok (.iconst 1, 1) := by decide +kernel
theorem d2_63 : decode method_3_code 63 = .ok (.goto 4, 3) := by decide +kernel
theorem d2_67 : decode method_3_code 67 = .ok (.ireturn, 1) := by decide +kernel
theorem ef_rm_ok (m : MethodId) (a1 : Addr) (p2 : Int32) (p3 : Int32) (p4 : Int32) (q5 : Int64) (p6 : Int32) (a7 : Addr) : entryFrame m #[(.ref a1), (.int p2), (.int p3), (.int p4), (.long q5), (.int p6), (.ref a7)] 11 = mkF m 0 #[.val (.ref a1), .val (.int p2), .val (.int p3), .val (.int p4), .val (.long q5), .second, .val (.int p6), .val (.ref a7), .unset, .unset, .unset] [] := by first | (simp [entryFrame, mkF, argsToLocals, Value.category]; done) | rfl
def Q_rm_ok (Z : State) (a1 : Addr) (p2 : Int32) (p3 : Int32) (p4 : Int32) (q5 : Int64) (p6 : Int32) (a7 : Addr) (i : Nat) (fa : Nat → Value) (fp : Nat → Value) (h0 : Heap) (n0 : Nat) (v : Option Value) (h : Heap) (L : List Loc) : Prop := v = some (.int (1 : Int32)) ∧ Fr n0 L ∧ h = h0
set_option maxRecDepth 65536 in
set_option maxHeartbeats 40000000 in
theorem rm_ok (l : Launch) (Z : State) (a0 : Array Value) (hw : ∀ d ∈ tables_1, d.before a0 Z = true) (ws : List Jvm.Cond) (a1 : Addr) (p2 : Int32) (p3 : Int32) (p4 : Int32) (q5 : Int64) (p6 : Int32) (a7 : Addr) (i : Nat) (fa : Nat → Value) (fp : Nat → Value) (h0 : Heap) (n0 : Nat) (Z0 : n0 ≤ h0.size) (VA : AV Z h0 a1 .byte 14 fa) (VP : AV Z h0 a7 .long 14 fp) (hi0 : ¬ p2 < 0) (hi : p2.toNatClampNeg = i) (hi14 : i < 14) (H1 : (p2 < p3 ∨ ¬ p2 < (p3 + p4)) → fa i = .int p6) (H2 : ¬ p2 < p3 → p2 < (p3 + p4) → ∃ (kk : Nat) (pw : Int64), kk < 14 ∧ ¬ (((p3 + p4) - (1 : Int32)) - p2) < 0 ∧ (((p3 + p4) - (1 : Int32)) - p2).toNatClampNeg = kk ∧ fp kk = .long pw ∧ pw ≠ 0 ∧ fa i = .int ((48 : Int32) + ((q5 / pw) - ((q5 / pw) / (10 : Int64)) * (10 : Int64)).toInt32).toInt8.toInt32) :
    MetFree l (⟨"com/example/travessia/travessia/core/BytesPutDigitsPinLaw", "ok", "([BIIIJB[J)Z"⟩ : MethodName) (head1 (Jvm.Cond.code (⟨"com/example/travessia/travessia/core/BytesPutDigitsPinLaw", "ok", "([BIIIJB[J)Z"⟩ : MethodName) method_3_code 11 (some .boolean) :: ws) ({ frames := 0, cells := 0, slots := 0, locals := 0 } : Room)) (fun a U => a = #[(.ref a1), (.int p2), (.int p3), (.int p4), (.long q5), (.int p6), (.ref a7)] ∧ Z.Warmed39 U.vm ∧ U.heap = h0) (fun _ _ _ _ _ => True) (fun _ U o U' => ∃ v L, o = .returned v ∧ Q_rm_ok Z a1 p2 p3 p4 q5 p6 a7 i fa fp h0 n0 v U'.heap L ∧ FrameEnd U o U' L ({ frames := 0, cells := 0, slots := 0, locals := 0 } : Room).cells ({ frames := 0, cells := 0, slots := 0, locals := 0 } : Room).slots) := by
  refine MetFree.of_bodySF (plainFor_of_name pn_1) hisR ?_
  intro p e s m args below meth c s₁ Bd hml0 hP hK
  obtain ⟨rfl, hZ, hh⟩ := hP
  have hx := Bd.exec
  have hby := Bd.bytes
  have hml : c.maxLocals = 11 := hml0
  have hown : s.vm.findClass "com/example/travessia/travessia/core/BytesPutDigitsPinLaw" = some m.cls := findClass_of_methodNamed Bd.named
  have hnm := (name_of_methodNamed Bd.named Bd.method).1
  have X0 : Stand p l e ({ frames := 0, cells := 0, slots := 0, locals := 0 } : Room) s m #[(.ref a1), (.int p2), (.int p3), (.int p4), (.long q5), (.int p6), (.ref a7)] below meth c s₁ [] 0 0 := Stand.of_body Bd
  have e0 : s₁.heap = h0 := by rw [← hh, Bd.state]; rfl
  have N0 := Fr.nil n0
  have pre0 : ∀ t, Steps p.tables e below (s₁.setTop (mkF m 0 #[.val (.ref a1), .val (.int p2), .val (.int p3), .val (.int p4), .val (.long q5), .second, .val (.int p6), .val (.ref a7), .unset, .unset, .unset] [])) t → Steps p.tables e below (s₁.setTop (entryFrame m #[(.ref a1), (.int p2), (.int p3), (.int p4), (.long q5), (.int p6), (.ref a7)] 11)) t := fun t k => castTop (ef_rm_ok m a1 p2 p3 p4 q5 p6 a7) k
  have pre00 : ∀ t, Steps p.tables e below (s₁.setTop (mkF m 0 #[.val (.ref a1), .val (.int p2), .val (.int p3), .val (.int p4), .val (.long q5), .second, .val (.int p6), .val (.ref a7), .unset, .unset, .unset] [])) t → Steps p.tables e below (s₁.setTop (mkF m 0 #[.val (.ref a1), .val (.int p2), .val (.int p3), .val (.int p4), .val (.long q5), .second, .val (.int p6), .val (.ref a7), .unset, .unset, .unset] [])) t := fun _ k => k
  have R9 : ∀ t, Steps p.tables e below (s₁.setTop (mkF m 2 #[.val (.ref a1), .val (.int p2), .val (.int p3), .val (.int p4), .val (.long q5), .second, .val (.int p6), .val (.ref a7), .unset, .unset, .unset] [(.int p3), (.int p2)])) t → Steps p.tables e below (s₁.setTop (mkF m 0 #[.val (.ref a1), .val (.int p2), .val (.int p3), .val (.int p4), .val (.long q5), .second, .val (.int p6), .val (.ref a7), .unset, .unset, .unset] [])) t := by
    intro t kt
    refine pre00 _ ?_
    show Steps p.tables e below (s₁.setTop (mkF m 0 #[.val (.ref a1), .val (.int p2), .val (.int p3), .val (.int p4), .val (.long q5), .second, .val (.int p6), .val (.ref a7), .unset, .unset, .unset] [])) _
    refine XS.iloadN X0.here hx rfl (hb hby d2_0) rfl ?_
    show Steps p.tables e below (s₁.setTop (mkF m 1 #[.val (.ref a1), .val (.int p2), .val (.int p3), .val (.int p4), .val (.long q5), .second, .val (.int p6), .val (.ref a7), .unset, .unset, .unset] [(.int p2)])) _
    refine XS.iloadN X0.here hx rfl (hb hby d2_1) rfl ?_
    exact kt
  by_cases hc2 : p2 < p3
  · have hv := H1 (Or.inl hc2)
    have R10 : ∀ t, Steps p.tables e below (s₁.setTop (mkF m 14 #[.val (.ref a1), .val (.int p2), .val (.int p3), .val (.int p4), .val (.long q5), .second, .val (.int p6), .val (.ref a7), .unset, .unset, .unset] [(.int p2), (.ref a1)])) t → Steps p.tables e below (s₁.setTop (mkF m 0 #[.val (.ref a1), .val (.int p2), .val (.int p3), .val (.int p4), .val (.long q5), .second, .val (.int p6), .val (.ref a7), .unset, .unset, .unset] [])) t := by
      intro t kt
      refine R9 _ ?_
      show Steps p.tables e below (s₁.setTop (mkF m 2 #[.val (.ref a1), .val (.int p2), .val (.int p3), .val (.int p4), .val (.long q5), .second, .val (.int p6), .val (.ref a7), .unset, .unset, .unset] [(.int p3), (.int p2)])) _
      refine XS.icmpYes X0.here hx rfl (pc0 := 2) (pc' := 12) rfl (hb hby d2_2) rfl (tlt (hc2 : p2 < p3)).1 (by decide) (by decide) ?_
      show Steps p.tables e below (s₁.setTop (mkF m 12 #[.val (.ref a1), .val (.int p2), .val (.int p3), .val (.int p4), .val (.long q5), .second, .val (.int p6), .val (.ref a7), .unset, .unset, .unset] [])) _
      refine XS.aloadN X0.here hx rfl (hb hby d2_12) rfl rfl ?_
      show Steps p.tables e below (s₁.setTop (mkF m 13 #[.val (.ref a1), .val (.int p2), .val (.int p3), .val (.int p4), .val (.long q5), .second, .val (.int p6), .val (.ref a7), .unset, .unset, .unset] [(.ref a1)])) _
      refine XS.iloadN X0.here hx rfl (hb hby d2_13) rfl ?_
      exact kt
    obtain ⟨cl11, Ar11, hin11, hat11⟩ := VA.at (j := p2) (k := i) hi0 hi hi14
    rw [show fa i = (.int p6) from hv] at hat11
    have R12 : ∀ t, Steps p.tables e below (s₁.setTop (mkF m 25 #[.val (.ref a1), .val (.int p2), .val (.int p3), .val (.int p4), .val (.long q5), .second, .val (.int p6), .val (.ref a7), .unset, .unset, .unset] [(.int (1 : Int32))])) t → Steps p.tables e below (s₁.setTop (mkF m 0 #[.val (.ref a1), .val (.int p2), .val (.int p3), .val (.int p4), .val (.long q5), .second, .val (.int p6), .val (.ref a7), .unset, .unset, .unset] [])) t := by
      intro t kt
      refine R10 _ ?_
      show Steps p.tables e below (s₁.setTop (mkF m 14 #[.val (.ref a1), .val (.int p2), .val (.int p3), .val (.int p4), .val (.long q5), .second, .val (.int p6), .val (.ref a7), .unset, .unset, .unset] [(.int p2), (.ref a1)])) _
      refine X0.baloadBytes hx (j := p2) (v := (.int p6)) (by rw [e0]; exact Ar11.1) (State.isArrayOf_alike hZ.alike Ar11.2.1) Ar11.2.2 hin11 hat11 (g := (mkF m 14 #[.val (.ref a1), .val (.int p2), .val (.int p3), .val (.int p4), .val (.long q5), .second, .val (.int p6), .val (.ref a7), .unset, .unset, .unset] [(.int p2), (.ref a1)])) rfl rfl (hb hby d2_14) _ ?_
      show Steps p.tables e below (s₁.setTop (mkF m 15 #[.val (.ref a1), .val (.int p2), .val (.int p3), .val (.int p4), .val (.long q5), .second, .val (.int p6), .val (.ref a7), .unset, .unset, .unset] [(.int p6)])) _
      refine XS.iload X0.here hx rfl (hb hby d2_15) rfl ?_
      show Steps p.tables e below (s₁.setTop (mkF m 17 #[.val (.ref a1), .val (.int p2), .val (.int p3), .val (.int p4), .val (.long q5), .second, .val (.int p6), .val (.ref a7), .unset, .unset, .unset] [(.int p6), (.int p6)])) _
      refine XS.icmpNo X0.here hx rfl (hb hby d2_17) rfl (teq (rfl : p6 = p6)).2 ?_
      show Steps p.tables e below (s₁.setTop (mkF m 20 #[.val (.ref a1), .val (.int p2), .val (.int p3), .val (.int p4), .val (.long q5), .second, .val (.int p6), .val (.ref a7), .unset, .unset, .unset] [])) _
      refine XS.iconst X0.here hx rfl (hb hby d2_20) ?_
      show Steps p.tables e below (s₁.setTop (mkF m 21 #[.val (.ref a1), .val (.int p2), .val (.int p3), .val (.int p4), .val (.long q5), .second, .val (.int p6), .val (.ref a7), .unset, .unset, .unset] [(.int (1 : Int32))])) _
      refine XS.goto X0.here hx rfl (pc0 := 21) (pc' := 25) rfl (hb hby d2_21) (by decide) (by decide) ?_
      exact kt
    obtain ⟨fs, hr, hrun, hended, hW, hsame⟩ := X0.leave (v := some (.int (1 : Int32))) (fun h => by rw [Bd.returns] at h; cases h)
    refine ⟨_, _, pre0 _ (R12 _ ?_), hrun, hended, _, _, rfl, ?_, ⟨_, rfl⟩, hW, hsame.mono (by decide) (by decide)⟩
    · exact retN X0 hx (t := .boolean) Bd.returns (by simp) (hb hby d2_25) hr
    · show Q_rm_ok Z a1 p2 p3 p4 q5 p6 a7 i fa fp h0 n0 _ s₁.heap _
      rw [e0]
      exact ⟨rfl, N0, rfl⟩
  · have R13 : ∀ t, Steps p.tables e below (s₁.setTop (mkF m 9 #[.val (.ref a1), .val (.int p2), .val (.int p3), .val (.int p4), .val (.long q5), .second, .val (.int p6), .val (.ref a7), .unset, .unset, .unset] [(.int (p3 + p4)), (.int p2)])) t → Steps p.tables e below (s₁.setTop (mkF m 0 #[.val (.ref a1), .val (.int p2), .val (.int p3), .val (.int p4), .val (.long q5), .second, .val (.int p6), .val (.ref a7), .unset, .unset, .unset] [])) t := by
      intro t kt
      refine R9 _ ?_
      show Steps p.tables e below (s₁.setTop (mkF m 2 #[.val (.ref a1), .val (.int p2), .val (.int p3), .val (.int p4), .val (.long q5), .second, .val (.int p6), .val (.ref a7), .unset, .unset, .unset] [(.int p3), (.int p2)])) _
      refine XS.icmpNo X0.here hx rfl (hb hby d2_2) rfl (flt (hc2 : ¬ (p2 < p3))).1 ?_
      show Steps p.tables e below (s₁.setTop (mkF m 5 #[.val (.ref a1), .val (.int p2), .val (.int p3), .val (.int p4), .val (.long q5), .second, .val (.int p6), .val (.ref a7), .unset, .unset, .unset] [])) _
      refine XS.iloadN X0.here hx rfl (hb hby d2_5) rfl ?_
      show Steps p.tables e below (s₁.setTop (mkF m 6 #[.val (.ref a1), .val (.int p2), .val (.int p3), .val (.int p4), .val (.long q5), .second, .val (.int p6), .val (.ref a7), .unset, .unset, .unset] [(.int p2)])) _
      refine XS.iloadN X0.here hx rfl (hb hby d2_6) rfl ?_
      show Steps p.tables e below (s₁.setTop (mkF m 7 #[.val (.ref a1), .val (.int p2), .val (.int p3), .val (.int p4), .val (.long q5), .second, .val (.int p6), .val (.ref a7), .unset, .unset, .unset] [(.int p3), (.int p2)])) _
      refine XS.iloadN X0.here hx rfl (hb hby d2_7) rfl ?_
      show Steps p.tables e below (s₁.setTop (mkF m 8 #[.val (.ref a1), .val (.int p2), .val (.int p3), .val (.int p4), .val (.long q5), .second, .val (.int p6), .val (.ref a7), .unset, .unset, .unset] [(.int p4), (.int p3), (.int p2)])) _
      refine XS.iadd X0.here hx rfl (hb hby d2_8) rfl ?_
      exact kt
    by_cases hc9 : p2 < (p3 + p4)
    · have R17 : ∀ t, Steps p.tables e below (s₁.setTop (mkF m 26 #[.val (.ref a1), .val (.int p2), .val (.int p3), .val (.int p4), .val (.long q5), .second, .val (.int p6), .val (.ref a7), .unset, .unset, .unset] [])) t → Steps p.tables e below (s₁.setTop (mkF m 0 #[.val (.ref a1), .val (.int p2), .val (.int p3), .val (.int p4), .val (.long q5), .second, .val (.int p6), .val (.ref a7), .unset, .unset, .unset] [])) t := by
        intro t kt
        refine R13 _ ?_
        show Steps p.tables e below (s₁.setTop (mkF m 9 #[.val (.ref a1), .val (.int p2), .val (.int p3), .val (.int p4), .val (.long q5), .second, .val (.int p6), .val (.ref a7), .unset, .unset, .unset] [(.int (p3 + p4)), (.int p2)])) _
        refine XS.icmpYes X0.here hx rfl (pc0 := 9) (pc' := 26) rfl (hb hby d2_9) rfl (tlt (hc9 : p2 < (p3 + p4))).1 (by decide) (by decide) ?_
        exact kt
      obtain ⟨kk, pw, k14, k0, kj, hp, hp0, hv⟩ := H2 hc2 hc9
      have R18 : ∀ t, Steps p.tables e below (s₁.setTop (mkF m 41 #[.val (.ref a1), .val (.int p2), .val (.int p3), .val (.int p4), .val (.long q5), .second, .val (.int p6), .val (.ref a7), .val (.int (((p3 + p4) - (1 : Int32)) - p2)), .unset, .unset] [(.int (((p3 + p4) - (1 : Int32)) - p2)), (.ref a7), (.long q5)])) t → Steps p.tables e below (s₁.setTop (mkF m 0 #[.val (.ref a1), .val (.int p2), .val (.int p3), .val (.int p4), .val (.long q5), .second, .val (.int p6), .val (.ref a7), .unset, .unset, .unset] [])) t := by
        intro t kt
        refine R17 _ ?_
        show Steps p.tables e below (s₁.setTop (mkF m 26 #[.val (.ref a1), .val (.int p2), .val (.int p3), .val (.int p4), .val (.long q5), .second, .val (.int p6), .val (.ref a7), .unset, .unset, .unset] [])) _
        refine XS.iloadN X0.here hx rfl (hb hby d2_26) rfl ?_
        show Steps p.tables e below (s₁.setTop (mkF m 27 #[.val (.ref a1), .val (.int p2), .val (.int p3), .val (.int p4), .val (.long q5), .second, .val (.int p6), .val (.ref a7), .unset, .unset, .unset] [(.int p3)])) _
        refine XS.iloadN X0.here hx rfl (hb hby d2_27) rfl ?_
        show Steps p.tables e below (s₁.setTop (mkF m 28 #[.val (.ref a1), .val (.int p2), .val (.int p3), .val (.int p4), .val (.long q5), .second, .val (.int p6), .val (.ref a7), .unset, .unset, .unset] [(.int p4), (.int p3)])) _
        refine XS.iadd X0.here hx rfl (hb hby d2_28) rfl ?_
        show Steps p.tables e below (s₁.setTop (mkF m 29 #[.val (.ref a1), .val (.int p2), .val (.int p3), .val (.int p4), .val (.long q5), .second, .val (.int p6), .val (.ref a7), .unset, .unset, .unset] [(.int (p3 + p4))])) _
        refine XS.iconst X0.here hx rfl (hb hby d2_29) ?_
        show Steps p.tables e below (s₁.setTop (mkF m 30 #[.val (.ref a1), .val (.int p2), .val (.int p3), .val (.int p4), .val (.long q5), .second, .val (.int p6), .val (.ref a7), .unset, .unset, .unset] [(.int (1 : Int32)), (.int (p3 + p4))])) _
        refine XS.isub X0.here hx rfl (hb hby d2_30) rfl ?_
        show Steps p.tables e below (s₁.setTop (mkF m 31 #[.val (.ref a1), .val (.int p2), .val (.int p3), .val (.int p4), .val (.long q5), .second, .val (.int p6), .val (.ref a7), .unset, .unset, .unset] [(.int ((p3 + p4) - (1 : Int32)))])) _
        refine XS.iloadN X0.here hx rfl (hb hby d2_31) rfl ?_
        show Steps p.tables e below (s₁.setTop (mkF m 32 #[.val (.ref a1), .val (.int p2), .val (.int p3), .val (.int p4), .val (.long q5), .second, .val (.int p6), .val (.ref a7), .unset, .unset, .unset] [(.int p2), (.int ((p3 + p4) - (1 : Int32)))])) _
        refine XS.isub X0.here hx rfl (hb hby d2_32) rfl ?_
        show Steps p.tables e below (s₁.setTop (mkF m 33 #[.val (.ref a1), .val (.int p2), .val (.int p3), .val (.int p4), .val (.long q5), .second, .val (.int p6), .val (.ref a7), .unset, .unset, .unset] [(.int (((p3 + p4) - (1 : Int32)) - p2))])) _
        refine XS.istore X0.here hx rfl (hb hby d2_33) rfl (l' := #[.val (.ref a1), .val (.int p2), .val (.int p3), .val (.int p4), .val (.long q5), .second, .val (.int p6), .val (.ref a7), .val (.int (((p3 + p4) - (1 : Int32)) - p2)), .unset, .unset]) rfl ?_
        show Steps p.tables e below (s₁.setTop (mkF m 35 #[.val (.ref a1), .val (.int p2), .val (.int p3), .val (.int p4), .val (.long q5), .second, .val (.int p6), .val (.ref a7), .val (.int (((p3 + p4) - (1 : Int32)) - p2)), .unset, .unset] [])) _
        refine XS.lload X0.here hx rfl (hb hby d2_35) rfl ?_
        show Steps p.tables e below (s₁.setTop (mkF m 37 #[.val (.ref a1), .val (.int p2), .val (.int p3), .val (.int p4), .val (.long q5), .second, .val (.int p6), .val (.ref a7), .val (.int (((p3 + p4) - (1 : Int32)) - p2)), .unset, .unset] [(.long q5)])) _
        refine XS.aload X0.here hx rfl (hb hby d2_37) rfl rfl ?_
        show Steps p.tables e below (s₁.setTop (mkF m 39 #[.val (.ref a1), .val (.int p2), .val (.int p3), .val (.int p4), .val (.long q5), .second, .val (.int p6), .val (.ref a7), .val (.int (((p3 + p4) - (1 : Int32)) - p2)), .unset, .unset] [(.ref a7), (.long q5)])) _
        refine XS.iload X0.here hx rfl (hb hby d2_39) rfl ?_
        exact kt
      obtain ⟨cl19, Ar19, hin19, hat19⟩ := VP.at (j := (((p3 + p4) - (1 : Int32)) - p2)) (k := kk) k0 kj k14
      rw [show fp kk = (.long pw) from hp] at hat19
      have R20 : ∀ t, Steps p.tables e below (s₁.setTop (mkF m 51 #[.val (.ref a1), .val (.int p2), .val (.int p3), .val (.int p4), .val (.long q5), .second, .val (.int p6), .val (.ref a7), .val (.int (((p3 + p4) - (1 : Int32)) - p2)), .val (.long ((q5 / pw) - ((q5 / pw) / (10 : Int64)) * (10 : Int64))), .second] [(.int p2), (.ref a1)])) t → Steps p.tables e below (s₁.setTop (mkF m 0 #[.val (.ref a1), .val (.int p2), .val (.int p3), .val (.int p4), .val (.long q5), .second, .val (.int p6), .val (.ref a7), .unset, .unset, .unset] [])) t := by
        intro t kt
        refine R18 _ ?_
        show Steps p.tables e below (s₁.setTop (mkF m 41 #[.val (.ref a1), .val (.int p2), .val (.int p3), .val (.int p4), .val (.long q5), .second, .val (.int p6), .val (.ref a7), .val (.int (((p3 + p4) - (1 : Int32)) - p2)), .unset, .unset] [(.int (((p3 + p4) - (1 : Int32)) - p2)), (.ref a7), (.long q5)])) _
        refine X0.laload hx (j := (((p3 + p4) - (1 : Int32)) - p2)) (v := (.long pw)) (by rw [e0]; exact Ar19.1) (State.isArrayOf_alike hZ.alike Ar19.2.1) Ar19.2.2 hin19 hat19 (g := (mkF m 41 #[.val (.ref a1), .val (.int p2), .val (.int p3), .val (.int p4), .val (.long q5), .second, .val (.int p6), .val (.ref a7), .val (.int (((p3 + p4) - (1 : Int32)) - p2)), .unset, .unset] [(.int (((p3 + p4) - (1 : Int32)) - p2)), (.ref a7), (.long q5)])) rfl rfl (hb hby d2_41) _ ?_
        show Steps p.tables e below (s₁.setTop (mkF m 42 #[.val (.ref a1), .val (.int p2), .val (.int p3), .val (.int p4), .val (.long q5), .second, .val (.int p6), .val (.ref a7), .val (.int (((p3 + p4) - (1 : Int32)) - p2)), .unset, .unset] [(.long pw), (.long q5)])) _
        refine XS.ldiv X0.here hx rfl (hb hby d2_42) rfl hp0 ?_
        show Steps p.tables e below (s₁.setTop (mkF m 43 #[.val (.ref a1), .val (.int p2), .val (.int p3), .val (.int p4), .val (.long q5), .second, .val (.int p6), .val (.ref a7), .val (.int (((p3 + p4) - (1 : Int32)) - p2)), .unset, .unset] [(.long (q5 / pw))])) _
        refine X0.ldc2Long hx hown (mvT hZ (hw _ (List.mem_of_getElem? (i := 2) rfl))) (g := (mkF m 43 #[.val (.ref a1), .val (.int p2), .val (.int p3), .val (.int p4), .val (.long q5), .second, .val (.int p6), .val (.ref a7), .val (.int (((p3 + p4) - (1 : Int32)) - p2)), .unset, .unset] [(.long (q5 / pw))])) rfl (hb hby d2_43) _ ?_
        show Steps p.tables e below (s₁.setTop (mkF m 46 #[.val (.ref a1), .val (.int p2), .val (.int p3), .val (.int p4), .val (.long q5), .second, .val (.int p6), .val (.ref a7), .val (.int (((p3 + p4) - (1 : Int32)) - p2)), .unset, .unset] [(.long (10 : Int64)), (.long (q5 / pw))])) _
        refine XS.lrem X0.here hx rfl (hb hby d2_46) rfl (by decide) ?_
        show Steps p.tables e below (s₁.setTop (mkF m 47 #[.val (.ref a1), .val (.int p2), .val (.int p3), .val (.int p4), .val (.long q5), .second, .val (.int p6), .val (.ref a7), .val (.int (((p3 + p4) - (1 : Int32)) - p2)), .unset, .unset] [(.long ((q5 / pw) - ((q5 / pw) / (10 : Int64)) * (10 : Int64)))])) _
        refine XS.lstore X0.here hx rfl (hb hby d2_47) rfl (l' := #[.val (.ref a1), .val (.int p2), .val (.int p3), .val (.int p4), .val (.long q5), .second, .val (.int p6), .val (.ref a7), .val (.int (((p3 + p4) - (1 : Int32)) - p2)), .val (.long ((q5 / pw) - ((q5 / pw) / (10 : Int64)) * (10 : Int64))), .second]) rfl ?_
        show Steps p.tables e below (s₁.setTop (mkF m 49 #[.val (.ref a1), .val (.int p2), .val (.int p3), .val (.int p4), .val (.long q5), .second, .val (.int p6), .val (.ref a7), .val (.int (((p3 + p4) - (1 : Int32)) - p2)), .val (.long ((q5 / pw) - ((q5 / pw) / (10 : Int64)) * (10 : Int64))), .second] [])) _
        refine XS.aloadN X0.here hx rfl (hb hby d2_49) rfl rfl ?_
        show Steps p.tables e below (s₁.setTop (mkF m 50 #[.val (.ref a1), .val (.int p2), .val (.int p3), .val (.int p4), .val (.long q5), .second, .val (.int p6), .val (.ref a7), .val (.int (((p3 + p4) - (1 : Int32)) - p2)), .val (.long ((q5 / pw) - ((q5 / pw) / (10 : Int64)) * (10 : Int64))), .second] [(.ref a1)])) _
        refine XS.iloadN X0.here hx rfl (hb hby d2_50) rfl ?_
        exact kt
      obtain ⟨cl21, Ar21, hin21, hat21⟩ := VA.at (j := p2) (k := i) hi0 hi hi14
      rw [show fa i = (.int ((48 : Int32) + ((q5 / pw) - ((q5 / pw) / (10 : Int64)) * (10 : Int64)).toInt32).toInt8.toInt32) from hv] at hat21
      have R22 : ∀ t, Steps p.tables e below (s₁.setTop (mkF m 67 #[.val (.ref a1), .val (.int p2), .val (.int p3), .val (.int p4), .val (.long q5), .second, .val (.int p6), .val (.ref a7), .val (.int (((p3 + p4) - (1 : Int32)) - p2)), .val (.long ((q5 / pw) - ((q5 / pw) / (10 : Int64)) * (10 : Int64))), .second] [(.int (1 : Int32))])) t → Steps p.tables e below (s₁.setTop (mkF m 0 #[.val (.ref a1), .val (.int p2), .val (.int p3), .val (.int p4), .val (.long q5), .second, .val (.int p6), .val (.ref a7), .unset, .unset, .unset] [])) t := by
        intro t kt
        refine R20 _ ?_
        show Steps p.tables e below (s₁.setTop (mkF m 51 #[.val (.ref a1), .val (.int p2), .val (.int p3), .val (.int p4), .val (.long q5), .second, .val (.int p6), .val (.ref a7), .val (.int (((p3 + p4) - (1 : Int32)) - p2)), .val (.long ((q5 / pw) - ((q5 / pw) / (10 : Int64)) * (10 : Int64))), .second] [(.int p2), (.ref a1)])) _
        refine X0.baloadBytes hx (j := p2) (v := (.int ((48 : Int32) + ((q5 / pw) - ((q5 / pw) / (10 : Int64)) * (10 : Int64)).toInt32).toInt8.toInt32)) (by rw [e0]; exact Ar21.1) (State.isArrayOf_alike hZ.alike Ar21.2.1) Ar21.2.2 hin21 hat21 (g := (mkF m 51 #[.val (.ref a1), .val (.int p2), .val (.int p3), .val (.int p4), .val (.long q5), .second, .val (.int p6), .val (.ref a7), .val (.int (((p3 + p4) - (1 : Int32)) - p2)), .val (.long ((q5 / pw) - ((q5 / pw) / (10 : Int64)) * (10 : Int64))), .second] [(.int p2), (.ref a1)])) rfl rfl (hb hby d2_51) _ ?_
        show Steps p.tables e below (s₁.setTop (mkF m 52 #[.val (.ref a1), .val (.int p2), .val (.int p3), .val (.int p4), .val (.long q5), .second, .val (.int p6), .val (.ref a7), .val (.int (((p3 + p4) - (1 : Int32)) - p2)), .val (.long ((q5 / pw) - ((q5 / pw) / (10 : Int64)) * (10 : Int64))), .second] [(.int ((48 : Int32) + ((q5 / pw) - ((q5 / pw) / (10 : Int64)) * (10 : Int64)).toInt32).toInt8.toInt32)])) _
        refine XS.bipush X0.here hx rfl (hb hby d2_52) ?_
        show Steps p.tables e below (s₁.setTop (mkF m 54 #[.val (.ref a1), .val (.int p2), .val (.int p3), .val (.int p4), .val (.long q5), .second, .val (.int p6), .val (.ref a7), .val (.int (((p3 + p4) - (1 : Int32)) - p2)), .val (.long ((q5 / pw) - ((q5 / pw) / (10 : Int64)) * (10 : Int64))), .second] [(.int (48 : Int32)), (.int ((48 : Int32) + ((q5 / pw) - ((q5 / pw) / (10 : Int64)) * (10 : Int64)).toInt32).toInt8.toInt32)])) _
        refine XS.lload X0.here hx rfl (hb hby d2_54) rfl ?_
        show Steps p.tables e below (s₁.setTop (mkF m 56 #[.val (.ref a1), .val (.int p2), .val (.int p3), .val (.int p4), .val (.long q5), .second, .val (.int p6), .val (.ref a7), .val (.int (((p3 + p4) - (1 : Int32)) - p2)), .val (.long ((q5 / pw) - ((q5 / pw) / (10 : Int64)) * (10 : Int64))), .second] [(.long ((q5 / pw) - ((q5 / pw) / (10 : Int64)) * (10 : Int64))), (.int (48 : Int32)), (.int ((48 : Int32) + ((q5 / pw) - ((q5 / pw) / (10 : Int64)) * (10 : Int64)).toInt32).toInt8.toInt32)])) _
        refine XS.l2i X0.here hx rfl (hb hby d2_56) rfl ?_
        show Steps p.tables e below (s₁.setTop (mkF m 57 #[.val (.ref a1), .val (.int p2), .val (.int p3), .val (.int p4), .val (.long q5), .second, .val (.int p6), .val (.ref a7), .val (.int (((p3 + p4) - (1 : Int32)) - p2)), .val (.long ((q5 / pw) - ((q5 / pw) / (10 : Int64)) * (10 : Int64))), .second] [(.int (((q5 / pw) - ((q5 / pw) / (10 : Int64)) * (10 : Int64)).toInt32)), (.int (48 : Int32)), (.int ((48 : Int32) + ((q5 / pw) - ((q5 / pw) / (10 : Int64)) * (10 : Int64)).toInt32).toInt8.toInt32)])) _
        refine XS.iadd X0.here hx rfl (hb hby d2_57) rfl ?_
        show Steps p.tables e below (s₁.setTop (mkF m 58 #[.val (.ref a1), .val (.int p2), .val (.int p3), .val (.int p4), .val (.long q5), .second, .val (.int p6), .val (.ref a7), .val (.int (((p3 + p4) - (1 : Int32)) - p2)), .val (.long ((q5 / pw) - ((q5 / pw) / (10 : Int64)) * (10 : Int64))), .second] [(.int ((48 : Int32) + (((q5 / pw) - ((q5 / pw) / (10 : Int64)) * (10 : Int64)).toInt32))), (.int ((48 : Int32) + ((q5 / pw) - ((q5 / pw) / (10 : Int64)) * (10 : Int64)).toInt32).toInt8.toInt32)])) _
        refine XS.i2b X0.here hx rfl (hb hby d2_58) rfl ?_
        show Steps p.tables e below (s₁.setTop (mkF m 59 #[.val (.ref a1), .val (.int p2), .val (.int p3), .val (.int p4), .val (.long q5), .second, .val (.int p6), .val (.ref a7), .val (.int (((p3 + p4) - (1 : Int32)) - p2)), .val (.long ((q5 / pw) - ((q5 / pw) / (10 : Int64)) * (10 : Int64))), .second] [(.int (((48 : Int32) + (((q5 / pw) - ((q5 / pw) / (10 : Int64)) * (10 : Int64)).toInt32)).toInt8.toInt32)), (.int ((48 : Int32) + ((q5 / pw) - ((q5 / pw) / (10 : Int64)) * (10 : Int64)).toInt32).toInt8.toInt32)])) _
        refine XS.icmpNo X0.here hx rfl (hb hby d2_59) rfl (teq (rfl : ((48 : Int32) + ((q5 / pw) - ((q5 / pw) / (10 : Int64)) * (10 : Int64)).toInt32).toInt8.toInt32 = (((48 : Int32) + (((q5 / pw) - ((q5 / pw) / (10 : Int64)) * (10 : Int64)).toInt32)).toInt8.toInt32))).2 ?_
        show Steps p.tables e below (s₁.setTop (mkF m 62 #[.val (.ref a1), .val (.int p2), .val (.int p3), .val (.int p4), .val (.long q5), .second, .val (.int p6), .val (.ref a7), .val (.int (((p3 + p4) - (1 : Int32)) - p2)), .val (.long ((q5 / pw) - ((q5 / pw) / (10 : Int64)) * (10 : Int64))), .second] [])) _
        refine XS.iconst X0.here hx rfl (hb hby d2_62) ?_
        show Steps p.tables e below (s₁.setTop (mkF m 63 #[.val (.ref a1), .val (.int p2), .val (.int p3), .val (.int p4), .val (.long q5), .second, .val (.int p6), .val (.ref a7), .val (.int (((p3 + p4) - (1 : Int32)) - p2)), .val (.long ((q5 / pw) - ((q5 / pw) / (10 : Int64)) * (10 : Int64))), .second] [(.int (1 : Int32))])) _
        refine XS.goto X0.here hx rfl (pc0 := 63) (pc' := 67) rfl (hb hby d2_63) (by decide) (by decide) ?_
        exact kt
      obtain ⟨fs, hr, hrun, hended, hW, hsame⟩ := X0.leave (v := some (.int (1 : Int32))) (fun h => by rw [Bd.returns] at h; cases h)
      refine ⟨_, _, pre0 _ (R22 _ ?_), hrun, hended, _, _, rfl, ?_, ⟨_, rfl⟩, hW, hsame.mono (by decide) (by decide)⟩
      · exact retN X0 hx (t := .boolean) Bd.returns (by simp) (hb hby d2_67) hr
      · show Q_rm_ok Z a1 p2 p3 p4 q5 p6 a7 i fa fp h0 n0 _ s₁.heap _
        rw [e0]
        exact ⟨rfl, N0, rfl⟩
    · have hv := H1 (Or.inr hc9)
      have R14 : ∀ t, Steps p.tables e below (s₁.setTop (mkF m 14 #[.val (.ref a1), .val (.int p2), .val (.int p3), .val (.int p4), .val (.long q5), .second, .val (.int p6), .val (.ref a7), .unset, .unset, .unset] [(.int p2), (.ref a1)])) t → Steps p.tables e below (s₁.setTop (mkF m 0 #[.val (.ref a1), .val (.int p2), .val (.int p3), .val (.int p4), .val (.long q5), .second, .val (.int p6), .val (.ref a7), .unset, .unset, .unset] [])) t := by
        intro t kt
        refine R13 _ ?_
        show Steps p.tables e below (s₁.setTop (mkF m 9 #[.val (.ref a1), .val (.int p2), .val (.int p3), .val (.int p4), .val (.long q5), .second, .val (.int p6), .val (.ref a7), .unset, .unset, .unset] [(.int (p3 + p4)), (.int p2)])) _
        refine XS.icmpNo X0.here hx rfl (hb hby d2_9) rfl (flt (hc9 : ¬ (p2 < (p3 + p4)))).1 ?_
        show Steps p.tables e below (s₁.setTop (mkF m 12 #[.val (.ref a1), .val (.int p2), .val (.int p3), .val (.int p4), .val (.long q5), .second, .val (.int p6), .val (.ref a7), .unset, .unset, .unset] [])) _
        refine XS.aloadN X0.here hx rfl (hb hby d2_12) rfl rfl ?_
        show Steps p.tables e below (s₁.setTop (mkF m 13 #[.val (.ref a1), .val (.int p2), .val (.int p3), .val (.int p4), .val (.long q5), .second, .val (.int p6), .val (.ref a7), .unset, .unset, .unset] [(.ref a1)])) _
        refine XS.iloadN X0.here hx rfl (hb hby d2_13) rfl ?_
        exact kt
      obtain ⟨cl15, Ar15, hin15, hat15⟩ := VA.at (j := p2) (k := i) hi0 hi hi14
      rw [show fa i = (.int p6) from hv] at hat15
      have R16 : ∀ t, Steps p.tables e below (s₁.setTop (mkF m 25 #[.val (.ref a1), .val (.int p2), .val (.int p3), .val (.int p4), .val (.long q5), .second, .val (.int p6), .val (.ref a7), .unset, .unset, .unset] [(.int (1 : Int32))])) t → Steps p.tables e below (s₁.setTop (mkF m 0 #[.val (.ref a1), .val (.int p2), .val (.int p3), .val (.int p4), .val (.long q5), .second, .val (.int p6), .val (.ref a7), .unset, .unset, .unset] [])) t := by
        intro t kt
        refine R14 _ ?_
        show Steps p.tables e below (s₁.setTop (mkF m 14 #[.val (.ref a1), .val (.int p2), .val (.int p3), .val (.int p4), .val (.long q5), .second, .val (.int p6), .val (.ref a7), .unset, .unset, .unset] [(.int p2), (.ref a1)])) _
        refine X0.baloadBytes hx (j := p2) (v := (.int p6)) (by rw [e0]; exact Ar15.1) (State.isArrayOf_alike hZ.alike Ar15.2.1) Ar15.2.2 hin15 hat15 (g := (mkF m 14 #[.val (.ref a1), .val (.int p2), .val (.int p3), .val (.int p4), .val (.long q5), .second, .val (.int p6), .val (.ref a7), .unset, .unset, .unset] [(.int p2), (.ref a1)])) rfl rfl (hb hby d2_14) _ ?_
        show Steps p.tables e below (s₁.setTop (mkF m 15 #[.val (.ref a1), .val (.int p2), .val (.int p3), .val (.int p4), .val (.long q5), .second, .val (.int p6), .val (.ref a7), .unset, .unset, .unset] [(.int p6)])) _
        refine XS.iload X0.here hx rfl (hb hby d2_15) rfl ?_
        show Steps p.tables e below (s₁.setTop (mkF m 17 #[.val (.ref a1), .val (.int p2), .val (.int p3), .val (.int p4), .val (.long q5), .second, .val (.int p6), .val (.ref a7), .unset, .unset, .unset] [(.int p6), (.int p6)])) _
        refine XS.icmpNo X0.here hx rfl (hb hby d2_17) rfl (teq (rfl : p6 = p6)).2 ?_
        show Steps p.tables e below (s₁.setTop (mkF m 20 #[.val (.ref a1), .val (.int p2), .val (.int p3), .val (.int p4), .val (.long q5), .second, .val (.int p6), .val (.ref a7), .unset, .unset, .unset] [])) _
        refine XS.iconst X0.here hx rfl (hb hby d2_20) ?_
        show Steps p.tables e below (s₁.setTop (mkF m 21 #[.val (.ref a1), .val (.int p2), .val (.int p3), .val (.int p4), .val (.long q5), .second, .val (.int p6), .val (.ref a7), .unset, .unset, .unset] [(.int (1 : Int32))])) _
        refine XS.goto X0.here hx rfl (pc0 := 21) (pc' := 25) rfl (hb hby d2_21) (by decide) (by decide) ?_
        exact kt
      obtain ⟨fs, hr, hrun, hended, hW, hsame⟩ := X0.leave (v := some (.int (1 : Int32))) (fun h => by rw [Bd.returns] at h; cases h)
      refine ⟨_, _, pre0 _ (R16 _ ?_), hrun, hended, _, _, rfl, ?_, ⟨_, rfl⟩, hW, hsame.mono (by decide) (by decide)⟩
      · exact retN X0 hx (t := .boolean) Bd.returns (by simp) (hb hby d2_25) hr
      · show Q_rm_ok Z a1 p2 p3 p4 q5 p6 a7 i fa fp h0 n0 _ s₁.heap _
        rw [e0]
        exact ⟨rfl, N0, rfl⟩
theorem pd_0 : parseMethodDescriptor "([BIII)V" = some ⟨[(.array .byte), .int, .int, .int], none⟩ := by decide +kernel
theorem pd_1 : parseMethodDescriptor "([BIIIJB[J)Z" = some ⟨[(.array .byte), .int, .int, .int, .long, .byte, (.array .long)], some .boolean⟩ := by decide +kernel
theorem ef_rm_law (m : MethodId) (p1 : Int32) (p2 : Int32) (p3 : Int32) (p4 : Int32) : entryFrame m #[(.int p1), (.int p2), (.int p3), (.int p4)] maxLocals = mkF m 0 #[.val (.int p1), .val (.int p2), .val (.int p3), .val (.int p4), .unset, .unset, .unset, .unset, .unset, .unset] [] := by first | (simp [entryFrame, mkF, argsToLocals, Value.category, maxLocals]; done) | rfl
def Q_rm_law (Z : State) (p1 : Int32) (p2 : Int32) (p3 : Int32) (p4 : Int32) (h0 : Heap) (n0 : Nat) (v : Option Value) (h : Heap) (L : List Loc) : Prop := v = some (.int (1 : Int32)) ∧ Fr n0 L
set_option maxRecDepth 65536 in
set_option maxHeartbeats 40000000 in
theorem rm_law (l : Launch) (Z : State) (a0 : Array Value) (hw : ∀ d ∈ tables_1, d.before a0 Z = true) (ws : List Jvm.Cond) (p1 : Int32) (p2 : Int32) (p3 : Int32) (p4 : Int32) (h0 : Heap) (n0 : Nat) (Z0 : n0 ≤ h0.size) :
    MetFree l x (head1 (Jvm.Cond.code x code maxLocals ret :: ws) room_1) (fun a U => a = #[(.int p1), (.int p2), (.int p3), (.int p4)] ∧ Z.Warmed39 U.vm ∧ U.heap = h0) (fun _ _ _ _ _ => True) (fun _ U o U' => ∃ v L, o = .returned v ∧ Q_rm_law Z p1 p2 p3 p4 h0 n0 v U'.heap L ∧ FrameEnd U o U' L room_1.cells room_1.slots) := by
  refine MetFree.of_bodySF (plainFor_of_name pn_1) hisR ?_
  intro p e s m args below meth c s₁ Bd hml0 hP hK
  obtain ⟨rfl, hZ, hh⟩ := hP
  have hx := Bd.exec
  have hby := Bd.bytes
  have hml : c.maxLocals = 10 := hml0
  have hown : s.vm.findClass "com/example/travessia/travessia/core/BytesPutDigitsPinLaw" = some m.cls := findClass_of_methodNamed Bd.named
  have hnm := (name_of_methodNamed Bd.named Bd.method).1
  have X0 : Stand p l e room_1 s m #[(.int p1), (.int p2), (.int p3), (.int p4)] below meth c s₁ [] 0 0 := Stand.of_body Bd
  have e0 : s₁.heap = h0 := by rw [← hh, Bd.state]; rfl
  have N0 := Fr.nil n0
  have pre0 : ∀ t, Steps p.tables e below (s₁.setTop (mkF m 0 #[.val (.int p1), .val (.int p2), .val (.int p3), .val (.int p4), .unset, .unset, .unset, .unset, .unset, .unset] [])) t → Steps p.tables e below (s₁.setTop (entryFrame m #[(.int p1), (.int p2), (.int p3), (.int p4)] maxLocals)) t := fun t k => castTop (ef_rm_law m p1 p2 p3 p4) k
  have pre00 : ∀ t, Steps p.tables e below (s₁.setTop (mkF m 0 #[.val (.int p1), .val (.int p2), .val (.int p3), .val (.int p4), .unset, .unset, .unset, .unset, .unset, .unset] [])) t → Steps p.tables e below (s₁.setTop (mkF m 0 #[.val (.int p1), .val (.int p2), .val (.int p3), .val (.int p4), .unset, .unset, .unset, .unset, .unset, .unset] [])) t := fun _ k => k
  have R23 : ∀ t, Steps p.tables e below (s₁.setTop (mkF m 3 #[.val (.int p1), .val (.int p2), .val (.int p3), .val (.int p4), .unset, .unset, .unset, .unset, .unset, .unset] [(.int (p1 &&& (3 : Int32)))])) t → Steps p.tables e below (s₁.setTop (mkF m 0 #[.val (.int p1), .val (.int p2), .val (.int p3), .val (.int p4), .unset, .unset, .unset, .unset, .unset, .unset] [])) t := by
    intro t kt
    refine pre00 _ ?_
    show Steps p.tables e below (s₁.setTop (mkF m 0 #[.val (.int p1), .val (.int p2), .val (.int p3), .val (.int p4), .unset, .unset, .unset, .unset, .unset, .unset] [])) _
    refine XS.iloadN X0.here hx rfl (hb hby at_0) rfl ?_
    show Steps p.tables e below (s₁.setTop (mkF m 1 #[.val (.int p1), .val (.int p2), .val (.int p3), .val (.int p4), .unset, .unset, .unset, .unset, .unset, .unset] [(.int p1)])) _
    refine XS.iconst X0.here hx rfl (hb hby at_1) ?_
    show Steps p.tables e below (s₁.setTop (mkF m 2 #[.val (.int p1), .val (.int p2), .val (.int p3), .val (.int p4), .unset, .unset, .unset, .unset, .unset, .unset] [(.int (3 : Int32)), (.int p1)])) _
    refine XS.iand X0.here hx rfl (hb hby at_2) rfl ?_
    exact kt
  obtain ⟨a_, ha_⟩ : ∃ z : Int32, z = (p1 &&& (3 : Int32)) := ⟨_, rfl⟩
  have R24 : ∀ t, Steps p.tables e below (s₁.setTop (mkF m 3 #[.val (.int p1), .val (.int p2), .val (.int p3), .val (.int p4), .unset, .unset, .unset, .unset, .unset, .unset] [(.int a_)])) t → Steps p.tables e below (s₁.setTop (mkF m 0 #[.val (.int p1), .val (.int p2), .val (.int p3), .val (.int p4), .unset, .unset, .unset, .unset, .unset, .unset] [])) t := by rw [ha_]; exact R23
  have ba := own_at_b p1
  rw [← ha_] at ba
  have R25 : ∀ t, Steps p.tables e below (s₁.setTop (mkF m 15 #[.val (.int p1), .val (.int p2), .val (.int p3), .val (.int p4), .val (.int a_), .unset, .unset, .unset, .unset, .unset] [(.int ((p2 &&& (2147483647 : Int32)) - ((p2 &&& (2147483647 : Int32)) / ((15 : Int32) - a_)) * ((15 : Int32) - a_)))])) t → Steps p.tables e below (s₁.setTop (mkF m 0 #[.val (.int p1), .val (.int p2), .val (.int p3), .val (.int p4), .unset, .unset, .unset, .unset, .unset, .unset] [])) t := by
    intro t kt
    refine R24 _ ?_
    show Steps p.tables e below (s₁.setTop (mkF m 3 #[.val (.int p1), .val (.int p2), .val (.int p3), .val (.int p4), .unset, .unset, .unset, .unset, .unset, .unset] [(.int a_)])) _
    refine XS.istore X0.here hx rfl (hb hby at_3) rfl (l' := #[.val (.int p1), .val (.int p2), .val (.int p3), .val (.int p4), .val (.int a_), .unset, .unset, .unset, .unset, .unset]) rfl ?_
    show Steps p.tables e below (s₁.setTop (mkF m 5 #[.val (.int p1), .val (.int p2), .val (.int p3), .val (.int p4), .val (.int a_), .unset, .unset, .unset, .unset, .unset] [])) _
    refine XS.iloadN X0.here hx rfl (hb hby at_5) rfl ?_
    show Steps p.tables e below (s₁.setTop (mkF m 6 #[.val (.int p1), .val (.int p2), .val (.int p3), .val (.int p4), .val (.int a_), .unset, .unset, .unset, .unset, .unset] [(.int p2)])) _
    refine X0.ldcInt hx hown (mvT hZ (hw _ (List.mem_of_getElem? (i := 0) rfl))) (g := (mkF m 6 #[.val (.int p1), .val (.int p2), .val (.int p3), .val (.int p4), .val (.int a_), .unset, .unset, .unset, .unset, .unset] [(.int p2)])) rfl (hb hby at_6) _ ?_
    show Steps p.tables e below (s₁.setTop (mkF m 8 #[.val (.int p1), .val (.int p2), .val (.int p3), .val (.int p4), .val (.int a_), .unset, .unset, .unset, .unset, .unset] [(.int (2147483647 : Int32)), (.int p2)])) _
    refine XS.iand X0.here hx rfl (hb hby at_8) rfl ?_
    show Steps p.tables e below (s₁.setTop (mkF m 9 #[.val (.int p1), .val (.int p2), .val (.int p3), .val (.int p4), .val (.int a_), .unset, .unset, .unset, .unset, .unset] [(.int (p2 &&& (2147483647 : Int32)))])) _
    refine XS.bipush X0.here hx rfl (hb hby at_9) ?_
    show Steps p.tables e below (s₁.setTop (mkF m 11 #[.val (.int p1), .val (.int p2), .val (.int p3), .val (.int p4), .val (.int a_), .unset, .unset, .unset, .unset, .unset] [(.int (15 : Int32)), (.int (p2 &&& (2147483647 : Int32)))])) _
    refine XS.iload X0.here hx rfl (hb hby at_11) rfl ?_
    show Steps p.tables e below (s₁.setTop (mkF m 13 #[.val (.int p1), .val (.int p2), .val (.int p3), .val (.int p4), .val (.int a_), .unset, .unset, .unset, .unset, .unset] [(.int a_), (.int (15 : Int32)), (.int (p2 &&& (2147483647 : Int32)))])) _
    refine XS.isub X0.here hx rfl (hb hby at_13) rfl ?_
    show Steps p.tables e below (s₁.setTop (mkF m 14 #[.val (.int p1), .val (.int p2), .val (.int p3), .val (.int p4), .val (.int a_), .unset, .unset, .unset, .unset, .unset] [(.int ((15 : Int32) - a_)), (.int (p2 &&& (2147483647 : Int32)))])) _
    refine XS.irem X0.here hx rfl (hb hby at_14) rfl (own_wd_ne a_ ba) ?_
    exact kt
  obtain ⟨wd, hwd⟩ : ∃ z : Int32, z = ((p2 &&& (2147483647 : Int32)) - ((p2 &&& (2147483647 : Int32)) / ((15 : Int32) - a_)) * ((15 : Int32) - a_)) := ⟨_, rfl⟩
  have R26 : ∀ t, Steps p.tables e below (s₁.setTop (mkF m 15 #[.val (.int p1), .val (.int p2), .val (.int p3), .val (.int p4), .val (.int a_), .unset, .unset, .unset, .unset, .unset] [(.int wd)])) t → Steps p.tables e below (s₁.setTop (mkF m 0 #[.val (.int p1), .val (.int p2), .val (.int p3), .val (.int p4), .unset, .unset, .unset, .unset, .unset, .unset] [])) t := by rw [hwd]; exact R25
  have bw := own_wd_b p2 a_ wd ba hwd
  have R27 : ∀ t, Steps p.tables e below (s₁.setTop (mkF m 21 #[.val (.int p1), .val (.int p2), .val (.int p3), .val (.int p4), .val (.int a_), .val (.int wd), .unset, .unset, .unset, .unset] [(.int (p3 &&& (2147483647 : Int32)))])) t → Steps p.tables e below (s₁.setTop (mkF m 0 #[.val (.int p1), .val (.int p2), .val (.int p3), .val (.int p4), .unset, .unset, .unset, .unset, .unset, .unset] [])) t := by
    intro t kt
    refine R26 _ ?_
    show Steps p.tables e below (s₁.setTop (mkF m 15 #[.val (.int p1), .val (.int p2), .val (.int p3), .val (.int p4), .val (.int a_), .unset, .unset, .unset, .unset, .unset] [(.int wd)])) _
    refine XS.istore X0.here hx rfl (hb hby at_15) rfl (l' := #[.val (.int p1), .val (.int p2), .val (.int p3), .val (.int p4), .val (.int a_), .val (.int wd), .unset, .unset, .unset, .unset]) rfl ?_
    show Steps p.tables e below (s₁.setTop (mkF m 17 #[.val (.int p1), .val (.int p2), .val (.int p3), .val (.int p4), .val (.int a_), .val (.int wd), .unset, .unset, .unset, .unset] [])) _
    refine XS.iloadN X0.here hx rfl (hb hby at_17) rfl ?_
    show Steps p.tables e below (s₁.setTop (mkF m 18 #[.val (.int p1), .val (.int p2), .val (.int p3), .val (.int p4), .val (.int a_), .val (.int wd), .unset, .unset, .unset, .unset] [(.int p3)])) _
    refine X0.ldcInt hx hown (mvT hZ (hw _ (List.mem_of_getElem? (i := 0) rfl))) (g := (mkF m 18 #[.val (.int p1), .val (.int p2), .val (.int p3), .val (.int p4), .val (.int a_), .val (.int wd), .unset, .unset, .unset, .unset] [(.int p3)])) rfl (hb hby at_18) _ ?_
    show Steps p.tables e below (s₁.setTop (mkF m 20 #[.val (.int p1), .val (.int p2), .val (.int p3), .val (.int p4), .val (.int a_), .val (.int wd), .unset, .unset, .unset, .unset] [(.int (2147483647 : Int32)), (.int p3)])) _
    refine XS.iand X0.here hx rfl (hb hby at_20) rfl ?_
    exact kt
  obtain ⟨vv, hvv⟩ : ∃ z : Int32, z = (p3 &&& (2147483647 : Int32)) := ⟨_, rfl⟩
  have R28 : ∀ t, Steps p.tables e below (s₁.setTop (mkF m 21 #[.val (.int p1), .val (.int p2), .val (.int p3), .val (.int p4), .val (.int a_), .val (.int wd), .unset, .unset, .unset, .unset] [(.int vv)])) t → Steps p.tables e below (s₁.setTop (mkF m 0 #[.val (.int p1), .val (.int p2), .val (.int p3), .val (.int p4), .unset, .unset, .unset, .unset, .unset, .unset] [])) t := by rw [hvv]; exact R27
  have bv := own_v_b p3
  rw [← hvv] at bv
  have R29 : ∀ t, Steps p.tables e below (s₁.setTop (mkF m 25 #[.val (.int p1), .val (.int p2), .val (.int p3), .val (.int p4), .val (.int a_), .val (.int wd), .val (.int vv), .unset, .unset, .unset] [(.int (p4.toInt8.toInt32))])) t → Steps p.tables e below (s₁.setTop (mkF m 0 #[.val (.int p1), .val (.int p2), .val (.int p3), .val (.int p4), .unset, .unset, .unset, .unset, .unset, .unset] [])) t := by
    intro t kt
    refine R28 _ ?_
    show Steps p.tables e below (s₁.setTop (mkF m 21 #[.val (.int p1), .val (.int p2), .val (.int p3), .val (.int p4), .val (.int a_), .val (.int wd), .unset, .unset, .unset, .unset] [(.int vv)])) _
    refine XS.istore X0.here hx rfl (hb hby at_21) rfl (l' := #[.val (.int p1), .val (.int p2), .val (.int p3), .val (.int p4), .val (.int a_), .val (.int wd), .val (.int vv), .unset, .unset, .unset]) rfl ?_
    show Steps p.tables e below (s₁.setTop (mkF m 23 #[.val (.int p1), .val (.int p2), .val (.int p3), .val (.int p4), .val (.int a_), .val (.int wd), .val (.int vv), .unset, .unset, .unset] [])) _
    refine XS.iloadN X0.here hx rfl (hb hby at_23) rfl ?_
    show Steps p.tables e below (s₁.setTop (mkF m 24 #[.val (.int p1), .val (.int p2), .val (.int p3), .val (.int p4), .val (.int a_), .val (.int wd), .val (.int vv), .unset, .unset, .unset] [(.int p4)])) _
    refine XS.i2b X0.here hx rfl (hb hby at_24) rfl ?_
    exact kt
  obtain ⟨ff, hff⟩ : ∃ z : Int32, z = (p4.toInt8.toInt32) := ⟨_, rfl⟩
  have R30 : ∀ t, Steps p.tables e below (s₁.setTop (mkF m 25 #[.val (.int p1), .val (.int p2), .val (.int p3), .val (.int p4), .val (.int a_), .val (.int wd), .val (.int vv), .unset, .unset, .unset] [(.int ff)])) t → Steps p.tables e below (s₁.setTop (mkF m 0 #[.val (.int p1), .val (.int p2), .val (.int p3), .val (.int p4), .unset, .unset, .unset, .unset, .unset, .unset] [])) t := by rw [hff]; exact R29
  have R31 : ∀ t, Steps p.tables e below (s₁.setTop (mkF m 29 #[.val (.int p1), .val (.int p2), .val (.int p3), .val (.int p4), .val (.int a_), .val (.int wd), .val (.int vv), .val (.int ff), .unset, .unset] [(.int (14 : Int32))])) t → Steps p.tables e below (s₁.setTop (mkF m 0 #[.val (.int p1), .val (.int p2), .val (.int p3), .val (.int p4), .unset, .unset, .unset, .unset, .unset, .unset] [])) t := by
    intro t kt
    refine R30 _ ?_
    show Steps p.tables e below (s₁.setTop (mkF m 25 #[.val (.int p1), .val (.int p2), .val (.int p3), .val (.int p4), .val (.int a_), .val (.int wd), .val (.int vv), .unset, .unset, .unset] [(.int ff)])) _
    refine XS.istore X0.here hx rfl (hb hby at_25) rfl (l' := #[.val (.int p1), .val (.int p2), .val (.int p3), .val (.int p4), .val (.int a_), .val (.int wd), .val (.int vv), .val (.int ff), .unset, .unset]) rfl ?_
    show Steps p.tables e below (s₁.setTop (mkF m 27 #[.val (.int p1), .val (.int p2), .val (.int p3), .val (.int p4), .val (.int a_), .val (.int wd), .val (.int vv), .val (.int ff), .unset, .unset] [])) _
    refine XS.bipush X0.here hx rfl (hb hby at_27) ?_
    exact kt
  obtain ⟨T32, h32, k32, X32, e32, E32, A32, st32⟩ := newP X0 hx hZ (hw _ (List.mem_of_getElem? (i := 1) rfl)) e0 (g := (mkF m 29 #[.val (.int p1), .val (.int p2), .val (.int p3), .val (.int p4), .val (.int a_), .val (.int wd), .val (.int vv), .val (.int ff), .unset, .unset] [(.int (14 : Int32))])) rfl (hb hby at_29) rfl (by decide) (cap := 14) (by decide) (by decide) (by decide) (by decide)
  obtain ⟨b1, g32⟩ : ∃ z, z = h0.size := ⟨_, rfl⟩
  rw [← g32] at A32 st32
  have g_b1 : n0 ≤ b1 := Nat.le_trans Z0 (Nat.le_of_eq g32.symm)
  have Zs32 : n0 ≤ h32.size := Nat.le_trans Z0 E32.1
  have VP : AV Z h32 b1 .long 14 (fun _ => defaultValue .long) := AV.new A32 rfl rfl
  have R33 : ∀ t, Steps p.tables e below (T32.setTop (mkF m 34 #[.val (.int p1), .val (.int p2), .val (.int p3), .val (.int p4), .val (.int a_), .val (.int wd), .val (.int vv), .val (.int ff), .unset, .unset] [(.long (1 : Int64)), (.int (0 : Int32)), (.ref b1), (.ref b1)])) t → Steps p.tables e below (s₁.setTop (mkF m 0 #[.val (.int p1), .val (.int p2), .val (.int p3), .val (.int p4), .unset, .unset, .unset, .unset, .unset, .unset] [])) t := by
    intro t kt
    refine R31 _ ?_
    refine st32 _ ?_
    show Steps p.tables e below (T32.setTop (mkF m 31 #[.val (.int p1), .val (.int p2), .val (.int p3), .val (.int p4), .val (.int a_), .val (.int wd), .val (.int vv), .val (.int ff), .unset, .unset] [(.ref b1)])) _
    refine XS.dup X32.here hx rfl (hb hby at_31) rfl rfl ?_
    show Steps p.tables e below (T32.setTop (mkF m 32 #[.val (.int p1), .val (.int p2), .val (.int p3), .val (.int p4), .val (.int a_), .val (.int wd), .val (.int vv), .val (.int ff), .unset, .unset] [(.ref b1), (.ref b1)])) _
    refine XS.iconst X32.here hx rfl (hb hby at_32) ?_
    show Steps p.tables e below (T32.setTop (mkF m 33 #[.val (.int p1), .val (.int p2), .val (.int p3), .val (.int p4), .val (.int a_), .val (.int wd), .val (.int vv), .val (.int ff), .unset, .unset] [(.int (0 : Int32)), (.ref b1), (.ref b1)])) _
    refine XS.lconst X32.here hx rfl (hb hby at_33) ?_
    exact kt
  obtain ⟨cl34, Ar34, hin34, -⟩ := VP.at (j := (0 : Int32)) (k := 0) (by decide) rfl (by decide)
  obtain ⟨T35, h35, X35, e35, W35, st35⟩ := stJ X32 hx hZ e32 Ar34 (j := (0 : Int32)) hin34 (g := (mkF m 34 #[.val (.int p1), .val (.int p2), .val (.int p3), .val (.int p4), .val (.int a_), .val (.int wd), .val (.int vv), .val (.int ff), .unset, .unset] [(.long (1 : Int64)), (.int (0 : Int32)), (.ref b1), (.ref b1)])) rfl rfl (hb hby at_34)
  have N35 := Fr.snoc X35 N0 g_b1
  rw [show ((0 : Int32) : Int32).toNatClampNeg = 0 from rfl] at W35
  have VP_35 := VP.set W35 rfl
  have Zs35 : n0 ≤ h35.size := Nat.le_trans Zs32 (Keep.of_wr W35).1
  have R36 : ∀ t, Steps p.tables e below (T35.setTop (mkF m 40 #[.val (.int p1), .val (.int p2), .val (.int p3), .val (.int p4), .val (.int a_), .val (.int wd), .val (.int vv), .val (.int ff), .unset, .unset] [(.long (10 : Int64)), (.int (1 : Int32)), (.ref b1), (.ref b1)])) t → Steps p.tables e below (s₁.setTop (mkF m 0 #[.val (.int p1), .val (.int p2), .val (.int p3), .val (.int p4), .unset, .unset, .unset, .unset, .unset, .unset] [])) t := by
    intro t kt
    refine R33 _ ?_
    refine st35 _ ?_
    show Steps p.tables e below (T35.setTop (mkF m 35 #[.val (.int p1), .val (.int p2), .val (.int p3), .val (.int p4), .val (.int a_), .val (.int wd), .val (.int vv), .val (.int ff), .unset, .unset] [(.ref b1)])) _
    refine XS.dup X35.here hx rfl (hb hby at_35) rfl rfl ?_
    show Steps p.tables e below (T35.setTop (mkF m 36 #[.val (.int p1), .val (.int p2), .val (.int p3), .val (.int p4), .val (.int a_), .val (.int wd), .val (.int vv), .val (.int ff), .unset, .unset] [(.ref b1), (.ref b1)])) _
    refine XS.iconst X35.here hx rfl (hb hby at_36) ?_
    show Steps p.tables e below (T35.setTop (mkF m 37 #[.val (.int p1), .val (.int p2), .val (.int p3), .val (.int p4), .val (.int a_), .val (.int wd), .val (.int vv), .val (.int ff), .unset, .unset] [(.int (1 : Int32)), (.ref b1), (.ref b1)])) _
    refine X35.ldc2Long hx hown (mvT hZ (hw _ (List.mem_of_getElem? (i := 2) rfl))) (g := (mkF m 37 #[.val (.int p1), .val (.int p2), .val (.int p3), .val (.int p4), .val (.int a_), .val (.int wd), .val (.int vv), .val (.int ff), .unset, .unset] [(.int (1 : Int32)), (.ref b1), (.ref b1)])) rfl (hb hby at_37) _ ?_
    exact kt
  obtain ⟨cl37, Ar37, hin37, -⟩ := VP_35.at (j := (1 : Int32)) (k := 1) (by decide) rfl (by decide)
  obtain ⟨T38, h38, X38, e38, W38, st38⟩ := stJ X35 hx hZ e35 Ar37 (j := (1 : Int32)) hin37 (g := (mkF m 40 #[.val (.int p1), .val (.int p2), .val (.int p3), .val (.int p4), .val (.int a_), .val (.int wd), .val (.int vv), .val (.int ff), .unset, .unset] [(.long (10 : Int64)), (.int (1 : Int32)), (.ref b1), (.ref b1)])) rfl rfl (hb hby at_40)
  have N38 := Fr.snoc X38 N35 g_b1
  rw [show ((1 : Int32) : Int32).toNatClampNeg = 1 from rfl] at W38
  have VP_38 := VP_35.set W38 rfl
  have Zs38 : n0 ≤ h38.size := Nat.le_trans Zs35 (Keep.of_wr W38).1
  have R39 : ∀ t, Steps p.tables e below (T38.setTop (mkF m 46 #[.val (.int p1), .val (.int p2), .val (.int p3), .val (.int p4), .val (.int a_), .val (.int wd), .val (.int vv), .val (.int ff), .unset, .unset] [(.long (100 : Int64)), (.int (2 : Int32)), (.ref b1), (.ref b1)])) t → Steps p.tables e below (s₁.setTop (mkF m 0 #[.val (.int p1), .val (.int p2), .val (.int p3), .val (.int p4), .unset, .unset, .unset, .unset, .unset, .unset] [])) t := by
    intro t kt
    refine R36 _ ?_
    refine st38 _ ?_
    show Steps p.tables e below (T38.setTop (mkF m 41 #[.val (.int p1), .val (.int p2), .val (.int p3), .val (.int p4), .val (.int a_), .val (.int wd), .val (.int vv), .val (.int ff), .unset, .unset] [(.ref b1)])) _
    refine XS.dup X38.here hx rfl (hb hby at_41) rfl rfl ?_
    show Steps p.tables e below (T38.setTop (mkF m 42 #[.val (.int p1), .val (.int p2), .val (.int p3), .val (.int p4), .val (.int a_), .val (.int wd), .val (.int vv), .val (.int ff), .unset, .unset] [(.ref b1), (.ref b1)])) _
    refine XS.iconst X38.here hx rfl (hb hby at_42) ?_
    show Steps p.tables e below (T38.setTop (mkF m 43 #[.val (.int p1), .val (.int p2), .val (.int p3), .val (.int p4), .val (.int a_), .val (.int wd), .val (.int vv), .val (.int ff), .unset, .unset] [(.int (2 : Int32)), (.ref b1), (.ref b1)])) _
    refine X38.ldc2Long hx hown (mvT hZ (hw _ (List.mem_of_getElem? (i := 3) rfl))) (g := (mkF m 43 #[.val (.int p1), .val (.int p2), .val (.int p3), .val (.int p4), .val (.int a_), .val (.int wd), .val (.int vv), .val (.int ff), .unset, .unset] [(.int (2 : Int32)), (.ref b1), (.ref b1)])) rfl (hb hby at_43) _ ?_
    exact kt
  obtain ⟨cl40, Ar40, hin40, -⟩ := VP_38.at (j := (2 : Int32)) (k := 2) (by decide) rfl (by decide)
  obtain ⟨T41, h41, X41, e41, W41, st41⟩ := stJ X38 hx hZ e38 Ar40 (j := (2 : Int32)) hin40 (g := (mkF m 46 #[.val (.int p1), .val (.int p2), .val (.int p3), .val (.int p4), .val (.int a_), .val (.int wd), .val (.int vv), .val (.int ff), .unset, .unset] [(.long (100 : Int64)), (.int (2 : Int32)), (.ref b1), (.ref b1)])) rfl rfl (hb hby at_46)
  have N41 := Fr.snoc X41 N38 g_b1
  rw [show ((2 : Int32) : Int32).toNatClampNeg = 2 from rfl] at W41
  have VP_41 := VP_38.set W41 rfl
  have Zs41 : n0 ≤ h41.size := Nat.le_trans Zs38 (Keep.of_wr W41).1
  have R42 : ∀ t, Steps p.tables e below (T41.setTop (mkF m 52 #[.val (.int p1), .val (.int p2), .val (.int p3), .val (.int p4), .val (.int a_), .val (.int wd), .val (.int vv), .val (.int ff), .unset, .unset] [(.long (1000 : Int64)), (.int (3 : Int32)), (.ref b1), (.ref b1)])) t → Steps p.tables e below (s₁.setTop (mkF m 0 #[.val (.int p1), .val (.int p2), .val (.int p3), .val (.int p4), .unset, .unset, .unset, .unset, .unset, .unset] [])) t := by
    intro t kt
    refine R39 _ ?_
    refine st41 _ ?_
    show Steps p.tables e below (T41.setTop (mkF m 47 #[.val (.int p1), .val (.int p2), .val (.int p3), .val (.int p4), .val (.int a_), .val (.int wd), .val (.int vv), .val (.int ff), .unset, .unset] [(.ref b1)])) _
    refine XS.dup X41.here hx rfl (hb hby at_47) rfl rfl ?_
    show Steps p.tables e below (T41.setTop (mkF m 48 #[.val (.int p1), .val (.int p2), .val (.int p3), .val (.int p4), .val (.int a_), .val (.int wd), .val (.int vv), .val (.int ff), .unset, .unset] [(.ref b1), (.ref b1)])) _
    refine XS.iconst X41.here hx rfl (hb hby at_48) ?_
    show Steps p.tables e below (T41.setTop (mkF m 49 #[.val (.int p1), .val (.int p2), .val (.int p3), .val (.int p4), .val (.int a_), .val (.int wd), .val (.int vv), .val (.int ff), .unset, .unset] [(.int (3 : Int32)), (.ref b1), (.ref b1)])) _
    refine X41.ldc2Long hx hown (mvT hZ (hw _ (List.mem_of_getElem? (i := 4) rfl))) (g := (mkF m 49 #[.val (.int p1), .val (.int p2), .val (.int p3), .val (.int p4), .val (.int a_), .val (.int wd), .val (.int vv), .val (.int ff), .unset, .unset] [(.int (3 : Int32)), (.ref b1), (.ref b1)])) rfl (hb hby at_49) _ ?_
    exact kt
  obtain ⟨cl43, Ar43, hin43, -⟩ := VP_41.at (j := (3 : Int32)) (k := 3) (by decide) rfl (by decide)
  obtain ⟨T44, h44, X44, e44, W44, st44⟩ := stJ X41 hx hZ e41 Ar43 (j := (3 : Int32)) hin43 (g := (mkF m 52 #[.val (.int p1), .val (.int p2), .val (.int p3), .val (.int p4), .val (.int a_), .val (.int wd), .val (.int vv), .val (.int ff), .unset, .unset] [(.long (1000 : Int64)), (.int (3 : Int32)), (.ref b1), (.ref b1)])) rfl rfl (hb hby at_52)
  have N44 := Fr.snoc X44 N41 g_b1
  rw [show ((3 : Int32) : Int32).toNatClampNeg = 3 from rfl] at W44
  have VP_44 := VP_41.set W44 rfl
  have Zs44 : n0 ≤ h44.size := Nat.le_trans Zs41 (Keep.of_wr W44).1
  have R45 : ∀ t, Steps p.tables e below (T44.setTop (mkF m 58 #[.val (.int p1), .val (.int p2), .val (.int p3), .val (.int p4), .val (.int a_), .val (.int wd), .val (.int vv), .val (.int ff), .unset, .unset] [(.long (10000 : Int64)), (.int (4 : Int32)), (.ref b1), (.ref b1)])) t → Steps p.tables e below (s₁.setTop (mkF m 0 #[.val (.int p1), .val (.int p2), .val (.int p3), .val (.int p4), .unset, .unset, .unset, .unset, .unset, .unset] [])) t := by
    intro t kt
    refine R42 _ ?_
    refine st44 _ ?_
    show Steps p.tables e below (T44.setTop (mkF m 53 #[.val (.int p1), .val (.int p2), .val (.int p3), .val (.int p4), .val (.int a_), .val (.int wd), .val (.int vv), .val (.int ff), .unset, .unset] [(.ref b1)])) _
    refine XS.dup X44.here hx rfl (hb hby at_53) rfl rfl ?_
    show Steps p.tables e below (T44.setTop (mkF m 54 #[.val (.int p1), .val (.int p2), .val (.int p3), .val (.int p4), .val (.int a_), .val (.int wd), .val (.int vv), .val (.int ff), .unset, .unset] [(.ref b1), (.ref b1)])) _
    refine XS.iconst X44.here hx rfl (hb hby at_54) ?_
    show Steps p.tables e below (T44.setTop (mkF m 55 #[.val (.int p1), .val (.int p2), .val (.int p3), .val (.int p4), .val (.int a_), .val (.int wd), .val (.int vv), .val (.int ff), .unset, .unset] [(.int (4 : Int32)), (.ref b1), (.ref b1)])) _
    refine X44.ldc2Long hx hown (mvT hZ (hw _ (List.mem_of_getElem? (i := 5) rfl))) (g := (mkF m 55 #[.val (.int p1), .val (.int p2), .val (.int p3), .val (.int p4), .val (.int a_), .val (.int wd), .val (.int vv), .val (.int ff), .unset, .unset] [(.int (4 : Int32)), (.ref b1), (.ref b1)])) rfl (hb hby at_55) _ ?_
    exact kt
  obtain ⟨cl46, Ar46, hin46, -⟩ := VP_44.at (j := (4 : Int32)) (k := 4) (by decide) rfl (by decide)
  obtain ⟨T47, h47, X47, e47, W47, st47⟩ := stJ X44 hx hZ e44 Ar46 (j := (4 : Int32)) hin46 (g := (mkF m 58 #[.val (.int p1), .val (.int p2), .val (.int p3), .val (.int p4), .val (.int a_), .val (.int wd), .val (.int vv), .val (.int ff), .unset, .unset] [(.long (10000 : Int64)), (.int (4 : Int32)), (.ref b1), (.ref b1)])) rfl rfl (hb hby at_58)
  have N47 := Fr.snoc X47 N44 g_b1
  rw [show ((4 : Int32) : Int32).toNatClampNeg = 4 from rfl] at W47
  have VP_47 := VP_44.set W47 rfl
  have Zs47 : n0 ≤ h47.size := Nat.le_trans Zs44 (Keep.of_wr W47).1
  have R48 : ∀ t, Steps p.tables e below (T47.setTop (mkF m 64 #[.val (.int p1), .val (.int p2), .val (.int p3), .val (.int p4), .val (.int a_), .val (.int wd), .val (.int vv), .val (.int ff), .unset, .unset] [(.long (100000 : Int64)), (.int (5 : Int32)), (.ref b1), (.ref b1)])) t → Steps p.tables e below (s₁.setTop (mkF m 0 #[.val (.int p1), .val (.int p2), .val (.int p3), .val (.int p4), .unset, .unset, .unset, .unset, .unset, .unset] [])) t := by
    intro t kt
    refine R45 _ ?_
    refine st47 _ ?_
    show Steps p.tables e below (T47.setTop (mkF m 59 #[.val (.int p1), .val (.int p2), .val (.int p3), .val (.int p4), .val (.int a_), .val (.int wd), .val (.int vv), .val (.int ff), .unset, .unset] [(.ref b1)])) _
    refine XS.dup X47.here hx rfl (hb hby at_59) rfl rfl ?_
    show Steps p.tables e below (T47.setTop (mkF m 60 #[.val (.int p1), .val (.int p2), .val (.int p3), .val (.int p4), .val (.int a_), .val (.int wd), .val (.int vv), .val (.int ff), .unset, .unset] [(.ref b1), (.ref b1)])) _
    refine XS.iconst X47.here hx rfl (hb hby at_60) ?_
    show Steps p.tables e below (T47.setTop (mkF m 61 #[.val (.int p1), .val (.int p2), .val (.int p3), .val (.int p4), .val (.int a_), .val (.int wd), .val (.int vv), .val (.int ff), .unset, .unset] [(.int (5 : Int32)), (.ref b1), (.ref b1)])) _
    refine X47.ldc2Long hx hown (mvT hZ (hw _ (List.mem_of_getElem? (i := 6) rfl))) (g := (mkF m 61 #[.val (.int p1), .val (.int p2), .val (.int p3), .val (.int p4), .val (.int a_), .val (.int wd), .val (.int vv), .val (.int ff), .unset, .unset] [(.int (5 : Int32)), (.ref b1), (.ref b1)])) rfl (hb hby at_61) _ ?_
    exact kt
  obtain ⟨cl49, Ar49, hin49, -⟩ := VP_47.at (j := (5 : Int32)) (k := 5) (by decide) rfl (by decide)
  obtain ⟨T50, h50, X50, e50, W50, st50⟩ := stJ X47 hx hZ e47 Ar49 (j := (5 : Int32)) hin49 (g := (mkF m 64 #[.val (.int p1), .val (.int p2), .val (.int p3), .val (.int p4), .val (.int a_), .val (.int wd), .val (.int vv), .val (.int ff), .unset, .unset] [(.long (100000 : Int64)), (.int (5 : Int32)), (.ref b1), (.ref b1)])) rfl rfl (hb hby at_64)
  have N50 := Fr.snoc X50 N47 g_b1
  rw [show ((5 : Int32) : Int32).toNatClampNeg = 5 from rfl] at W50
  have VP_50 := VP_47.set W50 rfl
  have Zs50 : n0 ≤ h50.size := Nat.le_trans Zs47 (Keep.of_wr W50).1
  have R51 : ∀ t, Steps p.tables e below (T50.setTop (mkF m 71 #[.val (.int p1), .val (.int p2), .val (.int p3), .val (.int p4), .val (.int a_), .val (.int wd), .val (.int vv), .val (.int ff), .unset, .unset] [(.long (1000000 : Int64)), (.int (6 : Int32)), (.ref b1), (.ref b1)])) t → Steps p.tables e below (s₁.setTop (mkF m 0 #[.val (.int p1), .val (.int p2), .val (.int p3), .val (.int p4), .unset, .unset, .unset, .unset, .unset, .unset] [])) t := by
    intro t kt
    refine R48 _ ?_
    refine st50 _ ?_
    show Steps p.tables e below (T50.setTop (mkF m 65 #[.val (.int p1), .val (.int p2), .val (.int p3), .val (.int p4), .val (.int a_), .val (.int wd), .val (.int vv), .val (.int ff), .unset, .unset] [(.ref b1)])) _
    refine XS.dup X50.here hx rfl (hb hby at_65) rfl rfl ?_
    show Steps p.tables e below (T50.setTop (mkF m 66 #[.val (.int p1), .val (.int p2), .val (.int p3), .val (.int p4), .val (.int a_), .val (.int wd), .val (.int vv), .val (.int ff), .unset, .unset] [(.ref b1), (.ref b1)])) _
    refine XS.bipush X50.here hx rfl (hb hby at_66) ?_
    show Steps p.tables e below (T50.setTop (mkF m 68 #[.val (.int p1), .val (.int p2), .val (.int p3), .val (.int p4), .val (.int a_), .val (.int wd), .val (.int vv), .val (.int ff), .unset, .unset] [(.int (6 : Int32)), (.ref b1), (.ref b1)])) _
    refine X50.ldc2Long hx hown (mvT hZ (hw _ (List.mem_of_getElem? (i := 7) rfl))) (g := (mkF m 68 #[.val (.int p1), .val (.int p2), .val (.int p3), .val (.int p4), .val (.int a_), .val (.int wd), .val (.int vv), .val (.int ff), .unset, .unset] [(.int (6 : Int32)), (.ref b1), (.ref b1)])) rfl (hb hby at_68) _ ?_
    exact kt
  obtain ⟨cl52, Ar52, hin52, -⟩ := VP_50.at (j := (6 : Int32)) (k := 6) (by decide) rfl (by decide)
  obtain ⟨T53, h53, X53, e53, W53, st53⟩ := stJ X50 hx hZ e50 Ar52 (j := (6 : Int32)) hin52 (g := (mkF m 71 #[.val (.int p1), .val (.int p2), .val (.int p3), .val (.int p4), .val (.int a_), .val (.int wd), .val (.int vv), .val (.int ff), .unset, .unset] [(.long (1000000 : Int64)), (.int (6 : Int32)), (.ref b1), (.ref b1)])) rfl rfl (hb hby at_71)
  have N53 := Fr.snoc X53 N50 g_b1
  rw [show ((6 : Int32) : Int32).toNatClampNeg = 6 from rfl] at W53
  have VP_53 := VP_50.set W53 rfl
  have Zs53 : n0 ≤ h53.size := Nat.le_trans Zs50 (Keep.of_wr W53).1
  have R54 : ∀ t, Steps p.tables e below (T53.setTop (mkF m 78 #[.val (.int p1), .val (.int p2), .val (.int p3), .val (.int p4), .val (.int a_), .val (.int wd), .val (.int vv), .val (.int ff), .unset, .unset] [(.long (10000000 : Int64)), (.int (7 : Int32)), (.ref b1), (.ref b1)])) t → Steps p.tables e below (s₁.setTop (mkF m 0 #[.val (.int p1), .val (.int p2), .val (.int p3), .val (.int p4), .unset, .unset, .unset, .unset, .unset, .unset] [])) t := by
    intro t kt
    refine R51 _ ?_
    refine st53 _ ?_
    show Steps p.tables e below (T53.setTop (mkF m 72 #[.val (.int p1), .val (.int p2), .val (.int p3), .val (.int p4), .val (.int a_), .val (.int wd), .val (.int vv), .val (.int ff), .unset, .unset] [(.ref b1)])) _
    refine XS.dup X53.here hx rfl (hb hby at_72) rfl rfl ?_
    show Steps p.tables e below (T53.setTop (mkF m 73 #[.val (.int p1), .val (.int p2), .val (.int p3), .val (.int p4), .val (.int a_), .val (.int wd), .val (.int vv), .val (.int ff), .unset, .unset] [(.ref b1), (.ref b1)])) _
    refine XS.bipush X53.here hx rfl (hb hby at_73) ?_
    show Steps p.tables e below (T53.setTop (mkF m 75 #[.val (.int p1), .val (.int p2), .val (.int p3), .val (.int p4), .val (.int a_), .val (.int wd), .val (.int vv), .val (.int ff), .unset, .unset] [(.int (7 : Int32)), (.ref b1), (.ref b1)])) _
    refine X53.ldc2Long hx hown (mvT hZ (hw _ (List.mem_of_getElem? (i := 8) rfl))) (g := (mkF m 75 #[.val (.int p1), .val (.int p2), .val (.int p3), .val (.int p4), .val (.int a_), .val (.int wd), .val (.int vv), .val (.int ff), .unset, .unset] [(.int (7 : Int32)), (.ref b1), (.ref b1)])) rfl (hb hby at_75) _ ?_
    exact kt
  obtain ⟨cl55, Ar55, hin55, -⟩ := VP_53.at (j := (7 : Int32)) (k := 7) (by decide) rfl (by decide)
  obtain ⟨T56, h56, X56, e56, W56, st56⟩ := stJ X53 hx hZ e53 Ar55 (j := (7 : Int32)) hin55 (g := (mkF m 78 #[.val (.int p1), .val (.int p2), .val (.int p3), .val (.int p4), .val (.int a_), .val (.int wd), .val (.int vv), .val (.int ff), .unset, .unset] [(.long (10000000 : Int64)), (.int (7 : Int32)), (.ref b1), (.ref b1)])) rfl rfl (hb hby at_78)
  have N56 := Fr.snoc X56 N53 g_b1
  rw [show ((7 : Int32) : Int32).toNatClampNeg = 7 from rfl] at W56
  have VP_56 := VP_53.set W56 rfl
  have Zs56 : n0 ≤ h56.size := Nat.le_trans Zs53 (Keep.of_wr W56).1
  have R57 : ∀ t, Steps p.tables e below (T56.setTop (mkF m 85 #[.val (.int p1), .val (.int p2), .val (.int p3), .val (.int p4), .val (.int a_), .val (.int wd), .val (.int vv), .val (.int ff), .unset, .unset] [(.long (100000000 : Int64)), (.int (8 : Int32)), (.ref b1), (.ref b1)])) t → Steps p.tables e below (s₁.setTop (mkF m 0 #[.val (.int p1), .val (.int p2), .val (.int p3), .val (.int p4), .unset, .unset, .unset, .unset, .unset, .unset] [])) t := by
    intro t kt
    refine R54 _ ?_
    refine st56 _ ?_
    show Steps p.tables e below (T56.setTop (mkF m 79 #[.val (.int p1), .val (.int p2), .val (.int p3), .val (.int p4), .val (.int a_), .val (.int wd), .val (.int vv), .val (.int ff), .unset, .unset] [(.ref b1)])) _
    refine XS.dup X56.here hx rfl (hb hby at_79) rfl rfl ?_
    show Steps p.tables e below (T56.setTop (mkF m 80 #[.val (.int p1), .val (.int p2), .val (.int p3), .val (.int p4), .val (.int a_), .val (.int wd), .val (.int vv), .val (.int ff), .unset, .unset] [(.ref b1), (.ref b1)])) _
    refine XS.bipush X56.here hx rfl (hb hby at_80) ?_
    show Steps p.tables e below (T56.setTop (mkF m 82 #[.val (.int p1), .val (.int p2), .val (.int p3), .val (.int p4), .val (.int a_), .val (.int wd), .val (.int vv), .val (.int ff), .unset, .unset] [(.int (8 : Int32)), (.ref b1), (.ref b1)])) _
    refine X56.ldc2Long hx hown (mvT hZ (hw _ (List.mem_of_getElem? (i := 9) rfl))) (g := (mkF m 82 #[.val (.int p1), .val (.int p2), .val (.int p3), .val (.int p4), .val (.int a_), .val (.int wd), .val (.int vv), .val (.int ff), .unset, .unset] [(.int (8 : Int32)), (.ref b1), (.ref b1)])) rfl (hb hby at_82) _ ?_
    exact kt
  obtain ⟨cl58, Ar58, hin58, -⟩ := VP_56.at (j := (8 : Int32)) (k := 8) (by decide) rfl (by decide)
  obtain ⟨T59, h59, X59, e59, W59, st59⟩ := stJ X56 hx hZ e56 Ar58 (j := (8 : Int32)) hin58 (g := (mkF m 85 #[.val (.int p1), .val (.int p2), .val (.int p3), .val (.int p4), .val (.int a_), .val (.int wd), .val (.int vv), .val (.int ff), .unset, .unset] [(.long (100000000 : Int64)), (.int (8 : Int32)), (.ref b1), (.ref b1)])) rfl rfl (hb hby at_85)
  have N59 := Fr.snoc X59 N56 g_b1
  rw [show ((8 : Int32) : Int32).toNatClampNeg = 8 from rfl] at W59
  have VP_59 := VP_56.set W59 rfl
  have Zs59 : n0 ≤ h59.size := Nat.le_trans Zs56 (Keep.of_wr W59).1
  have R60 : ∀ t, Steps p.tables e below (T59.setTop (mkF m 92 #[.val (.int p1), .val (.int p2), .val (.int p3), .val (.int p4), .val (.int a_), .val (.int wd), .val (.int vv), .val (.int ff), .unset, .unset] [(.long (1000000000 : Int64)), (.int (9 : Int32)), (.ref b1), (.ref b1)])) t → Steps p.tables e below (s₁.setTop (mkF m 0 #[.val (.int p1), .val (.int p2), .val (.int p3), .val (.int p4), .unset, .unset, .unset, .unset, .unset, .unset] [])) t := by
    intro t kt
    refine R57 _ ?_
    refine st59 _ ?_
    show Steps p.tables e below (T59.setTop (mkF m 86 #[.val (.int p1), .val (.int p2), .val (.int p3), .val (.int p4), .val (.int a_), .val (.int wd), .val (.int vv), .val (.int ff), .unset, .unset] [(.ref b1)])) _
    refine XS.dup X59.here hx rfl (hb hby at_86) rfl rfl ?_
    show Steps p.tables e below (T59.setTop (mkF m 87 #[.val (.int p1), .val (.int p2), .val (.int p3), .val (.int p4), .val (.int a_), .val (.int wd), .val (.int vv), .val (.int ff), .unset, .unset] [(.ref b1), (.ref b1)])) _
    refine XS.bipush X59.here hx rfl (hb hby at_87) ?_
    show Steps p.tables e below (T59.setTop (mkF m 89 #[.val (.int p1), .val (.int p2), .val (.int p3), .val (.int p4), .val (.int a_), .val (.int wd), .val (.int vv), .val (.int ff), .unset, .unset] [(.int (9 : Int32)), (.ref b1), (.ref b1)])) _
    refine X59.ldc2Long hx hown (mvT hZ (hw _ (List.mem_of_getElem? (i := 10) rfl))) (g := (mkF m 89 #[.val (.int p1), .val (.int p2), .val (.int p3), .val (.int p4), .val (.int a_), .val (.int wd), .val (.int vv), .val (.int ff), .unset, .unset] [(.int (9 : Int32)), (.ref b1), (.ref b1)])) rfl (hb hby at_89) _ ?_
    exact kt
  obtain ⟨cl61, Ar61, hin61, -⟩ := VP_59.at (j := (9 : Int32)) (k := 9) (by decide) rfl (by decide)
  obtain ⟨T62, h62, X62, e62, W62, st62⟩ := stJ X59 hx hZ e59 Ar61 (j := (9 : Int32)) hin61 (g := (mkF m 92 #[.val (.int p1), .val (.int p2), .val (.int p3), .val (.int p4), .val (.int a_), .val (.int wd), .val (.int vv), .val (.int ff), .unset, .unset] [(.long (1000000000 : Int64)), (.int (9 : Int32)), (.ref b1), (.ref b1)])) rfl rfl (hb hby at_92)
  have N62 := Fr.snoc X62 N59 g_b1
  rw [show ((9 : Int32) : Int32).toNatClampNeg = 9 from rfl] at W62
  have VP_62 := VP_59.set W62 rfl
  have Zs62 : n0 ≤ h62.size := Nat.le_trans Zs59 (Keep.of_wr W62).1
  have R63 : ∀ t, Steps p.tables e below (T62.setTop (mkF m 99 #[.val (.int p1), .val (.int p2), .val (.int p3), .val (.int p4), .val (.int a_), .val (.int wd), .val (.int vv), .val (.int ff), .unset, .unset] [(.long (10000000000 : Int64)), (.int (10 : Int32)), (.ref b1), (.ref b1)])) t → Steps p.tables e below (s₁.setTop (mkF m 0 #[.val (.int p1), .val (.int p2), .val (.int p3), .val (.int p4), .unset, .unset, .unset, .unset, .unset, .unset] [])) t := by
    intro t kt
    refine R60 _ ?_
    refine st62 _ ?_
    show Steps p.tables e below (T62.setTop (mkF m 93 #[.val (.int p1), .val (.int p2), .val (.int p3), .val (.int p4), .val (.int a_), .val (.int wd), .val (.int vv), .val (.int ff), .unset, .unset] [(.ref b1)])) _
    refine XS.dup X62.here hx rfl (hb hby at_93) rfl rfl ?_
    show Steps p.tables e below (T62.setTop (mkF m 94 #[.val (.int p1), .val (.int p2), .val (.int p3), .val (.int p4), .val (.int a_), .val (.int wd), .val (.int vv), .val (.int ff), .unset, .unset] [(.ref b1), (.ref b1)])) _
    refine XS.bipush X62.here hx rfl (hb hby at_94) ?_
    show Steps p.tables e below (T62.setTop (mkF m 96 #[.val (.int p1), .val (.int p2), .val (.int p3), .val (.int p4), .val (.int a_), .val (.int wd), .val (.int vv), .val (.int ff), .unset, .unset] [(.int (10 : Int32)), (.ref b1), (.ref b1)])) _
    refine X62.ldc2Long hx hown (mvT hZ (hw _ (List.mem_of_getElem? (i := 11) rfl))) (g := (mkF m 96 #[.val (.int p1), .val (.int p2), .val (.int p3), .val (.int p4), .val (.int a_), .val (.int wd), .val (.int vv), .val (.int ff), .unset, .unset] [(.int (10 : Int32)), (.ref b1), (.ref b1)])) rfl (hb hby at_96) _ ?_
    exact kt
  obtain ⟨cl64, Ar64, hin64, -⟩ := VP_62.at (j := (10 : Int32)) (k := 10) (by decide) rfl (by decide)
  obtain ⟨T65, h65, X65, e65, W65, st65⟩ := stJ X62 hx hZ e62 Ar64 (j := (10 : Int32)) hin64 (g := (mkF m 99 #[.val (.int p1), .val (.int p2), .val (.int p3), .val (.int p4), .val (.int a_), .val (.int wd), .val (.int vv), .val (.int ff), .unset, .unset] [(.long (10000000000 : Int64)), (.int (10 : Int32)), (.ref b1), (.ref b1)])) rfl rfl (hb hby at_99)
  have N65 := Fr.snoc X65 N62 g_b1
  rw [show ((10 : Int32) : Int32).toNatClampNeg = 10 from rfl] at W65
  have VP_65 := VP_62.set W65 rfl
  have Zs65 : n0 ≤ h65.size := Nat.le_trans Zs62 (Keep.of_wr W65).1
  have R66 : ∀ t, Steps p.tables e below (T65.setTop (mkF m 106 #[.val (.int p1), .val (.int p2), .val (.int p3), .val (.int p4), .val (.int a_), .val (.int wd), .val (.int vv), .val (.int ff), .unset, .unset] [(.long (100000000000 : Int64)), (.int (11 : Int32)), (.ref b1), (.ref b1)])) t → Steps p.tables e below (s₁.setTop (mkF m 0 #[.val (.int p1), .val (.int p2), .val (.int p3), .val (.int p4), .unset, .unset, .unset, .unset, .unset, .unset] [])) t := by
    intro t kt
    refine R63 _ ?_
    refine st65 _ ?_
    show Steps p.tables e below (T65.setTop (mkF m 100 #[.val (.int p1), .val (.int p2), .val (.int p3), .val (.int p4), .val (.int a_), .val (.int wd), .val (.int vv), .val (.int ff), .unset, .unset] [(.ref b1)])) _
    refine XS.dup X65.here hx rfl (hb hby at_100) rfl rfl ?_
    show Steps p.tables e below (T65.setTop (mkF m 101 #[.val (.int p1), .val (.int p2), .val (.int p3), .val (.int p4), .val (.int a_), .val (.int wd), .val (.int vv), .val (.int ff), .unset, .unset] [(.ref b1), (.ref b1)])) _
    refine XS.bipush X65.here hx rfl (hb hby at_101) ?_
    show Steps p.tables e below (T65.setTop (mkF m 103 #[.val (.int p1), .val (.int p2), .val (.int p3), .val (.int p4), .val (.int a_), .val (.int wd), .val (.int vv), .val (.int ff), .unset, .unset] [(.int (11 : Int32)), (.ref b1), (.ref b1)])) _
    refine X65.ldc2Long hx hown (mvT hZ (hw _ (List.mem_of_getElem? (i := 12) rfl))) (g := (mkF m 103 #[.val (.int p1), .val (.int p2), .val (.int p3), .val (.int p4), .val (.int a_), .val (.int wd), .val (.int vv), .val (.int ff), .unset, .unset] [(.int (11 : Int32)), (.ref b1), (.ref b1)])) rfl (hb hby at_103) _ ?_
    exact kt
  obtain ⟨cl67, Ar67, hin67, -⟩ := VP_65.at (j := (11 : Int32)) (k := 11) (by decide) rfl (by decide)
  obtain ⟨T68, h68, X68, e68, W68, st68⟩ := stJ X65 hx hZ e65 Ar67 (j := (11 : Int32)) hin67 (g := (mkF m 106 #[.val (.int p1), .val (.int p2), .val (.int p3), .val (.int p4), .val (.int a_), .val (.int wd), .val (.int vv), .val (.int ff), .unset, .unset] [(.long (100000000000 : Int64)), (.int (11 : Int32)), (.ref b1), (.ref b1)])) rfl rfl (hb hby at_106)
  have N68 := Fr.snoc X68 N65 g_b1
  rw [show ((11 : Int32) : Int32).toNatClampNeg = 11 from rfl] at W68
  have VP_68 := VP_65.set W68 rfl
  have Zs68 : n0 ≤ h68.size := Nat.le_trans Zs65 (Keep.of_wr W68).1
  have R69 : ∀ t, Steps p.tables e below (T68.setTop (mkF m 113 #[.val (.int p1), .val (.int p2), .val (.int p3), .val (.int p4), .val (.int a_), .val (.int wd), .val (.int vv), .val (.int ff), .unset, .unset] [(.long (1000000000000 : Int64)), (.int (12 : Int32)), (.ref b1), (.ref b1)])) t → Steps p.tables e below (s₁.setTop (mkF m 0 #[.val (.int p1), .val (.int p2), .val (.int p3), .val (.int p4), .unset, .unset, .unset, .unset, .unset, .unset] [])) t := by
    intro t kt
    refine R66 _ ?_
    refine st68 _ ?_
    show Steps p.tables e below (T68.setTop (mkF m 107 #[.val (.int p1), .val (.int p2), .val (.int p3), .val (.int p4), .val (.int a_), .val (.int wd), .val (.int vv), .val (.int ff), .unset, .unset] [(.ref b1)])) _
    refine XS.dup X68.here hx rfl (hb hby at_107) rfl rfl ?_
    show Steps p.tables e below (T68.setTop (mkF m 108 #[.val (.int p1), .val (.int p2), .val (.int p3), .val (.int p4), .val (.int a_), .val (.int wd), .val (.int vv), .val (.int ff), .unset, .unset] [(.ref b1), (.ref b1)])) _
    refine XS.bipush X68.here hx rfl (hb hby at_108) ?_
    show Steps p.tables e below (T68.setTop (mkF m 110 #[.val (.int p1), .val (.int p2), .val (.int p3), .val (.int p4), .val (.int a_), .val (.int wd), .val (.int vv), .val (.int ff), .unset, .unset] [(.int (12 : Int32)), (.ref b1), (.ref b1)])) _
    refine X68.ldc2Long hx hown (mvT hZ (hw _ (List.mem_of_getElem? (i := 13) rfl))) (g := (mkF m 110 #[.val (.int p1), .val (.int p2), .val (.int p3), .val (.int p4), .val (.int a_), .val (.int wd), .val (.int vv), .val (.int ff), .unset, .unset] [(.int (12 : Int32)), (.ref b1), (.ref b1)])) rfl (hb hby at_110) _ ?_
    exact kt
  obtain ⟨cl70, Ar70, hin70, -⟩ := VP_68.at (j := (12 : Int32)) (k := 12) (by decide) rfl (by decide)
  obtain ⟨T71, h71, X71, e71, W71, st71⟩ := stJ X68 hx hZ e68 Ar70 (j := (12 : Int32)) hin70 (g := (mkF m 113 #[.val (.int p1), .val (.int p2), .val (.int p3), .val (.int p4), .val (.int a_), .val (.int wd), .val (.int vv), .val (.int ff), .unset, .unset] [(.long (1000000000000 : Int64)), (.int (12 : Int32)), (.ref b1), (.ref b1)])) rfl rfl (hb hby at_113)
  have N71 := Fr.snoc X71 N68 g_b1
  rw [show ((12 : Int32) : Int32).toNatClampNeg = 12 from rfl] at W71
  have VP_71 := VP_68.set W71 rfl
  have Zs71 : n0 ≤ h71.size := Nat.le_trans Zs68 (Keep.of_wr W71).1
  have R72 : ∀ t, Steps p.tables e below (T71.setTop (mkF m 120 #[.val (.int p1), .val (.int p2), .val (.int p3), .val (.int p4), .val (.int a_), .val (.int wd), .val (.int vv), .val (.int ff), .unset, .unset] [(.long (10000000000000 : Int64)), (.int (13 : Int32)), (.ref b1), (.ref b1)])) t → Steps p.tables e below (s₁.setTop (mkF m 0 #[.val (.int p1), .val (.int p2), .val (.int p3), .val (.int p4), .unset, .unset, .unset, .unset, .unset, .unset] [])) t := by
    intro t kt
    refine R69 _ ?_
    refine st71 _ ?_
    show Steps p.tables e below (T71.setTop (mkF m 114 #[.val (.int p1), .val (.int p2), .val (.int p3), .val (.int p4), .val (.int a_), .val (.int wd), .val (.int vv), .val (.int ff), .unset, .unset] [(.ref b1)])) _
    refine XS.dup X71.here hx rfl (hb hby at_114) rfl rfl ?_
    show Steps p.tables e below (T71.setTop (mkF m 115 #[.val (.int p1), .val (.int p2), .val (.int p3), .val (.int p4), .val (.int a_), .val (.int wd), .val (.int vv), .val (.int ff), .unset, .unset] [(.ref b1), (.ref b1)])) _
    refine XS.bipush X71.here hx rfl (hb hby at_115) ?_
    show Steps p.tables e below (T71.setTop (mkF m 117 #[.val (.int p1), .val (.int p2), .val (.int p3), .val (.int p4), .val (.int a_), .val (.int wd), .val (.int vv), .val (.int ff), .unset, .unset] [(.int (13 : Int32)), (.ref b1), (.ref b1)])) _
    refine X71.ldc2Long hx hown (mvT hZ (hw _ (List.mem_of_getElem? (i := 14) rfl))) (g := (mkF m 117 #[.val (.int p1), .val (.int p2), .val (.int p3), .val (.int p4), .val (.int a_), .val (.int wd), .val (.int vv), .val (.int ff), .unset, .unset] [(.int (13 : Int32)), (.ref b1), (.ref b1)])) rfl (hb hby at_117) _ ?_
    exact kt
  obtain ⟨cl73, Ar73, hin73, -⟩ := VP_71.at (j := (13 : Int32)) (k := 13) (by decide) rfl (by decide)
  obtain ⟨T74, h74, X74, e74, W74, st74⟩ := stJ X71 hx hZ e71 Ar73 (j := (13 : Int32)) hin73 (g := (mkF m 120 #[.val (.int p1), .val (.int p2), .val (.int p3), .val (.int p4), .val (.int a_), .val (.int wd), .val (.int vv), .val (.int ff), .unset, .unset] [(.long (10000000000000 : Int64)), (.int (13 : Int32)), (.ref b1), (.ref b1)])) rfl rfl (hb hby at_120)
  have N74 := Fr.snoc X74 N71 g_b1
  rw [show ((13 : Int32) : Int32).toNatClampNeg = 13 from rfl] at W74
  have VP_74 := VP_71.set W74 rfl
  have Zs74 : n0 ≤ h74.size := Nat.le_trans Zs71 (Keep.of_wr W74).1
  have R75 : ∀ t, Steps p.tables e below (T74.setTop (mkF m 121 #[.val (.int p1), .val (.int p2), .val (.int p3), .val (.int p4), .val (.int a_), .val (.int wd), .val (.int vv), .val (.int ff), .unset, .unset] [(.ref b1)])) t → Steps p.tables e below (s₁.setTop (mkF m 0 #[.val (.int p1), .val (.int p2), .val (.int p3), .val (.int p4), .unset, .unset, .unset, .unset, .unset, .unset] [])) t := by
    intro t kt
    refine R72 _ ?_
    refine st74 _ ?_
    exact kt
  have VPc : AV Z h74 b1 .long 14 (fun j => .long (own_p10 j)) := VP_74.congr own_pw
  have R77 : ∀ t, Steps p.tables e below (T74.setTop (mkF m 125 #[.val (.int p1), .val (.int p2), .val (.int p3), .val (.int p4), .val (.int a_), .val (.int wd), .val (.int vv), .val (.int ff), .val (.ref b1), .unset] [(.int (14 : Int32))])) t → Steps p.tables e below (s₁.setTop (mkF m 0 #[.val (.int p1), .val (.int p2), .val (.int p3), .val (.int p4), .unset, .unset, .unset, .unset, .unset, .unset] [])) t := by
    intro t kt
    refine R75 _ ?_
    show Steps p.tables e below (T74.setTop (mkF m 121 #[.val (.int p1), .val (.int p2), .val (.int p3), .val (.int p4), .val (.int a_), .val (.int wd), .val (.int vv), .val (.int ff), .unset, .unset] [(.ref b1)])) _
    refine XS.astore X74.here hx rfl (hb hby at_121) rfl rfl (l' := #[.val (.int p1), .val (.int p2), .val (.int p3), .val (.int p4), .val (.int a_), .val (.int wd), .val (.int vv), .val (.int ff), .val (.ref b1), .unset]) rfl ?_
    show Steps p.tables e below (T74.setTop (mkF m 123 #[.val (.int p1), .val (.int p2), .val (.int p3), .val (.int p4), .val (.int a_), .val (.int wd), .val (.int vv), .val (.int ff), .val (.ref b1), .unset] [])) _
    refine XS.bipush X74.here hx rfl (hb hby at_123) ?_
    exact kt
  obtain ⟨T78, h78, k78, X78, e78, E78, A78, st78⟩ := newP X74 hx hZ (hw _ (List.mem_of_getElem? (i := 15) rfl)) e74 (g := (mkF m 125 #[.val (.int p1), .val (.int p2), .val (.int p3), .val (.int p4), .val (.int a_), .val (.int wd), .val (.int vv), .val (.int ff), .val (.ref b1), .unset] [(.int (14 : Int32))])) rfl (hb hby at_125) rfl (by decide) (cap := 14) (by decide) (by decide) (by decide) (by decide)
  obtain ⟨b2, g78⟩ : ∃ z, z = h74.size := ⟨_, rfl⟩
  rw [← g78] at A78 st78
  have g_b2 : n0 ≤ b2 := Nat.le_trans Zs74 (Nat.le_of_eq g78.symm)
  have ne_b1_b2 : b1 ≠ b2 := Nat.ne_of_lt (Nat.lt_of_lt_of_le VPc.lt (Nat.le_of_eq g78.symm))
  have VP_78 := VPc.ext E78
  have Zs78 : n0 ≤ h78.size := Nat.le_trans Zs74 E78.1
  have VB : AV Z h78 b2 .byte 14 (fun _ => defaultValue .byte) := AV.new A78 rfl rfl
  have R79 : ∀ t, Steps p.tables e below (T78.setTop (mkF m 131 #[.val (.int p1), .val (.int p2), .val (.int p3), .val (.int p4), .val (.int a_), .val (.int wd), .val (.int vv), .val (.int ff), .val (.ref b1), .unset] [(.int ff), (.int (0 : Int32)), (.ref b2), (.ref b2)])) t → Steps p.tables e below (s₁.setTop (mkF m 0 #[.val (.int p1), .val (.int p2), .val (.int p3), .val (.int p4), .unset, .unset, .unset, .unset, .unset, .unset] [])) t := by
    intro t kt
    refine R77 _ ?_
    refine st78 _ ?_
    show Steps p.tables e below (T78.setTop (mkF m 127 #[.val (.int p1), .val (.int p2), .val (.int p3), .val (.int p4), .val (.int a_), .val (.int wd), .val (.int vv), .val (.int ff), .val (.ref b1), .unset] [(.ref b2)])) _
    refine XS.dup X78.here hx rfl (hb hby at_127) rfl rfl ?_
    show Steps p.tables e below (T78.setTop (mkF m 128 #[.val (.int p1), .val (.int p2), .val (.int p3), .val (.int p4), .val (.int a_), .val (.int wd), .val (.int vv), .val (.int ff), .val (.ref b1), .unset] [(.ref b2), (.ref b2)])) _
    refine XS.iconst X78.here hx rfl (hb hby at_128) ?_
    show Steps p.tables e below (T78.setTop (mkF m 129 #[.val (.int p1), .val (.int p2), .val (.int p3), .val (.int p4), .val (.int a_), .val (.int wd), .val (.int vv), .val (.int ff), .val (.ref b1), .unset] [(.int (0 : Int32)), (.ref b2), (.ref b2)])) _
    refine XS.iload X78.here hx rfl (hb hby at_129) rfl ?_
    exact kt
  obtain ⟨cl80, Ar80, hin80, -⟩ := VB.at (j := (0 : Int32)) (k := 0) (by decide) rfl (by decide)
  obtain ⟨T81, h81, X81, e81, W81, st81⟩ := stB X78 hx hZ e78 Ar80 (j := (0 : Int32)) hin80 (g := (mkF m 131 #[.val (.int p1), .val (.int p2), .val (.int p3), .val (.int p4), .val (.int a_), .val (.int wd), .val (.int vv), .val (.int ff), .val (.ref b1), .unset] [(.int ff), (.int (0 : Int32)), (.ref b2), (.ref b2)])) rfl rfl (hb hby at_131)
  have N81 := Fr.snoc X81 N74 g_b2
  rw [show ((0 : Int32) : Int32).toNatClampNeg = 0 from rfl] at W81
  have VB_81 := VB.set W81 (fits_nar_byte _)
  have VP_81 := VP_78.other W81 ne_b1_b2
  have Zs81 : n0 ≤ h81.size := Nat.le_trans Zs78 (Keep.of_wr W81).1
  have R82 : ∀ t, Steps p.tables e below (T81.setTop (mkF m 136 #[.val (.int p1), .val (.int p2), .val (.int p3), .val (.int p4), .val (.int a_), .val (.int wd), .val (.int vv), .val (.int ff), .val (.ref b1), .unset] [(.int ff), (.int (1 : Int32)), (.ref b2), (.ref b2)])) t → Steps p.tables e below (s₁.setTop (mkF m 0 #[.val (.int p1), .val (.int p2), .val (.int p3), .val (.int p4), .unset, .unset, .unset, .unset, .unset, .unset] [])) t := by
    intro t kt
    refine R79 _ ?_
    refine st81 _ ?_
    show Steps p.tables e below (T81.setTop (mkF m 132 #[.val (.int p1), .val (.int p2), .val (.int p3), .val (.int p4), .val (.int a_), .val (.int wd), .val (.int vv), .val (.int ff), .val (.ref b1), .unset] [(.ref b2)])) _
    refine XS.dup X81.here hx rfl (hb hby at_132) rfl rfl ?_
    show Steps p.tables e below (T81.setTop (mkF m 133 #[.val (.int p1), .val (.int p2), .val (.int p3), .val (.int p4), .val (.int a_), .val (.int wd), .val (.int vv), .val (.int ff), .val (.ref b1), .unset] [(.ref b2), (.ref b2)])) _
    refine XS.iconst X81.here hx rfl (hb hby at_133) ?_
    show Steps p.tables e below (T81.setTop (mkF m 134 #[.val (.int p1), .val (.int p2), .val (.int p3), .val (.int p4), .val (.int a_), .val (.int wd), .val (.int vv), .val (.int ff), .val (.ref b1), .unset] [(.int (1 : Int32)), (.ref b2), (.ref b2)])) _
    refine XS.iload X81.here hx rfl (hb hby at_134) rfl ?_
    exact kt
  obtain ⟨cl83, Ar83, hin83, -⟩ := VB_81.at (j := (1 : Int32)) (k := 1) (by decide) rfl (by decide)
  obtain ⟨T84, h84, X84, e84, W84, st84⟩ := stB X81 hx hZ e81 Ar83 (j := (1 : Int32)) hin83 (g := (mkF m 136 #[.val (.int p1), .val (.int p2), .val (.int p3), .val (.int p4), .val (.int a_), .val (.int wd), .val (.int vv), .val (.int ff), .val (.ref b1), .unset] [(.int ff), (.int (1 : Int32)), (.ref b2), (.ref b2)])) rfl rfl (hb hby at_136)
  have N84 := Fr.snoc X84 N81 g_b2
  rw [show ((1 : Int32) : Int32).toNatClampNeg = 1 from rfl] at W84
  have VB_84 := VB_81.set W84 (fits_nar_byte _)
  have VP_84 := VP_81.other W84 ne_b1_b2
  have Zs84 : n0 ≤ h84.size := Nat.le_trans Zs81 (Keep.of_wr W84).1
  have R85 : ∀ t, Steps p.tables e below (T84.setTop (mkF m 141 #[.val (.int p1), .val (.int p2), .val (.int p3), .val (.int p4), .val (.int a_), .val (.int wd), .val (.int vv), .val (.int ff), .val (.ref b1), .unset] [(.int ff), (.int (2 : Int32)), (.ref b2), (.ref b2)])) t → Steps p.tables e below (s₁.setTop (mkF m 0 #[.val (.int p1), .val (.int p2), .val (.int p3), .val (.int p4), .unset, .unset, .unset, .unset, .unset, .unset] [])) t := by
    intro t kt
    refine R82 _ ?_
    refine st84 _ ?_
    show Steps p.tables e below (T84.setTop (mkF m 137 #[.val (.int p1), .val (.int p2), .val (.int p3), .val (.int p4), .val (.int a_), .val (.int wd), .val (.int vv), .val (.int ff), .val (.ref b1), .unset] [(.ref b2)])) _
    refine XS.dup X84.here hx rfl (hb hby at_137) rfl rfl ?_
    show Steps p.tables e below (T84.setTop (mkF m 138 #[.val (.int p1), .val (.int p2), .val (.int p3), .val (.int p4), .val (.int a_), .val (.int wd), .val (.int vv), .val (.int ff), .val (.ref b1), .unset] [(.ref b2), (.ref b2)])) _
    refine XS.iconst X84.here hx rfl (hb hby at_138) ?_
    show Steps p.tables e below (T84.setTop (mkF m 139 #[.val (.int p1), .val (.int p2), .val (.int p3), .val (.int p4), .val (.int a_), .val (.int wd), .val (.int vv), .val (.int ff), .val (.ref b1), .unset] [(.int (2 : Int32)), (.ref b2), (.ref b2)])) _
    refine XS.iload X84.here hx rfl (hb hby at_139) rfl ?_
    exact kt
  obtain ⟨cl86, Ar86, hin86, -⟩ := VB_84.at (j := (2 : Int32)) (k := 2) (by decide) rfl (by decide)
  obtain ⟨T87, h87, X87, e87, W87, st87⟩ := stB X84 hx hZ e84 Ar86 (j := (2 : Int32)) hin86 (g := (mkF m 141 #[.val (.int p1), .val (.int p2), .val (.int p3), .val (.int p4), .val (.int a_), .val (.int wd), .val (.int vv), .val (.int ff), .val (.ref b1), .unset] [(.int ff), (.int (2 : Int32)), (.ref b2), (.ref b2)])) rfl rfl (hb hby at_141)
  have N87 := Fr.snoc X87 N84 g_b2
  rw [show ((2 : Int32) : Int32).toNatClampNeg = 2 from rfl] at W87
  have VB_87 := VB_84.set W87 (fits_nar_byte _)
  have VP_87 := VP_84.other W87 ne_b1_b2
  have Zs87 : n0 ≤ h87.size := Nat.le_trans Zs84 (Keep.of_wr W87).1
  have R88 : ∀ t, Steps p.tables e below (T87.setTop (mkF m 146 #[.val (.int p1), .val (.int p2), .val (.int p3), .val (.int p4), .val (.int a_), .val (.int wd), .val (.int vv), .val (.int ff), .val (.ref b1), .unset] [(.int ff), (.int (3 : Int32)), (.ref b2), (.ref b2)])) t → Steps p.tables e below (s₁.setTop (mkF m 0 #[.val (.int p1), .val (.int p2), .val (.int p3), .val (.int p4), .unset, .unset, .unset, .unset, .unset, .unset] [])) t := by
    intro t kt
    refine R85 _ ?_
    refine st87 _ ?_
    show Steps p.tables e below (T87.setTop (mkF m 142 #[.val (.int p1), .val (.int p2), .val (.int p3), .val (.int p4), .val (.int a_), .val (.int wd), .val (.int vv), .val (.int ff), .val (.ref b1), .unset] [(.ref b2)])) _
    refine XS.dup X87.here hx rfl (hb hby at_142) rfl rfl ?_
    show Steps p.tables e below (T87.setTop (mkF m 143 #[.val (.int p1), .val (.int p2), .val (.int p3), .val (.int p4), .val (.int a_), .val (.int wd), .val (.int vv), .val (.int ff), .val (.ref b1), .unset] [(.ref b2), (.ref b2)])) _
    refine XS.iconst X87.here hx rfl (hb hby at_143) ?_
    show Steps p.tables e below (T87.setTop (mkF m 144 #[.val (.int p1), .val (.int p2), .val (.int p3), .val (.int p4), .val (.int a_), .val (.int wd), .val (.int vv), .val (.int ff), .val (.ref b1), .unset] [(.int (3 : Int32)), (.ref b2), (.ref b2)])) _
    refine XS.iload X87.here hx rfl (hb hby at_144) rfl ?_
    exact kt
  obtain ⟨cl89, Ar89, hin89, -⟩ := VB_87.at (j := (3 : Int32)) (k := 3) (by decide) rfl (by decide)
  obtain ⟨T90, h90, X90, e90, W90, st90⟩ := stB X87 hx hZ e87 Ar89 (j := (3 : Int32)) hin89 (g := (mkF m 146 #[.val (.int p1), .val (.int p2), .val (.int p3), .val (.int p4), .val (.int a_), .val (.int wd), .val (.int vv), .val (.int ff), .val (.ref b1), .unset] [(.int ff), (.int (3 : Int32)), (.ref b2), (.ref b2)])) rfl rfl (hb hby at_146)
  have N90 := Fr.snoc X90 N87 g_b2
  rw [show ((3 : Int32) : Int32).toNatClampNeg = 3 from rfl] at W90
  have VB_90 := VB_87.set W90 (fits_nar_byte _)
  have VP_90 := VP_87.other W90 ne_b1_b2
  have Zs90 : n0 ≤ h90.size := Nat.le_trans Zs87 (Keep.of_wr W90).1
  have R91 : ∀ t, Steps p.tables e below (T90.setTop (mkF m 151 #[.val (.int p1), .val (.int p2), .val (.int p3), .val (.int p4), .val (.int a_), .val (.int wd), .val (.int vv), .val (.int ff), .val (.ref b1), .unset] [(.int ff), (.int (4 : Int32)), (.ref b2), (.ref b2)])) t → Steps p.tables e below (s₁.setTop (mkF m 0 #[.val (.int p1), .val (.int p2), .val (.int p3), .val (.int p4), .unset, .unset, .unset, .unset, .unset, .unset] [])) t := by
    intro t kt
    refine R88 _ ?_
    refine st90 _ ?_
    show Steps p.tables e below (T90.setTop (mkF m 147 #[.val (.int p1), .val (.int p2), .val (.int p3), .val (.int p4), .val (.int a_), .val (.int wd), .val (.int vv), .val (.int ff), .val (.ref b1), .unset] [(.ref b2)])) _
    refine XS.dup X90.here hx rfl (hb hby at_147) rfl rfl ?_
    show Steps p.tables e below (T90.setTop (mkF m 148 #[.val (.int p1), .val (.int p2), .val (.int p3), .val (.int p4), .val (.int a_), .val (.int wd), .val (.int vv), .val (.int ff), .val (.ref b1), .unset] [(.ref b2), (.ref b2)])) _
    refine XS.iconst X90.here hx rfl (hb hby at_148) ?_
    show Steps p.tables e below (T90.setTop (mkF m 149 #[.val (.int p1), .val (.int p2), .val (.int p3), .val (.int p4), .val (.int a_), .val (.int wd), .val (.int vv), .val (.int ff), .val (.ref b1), .unset] [(.int (4 : Int32)), (.ref b2), (.ref b2)])) _
    refine XS.iload X90.here hx rfl (hb hby at_149) rfl ?_
    exact kt
  obtain ⟨cl92, Ar92, hin92, -⟩ := VB_90.at (j := (4 : Int32)) (k := 4) (by decide) rfl (by decide)
  obtain ⟨T93, h93, X93, e93, W93, st93⟩ := stB X90 hx hZ e90 Ar92 (j := (4 : Int32)) hin92 (g := (mkF m 151 #[.val (.int p1), .val (.int p2), .val (.int p3), .val (.int p4), .val (.int a_), .val (.int wd), .val (.int vv), .val (.int ff), .val (.ref b1), .unset] [(.int ff), (.int (4 : Int32)), (.ref b2), (.ref b2)])) rfl rfl (hb hby at_151)
  have N93 := Fr.snoc X93 N90 g_b2
  rw [show ((4 : Int32) : Int32).toNatClampNeg = 4 from rfl] at W93
  have VB_93 := VB_90.set W93 (fits_nar_byte _)
  have VP_93 := VP_90.other W93 ne_b1_b2
  have Zs93 : n0 ≤ h93.size := Nat.le_trans Zs90 (Keep.of_wr W93).1
  have R94 : ∀ t, Steps p.tables e below (T93.setTop (mkF m 156 #[.val (.int p1), .val (.int p2), .val (.int p3), .val (.int p4), .val (.int a_), .val (.int wd), .val (.int vv), .val (.int ff), .val (.ref b1), .unset] [(.int ff), (.int (5 : Int32)), (.ref b2), (.ref b2)])) t → Steps p.tables e below (s₁.setTop (mkF m 0 #[.val (.int p1), .val (.int p2), .val (.int p3), .val (.int p4), .unset, .unset, .unset, .unset, .unset, .unset] [])) t := by
    intro t kt
    refine R91 _ ?_
    refine st93 _ ?_
    show Steps p.tables e below (T93.setTop (mkF m 152 #[.val (.int p1), .val (.int p2), .val (.int p3), .val (.int p4), .val (.int a_), .val (.int wd), .val (.int vv), .val (.int ff), .val (.ref b1), .unset] [(.ref b2)])) _
    refine XS.dup X93.here hx rfl (hb hby at_152) rfl rfl ?_
    show Steps p.tables e below (T93.setTop (mkF m 153 #[.val (.int p1), .val (.int p2), .val (.int p3), .val (.int p4), .val (.int a_), .val (.int wd), .val (.int vv), .val (.int ff), .val (.ref b1), .unset] [(.ref b2), (.ref b2)])) _
    refine XS.iconst X93.here hx rfl (hb hby at_153) ?_
    show Steps p.tables e below (T93.setTop (mkF m 154 #[.val (.int p1), .val (.int p2), .val (.int p3), .val (.int p4), .val (.int a_), .val (.int wd), .val (.int vv), .val (.int ff), .val (.ref b1), .unset] [(.int (5 : Int32)), (.ref b2), (.ref b2)])) _
    refine XS.iload X93.here hx rfl (hb hby at_154) rfl ?_
    exact kt
  obtain ⟨cl95, Ar95, hin95, -⟩ := VB_93.at (j := (5 : Int32)) (k := 5) (by decide) rfl (by decide)
  obtain ⟨T96, h96, X96, e96, W96, st96⟩ := stB X93 hx hZ e93 Ar95 (j := (5 : Int32)) hin95 (g := (mkF m 156 #[.val (.int p1), .val (.int p2), .val (.int p3), .val (.int p4), .val (.int a_), .val (.int wd), .val (.int vv), .val (.int ff), .val (.ref b1), .unset] [(.int ff), (.int (5 : Int32)), (.ref b2), (.ref b2)])) rfl rfl (hb hby at_156)
  have N96 := Fr.snoc X96 N93 g_b2
  rw [show ((5 : Int32) : Int32).toNatClampNeg = 5 from rfl] at W96
  have VB_96 := VB_93.set W96 (fits_nar_byte _)
  have VP_96 := VP_93.other W96 ne_b1_b2
  have Zs96 : n0 ≤ h96.size := Nat.le_trans Zs93 (Keep.of_wr W96).1
  have R97 : ∀ t, Steps p.tables e below (T96.setTop (mkF m 162 #[.val (.int p1), .val (.int p2), .val (.int p3), .val (.int p4), .val (.int a_), .val (.int wd), .val (.int vv), .val (.int ff), .val (.ref b1), .unset] [(.int ff), (.int (6 : Int32)), (.ref b2), (.ref b2)])) t → Steps p.tables e below (s₁.setTop (mkF m 0 #[.val (.int p1), .val (.int p2), .val (.int p3), .val (.int p4), .unset, .unset, .unset, .unset, .unset, .unset] [])) t := by
    intro t kt
    refine R94 _ ?_
    refine st96 _ ?_
    show Steps p.tables e below (T96.setTop (mkF m 157 #[.val (.int p1), .val (.int p2), .val (.int p3), .val (.int p4), .val (.int a_), .val (.int wd), .val (.int vv), .val (.int ff), .val (.ref b1), .unset] [(.ref b2)])) _
    refine XS.dup X96.here hx rfl (hb hby at_157) rfl rfl ?_
    show Steps p.tables e below (T96.setTop (mkF m 158 #[.val (.int p1), .val (.int p2), .val (.int p3), .val (.int p4), .val (.int a_), .val (.int wd), .val (.int vv), .val (.int ff), .val (.ref b1), .unset] [(.ref b2), (.ref b2)])) _
    refine XS.bipush X96.here hx rfl (hb hby at_158) ?_
    show Steps p.tables e below (T96.setTop (mkF m 160 #[.val (.int p1), .val (.int p2), .val (.int p3), .val (.int p4), .val (.int a_), .val (.int wd), .val (.int vv), .val (.int ff), .val (.ref b1), .unset] [(.int (6 : Int32)), (.ref b2), (.ref b2)])) _
    refine XS.iload X96.here hx rfl (hb hby at_160) rfl ?_
    exact kt
  obtain ⟨cl98, Ar98, hin98, -⟩ := VB_96.at (j := (6 : Int32)) (k := 6) (by decide) rfl (by decide)
  obtain ⟨T99, h99, X99, e99, W99, st99⟩ := stB X96 hx hZ e96 Ar98 (j := (6 : Int32)) hin98 (g := (mkF m 162 #[.val (.int p1), .val (.int p2), .val (.int p3), .val (.int p4), .val (.int a_), .val (.int wd), .val (.int vv), .val (.int ff), .val (.ref b1), .unset] [(.int ff), (.int (6 : Int32)), (.ref b2), (.ref b2)])) rfl rfl (hb hby at_162)
  have N99 := Fr.snoc X99 N96 g_b2
  rw [show ((6 : Int32) : Int32).toNatClampNeg = 6 from rfl] at W99
  have VB_99 := VB_96.set W99 (fits_nar_byte _)
  have VP_99 := VP_96.other W99 ne_b1_b2
  have Zs99 : n0 ≤ h99.size := Nat.le_trans Zs96 (Keep.of_wr W99).1
  have R100 : ∀ t, Steps p.tables e below (T99.setTop (mkF m 168 #[.val (.int p1), .val (.int p2), .val (.int p3), .val (.int p4), .val (.int a_), .val (.int wd), .val (.int vv), .val (.int ff), .val (.ref b1), .unset] [(.int ff), (.int (7 : Int32)), (.ref b2), (.ref b2)])) t → Steps p.tables e below (s₁.setTop (mkF m 0 #[.val (.int p1), .val (.int p2), .val (.int p3), .val (.int p4), .unset, .unset, .unset, .unset, .unset, .unset] [])) t := by
    intro t kt
    refine R97 _ ?_
    refine st99 _ ?_
    show Steps p.tables e below (T99.setTop (mkF m 163 #[.val (.int p1), .val (.int p2), .val (.int p3), .val (.int p4), .val (.int a_), .val (.int wd), .val (.int vv), .val (.int ff), .val (.ref b1), .unset] [(.ref b2)])) _
    refine XS.dup X99.here hx rfl (hb hby at_163) rfl rfl ?_
    show Steps p.tables e below (T99.setTop (mkF m 164 #[.val (.int p1), .val (.int p2), .val (.int p3), .val (.int p4), .val (.int a_), .val (.int wd), .val (.int vv), .val (.int ff), .val (.ref b1), .unset] [(.ref b2), (.ref b2)])) _
    refine XS.bipush X99.here hx rfl (hb hby at_164) ?_
    show Steps p.tables e below (T99.setTop (mkF m 166 #[.val (.int p1), .val (.int p2), .val (.int p3), .val (.int p4), .val (.int a_), .val (.int wd), .val (.int vv), .val (.int ff), .val (.ref b1), .unset] [(.int (7 : Int32)), (.ref b2), (.ref b2)])) _
    refine XS.iload X99.here hx rfl (hb hby at_166) rfl ?_
    exact kt
  obtain ⟨cl101, Ar101, hin101, -⟩ := VB_99.at (j := (7 : Int32)) (k := 7) (by decide) rfl (by decide)
  obtain ⟨T102, h102, X102, e102, W102, st102⟩ := stB X99 hx hZ e99 Ar101 (j := (7 : Int32)) hin101 (g := (mkF m 168 #[.val (.int p1), .val (.int p2), .val (.int p3), .val (.int p4), .val (.int a_), .val (.int wd), .val (.int vv), .val (.int ff), .val (.ref b1), .unset] [(.int ff), (.int (7 : Int32)), (.ref b2), (.ref b2)])) rfl rfl (hb hby at_168)
  have N102 := Fr.snoc X102 N99 g_b2
  rw [show ((7 : Int32) : Int32).toNatClampNeg = 7 from rfl] at W102
  have VB_102 := VB_99.set W102 (fits_nar_byte _)
  have VP_102 := VP_99.other W102 ne_b1_b2
  have Zs102 : n0 ≤ h102.size := Nat.le_trans Zs99 (Keep.of_wr W102).1
  have R103 : ∀ t, Steps p.tables e below (T102.setTop (mkF m 174 #[.val (.int p1), .val (.int p2), .val (.int p3), .val (.int p4), .val (.int a_), .val (.int wd), .val (.int vv), .val (.int ff), .val (.ref b1), .unset] [(.int ff), (.int (8 : Int32)), (.ref b2), (.ref b2)])) t → Steps p.tables e below (s₁.setTop (mkF m 0 #[.val (.int p1), .val (.int p2), .val (.int p3), .val (.int p4), .unset, .unset, .unset, .unset, .unset, .unset] [])) t := by
    intro t kt
    refine R100 _ ?_
    refine st102 _ ?_
    show Steps p.tables e below (T102.setTop (mkF m 169 #[.val (.int p1), .val (.int p2), .val (.int p3), .val (.int p4), .val (.int a_), .val (.int wd), .val (.int vv), .val (.int ff), .val (.ref b1), .unset] [(.ref b2)])) _
    refine XS.dup X102.here hx rfl (hb hby at_169) rfl rfl ?_
    show Steps p.tables e below (T102.setTop (mkF m 170 #[.val (.int p1), .val (.int p2), .val (.int p3), .val (.int p4), .val (.int a_), .val (.int wd), .val (.int vv), .val (.int ff), .val (.ref b1), .unset] [(.ref b2), (.ref b2)])) _
    refine XS.bipush X102.here hx rfl (hb hby at_170) ?_
    show Steps p.tables e below (T102.setTop (mkF m 172 #[.val (.int p1), .val (.int p2), .val (.int p3), .val (.int p4), .val (.int a_), .val (.int wd), .val (.int vv), .val (.int ff), .val (.ref b1), .unset] [(.int (8 : Int32)), (.ref b2), (.ref b2)])) _
    refine XS.iload X102.here hx rfl (hb hby at_172) rfl ?_
    exact kt
  obtain ⟨cl104, Ar104, hin104, -⟩ := VB_102.at (j := (8 : Int32)) (k := 8) (by decide) rfl (by decide)
  obtain ⟨T105, h105, X105, e105, W105, st105⟩ := stB X102 hx hZ e102 Ar104 (j := (8 : Int32)) hin104 (g := (mkF m 174 #[.val (.int p1), .val (.int p2), .val (.int p3), .val (.int p4), .val (.int a_), .val (.int wd), .val (.int vv), .val (.int ff), .val (.ref b1), .unset] [(.int ff), (.int (8 : Int32)), (.ref b2), (.ref b2)])) rfl rfl (hb hby at_174)
  have N105 := Fr.snoc X105 N102 g_b2
  rw [show ((8 : Int32) : Int32).toNatClampNeg = 8 from rfl] at W105
  have VB_105 := VB_102.set W105 (fits_nar_byte _)
  have VP_105 := VP_102.other W105 ne_b1_b2
  have Zs105 : n0 ≤ h105.size := Nat.le_trans Zs102 (Keep.of_wr W105).1
  have R106 : ∀ t, Steps p.tables e below (T105.setTop (mkF m 180 #[.val (.int p1), .val (.int p2), .val (.int p3), .val (.int p4), .val (.int a_), .val (.int wd), .val (.int vv), .val (.int ff), .val (.ref b1), .unset] [(.int ff), (.int (9 : Int32)), (.ref b2), (.ref b2)])) t → Steps p.tables e below (s₁.setTop (mkF m 0 #[.val (.int p1), .val (.int p2), .val (.int p3), .val (.int p4), .unset, .unset, .unset, .unset, .unset, .unset] [])) t := by
    intro t kt
    refine R103 _ ?_
    refine st105 _ ?_
    show Steps p.tables e below (T105.setTop (mkF m 175 #[.val (.int p1), .val (.int p2), .val (.int p3), .val (.int p4), .val (.int a_), .val (.int wd), .val (.int vv), .val (.int ff), .val (.ref b1), .unset] [(.ref b2)])) _
    refine XS.dup X105.here hx rfl (hb hby at_175) rfl rfl ?_
    show Steps p.tables e below (T105.setTop (mkF m 176 #[.val (.int p1), .val (.int p2), .val (.int p3), .val (.int p4), .val (.int a_), .val (.int wd), .val (.int vv), .val (.int ff), .val (.ref b1), .unset] [(.ref b2), (.ref b2)])) _
    refine XS.bipush X105.here hx rfl (hb hby at_176) ?_
    show Steps p.tables e below (T105.setTop (mkF m 178 #[.val (.int p1), .val (.int p2), .val (.int p3), .val (.int p4), .val (.int a_), .val (.int wd), .val (.int vv), .val (.int ff), .val (.ref b1), .unset] [(.int (9 : Int32)), (.ref b2), (.ref b2)])) _
    refine XS.iload X105.here hx rfl (hb hby at_178) rfl ?_
    exact kt
  obtain ⟨cl107, Ar107, hin107, -⟩ := VB_105.at (j := (9 : Int32)) (k := 9) (by decide) rfl (by decide)
  obtain ⟨T108, h108, X108, e108, W108, st108⟩ := stB X105 hx hZ e105 Ar107 (j := (9 : Int32)) hin107 (g := (mkF m 180 #[.val (.int p1), .val (.int p2), .val (.int p3), .val (.int p4), .val (.int a_), .val (.int wd), .val (.int vv), .val (.int ff), .val (.ref b1), .unset] [(.int ff), (.int (9 : Int32)), (.ref b2), (.ref b2)])) rfl rfl (hb hby at_180)
  have N108 := Fr.snoc X108 N105 g_b2
  rw [show ((9 : Int32) : Int32).toNatClampNeg = 9 from rfl] at W108
  have VB_108 := VB_105.set W108 (fits_nar_byte _)
  have VP_108 := VP_105.other W108 ne_b1_b2
  have Zs108 : n0 ≤ h108.size := Nat.le_trans Zs105 (Keep.of_wr W108).1
  have R109 : ∀ t, Steps p.tables e below (T108.setTop (mkF m 186 #[.val (.int p1), .val (.int p2), .val (.int p3), .val (.int p4), .val (.int a_), .val (.int wd), .val (.int vv), .val (.int ff), .val (.ref b1), .unset] [(.int ff), (.int (10 : Int32)), (.ref b2), (.ref b2)])) t → Steps p.tables e below (s₁.setTop (mkF m 0 #[.val (.int p1), .val (.int p2), .val (.int p3), .val (.int p4), .unset, .unset, .unset, .unset, .unset, .unset] [])) t := by
    intro t kt
    refine R106 _ ?_
    refine st108 _ ?_
    show Steps p.tables e below (T108.setTop (mkF m 181 #[.val (.int p1), .val (.int p2), .val (.int p3), .val (.int p4), .val (.int a_), .val (.int wd), .val (.int vv), .val (.int ff), .val (.ref b1), .unset] [(.ref b2)])) _
    refine XS.dup X108.here hx rfl (hb hby at_181) rfl rfl ?_
    show Steps p.tables e below (T108.setTop (mkF m 182 #[.val (.int p1), .val (.int p2), .val (.int p3), .val (.int p4), .val (.int a_), .val (.int wd), .val (.int vv), .val (.int ff), .val (.ref b1), .unset] [(.ref b2), (.ref b2)])) _
    refine XS.bipush X108.here hx rfl (hb hby at_182) ?_
    show Steps p.tables e below (T108.setTop (mkF m 184 #[.val (.int p1), .val (.int p2), .val (.int p3), .val (.int p4), .val (.int a_), .val (.int wd), .val (.int vv), .val (.int ff), .val (.ref b1), .unset] [(.int (10 : Int32)), (.ref b2), (.ref b2)])) _
    refine XS.iload X108.here hx rfl (hb hby at_184) rfl ?_
    exact kt
  obtain ⟨cl110, Ar110, hin110, -⟩ := VB_108.at (j := (10 : Int32)) (k := 10) (by decide) rfl (by decide)
  obtain ⟨T111, h111, X111, e111, W111, st111⟩ := stB X108 hx hZ e108 Ar110 (j := (10 : Int32)) hin110 (g := (mkF m 186 #[.val (.int p1), .val (.int p2), .val (.int p3), .val (.int p4), .val (.int a_), .val (.int wd), .val (.int vv), .val (.int ff), .val (.ref b1), .unset] [(.int ff), (.int (10 : Int32)), (.ref b2), (.ref b2)])) rfl rfl (hb hby at_186)
  have N111 := Fr.snoc X111 N108 g_b2
  rw [show ((10 : Int32) : Int32).toNatClampNeg = 10 from rfl] at W111
  have VB_111 := VB_108.set W111 (fits_nar_byte _)
  have VP_111 := VP_108.other W111 ne_b1_b2
  have Zs111 : n0 ≤ h111.size := Nat.le_trans Zs108 (Keep.of_wr W111).1
  have R112 : ∀ t, Steps p.tables e below (T111.setTop (mkF m 192 #[.val (.int p1), .val (.int p2), .val (.int p3), .val (.int p4), .val (.int a_), .val (.int wd), .val (.int vv), .val (.int ff), .val (.ref b1), .unset] [(.int ff), (.int (11 : Int32)), (.ref b2), (.ref b2)])) t → Steps p.tables e below (s₁.setTop (mkF m 0 #[.val (.int p1), .val (.int p2), .val (.int p3), .val (.int p4), .unset, .unset, .unset, .unset, .unset, .unset] [])) t := by
    intro t kt
    refine R109 _ ?_
    refine st111 _ ?_
    show Steps p.tables e below (T111.setTop (mkF m 187 #[.val (.int p1), .val (.int p2), .val (.int p3), .val (.int p4), .val (.int a_), .val (.int wd), .val (.int vv), .val (.int ff), .val (.ref b1), .unset] [(.ref b2)])) _
    refine XS.dup X111.here hx rfl (hb hby at_187) rfl rfl ?_
    show Steps p.tables e below (T111.setTop (mkF m 188 #[.val (.int p1), .val (.int p2), .val (.int p3), .val (.int p4), .val (.int a_), .val (.int wd), .val (.int vv), .val (.int ff), .val (.ref b1), .unset] [(.ref b2), (.ref b2)])) _
    refine XS.bipush X111.here hx rfl (hb hby at_188) ?_
    show Steps p.tables e below (T111.setTop (mkF m 190 #[.val (.int p1), .val (.int p2), .val (.int p3), .val (.int p4), .val (.int a_), .val (.int wd), .val (.int vv), .val (.int ff), .val (.ref b1), .unset] [(.int (11 : Int32)), (.ref b2), (.ref b2)])) _
    refine XS.iload X111.here hx rfl (hb hby at_190) rfl ?_
    exact kt
  obtain ⟨cl113, Ar113, hin113, -⟩ := VB_111.at (j := (11 : Int32)) (k := 11) (by decide) rfl (by decide)
  obtain ⟨T114, h114, X114, e114, W114, st114⟩ := stB X111 hx hZ e111 Ar113 (j := (11 : Int32)) hin113 (g := (mkF m 192 #[.val (.int p1), .val (.int p2), .val (.int p3), .val (.int p4), .val (.int a_), .val (.int wd), .val (.int vv), .val (.int ff), .val (.ref b1), .unset] [(.int ff), (.int (11 : Int32)), (.ref b2), (.ref b2)])) rfl rfl (hb hby at_192)
  have N114 := Fr.snoc X114 N111 g_b2
  rw [show ((11 : Int32) : Int32).toNatClampNeg = 11 from rfl] at W114
  have VB_114 := VB_111.set W114 (fits_nar_byte _)
  have VP_114 := VP_111.other W114 ne_b1_b2
  have Zs114 : n0 ≤ h114.size := Nat.le_trans Zs111 (Keep.of_wr W114).1
  have R115 : ∀ t, Steps p.tables e below (T114.setTop (mkF m 198 #[.val (.int p1), .val (.int p2), .val (.int p3), .val (.int p4), .val (.int a_), .val (.int wd), .val (.int vv), .val (.int ff), .val (.ref b1), .unset] [(.int ff), (.int (12 : Int32)), (.ref b2), (.ref b2)])) t → Steps p.tables e below (s₁.setTop (mkF m 0 #[.val (.int p1), .val (.int p2), .val (.int p3), .val (.int p4), .unset, .unset, .unset, .unset, .unset, .unset] [])) t := by
    intro t kt
    refine R112 _ ?_
    refine st114 _ ?_
    show Steps p.tables e below (T114.setTop (mkF m 193 #[.val (.int p1), .val (.int p2), .val (.int p3), .val (.int p4), .val (.int a_), .val (.int wd), .val (.int vv), .val (.int ff), .val (.ref b1), .unset] [(.ref b2)])) _
    refine XS.dup X114.here hx rfl (hb hby at_193) rfl rfl ?_
    show Steps p.tables e below (T114.setTop (mkF m 194 #[.val (.int p1), .val (.int p2), .val (.int p3), .val (.int p4), .val (.int a_), .val (.int wd), .val (.int vv), .val (.int ff), .val (.ref b1), .unset] [(.ref b2), (.ref b2)])) _
    refine XS.bipush X114.here hx rfl (hb hby at_194) ?_
    show Steps p.tables e below (T114.setTop (mkF m 196 #[.val (.int p1), .val (.int p2), .val (.int p3), .val (.int p4), .val (.int a_), .val (.int wd), .val (.int vv), .val (.int ff), .val (.ref b1), .unset] [(.int (12 : Int32)), (.ref b2), (.ref b2)])) _
    refine XS.iload X114.here hx rfl (hb hby at_196) rfl ?_
    exact kt
  obtain ⟨cl116, Ar116, hin116, -⟩ := VB_114.at (j := (12 : Int32)) (k := 12) (by decide) rfl (by decide)
  obtain ⟨T117, h117, X117, e117, W117, st117⟩ := stB X114 hx hZ e114 Ar116 (j := (12 : Int32)) hin116 (g := (mkF m 198 #[.val (.int p1), .val (.int p2), .val (.int p3), .val (.int p4), .val (.int a_), .val (.int wd), .val (.int vv), .val (.int ff), .val (.ref b1), .unset] [(.int ff), (.int (12 : Int32)), (.ref b2), (.ref b2)])) rfl rfl (hb hby at_198)
  have N117 := Fr.snoc X117 N114 g_b2
  rw [show ((12 : Int32) : Int32).toNatClampNeg = 12 from rfl] at W117
  have VB_117 := VB_114.set W117 (fits_nar_byte _)
  have VP_117 := VP_114.other W117 ne_b1_b2
  have Zs117 : n0 ≤ h117.size := Nat.le_trans Zs114 (Keep.of_wr W117).1
  have R118 : ∀ t, Steps p.tables e below (T117.setTop (mkF m 204 #[.val (.int p1), .val (.int p2), .val (.int p3), .val (.int p4), .val (.int a_), .val (.int wd), .val (.int vv), .val (.int ff), .val (.ref b1), .unset] [(.int ff), (.int (13 : Int32)), (.ref b2), (.ref b2)])) t → Steps p.tables e below (s₁.setTop (mkF m 0 #[.val (.int p1), .val (.int p2), .val (.int p3), .val (.int p4), .unset, .unset, .unset, .unset, .unset, .unset] [])) t := by
    intro t kt
    refine R115 _ ?_
    refine st117 _ ?_
    show Steps p.tables e below (T117.setTop (mkF m 199 #[.val (.int p1), .val (.int p2), .val (.int p3), .val (.int p4), .val (.int a_), .val (.int wd), .val (.int vv), .val (.int ff), .val (.ref b1), .unset] [(.ref b2)])) _
    refine XS.dup X117.here hx rfl (hb hby at_199) rfl rfl ?_
    show Steps p.tables e below (T117.setTop (mkF m 200 #[.val (.int p1), .val (.int p2), .val (.int p3), .val (.int p4), .val (.int a_), .val (.int wd), .val (.int vv), .val (.int ff), .val (.ref b1), .unset] [(.ref b2), (.ref b2)])) _
    refine XS.bipush X117.here hx rfl (hb hby at_200) ?_
    show Steps p.tables e below (T117.setTop (mkF m 202 #[.val (.int p1), .val (.int p2), .val (.int p3), .val (.int p4), .val (.int a_), .val (.int wd), .val (.int vv), .val (.int ff), .val (.ref b1), .unset] [(.int (13 : Int32)), (.ref b2), (.ref b2)])) _
    refine XS.iload X117.here hx rfl (hb hby at_202) rfl ?_
    exact kt
  obtain ⟨cl119, Ar119, hin119, -⟩ := VB_117.at (j := (13 : Int32)) (k := 13) (by decide) rfl (by decide)
  obtain ⟨T120, h120, X120, e120, W120, st120⟩ := stB X117 hx hZ e117 Ar119 (j := (13 : Int32)) hin119 (g := (mkF m 204 #[.val (.int p1), .val (.int p2), .val (.int p3), .val (.int p4), .val (.int a_), .val (.int wd), .val (.int vv), .val (.int ff), .val (.ref b1), .unset] [(.int ff), (.int (13 : Int32)), (.ref b2), (.ref b2)])) rfl rfl (hb hby at_204)
  have N120 := Fr.snoc X120 N117 g_b2
  rw [show ((13 : Int32) : Int32).toNatClampNeg = 13 from rfl] at W120
  have VB_120 := VB_117.set W120 (fits_nar_byte _)
  have VP_120 := VP_117.other W120 ne_b1_b2
  have Zs120 : n0 ≤ h120.size := Nat.le_trans Zs117 (Keep.of_wr W120).1
  have R121 : ∀ t, Steps p.tables e below (T120.setTop (mkF m 205 #[.val (.int p1), .val (.int p2), .val (.int p3), .val (.int p4), .val (.int a_), .val (.int wd), .val (.int vv), .val (.int ff), .val (.ref b1), .unset] [(.ref b2)])) t → Steps p.tables e below (s₁.setTop (mkF m 0 #[.val (.int p1), .val (.int p2), .val (.int p3), .val (.int p4), .unset, .unset, .unset, .unset, .unset, .unset] [])) t := by
    intro t kt
    refine R118 _ ?_
    refine st120 _ ?_
    exact kt
  have VBc : AV Z h120 b2 .byte 14 (fun _ => .int ff) := VB_120.congr (own_fill ff p4 hff)
  obtain ⟨an, han⟩ := own_nat a_ ba.1
  obtain ⟨wn, hwn⟩ := own_nat wd bw.1
  have hN : an + wn ≤ 14 := by have := bw.2; rw [han, hwn] at this; exact Int.ofNat_le.mp this
  have R122 : ∀ t, Steps p.tables e below (T120.setTop (mkF m 215 #[.val (.int p1), .val (.int p2), .val (.int p3), .val (.int p4), .val (.int a_), .val (.int wd), .val (.int vv), .val (.int ff), .val (.ref b1), .val (.ref b2)] [(.int wd), (.int vv), (.int a_), (.ref b2)])) t → Steps p.tables e below (s₁.setTop (mkF m 0 #[.val (.int p1), .val (.int p2), .val (.int p3), .val (.int p4), .unset, .unset, .unset, .unset, .unset, .unset] [])) t := by
    intro t kt
    refine R121 _ ?_
    show Steps p.tables e below (T120.setTop (mkF m 205 #[.val (.int p1), .val (.int p2), .val (.int p3), .val (.int p4), .val (.int a_), .val (.int wd), .val (.int vv), .val (.int ff), .val (.ref b1), .unset] [(.ref b2)])) _
    refine XS.astore X120.here hx rfl (hb hby at_205) rfl rfl (l' := #[.val (.int p1), .val (.int p2), .val (.int p3), .val (.int p4), .val (.int a_), .val (.int wd), .val (.int vv), .val (.int ff), .val (.ref b1), .val (.ref b2)]) rfl ?_
    show Steps p.tables e below (T120.setTop (mkF m 207 #[.val (.int p1), .val (.int p2), .val (.int p3), .val (.int p4), .val (.int a_), .val (.int wd), .val (.int vv), .val (.int ff), .val (.ref b1), .val (.ref b2)] [])) _
    refine XS.aload X120.here hx rfl (hb hby at_207) rfl rfl ?_
    show Steps p.tables e below (T120.setTop (mkF m 209 #[.val (.int p1), .val (.int p2), .val (.int p3), .val (.int p4), .val (.int a_), .val (.int wd), .val (.int vv), .val (.int ff), .val (.ref b1), .val (.ref b2)] [(.ref b2)])) _
    refine XS.iload X120.here hx rfl (hb hby at_209) rfl ?_
    show Steps p.tables e below (T120.setTop (mkF m 211 #[.val (.int p1), .val (.int p2), .val (.int p3), .val (.int p4), .val (.int a_), .val (.int wd), .val (.int vv), .val (.int ff), .val (.ref b1), .val (.ref b2)] [(.int a_), (.ref b2)])) _
    refine XS.iload X120.here hx rfl (hb hby at_211) rfl ?_
    show Steps p.tables e below (T120.setTop (mkF m 213 #[.val (.int p1), .val (.int p2), .val (.int p3), .val (.int p4), .val (.int a_), .val (.int wd), .val (.int vv), .val (.int ff), .val (.ref b1), .val (.ref b2)] [(.int vv), (.int a_), (.ref b2)])) _
    refine XS.iload X120.here hx rfl (hb hby at_213) rfl ?_
    exact kt
  obtain ⟨_, _, ⟨T123, L123, k123, n123⟩, -, X123, ⟨Lc123, hQ123, l123, y123, z123⟩, st123⟩ := Jvm.LawKit.callS X120 hx (y := (⟨"com/example/travessia/travessia/core/Bytes", "putDigits", "([BIII)V"⟩ : MethodName)) hown (mvT hZ (hw _ (List.mem_of_getElem? (i := 16) rfl))) (mvT hZ (hw _ (List.mem_of_getElem? (i := 17) rfl))) (mvT hZ (hw _ (List.mem_of_getElem? (i := 18) rfl))) (mvT hZ (hw _ (List.mem_of_getElem? (i := 19) rfl))) (by decide) (backOf (W := 0) (rm_pd l Z a0 hw [] b2 a_ vv wd an wn (fun _ => .int ff) h120 n0 Zs120 VBc g_b2 han hwn hN bv) hZ (hw _ (List.mem_of_getElem? (i := 19) rfl)) (hw _ (List.mem_of_getElem? (i := 18) rfl)) (by decide) (by decide)) (g := (mkF m 215 #[.val (.int p1), .val (.int p2), .val (.int p3), .val (.int p4), .val (.int a_), .val (.int wd), .val (.int vv), .val (.int ff), .val (.ref b1), .val (.ref b2)] [(.int wd), (.int vv), (.int a_), (.ref b2)])) rfl (by rw [hml]; rfl) (argsL := [(.ref b2), (.int a_), (.int vv), (.int wd)]) (rest := []) (lenOf pd_0 rfl) rfl (by show 2 * 0 + _ ≤ _; exact Nat.le_of_eq rfl) (hb hby at_215) (fun _ _ => ⟨rfl, e120, (by decide : 2 + 0 ≤ _), (by decide : 28 + 0 ≤ _)⟩)
  dsimp only [Pt.U, Pt.locs, Pt.cells, Pt.slots] at X123 l123 y123 z123 st123 hQ123
  rw [l123, y123, z123] at X123
  obtain ⟨rfl, N123q, K123, V123⟩ := hQ123
  have N123 := Fr.app N120 N123q
  have VP_124 := VP_120.keep K123 (own_notin1 ne_b1_b2)
  have Zs124 : n0 ≤ T123.heap.size := Nat.le_trans Zs120 K123.1
  have sum := own_sum2 a_ wd an wn han hwn hN
  have R125 : ∀ t, Steps p.tables e below (T123.setTop (mkF m 232 #[.val (.int p1), .val (.int p2), .val (.int p3), .val (.int p4), .val (.int a_), .val (.int wd), .val (.int vv), .val (.int ff), .val (.ref b1), .val (.ref b2)] [(.ref b1), (.int ff), (.long (vv.toInt64)), (.int wd), (.int a_), (.int (0 : Int32)), (.ref b2)])) t → Steps p.tables e below (s₁.setTop (mkF m 0 #[.val (.int p1), .val (.int p2), .val (.int p3), .val (.int p4), .unset, .unset, .unset, .unset, .unset, .unset] [])) t := by
    intro t kt
    refine R122 _ ?_
    refine st123 _ ?_
    show Steps p.tables e below (T123.setTop (mkF m 218 #[.val (.int p1), .val (.int p2), .val (.int p3), .val (.int p4), .val (.int a_), .val (.int wd), .val (.int vv), .val (.int ff), .val (.ref b1), .val (.ref b2)] [])) _
    refine XS.aload X123.here hx rfl (hb hby at_218) rfl rfl ?_
    show Steps p.tables e below (T123.setTop (mkF m 220 #[.val (.int p1), .val (.int p2), .val (.int p3), .val (.int p4), .val (.int a_), .val (.int wd), .val (.int vv), .val (.int ff), .val (.ref b1), .val (.ref b2)] [(.ref b2)])) _
    refine XS.iconst X123.here hx rfl (hb hby at_220) ?_
    show Steps p.tables e below (T123.setTop (mkF m 221 #[.val (.int p1), .val (.int p2), .val (.int p3), .val (.int p4), .val (.int a_), .val (.int wd), .val (.int vv), .val (.int ff), .val (.ref b1), .val (.ref b2)] [(.int (0 : Int32)), (.ref b2)])) _
    refine XS.iload X123.here hx rfl (hb hby at_221) rfl ?_
    show Steps p.tables e below (T123.setTop (mkF m 223 #[.val (.int p1), .val (.int p2), .val (.int p3), .val (.int p4), .val (.int a_), .val (.int wd), .val (.int vv), .val (.int ff), .val (.ref b1), .val (.ref b2)] [(.int a_), (.int (0 : Int32)), (.ref b2)])) _
    refine XS.iload X123.here hx rfl (hb hby at_223) rfl ?_
    show Steps p.tables e below (T123.setTop (mkF m 225 #[.val (.int p1), .val (.int p2), .val (.int p3), .val (.int p4), .val (.int a_), .val (.int wd), .val (.int vv), .val (.int ff), .val (.ref b1), .val (.ref b2)] [(.int wd), (.int a_), (.int (0 : Int32)), (.ref b2)])) _
    refine XS.iload X123.here hx rfl (hb hby at_225) rfl ?_
    show Steps p.tables e below (T123.setTop (mkF m 227 #[.val (.int p1), .val (.int p2), .val (.int p3), .val (.int p4), .val (.int a_), .val (.int wd), .val (.int vv), .val (.int ff), .val (.ref b1), .val (.ref b2)] [(.int vv), (.int wd), (.int a_), (.int (0 : Int32)), (.ref b2)])) _
    refine XS.i2l X123.here hx rfl (hb hby at_227) rfl ?_
    show Steps p.tables e below (T123.setTop (mkF m 228 #[.val (.int p1), .val (.int p2), .val (.int p3), .val (.int p4), .val (.int a_), .val (.int wd), .val (.int vv), .val (.int ff), .val (.ref b1), .val (.ref b2)] [(.long (vv.toInt64)), (.int wd), (.int a_), (.int (0 : Int32)), (.ref b2)])) _
    refine XS.iload X123.here hx rfl (hb hby at_228) rfl ?_
    show Steps p.tables e below (T123.setTop (mkF m 230 #[.val (.int p1), .val (.int p2), .val (.int p3), .val (.int p4), .val (.int a_), .val (.int wd), .val (.int vv), .val (.int ff), .val (.ref b1), .val (.ref b2)] [(.int ff), (.long (vv.toInt64)), (.int wd), (.int a_), (.int (0 : Int32)), (.ref b2)])) _
    refine XS.aload X123.here hx rfl (hb hby at_230) rfl rfl ?_
    exact kt
  obtain ⟨_, _, ⟨T126, L126, k126, n126⟩, -, X126, ⟨Lc126, hQ126, l126, y126, z126⟩, st126⟩ := Jvm.LawKit.callS X123 hx (y := (⟨"com/example/travessia/travessia/core/BytesPutDigitsPinLaw", "ok", "([BIIIJB[J)Z"⟩ : MethodName)) hown (mvT hZ (hw _ (List.mem_of_getElem? (i := 20) rfl))) (mvT hZ (hw _ (List.mem_of_getElem? (i := 21) rfl))) (mvT hZ (hw _ (List.mem_of_getElem? (i := 22) rfl))) (mvT hZ (hw _ (List.mem_of_getElem? (i := 23) rfl))) (by decide) (backOf (W := 0) (rm_ok l Z a0 hw [] b2 (0 : Int32) a_ wd (vv.toInt64) ff b1 0 (own_pd an wn vv (fun _ => .int ff)) (fun j => .long (own_p10 j)) T123.heap n0 Zs124 V123 VP_124 (by decide) rfl (by decide) (own_H1 a_ wd vv ff (0 : Int32) an wn 0 han sum rfl) (own_H2 a_ wd vv ff (0 : Int32) an wn 0 han sum hN bv rfl)) hZ (hw _ (List.mem_of_getElem? (i := 23) rfl)) (hw _ (List.mem_of_getElem? (i := 22) rfl)) (by decide) (by decide)) (g := (mkF m 232 #[.val (.int p1), .val (.int p2), .val (.int p3), .val (.int p4), .val (.int a_), .val (.int wd), .val (.int vv), .val (.int ff), .val (.ref b1), .val (.ref b2)] [(.ref b1), (.int ff), (.long (vv.toInt64)), (.int wd), (.int a_), (.int (0 : Int32)), (.ref b2)])) rfl (by rw [hml]; rfl) (argsL := [(.ref b2), (.int (0 : Int32)), (.int a_), (.int wd), (.long (vv.toInt64)), (.int ff), (.ref b1)]) (rest := []) (lenOf pd_1 rfl) rfl (by show 2 * 0 + _ ≤ _; exact Nat.le_of_eq rfl) (hb hby at_232) (fun _ _ => ⟨rfl, rfl, (by decide : 2 + 0 ≤ _), (by decide : 28 + 0 ≤ _)⟩)
  dsimp only [Pt.U, Pt.locs, Pt.cells, Pt.slots] at X126 l126 y126 z126 st126 hQ126
  rw [l126, y126, z126] at X126
  obtain ⟨rfl, N126q, hh126⟩ := hQ126
  have N126 := Fr.app N123 N126q
  have R127 : ∀ t, Steps p.tables e below (T126.setTop (mkF m 252 #[.val (.int p1), .val (.int p2), .val (.int p3), .val (.int p4), .val (.int a_), .val (.int wd), .val (.int vv), .val (.int ff), .val (.ref b1), .val (.ref b2)] [(.ref b1), (.int ff), (.long (vv.toInt64)), (.int wd), (.int a_), (.int (1 : Int32)), (.ref b2)])) t → Steps p.tables e below (s₁.setTop (mkF m 0 #[.val (.int p1), .val (.int p2), .val (.int p3), .val (.int p4), .unset, .unset, .unset, .unset, .unset, .unset] [])) t := by
    intro t kt
    refine R125 _ ?_
    refine st126 _ ?_
    show Steps p.tables e below (T126.setTop (mkF m 235 #[.val (.int p1), .val (.int p2), .val (.int p3), .val (.int p4), .val (.int a_), .val (.int wd), .val (.int vv), .val (.int ff), .val (.ref b1), .val (.ref b2)] [(.int (1 : Int32))])) _
    refine XS.ifNo X126.here hx rfl (hb hby at_235) rfl ((if0 _ _).trans (feq (by decide : ¬ ((1 : Int32) = (0 : Int32)))).1) ?_
    show Steps p.tables e below (T126.setTop (mkF m 238 #[.val (.int p1), .val (.int p2), .val (.int p3), .val (.int p4), .val (.int a_), .val (.int wd), .val (.int vv), .val (.int ff), .val (.ref b1), .val (.ref b2)] [])) _
    refine XS.aload X126.here hx rfl (hb hby at_238) rfl rfl ?_
    show Steps p.tables e below (T126.setTop (mkF m 240 #[.val (.int p1), .val (.int p2), .val (.int p3), .val (.int p4), .val (.int a_), .val (.int wd), .val (.int vv), .val (.int ff), .val (.ref b1), .val (.ref b2)] [(.ref b2)])) _
    refine XS.iconst X126.here hx rfl (hb hby at_240) ?_
    show Steps p.tables e below (T126.setTop (mkF m 241 #[.val (.int p1), .val (.int p2), .val (.int p3), .val (.int p4), .val (.int a_), .val (.int wd), .val (.int vv), .val (.int ff), .val (.ref b1), .val (.ref b2)] [(.int (1 : Int32)), (.ref b2)])) _
    refine XS.iload X126.here hx rfl (hb hby at_241) rfl ?_
    show Steps p.tables e below (T126.setTop (mkF m 243 #[.val (.int p1), .val (.int p2), .val (.int p3), .val (.int p4), .val (.int a_), .val (.int wd), .val (.int vv), .val (.int ff), .val (.ref b1), .val (.ref b2)] [(.int a_), (.int (1 : Int32)), (.ref b2)])) _
    refine XS.iload X126.here hx rfl (hb hby at_243) rfl ?_
    show Steps p.tables e below (T126.setTop (mkF m 245 #[.val (.int p1), .val (.int p2), .val (.int p3), .val (.int p4), .val (.int a_), .val (.int wd), .val (.int vv), .val (.int ff), .val (.ref b1), .val (.ref b2)] [(.int wd), (.int a_), (.int (1 : Int32)), (.ref b2)])) _
    refine XS.iload X126.here hx rfl (hb hby at_245) rfl ?_
    show Steps p.tables e below (T126.setTop (mkF m 247 #[.val (.int p1), .val (.int p2), .val (.int p3), .val (.int p4), .val (.int a_), .val (.int wd), .val (.int vv), .val (.int ff), .val (.ref b1), .val (.ref b2)] [(.int vv), (.int wd), (.int a_), (.int (1 : Int32)), (.ref b2)])) _
    refine XS.i2l X126.here hx rfl (hb hby at_247) rfl ?_
    show Steps p.tables e below (T126.setTop (mkF m 248 #[.val (.int p1), .val (.int p2), .val (.int p3), .val (.int p4), .val (.int a_), .val (.int wd), .val (.int vv), .val (.int ff), .val (.ref b1), .val (.ref b2)] [(.long (vv.toInt64)), (.int wd), (.int a_), (.int (1 : Int32)), (.ref b2)])) _
    refine XS.iload X126.here hx rfl (hb hby at_248) rfl ?_
    show Steps p.tables e below (T126.setTop (mkF m 250 #[.val (.int p1), .val (.int p2), .val (.int p3), .val (.int p4), .val (.int a_), .val (.int wd), .val (.int vv), .val (.int ff), .val (.ref b1), .val (.ref b2)] [(.int ff), (.long (vv.toInt64)), (.int wd), (.int a_), (.int (1 : Int32)), (.ref b2)])) _
    refine XS.aload X126.here hx rfl (hb hby at_250) rfl rfl ?_
    exact kt
  obtain ⟨_, _, ⟨T128, L128, k128, n128⟩, -, X128, ⟨Lc128, hQ128, l128, y128, z128⟩, st128⟩ := Jvm.LawKit.callS X126 hx (y := (⟨"com/example/travessia/travessia/core/BytesPutDigitsPinLaw", "ok", "([BIIIJB[J)Z"⟩ : MethodName)) hown (mvT hZ (hw _ (List.mem_of_getElem? (i := 20) rfl))) (mvT hZ (hw _ (List.mem_of_getElem? (i := 21) rfl))) (mvT hZ (hw _ (List.mem_of_getElem? (i := 22) rfl))) (mvT hZ (hw _ (List.mem_of_getElem? (i := 23) rfl))) (by decide) (backOf (W := 0) (rm_ok l Z a0 hw [] b2 (1 : Int32) a_ wd (vv.toInt64) ff b1 1 (own_pd an wn vv (fun _ => .int ff)) (fun j => .long (own_p10 j)) T123.heap n0 Zs124 V123 VP_124 (by decide) rfl (by decide) (own_H1 a_ wd vv ff (1 : Int32) an wn 1 han sum rfl) (own_H2 a_ wd vv ff (1 : Int32) an wn 1 han sum hN bv rfl)) hZ (hw _ (List.mem_of_getElem? (i := 23) rfl)) (hw _ (List.mem_of_getElem? (i := 22) rfl)) (by decide) (by decide)) (g := (mkF m 252 #[.val (.int p1), .val (.int p2), .val (.int p3), .val (.int p4), .val (.int a_), .val (.int wd), .val (.int vv), .val (.int ff), .val (.ref b1), .val (.ref b2)] [(.ref b1), (.int ff), (.long (vv.toInt64)), (.int wd), (.int a_), (.int (1 : Int32)), (.ref b2)])) rfl (by rw [hml]; rfl) (argsL := [(.ref b2), (.int (1 : Int32)), (.int a_), (.int wd), (.long (vv.toInt64)), (.int ff), (.ref b1)]) (rest := []) (lenOf pd_1 rfl) rfl (by show 2 * 0 + _ ≤ _; exact Nat.le_of_eq rfl) (hb hby at_252) (fun _ _ => ⟨rfl, hh126, (by decide : 2 + 0 ≤ _), (by decide : 28 + 0 ≤ _)⟩)
  dsimp only [Pt.U, Pt.locs, Pt.cells, Pt.slots] at X128 l128 y128 z128 st128 hQ128
  rw [l128, y128, z128] at X128
  obtain ⟨rfl, N128q, hh128⟩ := hQ128
  have N128 := Fr.app N126 N128q
  have R129 : ∀ t, Steps p.tables e below (T128.setTop (mkF m 272 #[.val (.int p1), .val (.int p2), .val (.int p3), .val (.int p4), .val (.int a_), .val (.int wd), .val (.int vv), .val (.int ff), .val (.ref b1), .val (.ref b2)] [(.ref b1), (.int ff), (.long (vv.toInt64)), (.int wd), (.int a_), (.int (2 : Int32)), (.ref b2)])) t → Steps p.tables e below (s₁.setTop (mkF m 0 #[.val (.int p1), .val (.int p2), .val (.int p3), .val (.int p4), .unset, .unset, .unset, .unset, .unset, .unset] [])) t := by
    intro t kt
    refine R127 _ ?_
    refine st128 _ ?_
    show Steps p.tables e below (T128.setTop (mkF m 255 #[.val (.int p1), .val (.int p2), .val (.int p3), .val (.int p4), .val (.int a_), .val (.int wd), .val (.int vv), .val (.int ff), .val (.ref b1), .val (.ref b2)] [(.int (1 : Int32))])) _
    refine XS.ifNo X128.here hx rfl (hb hby at_255) rfl ((if0 _ _).trans (feq (by decide : ¬ ((1 : Int32) = (0 : Int32)))).1) ?_
    show Steps p.tables e below (T128.setTop (mkF m 258 #[.val (.int p1), .val (.int p2), .val (.int p3), .val (.int p4), .val (.int a_), .val (.int wd), .val (.int vv), .val (.int ff), .val (.ref b1), .val (.ref b2)] [])) _
    refine XS.aload X128.here hx rfl (hb hby at_258) rfl rfl ?_
    show Steps p.tables e below (T128.setTop (mkF m 260 #[.val (.int p1), .val (.int p2), .val (.int p3), .val (.int p4), .val (.int a_), .val (.int wd), .val (.int vv), .val (.int ff), .val (.ref b1), .val (.ref b2)] [(.ref b2)])) _
    refine XS.iconst X128.here hx rfl (hb hby at_260) ?_
    show Steps p.tables e below (T128.setTop (mkF m 261 #[.val (.int p1), .val (.int p2), .val (.int p3), .val (.int p4), .val (.int a_), .val (.int wd), .val (.int vv), .val (.int ff), .val (.ref b1), .val (.ref b2)] [(.int (2 : Int32)), (.ref b2)])) _
    refine XS.iload X128.here hx rfl (hb hby at_261) rfl ?_
    show Steps p.tables e below (T128.setTop (mkF m 263 #[.val (.int p1), .val (.int p2), .val (.int p3), .val (.int p4), .val (.int a_), .val (.int wd), .val (.int vv), .val (.int ff), .val (.ref b1), .val (.ref b2)] [(.int a_), (.int (2 : Int32)), (.ref b2)])) _
    refine XS.iload X128.here hx rfl (hb hby at_263) rfl ?_
    show Steps p.tables e below (T128.setTop (mkF m 265 #[.val (.int p1), .val (.int p2), .val (.int p3), .val (.int p4), .val (.int a_), .val (.int wd), .val (.int vv), .val (.int ff), .val (.ref b1), .val (.ref b2)] [(.int wd), (.int a_), (.int (2 : Int32)), (.ref b2)])) _
    refine XS.iload X128.here hx rfl (hb hby at_265) rfl ?_
    show Steps p.tables e below (T128.setTop (mkF m 267 #[.val (.int p1), .val (.int p2), .val (.int p3), .val (.int p4), .val (.int a_), .val (.int wd), .val (.int vv), .val (.int ff), .val (.ref b1), .val (.ref b2)] [(.int vv), (.int wd), (.int a_), (.int (2 : Int32)), (.ref b2)])) _
    refine XS.i2l X128.here hx rfl (hb hby at_267) rfl ?_
    show Steps p.tables e below (T128.setTop (mkF m 268 #[.val (.int p1), .val (.int p2), .val (.int p3), .val (.int p4), .val (.int a_), .val (.int wd), .val (.int vv), .val (.int ff), .val (.ref b1), .val (.ref b2)] [(.long (vv.toInt64)), (.int wd), (.int a_), (.int (2 : Int32)), (.ref b2)])) _
    refine XS.iload X128.here hx rfl (hb hby at_268) rfl ?_
    show Steps p.tables e below (T128.setTop (mkF m 270 #[.val (.int p1), .val (.int p2), .val (.int p3), .val (.int p4), .val (.int a_), .val (.int wd), .val (.int vv), .val (.int ff), .val (.ref b1), .val (.ref b2)] [(.int ff), (.long (vv.toInt64)), (.int wd), (.int a_), (.int (2 : Int32)), (.ref b2)])) _
    refine XS.aload X128.here hx rfl (hb hby at_270) rfl rfl ?_
    exact kt
  obtain ⟨_, _, ⟨T130, L130, k130, n130⟩, -, X130, ⟨Lc130, hQ130, l130, y130, z130⟩, st130⟩ := Jvm.LawKit.callS X128 hx (y := (⟨"com/example/travessia/travessia/core/BytesPutDigitsPinLaw", "ok", "([BIIIJB[J)Z"⟩ : MethodName)) hown (mvT hZ (hw _ (List.mem_of_getElem? (i := 20) rfl))) (mvT hZ (hw _ (List.mem_of_getElem? (i := 21) rfl))) (mvT hZ (hw _ (List.mem_of_getElem? (i := 22) rfl))) (mvT hZ (hw _ (List.mem_of_getElem? (i := 23) rfl))) (by decide) (backOf (W := 0) (rm_ok l Z a0 hw [] b2 (2 : Int32) a_ wd (vv.toInt64) ff b1 2 (own_pd an wn vv (fun _ => .int ff)) (fun j => .long (own_p10 j)) T123.heap n0 Zs124 V123 VP_124 (by decide) rfl (by decide) (own_H1 a_ wd vv ff (2 : Int32) an wn 2 han sum rfl) (own_H2 a_ wd vv ff (2 : Int32) an wn 2 han sum hN bv rfl)) hZ (hw _ (List.mem_of_getElem? (i := 23) rfl)) (hw _ (List.mem_of_getElem? (i := 22) rfl)) (by decide) (by decide)) (g := (mkF m 272 #[.val (.int p1), .val (.int p2), .val (.int p3), .val (.int p4), .val (.int a_), .val (.int wd), .val (.int vv), .val (.int ff), .val (.ref b1), .val (.ref b2)] [(.ref b1), (.int ff), (.long (vv.toInt64)), (.int wd), (.int a_), (.int (2 : Int32)), (.ref b2)])) rfl (by rw [hml]; rfl) (argsL := [(.ref b2), (.int (2 : Int32)), (.int a_), (.int wd), (.long (vv.toInt64)), (.int ff), (.ref b1)]) (rest := []) (lenOf pd_1 rfl) rfl (by show 2 * 0 + _ ≤ _; exact Nat.le_of_eq rfl) (hb hby at_272) (fun _ _ => ⟨rfl, hh128, (by decide : 2 + 0 ≤ _), (by decide : 28 + 0 ≤ _)⟩)
  dsimp only [Pt.U, Pt.locs, Pt.cells, Pt.slots] at X130 l130 y130 z130 st130 hQ130
  rw [l130, y130, z130] at X130
  obtain ⟨rfl, N130q, hh130⟩ := hQ130
  have N130 := Fr.app N128 N130q
  have R131 : ∀ t, Steps p.tables e below (T130.setTop (mkF m 292 #[.val (.int p1), .val (.int p2), .val (.int p3), .val (.int p4), .val (.int a_), .val (.int wd), .val (.int vv), .val (.int ff), .val (.ref b1), .val (.ref b2)] [(.ref b1), (.int ff), (.long (vv.toInt64)), (.int wd), (.int a_), (.int (3 : Int32)), (.ref b2)])) t → Steps p.tables e below (s₁.setTop (mkF m 0 #[.val (.int p1), .val (.int p2), .val (.int p3), .val (.int p4), .unset, .unset, .unset, .unset, .unset, .unset] [])) t := by
    intro t kt
    refine R129 _ ?_
    refine st130 _ ?_
    show Steps p.tables e below (T130.setTop (mkF m 275 #[.val (.int p1), .val (.int p2), .val (.int p3), .val (.int p4), .val (.int a_), .val (.int wd), .val (.int vv), .val (.int ff), .val (.ref b1), .val (.ref b2)] [(.int (1 : Int32))])) _
    refine XS.ifNo X130.here hx rfl (hb hby at_275) rfl ((if0 _ _).trans (feq (by decide : ¬ ((1 : Int32) = (0 : Int32)))).1) ?_
    show Steps p.tables e below (T130.setTop (mkF m 278 #[.val (.int p1), .val (.int p2), .val (.int p3), .val (.int p4), .val (.int a_), .val (.int wd), .val (.int vv), .val (.int ff), .val (.ref b1), .val (.ref b2)] [])) _
    refine XS.aload X130.here hx rfl (hb hby at_278) rfl rfl ?_
    show Steps p.tables e below (T130.setTop (mkF m 280 #[.val (.int p1), .val (.int p2), .val (.int p3), .val (.int p4), .val (.int a_), .val (.int wd), .val (.int vv), .val (.int ff), .val (.ref b1), .val (.ref b2)] [(.ref b2)])) _
    refine XS.iconst X130.here hx rfl (hb hby at_280) ?_
    show Steps p.tables e below (T130.setTop (mkF m 281 #[.val (.int p1), .val (.int p2), .val (.int p3), .val (.int p4), .val (.int a_), .val (.int wd), .val (.int vv), .val (.int ff), .val (.ref b1), .val (.ref b2)] [(.int (3 : Int32)), (.ref b2)])) _
    refine XS.iload X130.here hx rfl (hb hby at_281) rfl ?_
    show Steps p.tables e below (T130.setTop (mkF m 283 #[.val (.int p1), .val (.int p2), .val (.int p3), .val (.int p4), .val (.int a_), .val (.int wd), .val (.int vv), .val (.int ff), .val (.ref b1), .val (.ref b2)] [(.int a_), (.int (3 : Int32)), (.ref b2)])) _
    refine XS.iload X130.here hx rfl (hb hby at_283) rfl ?_
    show Steps p.tables e below (T130.setTop (mkF m 285 #[.val (.int p1), .val (.int p2), .val (.int p3), .val (.int p4), .val (.int a_), .val (.int wd), .val (.int vv), .val (.int ff), .val (.ref b1), .val (.ref b2)] [(.int wd), (.int a_), (.int (3 : Int32)), (.ref b2)])) _
    refine XS.iload X130.here hx rfl (hb hby at_285) rfl ?_
    show Steps p.tables e below (T130.setTop (mkF m 287 #[.val (.int p1), .val (.int p2), .val (.int p3), .val (.int p4), .val (.int a_), .val (.int wd), .val (.int vv), .val (.int ff), .val (.ref b1), .val (.ref b2)] [(.int vv), (.int wd), (.int a_), (.int (3 : Int32)), (.ref b2)])) _
    refine XS.i2l X130.here hx rfl (hb hby at_287) rfl ?_
    show Steps p.tables e below (T130.setTop (mkF m 288 #[.val (.int p1), .val (.int p2), .val (.int p3), .val (.int p4), .val (.int a_), .val (.int wd), .val (.int vv), .val (.int ff), .val (.ref b1), .val (.ref b2)] [(.long (vv.toInt64)), (.int wd), (.int a_), (.int (3 : Int32)), (.ref b2)])) _
    refine XS.iload X130.here hx rfl (hb hby at_288) rfl ?_
    show Steps p.tables e below (T130.setTop (mkF m 290 #[.val (.int p1), .val (.int p2), .val (.int p3), .val (.int p4), .val (.int a_), .val (.int wd), .val (.int vv), .val (.int ff), .val (.ref b1), .val (.ref b2)] [(.int ff), (.long (vv.toInt64)), (.int wd), (.int a_), (.int (3 : Int32)), (.ref b2)])) _
    refine XS.aload X130.here hx rfl (hb hby at_290) rfl rfl ?_
    exact kt
  obtain ⟨_, _, ⟨T132, L132, k132, n132⟩, -, X132, ⟨Lc132, hQ132, l132, y132, z132⟩, st132⟩ := Jvm.LawKit.callS X130 hx (y := (⟨"com/example/travessia/travessia/core/BytesPutDigitsPinLaw", "ok", "([BIIIJB[J)Z"⟩ : MethodName)) hown (mvT hZ (hw _ (List.mem_of_getElem? (i := 20) rfl))) (mvT hZ (hw _ (List.mem_of_getElem? (i := 21) rfl))) (mvT hZ (hw _ (List.mem_of_getElem? (i := 22) rfl))) (mvT hZ (hw _ (List.mem_of_getElem? (i := 23) rfl))) (by decide) (backOf (W := 0) (rm_ok l Z a0 hw [] b2 (3 : Int32) a_ wd (vv.toInt64) ff b1 3 (own_pd an wn vv (fun _ => .int ff)) (fun j => .long (own_p10 j)) T123.heap n0 Zs124 V123 VP_124 (by decide) rfl (by decide) (own_H1 a_ wd vv ff (3 : Int32) an wn 3 han sum rfl) (own_H2 a_ wd vv ff (3 : Int32) an wn 3 han sum hN bv rfl)) hZ (hw _ (List.mem_of_getElem? (i := 23) rfl)) (hw _ (List.mem_of_getElem? (i := 22) rfl)) (by decide) (by decide)) (g := (mkF m 292 #[.val (.int p1), .val (.int p2), .val (.int p3), .val (.int p4), .val (.int a_), .val (.int wd), .val (.int vv), .val (.int ff), .val (.ref b1), .val (.ref b2)] [(.ref b1), (.int ff), (.long (vv.toInt64)), (.int wd), (.int a_), (.int (3 : Int32)), (.ref b2)])) rfl (by rw [hml]; rfl) (argsL := [(.ref b2), (.int (3 : Int32)), (.int a_), (.int wd), (.long (vv.toInt64)), (.int ff), (.ref b1)]) (rest := []) (lenOf pd_1 rfl) rfl (by show 2 * 0 + _ ≤ _; exact Nat.le_of_eq rfl) (hb hby at_292) (fun _ _ => ⟨rfl, hh130, (by decide : 2 + 0 ≤ _), (by decide : 28 + 0 ≤ _)⟩)
  dsimp only [Pt.U, Pt.locs, Pt.cells, Pt.slots] at X132 l132 y132 z132 st132 hQ132
  rw [l132, y132, z132] at X132
  obtain ⟨rfl, N132q, hh132⟩ := hQ132
  have N132 := Fr.app N130 N132q
  have R133 : ∀ t, Steps p.tables e below (T132.setTop (mkF m 312 #[.val (.int p1), .val (.int p2), .val (.int p3), .val (.int p4), .val (.int a_), .val (.int wd), .val (.int vv), .val (.int ff), .val (.ref b1), .val (.ref b2)] [(.ref b1), (.int ff), (.long (vv.toInt64)), (.int wd), (.int a_), (.int (4 : Int32)), (.ref b2)])) t → Steps p.tables e below (s₁.setTop (mkF m 0 #[.val (.int p1), .val (.int p2), .val (.int p3), .val (.int p4), .unset, .unset, .unset, .unset, .unset, .unset] [])) t := by
    intro t kt
    refine R131 _ ?_
    refine st132 _ ?_
    show Steps p.tables e below (T132.setTop (mkF m 295 #[.val (.int p1), .val (.int p2), .val (.int p3), .val (.int p4), .val (.int a_), .val (.int wd), .val (.int vv), .val (.int ff), .val (.ref b1), .val (.ref b2)] [(.int (1 : Int32))])) _
    refine XS.ifNo X132.here hx rfl (hb hby at_295) rfl ((if0 _ _).trans (feq (by decide : ¬ ((1 : Int32) = (0 : Int32)))).1) ?_
    show Steps p.tables e below (T132.setTop (mkF m 298 #[.val (.int p1), .val (.int p2), .val (.int p3), .val (.int p4), .val (.int a_), .val (.int wd), .val (.int vv), .val (.int ff), .val (.ref b1), .val (.ref b2)] [])) _
    refine XS.aload X132.here hx rfl (hb hby at_298) rfl rfl ?_
    show Steps p.tables e below (T132.setTop (mkF m 300 #[.val (.int p1), .val (.int p2), .val (.int p3), .val (.int p4), .val (.int a_), .val (.int wd), .val (.int vv), .val (.int ff), .val (.ref b1), .val (.ref b2)] [(.ref b2)])) _
    refine XS.iconst X132.here hx rfl (hb hby at_300) ?_
    show Steps p.tables e below (T132.setTop (mkF m 301 #[.val (.int p1), .val (.int p2), .val (.int p3), .val (.int p4), .val (.int a_), .val (.int wd), .val (.int vv), .val (.int ff), .val (.ref b1), .val (.ref b2)] [(.int (4 : Int32)), (.ref b2)])) _
    refine XS.iload X132.here hx rfl (hb hby at_301) rfl ?_
    show Steps p.tables e below (T132.setTop (mkF m 303 #[.val (.int p1), .val (.int p2), .val (.int p3), .val (.int p4), .val (.int a_), .val (.int wd), .val (.int vv), .val (.int ff), .val (.ref b1), .val (.ref b2)] [(.int a_), (.int (4 : Int32)), (.ref b2)])) _
    refine XS.iload X132.here hx rfl (hb hby at_303) rfl ?_
    show Steps p.tables e below (T132.setTop (mkF m 305 #[.val (.int p1), .val (.int p2), .val (.int p3), .val (.int p4), .val (.int a_), .val (.int wd), .val (.int vv), .val (.int ff), .val (.ref b1), .val (.ref b2)] [(.int wd), (.int a_), (.int (4 : Int32)), (.ref b2)])) _
    refine XS.iload X132.here hx rfl (hb hby at_305) rfl ?_
    show Steps p.tables e below (T132.setTop (mkF m 307 #[.val (.int p1), .val (.int p2), .val (.int p3), .val (.int p4), .val (.int a_), .val (.int wd), .val (.int vv), .val (.int ff), .val (.ref b1), .val (.ref b2)] [(.int vv), (.int wd), (.int a_), (.int (4 : Int32)), (.ref b2)])) _
    refine XS.i2l X132.here hx rfl (hb hby at_307) rfl ?_
    show Steps p.tables e below (T132.setTop (mkF m 308 #[.val (.int p1), .val (.int p2), .val (.int p3), .val (.int p4), .val (.int a_), .val (.int wd), .val (.int vv), .val (.int ff), .val (.ref b1), .val (.ref b2)] [(.long (vv.toInt64)), (.int wd), (.int a_), (.int (4 : Int32)), (.ref b2)])) _
    refine XS.iload X132.here hx rfl (hb hby at_308) rfl ?_
    show Steps p.tables e below (T132.setTop (mkF m 310 #[.val (.int p1), .val (.int p2), .val (.int p3), .val (.int p4), .val (.int a_), .val (.int wd), .val (.int vv), .val (.int ff), .val (.ref b1), .val (.ref b2)] [(.int ff), (.long (vv.toInt64)), (.int wd), (.int a_), (.int (4 : Int32)), (.ref b2)])) _
    refine XS.aload X132.here hx rfl (hb hby at_310) rfl rfl ?_
    exact kt
  obtain ⟨_, _, ⟨T134, L134, k134, n134⟩, -, X134, ⟨Lc134, hQ134, l134, y134, z134⟩, st134⟩ := Jvm.LawKit.callS X132 hx (y := (⟨"com/example/travessia/travessia/core/BytesPutDigitsPinLaw", "ok", "([BIIIJB[J)Z"⟩ : MethodName)) hown (mvT hZ (hw _ (List.mem_of_getElem? (i := 20) rfl))) (mvT hZ (hw _ (List.mem_of_getElem? (i := 21) rfl))) (mvT hZ (hw _ (List.mem_of_getElem? (i := 22) rfl))) (mvT hZ (hw _ (List.mem_of_getElem? (i := 23) rfl))) (by decide) (backOf (W := 0) (rm_ok l Z a0 hw [] b2 (4 : Int32) a_ wd (vv.toInt64) ff b1 4 (own_pd an wn vv (fun _ => .int ff)) (fun j => .long (own_p10 j)) T123.heap n0 Zs124 V123 VP_124 (by decide) rfl (by decide) (own_H1 a_ wd vv ff (4 : Int32) an wn 4 han sum rfl) (own_H2 a_ wd vv ff (4 : Int32) an wn 4 han sum hN bv rfl)) hZ (hw _ (List.mem_of_getElem? (i := 23) rfl)) (hw _ (List.mem_of_getElem? (i := 22) rfl)) (by decide) (by decide)) (g := (mkF m 312 #[.val (.int p1), .val (.int p2), .val (.int p3), .val (.int p4), .val (.int a_), .val (.int wd), .val (.int vv), .val (.int ff), .val (.ref b1), .val (.ref b2)] [(.ref b1), (.int ff), (.long (vv.toInt64)), (.int wd), (.int a_), (.int (4 : Int32)), (.ref b2)])) rfl (by rw [hml]; rfl) (argsL := [(.ref b2), (.int (4 : Int32)), (.int a_), (.int wd), (.long (vv.toInt64)), (.int ff), (.ref b1)]) (rest := []) (lenOf pd_1 rfl) rfl (by show 2 * 0 + _ ≤ _; exact Nat.le_of_eq rfl) (hb hby at_312) (fun _ _ => ⟨rfl, hh132, (by decide : 2 + 0 ≤ _), (by decide : 28 + 0 ≤ _)⟩)
  dsimp only [Pt.U, Pt.locs, Pt.cells, Pt.slots] at X134 l134 y134 z134 st134 hQ134
  rw [l134, y134, z134] at X134
  obtain ⟨rfl, N134q, hh134⟩ := hQ134
  have N134 := Fr.app N132 N134q
  have R135 : ∀ t, Steps p.tables e below (T134.setTop (mkF m 332 #[.val (.int p1), .val (.int p2), .val (.int p3), .val (.int p4), .val (.int a_), .val (.int wd), .val (.int vv), .val (.int ff), .val (.ref b1), .val (.ref b2)] [(.ref b1), (.int ff), (.long (vv.toInt64)), (.int wd), (.int a_), (.int (5 : Int32)), (.ref b2)])) t → Steps p.tables e below (s₁.setTop (mkF m 0 #[.val (.int p1), .val (.int p2), .val (.int p3), .val (.int p4), .unset, .unset, .unset, .unset, .unset, .unset] [])) t := by
    intro t kt
    refine R133 _ ?_
    refine st134 _ ?_
    show Steps p.tables e below (T134.setTop (mkF m 315 #[.val (.int p1), .val (.int p2), .val (.int p3), .val (.int p4), .val (.int a_), .val (.int wd), .val (.int vv), .val (.int ff), .val (.ref b1), .val (.ref b2)] [(.int (1 : Int32))])) _
    refine XS.ifNo X134.here hx rfl (hb hby at_315) rfl ((if0 _ _).trans (feq (by decide : ¬ ((1 : Int32) = (0 : Int32)))).1) ?_
    show Steps p.tables e below (T134.setTop (mkF m 318 #[.val (.int p1), .val (.int p2), .val (.int p3), .val (.int p4), .val (.int a_), .val (.int wd), .val (.int vv), .val (.int ff), .val (.ref b1), .val (.ref b2)] [])) _
    refine XS.aload X134.here hx rfl (hb hby at_318) rfl rfl ?_
    show Steps p.tables e below (T134.setTop (mkF m 320 #[.val (.int p1), .val (.int p2), .val (.int p3), .val (.int p4), .val (.int a_), .val (.int wd), .val (.int vv), .val (.int ff), .val (.ref b1), .val (.ref b2)] [(.ref b2)])) _
    refine XS.iconst X134.here hx rfl (hb hby at_320) ?_
    show Steps p.tables e below (T134.setTop (mkF m 321 #[.val (.int p1), .val (.int p2), .val (.int p3), .val (.int p4), .val (.int a_), .val (.int wd), .val (.int vv), .val (.int ff), .val (.ref b1), .val (.ref b2)] [(.int (5 : Int32)), (.ref b2)])) _
    refine XS.iload X134.here hx rfl (hb hby at_321) rfl ?_
    show Steps p.tables e below (T134.setTop (mkF m 323 #[.val (.int p1), .val (.int p2), .val (.int p3), .val (.int p4), .val (.int a_), .val (.int wd), .val (.int vv), .val (.int ff), .val (.ref b1), .val (.ref b2)] [(.int a_), (.int (5 : Int32)), (.ref b2)])) _
    refine XS.iload X134.here hx rfl (hb hby at_323) rfl ?_
    show Steps p.tables e below (T134.setTop (mkF m 325 #[.val (.int p1), .val (.int p2), .val (.int p3), .val (.int p4), .val (.int a_), .val (.int wd), .val (.int vv), .val (.int ff), .val (.ref b1), .val (.ref b2)] [(.int wd), (.int a_), (.int (5 : Int32)), (.ref b2)])) _
    refine XS.iload X134.here hx rfl (hb hby at_325) rfl ?_
    show Steps p.tables e below (T134.setTop (mkF m 327 #[.val (.int p1), .val (.int p2), .val (.int p3), .val (.int p4), .val (.int a_), .val (.int wd), .val (.int vv), .val (.int ff), .val (.ref b1), .val (.ref b2)] [(.int vv), (.int wd), (.int a_), (.int (5 : Int32)), (.ref b2)])) _
    refine XS.i2l X134.here hx rfl (hb hby at_327) rfl ?_
    show Steps p.tables e below (T134.setTop (mkF m 328 #[.val (.int p1), .val (.int p2), .val (.int p3), .val (.int p4), .val (.int a_), .val (.int wd), .val (.int vv), .val (.int ff), .val (.ref b1), .val (.ref b2)] [(.long (vv.toInt64)), (.int wd), (.int a_), (.int (5 : Int32)), (.ref b2)])) _
    refine XS.iload X134.here hx rfl (hb hby at_328) rfl ?_
    show Steps p.tables e below (T134.setTop (mkF m 330 #[.val (.int p1), .val (.int p2), .val (.int p3), .val (.int p4), .val (.int a_), .val (.int wd), .val (.int vv), .val (.int ff), .val (.ref b1), .val (.ref b2)] [(.int ff), (.long (vv.toInt64)), (.int wd), (.int a_), (.int (5 : Int32)), (.ref b2)])) _
    refine XS.aload X134.here hx rfl (hb hby at_330) rfl rfl ?_
    exact kt
  obtain ⟨_, _, ⟨T136, L136, k136, n136⟩, -, X136, ⟨Lc136, hQ136, l136, y136, z136⟩, st136⟩ := Jvm.LawKit.callS X134 hx (y := (⟨"com/example/travessia/travessia/core/BytesPutDigitsPinLaw", "ok", "([BIIIJB[J)Z"⟩ : MethodName)) hown (mvT hZ (hw _ (List.mem_of_getElem? (i := 20) rfl))) (mvT hZ (hw _ (List.mem_of_getElem? (i := 21) rfl))) (mvT hZ (hw _ (List.mem_of_getElem? (i := 22) rfl))) (mvT hZ (hw _ (List.mem_of_getElem? (i := 23) rfl))) (by decide) (backOf (W := 0) (rm_ok l Z a0 hw [] b2 (5 : Int32) a_ wd (vv.toInt64) ff b1 5 (own_pd an wn vv (fun _ => .int ff)) (fun j => .long (own_p10 j)) T123.heap n0 Zs124 V123 VP_124 (by decide) rfl (by decide) (own_H1 a_ wd vv ff (5 : Int32) an wn 5 han sum rfl) (own_H2 a_ wd vv ff (5 : Int32) an wn 5 han sum hN bv rfl)) hZ (hw _ (List.mem_of_getElem? (i := 23) rfl)) (hw _ (List.mem_of_getElem? (i := 22) rfl)) (by decide) (by decide)) (g := (mkF m 332 #[.val (.int p1), .val (.int p2), .val (.int p3), .val (.int p4), .val (.int a_), .val (.int wd), .val (.int vv), .val (.int ff), .val (.ref b1), .val (.ref b2)] [(.ref b1), (.int ff), (.long (vv.toInt64)), (.int wd), (.int a_), (.int (5 : Int32)), (.ref b2)])) rfl (by rw [hml]; rfl) (argsL := [(.ref b2), (.int (5 : Int32)), (.int a_), (.int wd), (.long (vv.toInt64)), (.int ff), (.ref b1)]) (rest := []) (lenOf pd_1 rfl) rfl (by show 2 * 0 + _ ≤ _; exact Nat.le_of_eq rfl) (hb hby at_332) (fun _ _ => ⟨rfl, hh134, (by decide : 2 + 0 ≤ _), (by decide : 28 + 0 ≤ _)⟩)
  dsimp only [Pt.U, Pt.locs, Pt.cells, Pt.slots] at X136 l136 y136 z136 st136 hQ136
  rw [l136, y136, z136] at X136
  obtain ⟨rfl, N136q, hh136⟩ := hQ136
  have N136 := Fr.app N134 N136q
  have R137 : ∀ t, Steps p.tables e below (T136.setTop (mkF m 353 #[.val (.int p1), .val (.int p2), .val (.int p3), .val (.int p4), .val (.int a_), .val (.int wd), .val (.int vv), .val (.int ff), .val (.ref b1), .val (.ref b2)] [(.ref b1), (.int ff), (.long (vv.toInt64)), (.int wd), (.int a_), (.int (6 : Int32)), (.ref b2)])) t → Steps p.tables e below (s₁.setTop (mkF m 0 #[.val (.int p1), .val (.int p2), .val (.int p3), .val (.int p4), .unset, .unset, .unset, .unset, .unset, .unset] [])) t := by
    intro t kt
    refine R135 _ ?_
    refine st136 _ ?_
    show Steps p.tables e below (T136.setTop (mkF m 335 #[.val (.int p1), .val (.int p2), .val (.int p3), .val (.int p4), .val (.int a_), .val (.int wd), .val (.int vv), .val (.int ff), .val (.ref b1), .val (.ref b2)] [(.int (1 : Int32))])) _
    refine XS.ifNo X136.here hx rfl (hb hby at_335) rfl ((if0 _ _).trans (feq (by decide : ¬ ((1 : Int32) = (0 : Int32)))).1) ?_
    show Steps p.tables e below (T136.setTop (mkF m 338 #[.val (.int p1), .val (.int p2), .val (.int p3), .val (.int p4), .val (.int a_), .val (.int wd), .val (.int vv), .val (.int ff), .val (.ref b1), .val (.ref b2)] [])) _
    refine XS.aload X136.here hx rfl (hb hby at_338) rfl rfl ?_
    show Steps p.tables e below (T136.setTop (mkF m 340 #[.val (.int p1), .val (.int p2), .val (.int p3), .val (.int p4), .val (.int a_), .val (.int wd), .val (.int vv), .val (.int ff), .val (.ref b1), .val (.ref b2)] [(.ref b2)])) _
    refine XS.bipush X136.here hx rfl (hb hby at_340) ?_
    show Steps p.tables e below (T136.setTop (mkF m 342 #[.val (.int p1), .val (.int p2), .val (.int p3), .val (.int p4), .val (.int a_), .val (.int wd), .val (.int vv), .val (.int ff), .val (.ref b1), .val (.ref b2)] [(.int (6 : Int32)), (.ref b2)])) _
    refine XS.iload X136.here hx rfl (hb hby at_342) rfl ?_
    show Steps p.tables e below (T136.setTop (mkF m 344 #[.val (.int p1), .val (.int p2), .val (.int p3), .val (.int p4), .val (.int a_), .val (.int wd), .val (.int vv), .val (.int ff), .val (.ref b1), .val (.ref b2)] [(.int a_), (.int (6 : Int32)), (.ref b2)])) _
    refine XS.iload X136.here hx rfl (hb hby at_344) rfl ?_
    show Steps p.tables e below (T136.setTop (mkF m 346 #[.val (.int p1), .val (.int p2), .val (.int p3), .val (.int p4), .val (.int a_), .val (.int wd), .val (.int vv), .val (.int ff), .val (.ref b1), .val (.ref b2)] [(.int wd), (.int a_), (.int (6 : Int32)), (.ref b2)])) _
    refine XS.iload X136.here hx rfl (hb hby at_346) rfl ?_
    show Steps p.tables e below (T136.setTop (mkF m 348 #[.val (.int p1), .val (.int p2), .val (.int p3), .val (.int p4), .val (.int a_), .val (.int wd), .val (.int vv), .val (.int ff), .val (.ref b1), .val (.ref b2)] [(.int vv), (.int wd), (.int a_), (.int (6 : Int32)), (.ref b2)])) _
    refine XS.i2l X136.here hx rfl (hb hby at_348) rfl ?_
    show Steps p.tables e below (T136.setTop (mkF m 349 #[.val (.int p1), .val (.int p2), .val (.int p3), .val (.int p4), .val (.int a_), .val (.int wd), .val (.int vv), .val (.int ff), .val (.ref b1), .val (.ref b2)] [(.long (vv.toInt64)), (.int wd), (.int a_), (.int (6 : Int32)), (.ref b2)])) _
    refine XS.iload X136.here hx rfl (hb hby at_349) rfl ?_
    show Steps p.tables e below (T136.setTop (mkF m 351 #[.val (.int p1), .val (.int p2), .val (.int p3), .val (.int p4), .val (.int a_), .val (.int wd), .val (.int vv), .val (.int ff), .val (.ref b1), .val (.ref b2)] [(.int ff), (.long (vv.toInt64)), (.int wd), (.int a_), (.int (6 : Int32)), (.ref b2)])) _
    refine XS.aload X136.here hx rfl (hb hby at_351) rfl rfl ?_
    exact kt
  obtain ⟨_, _, ⟨T138, L138, k138, n138⟩, -, X138, ⟨Lc138, hQ138, l138, y138, z138⟩, st138⟩ := Jvm.LawKit.callS X136 hx (y := (⟨"com/example/travessia/travessia/core/BytesPutDigitsPinLaw", "ok", "([BIIIJB[J)Z"⟩ : MethodName)) hown (mvT hZ (hw _ (List.mem_of_getElem? (i := 20) rfl))) (mvT hZ (hw _ (List.mem_of_getElem? (i := 21) rfl))) (mvT hZ (hw _ (List.mem_of_getElem? (i := 22) rfl))) (mvT hZ (hw _ (List.mem_of_getElem? (i := 23) rfl))) (by decide) (backOf (W := 0) (rm_ok l Z a0 hw [] b2 (6 : Int32) a_ wd (vv.toInt64) ff b1 6 (own_pd an wn vv (fun _ => .int ff)) (fun j => .long (own_p10 j)) T123.heap n0 Zs124 V123 VP_124 (by decide) rfl (by decide) (own_H1 a_ wd vv ff (6 : Int32) an wn 6 han sum rfl) (own_H2 a_ wd vv ff (6 : Int32) an wn 6 han sum hN bv rfl)) hZ (hw _ (List.mem_of_getElem? (i := 23) rfl)) (hw _ (List.mem_of_getElem? (i := 22) rfl)) (by decide) (by decide)) (g := (mkF m 353 #[.val (.int p1), .val (.int p2), .val (.int p3), .val (.int p4), .val (.int a_), .val (.int wd), .val (.int vv), .val (.int ff), .val (.ref b1), .val (.ref b2)] [(.ref b1), (.int ff), (.long (vv.toInt64)), (.int wd), (.int a_), (.int (6 : Int32)), (.ref b2)])) rfl (by rw [hml]; rfl) (argsL := [(.ref b2), (.int (6 : Int32)), (.int a_), (.int wd), (.long (vv.toInt64)), (.int ff), (.ref b1)]) (rest := []) (lenOf pd_1 rfl) rfl (by show 2 * 0 + _ ≤ _; exact Nat.le_of_eq rfl) (hb hby at_353) (fun _ _ => ⟨rfl, hh136, (by decide : 2 + 0 ≤ _), (by decide : 28 + 0 ≤ _)⟩)
  dsimp only [Pt.U, Pt.locs, Pt.cells, Pt.slots] at X138 l138 y138 z138 st138 hQ138
  rw [l138, y138, z138] at X138
  obtain ⟨rfl, N138q, hh138⟩ := hQ138
  have N138 := Fr.app N136 N138q
  have R139 : ∀ t, Steps p.tables e below (T138.setTop (mkF m 374 #[.val (.int p1), .val (.int p2), .val (.int p3), .val (.int p4), .val (.int a_), .val (.int wd), .val (.int vv), .val (.int ff), .val (.ref b1), .val (.ref b2)] [(.ref b1), (.int ff), (.long (vv.toInt64)), (.int wd), (.int a_), (.int (7 : Int32)), (.ref b2)])) t → Steps p.tables e below (s₁.setTop (mkF m 0 #[.val (.int p1), .val (.int p2), .val (.int p3), .val (.int p4), .unset, .unset, .unset, .unset, .unset, .unset] [])) t := by
    intro t kt
    refine R137 _ ?_
    refine st138 _ ?_
    show Steps p.tables e below (T138.setTop (mkF m 356 #[.val (.int p1), .val (.int p2), .val (.int p3), .val (.int p4), .val (.int a_), .val (.int wd), .val (.int vv), .val (.int ff), .val (.ref b1), .val (.ref b2)] [(.int (1 : Int32))])) _
    refine XS.ifNo X138.here hx rfl (hb hby at_356) rfl ((if0 _ _).trans (feq (by decide : ¬ ((1 : Int32) = (0 : Int32)))).1) ?_
    show Steps p.tables e below (T138.setTop (mkF m 359 #[.val (.int p1), .val (.int p2), .val (.int p3), .val (.int p4), .val (.int a_), .val (.int wd), .val (.int vv), .val (.int ff), .val (.ref b1), .val (.ref b2)] [])) _
    refine XS.aload X138.here hx rfl (hb hby at_359) rfl rfl ?_
    show Steps p.tables e below (T138.setTop (mkF m 361 #[.val (.int p1), .val (.int p2), .val (.int p3), .val (.int p4), .val (.int a_), .val (.int wd), .val (.int vv), .val (.int ff), .val (.ref b1), .val (.ref b2)] [(.ref b2)])) _
    refine XS.bipush X138.here hx rfl (hb hby at_361) ?_
    show Steps p.tables e below (T138.setTop (mkF m 363 #[.val (.int p1), .val (.int p2), .val (.int p3), .val (.int p4), .val (.int a_), .val (.int wd), .val (.int vv), .val (.int ff), .val (.ref b1), .val (.ref b2)] [(.int (7 : Int32)), (.ref b2)])) _
    refine XS.iload X138.here hx rfl (hb hby at_363) rfl ?_
    show Steps p.tables e below (T138.setTop (mkF m 365 #[.val (.int p1), .val (.int p2), .val (.int p3), .val (.int p4), .val (.int a_), .val (.int wd), .val (.int vv), .val (.int ff), .val (.ref b1), .val (.ref b2)] [(.int a_), (.int (7 : Int32)), (.ref b2)])) _
    refine XS.iload X138.here hx rfl (hb hby at_365) rfl ?_
    show Steps p.tables e below (T138.setTop (mkF m 367 #[.val (.int p1), .val (.int p2), .val (.int p3), .val (.int p4), .val (.int a_), .val (.int wd), .val (.int vv), .val (.int ff), .val (.ref b1), .val (.ref b2)] [(.int wd), (.int a_), (.int (7 : Int32)), (.ref b2)])) _
    refine XS.iload X138.here hx rfl (hb hby at_367) rfl ?_
    show Steps p.tables e below (T138.setTop (mkF m 369 #[.val (.int p1), .val (.int p2), .val (.int p3), .val (.int p4), .val (.int a_), .val (.int wd), .val (.int vv), .val (.int ff), .val (.ref b1), .val (.ref b2)] [(.int vv), (.int wd), (.int a_), (.int (7 : Int32)), (.ref b2)])) _
    refine XS.i2l X138.here hx rfl (hb hby at_369) rfl ?_
    show Steps p.tables e below (T138.setTop (mkF m 370 #[.val (.int p1), .val (.int p2), .val (.int p3), .val (.int p4), .val (.int a_), .val (.int wd), .val (.int vv), .val (.int ff), .val (.ref b1), .val (.ref b2)] [(.long (vv.toInt64)), (.int wd), (.int a_), (.int (7 : Int32)), (.ref b2)])) _
    refine XS.iload X138.here hx rfl (hb hby at_370) rfl ?_
    show Steps p.tables e below (T138.setTop (mkF m 372 #[.val (.int p1), .val (.int p2), .val (.int p3), .val (.int p4), .val (.int a_), .val (.int wd), .val (.int vv), .val (.int ff), .val (.ref b1), .val (.ref b2)] [(.int ff), (.long (vv.toInt64)), (.int wd), (.int a_), (.int (7 : Int32)), (.ref b2)])) _
    refine XS.aload X138.here hx rfl (hb hby at_372) rfl rfl ?_
    exact kt
  obtain ⟨_, _, ⟨T140, L140, k140, n140⟩, -, X140, ⟨Lc140, hQ140, l140, y140, z140⟩, st140⟩ := Jvm.LawKit.callS X138 hx (y := (⟨"com/example/travessia/travessia/core/BytesPutDigitsPinLaw", "ok", "([BIIIJB[J)Z"⟩ : MethodName)) hown (mvT hZ (hw _ (List.mem_of_getElem? (i := 20) rfl))) (mvT hZ (hw _ (List.mem_of_getElem? (i := 21) rfl))) (mvT hZ (hw _ (List.mem_of_getElem? (i := 22) rfl))) (mvT hZ (hw _ (List.mem_of_getElem? (i := 23) rfl))) (by decide) (backOf (W := 0) (rm_ok l Z a0 hw [] b2 (7 : Int32) a_ wd (vv.toInt64) ff b1 7 (own_pd an wn vv (fun _ => .int ff)) (fun j => .long (own_p10 j)) T123.heap n0 Zs124 V123 VP_124 (by decide) rfl (by decide) (own_H1 a_ wd vv ff (7 : Int32) an wn 7 han sum rfl) (own_H2 a_ wd vv ff (7 : Int32) an wn 7 han sum hN bv rfl)) hZ (hw _ (List.mem_of_getElem? (i := 23) rfl)) (hw _ (List.mem_of_getElem? (i := 22) rfl)) (by decide) (by decide)) (g := (mkF m 374 #[.val (.int p1), .val (.int p2), .val (.int p3), .val (.int p4), .val (.int a_), .val (.int wd), .val (.int vv), .val (.int ff), .val (.ref b1), .val (.ref b2)] [(.ref b1), (.int ff), (.long (vv.toInt64)), (.int wd), (.int a_), (.int (7 : Int32)), (.ref b2)])) rfl (by rw [hml]; rfl) (argsL := [(.ref b2), (.int (7 : Int32)), (.int a_), (.int wd), (.long (vv.toInt64)), (.int ff), (.ref b1)]) (rest := []) (lenOf pd_1 rfl) rfl (by show 2 * 0 + _ ≤ _; exact Nat.le_of_eq rfl) (hb hby at_374) (fun _ _ => ⟨rfl, hh138, (by decide : 2 + 0 ≤ _), (by decide : 28 + 0 ≤ _)⟩)
  dsimp only [Pt.U, Pt.locs, Pt.cells, Pt.slots] at X140 l140 y140 z140 st140 hQ140
  rw [l140, y140, z140] at X140
  obtain ⟨rfl, N140q, hh140⟩ := hQ140
  have N140 := Fr.app N138 N140q
  have R141 : ∀ t, Steps p.tables e below (T140.setTop (mkF m 395 #[.val (.int p1), .val (.int p2), .val (.int p3), .val (.int p4), .val (.int a_), .val (.int wd), .val (.int vv), .val (.int ff), .val (.ref b1), .val (.ref b2)] [(.ref b1), (.int ff), (.long (vv.toInt64)), (.int wd), (.int a_), (.int (8 : Int32)), (.ref b2)])) t → Steps p.tables e below (s₁.setTop (mkF m 0 #[.val (.int p1), .val (.int p2), .val (.int p3), .val (.int p4), .unset, .unset, .unset, .unset, .unset, .unset] [])) t := by
    intro t kt
    refine R139 _ ?_
    refine st140 _ ?_
    show Steps p.tables e below (T140.setTop (mkF m 377 #[.val (.int p1), .val (.int p2), .val (.int p3), .val (.int p4), .val (.int a_), .val (.int wd), .val (.int vv), .val (.int ff), .val (.ref b1), .val (.ref b2)] [(.int (1 : Int32))])) _
    refine XS.ifNo X140.here hx rfl (hb hby at_377) rfl ((if0 _ _).trans (feq (by decide : ¬ ((1 : Int32) = (0 : Int32)))).1) ?_
    show Steps p.tables e below (T140.setTop (mkF m 380 #[.val (.int p1), .val (.int p2), .val (.int p3), .val (.int p4), .val (.int a_), .val (.int wd), .val (.int vv), .val (.int ff), .val (.ref b1), .val (.ref b2)] [])) _
    refine XS.aload X140.here hx rfl (hb hby at_380) rfl rfl ?_
    show Steps p.tables e below (T140.setTop (mkF m 382 #[.val (.int p1), .val (.int p2), .val (.int p3), .val (.int p4), .val (.int a_), .val (.int wd), .val (.int vv), .val (.int ff), .val (.ref b1), .val (.ref b2)] [(.ref b2)])) _
    refine XS.bipush X140.here hx rfl (hb hby at_382) ?_
    show Steps p.tables e below (T140.setTop (mkF m 384 #[.val (.int p1), .val (.int p2), .val (.int p3), .val (.int p4), .val (.int a_), .val (.int wd), .val (.int vv), .val (.int ff), .val (.ref b1), .val (.ref b2)] [(.int (8 : Int32)), (.ref b2)])) _
    refine XS.iload X140.here hx rfl (hb hby at_384) rfl ?_
    show Steps p.tables e below (T140.setTop (mkF m 386 #[.val (.int p1), .val (.int p2), .val (.int p3), .val (.int p4), .val (.int a_), .val (.int wd), .val (.int vv), .val (.int ff), .val (.ref b1), .val (.ref b2)] [(.int a_), (.int (8 : Int32)), (.ref b2)])) _
    refine XS.iload X140.here hx rfl (hb hby at_386) rfl ?_
    show Steps p.tables e below (T140.setTop (mkF m 388 #[.val (.int p1), .val (.int p2), .val (.int p3), .val (.int p4), .val (.int a_), .val (.int wd), .val (.int vv), .val (.int ff), .val (.ref b1), .val (.ref b2)] [(.int wd), (.int a_), (.int (8 : Int32)), (.ref b2)])) _
    refine XS.iload X140.here hx rfl (hb hby at_388) rfl ?_
    show Steps p.tables e below (T140.setTop (mkF m 390 #[.val (.int p1), .val (.int p2), .val (.int p3), .val (.int p4), .val (.int a_), .val (.int wd), .val (.int vv), .val (.int ff), .val (.ref b1), .val (.ref b2)] [(.int vv), (.int wd), (.int a_), (.int (8 : Int32)), (.ref b2)])) _
    refine XS.i2l X140.here hx rfl (hb hby at_390) rfl ?_
    show Steps p.tables e below (T140.setTop (mkF m 391 #[.val (.int p1), .val (.int p2), .val (.int p3), .val (.int p4), .val (.int a_), .val (.int wd), .val (.int vv), .val (.int ff), .val (.ref b1), .val (.ref b2)] [(.long (vv.toInt64)), (.int wd), (.int a_), (.int (8 : Int32)), (.ref b2)])) _
    refine XS.iload X140.here hx rfl (hb hby at_391) rfl ?_
    show Steps p.tables e below (T140.setTop (mkF m 393 #[.val (.int p1), .val (.int p2), .val (.int p3), .val (.int p4), .val (.int a_), .val (.int wd), .val (.int vv), .val (.int ff), .val (.ref b1), .val (.ref b2)] [(.int ff), (.long (vv.toInt64)), (.int wd), (.int a_), (.int (8 : Int32)), (.ref b2)])) _
    refine XS.aload X140.here hx rfl (hb hby at_393) rfl rfl ?_
    exact kt
  obtain ⟨_, _, ⟨T142, L142, k142, n142⟩, -, X142, ⟨Lc142, hQ142, l142, y142, z142⟩, st142⟩ := Jvm.LawKit.callS X140 hx (y := (⟨"com/example/travessia/travessia/core/BytesPutDigitsPinLaw", "ok", "([BIIIJB[J)Z"⟩ : MethodName)) hown (mvT hZ (hw _ (List.mem_of_getElem? (i := 20) rfl))) (mvT hZ (hw _ (List.mem_of_getElem? (i := 21) rfl))) (mvT hZ (hw _ (List.mem_of_getElem? (i := 22) rfl))) (mvT hZ (hw _ (List.mem_of_getElem? (i := 23) rfl))) (by decide) (backOf (W := 0) (rm_ok l Z a0 hw [] b2 (8 : Int32) a_ wd (vv.toInt64) ff b1 8 (own_pd an wn vv (fun _ => .int ff)) (fun j => .long (own_p10 j)) T123.heap n0 Zs124 V123 VP_124 (by decide) rfl (by decide) (own_H1 a_ wd vv ff (8 : Int32) an wn 8 han sum rfl) (own_H2 a_ wd vv ff (8 : Int32) an wn 8 han sum hN bv rfl)) hZ (hw _ (List.mem_of_getElem? (i := 23) rfl)) (hw _ (List.mem_of_getElem? (i := 22) rfl)) (by decide) (by decide)) (g := (mkF m 395 #[.val (.int p1), .val (.int p2), .val (.int p3), .val (.int p4), .val (.int a_), .val (.int wd), .val (.int vv), .val (.int ff), .val (.ref b1), .val (.ref b2)] [(.ref b1), (.int ff), (.long (vv.toInt64)), (.int wd), (.int a_), (.int (8 : Int32)), (.ref b2)])) rfl (by rw [hml]; rfl) (argsL := [(.ref b2), (.int (8 : Int32)), (.int a_), (.int wd), (.long (vv.toInt64)), (.int ff), (.ref b1)]) (rest := []) (lenOf pd_1 rfl) rfl (by show 2 * 0 + _ ≤ _; exact Nat.le_of_eq rfl) (hb hby at_395) (fun _ _ => ⟨rfl, hh140, (by decide : 2 + 0 ≤ _), (by decide : 28 + 0 ≤ _)⟩)
  dsimp only [Pt.U, Pt.locs, Pt.cells, Pt.slots] at X142 l142 y142 z142 st142 hQ142
  rw [l142, y142, z142] at X142
  obtain ⟨rfl, N142q, hh142⟩ := hQ142
  have N142 := Fr.app N140 N142q
  have R143 : ∀ t, Steps p.tables e below (T142.setTop (mkF m 416 #[.val (.int p1), .val (.int p2), .val (.int p3), .val (.int p4), .val (.int a_), .val (.int wd), .val (.int vv), .val (.int ff), .val (.ref b1), .val (.ref b2)] [(.ref b1), (.int ff), (.long (vv.toInt64)), (.int wd), (.int a_), (.int (9 : Int32)), (.ref b2)])) t → Steps p.tables e below (s₁.setTop (mkF m 0 #[.val (.int p1), .val (.int p2), .val (.int p3), .val (.int p4), .unset, .unset, .unset, .unset, .unset, .unset] [])) t := by
    intro t kt
    refine R141 _ ?_
    refine st142 _ ?_
    show Steps p.tables e below (T142.setTop (mkF m 398 #[.val (.int p1), .val (.int p2), .val (.int p3), .val (.int p4), .val (.int a_), .val (.int wd), .val (.int vv), .val (.int ff), .val (.ref b1), .val (.ref b2)] [(.int (1 : Int32))])) _
    refine XS.ifNo X142.here hx rfl (hb hby at_398) rfl ((if0 _ _).trans (feq (by decide : ¬ ((1 : Int32) = (0 : Int32)))).1) ?_
    show Steps p.tables e below (T142.setTop (mkF m 401 #[.val (.int p1), .val (.int p2), .val (.int p3), .val (.int p4), .val (.int a_), .val (.int wd), .val (.int vv), .val (.int ff), .val (.ref b1), .val (.ref b2)] [])) _
    refine XS.aload X142.here hx rfl (hb hby at_401) rfl rfl ?_
    show Steps p.tables e below (T142.setTop (mkF m 403 #[.val (.int p1), .val (.int p2), .val (.int p3), .val (.int p4), .val (.int a_), .val (.int wd), .val (.int vv), .val (.int ff), .val (.ref b1), .val (.ref b2)] [(.ref b2)])) _
    refine XS.bipush X142.here hx rfl (hb hby at_403) ?_
    show Steps p.tables e below (T142.setTop (mkF m 405 #[.val (.int p1), .val (.int p2), .val (.int p3), .val (.int p4), .val (.int a_), .val (.int wd), .val (.int vv), .val (.int ff), .val (.ref b1), .val (.ref b2)] [(.int (9 : Int32)), (.ref b2)])) _
    refine XS.iload X142.here hx rfl (hb hby at_405) rfl ?_
    show Steps p.tables e below (T142.setTop (mkF m 407 #[.val (.int p1), .val (.int p2), .val (.int p3), .val (.int p4), .val (.int a_), .val (.int wd), .val (.int vv), .val (.int ff), .val (.ref b1), .val (.ref b2)] [(.int a_), (.int (9 : Int32)), (.ref b2)])) _
    refine XS.iload X142.here hx rfl (hb hby at_407) rfl ?_
    show Steps p.tables e below (T142.setTop (mkF m 409 #[.val (.int p1), .val (.int p2), .val (.int p3), .val (.int p4), .val (.int a_), .val (.int wd), .val (.int vv), .val (.int ff), .val (.ref b1), .val (.ref b2)] [(.int wd), (.int a_), (.int (9 : Int32)), (.ref b2)])) _
    refine XS.iload X142.here hx rfl (hb hby at_409) rfl ?_
    show Steps p.tables e below (T142.setTop (mkF m 411 #[.val (.int p1), .val (.int p2), .val (.int p3), .val (.int p4), .val (.int a_), .val (.int wd), .val (.int vv), .val (.int ff), .val (.ref b1), .val (.ref b2)] [(.int vv), (.int wd), (.int a_), (.int (9 : Int32)), (.ref b2)])) _
    refine XS.i2l X142.here hx rfl (hb hby at_411) rfl ?_
    show Steps p.tables e below (T142.setTop (mkF m 412 #[.val (.int p1), .val (.int p2), .val (.int p3), .val (.int p4), .val (.int a_), .val (.int wd), .val (.int vv), .val (.int ff), .val (.ref b1), .val (.ref b2)] [(.long (vv.toInt64)), (.int wd), (.int a_), (.int (9 : Int32)), (.ref b2)])) _
    refine XS.iload X142.here hx rfl (hb hby at_412) rfl ?_
    show Steps p.tables e below (T142.setTop (mkF m 414 #[.val (.int p1), .val (.int p2), .val (.int p3), .val (.int p4), .val (.int a_), .val (.int wd), .val (.int vv), .val (.int ff), .val (.ref b1), .val (.ref b2)] [(.int ff), (.long (vv.toInt64)), (.int wd), (.int a_), (.int (9 : Int32)), (.ref b2)])) _
    refine XS.aload X142.here hx rfl (hb hby at_414) rfl rfl ?_
    exact kt
  obtain ⟨_, _, ⟨T144, L144, k144, n144⟩, -, X144, ⟨Lc144, hQ144, l144, y144, z144⟩, st144⟩ := Jvm.LawKit.callS X142 hx (y := (⟨"com/example/travessia/travessia/core/BytesPutDigitsPinLaw", "ok", "([BIIIJB[J)Z"⟩ : MethodName)) hown (mvT hZ (hw _ (List.mem_of_getElem? (i := 20) rfl))) (mvT hZ (hw _ (List.mem_of_getElem? (i := 21) rfl))) (mvT hZ (hw _ (List.mem_of_getElem? (i := 22) rfl))) (mvT hZ (hw _ (List.mem_of_getElem? (i := 23) rfl))) (by decide) (backOf (W := 0) (rm_ok l Z a0 hw [] b2 (9 : Int32) a_ wd (vv.toInt64) ff b1 9 (own_pd an wn vv (fun _ => .int ff)) (fun j => .long (own_p10 j)) T123.heap n0 Zs124 V123 VP_124 (by decide) rfl (by decide) (own_H1 a_ wd vv ff (9 : Int32) an wn 9 han sum rfl) (own_H2 a_ wd vv ff (9 : Int32) an wn 9 han sum hN bv rfl)) hZ (hw _ (List.mem_of_getElem? (i := 23) rfl)) (hw _ (List.mem_of_getElem? (i := 22) rfl)) (by decide) (by decide)) (g := (mkF m 416 #[.val (.int p1), .val (.int p2), .val (.int p3), .val (.int p4), .val (.int a_), .val (.int wd), .val (.int vv), .val (.int ff), .val (.ref b1), .val (.ref b2)] [(.ref b1), (.int ff), (.long (vv.toInt64)), (.int wd), (.int a_), (.int (9 : Int32)), (.ref b2)])) rfl (by rw [hml]; rfl) (argsL := [(.ref b2), (.int (9 : Int32)), (.int a_), (.int wd), (.long (vv.toInt64)), (.int ff), (.ref b1)]) (rest := []) (lenOf pd_1 rfl) rfl (by show 2 * 0 + _ ≤ _; exact Nat.le_of_eq rfl) (hb hby at_416) (fun _ _ => ⟨rfl, hh142, (by decide : 2 + 0 ≤ _), (by decide : 28 + 0 ≤ _)⟩)
  dsimp only [Pt.U, Pt.locs, Pt.cells, Pt.slots] at X144 l144 y144 z144 st144 hQ144
  rw [l144, y144, z144] at X144
  obtain ⟨rfl, N144q, hh144⟩ := hQ144
  have N144 := Fr.app N142 N144q
  have R145 : ∀ t, Steps p.tables e below (T144.setTop (mkF m 437 #[.val (.int p1), .val (.int p2), .val (.int p3), .val (.int p4), .val (.int a_), .val (.int wd), .val (.int vv), .val (.int ff), .val (.ref b1), .val (.ref b2)] [(.ref b1), (.int ff), (.long (vv.toInt64)), (.int wd), (.int a_), (.int (10 : Int32)), (.ref b2)])) t → Steps p.tables e below (s₁.setTop (mkF m 0 #[.val (.int p1), .val (.int p2), .val (.int p3), .val (.int p4), .unset, .unset, .unset, .unset, .unset, .unset] [])) t := by
    intro t kt
    refine R143 _ ?_
    refine st144 _ ?_
    show Steps p.tables e below (T144.setTop (mkF m 419 #[.val (.int p1), .val (.int p2), .val (.int p3), .val (.int p4), .val (.int a_), .val (.int wd), .val (.int vv), .val (.int ff), .val (.ref b1), .val (.ref b2)] [(.int (1 : Int32))])) _
    refine XS.ifNo X144.here hx rfl (hb hby at_419) rfl ((if0 _ _).trans (feq (by decide : ¬ ((1 : Int32) = (0 : Int32)))).1) ?_
    show Steps p.tables e below (T144.setTop (mkF m 422 #[.val (.int p1), .val (.int p2), .val (.int p3), .val (.int p4), .val (.int a_), .val (.int wd), .val (.int vv), .val (.int ff), .val (.ref b1), .val (.ref b2)] [])) _
    refine XS.aload X144.here hx rfl (hb hby at_422) rfl rfl ?_
    show Steps p.tables e below (T144.setTop (mkF m 424 #[.val (.int p1), .val (.int p2), .val (.int p3), .val (.int p4), .val (.int a_), .val (.int wd), .val (.int vv), .val (.int ff), .val (.ref b1), .val (.ref b2)] [(.ref b2)])) _
    refine XS.bipush X144.here hx rfl (hb hby at_424) ?_
    show Steps p.tables e below (T144.setTop (mkF m 426 #[.val (.int p1), .val (.int p2), .val (.int p3), .val (.int p4), .val (.int a_), .val (.int wd), .val (.int vv), .val (.int ff), .val (.ref b1), .val (.ref b2)] [(.int (10 : Int32)), (.ref b2)])) _
    refine XS.iload X144.here hx rfl (hb hby at_426) rfl ?_
    show Steps p.tables e below (T144.setTop (mkF m 428 #[.val (.int p1), .val (.int p2), .val (.int p3), .val (.int p4), .val (.int a_), .val (.int wd), .val (.int vv), .val (.int ff), .val (.ref b1), .val (.ref b2)] [(.int a_), (.int (10 : Int32)), (.ref b2)])) _
    refine XS.iload X144.here hx rfl (hb hby at_428) rfl ?_
    show Steps p.tables e below (T144.setTop (mkF m 430 #[.val (.int p1), .val (.int p2), .val (.int p3), .val (.int p4), .val (.int a_), .val (.int wd), .val (.int vv), .val (.int ff), .val (.ref b1), .val (.ref b2)] [(.int wd), (.int a_), (.int (10 : Int32)), (.ref b2)])) _
    refine XS.iload X144.here hx rfl (hb hby at_430) rfl ?_
    show Steps p.tables e below (T144.setTop (mkF m 432 #[.val (.int p1), .val (.int p2), .val (.int p3), .val (.int p4), .val (.int a_), .val (.int wd), .val (.int vv), .val (.int ff), .val (.ref b1), .val (.ref b2)] [(.int vv), (.int wd), (.int a_), (.int (10 : Int32)), (.ref b2)])) _
    refine XS.i2l X144.here hx rfl (hb hby at_432) rfl ?_
    show Steps p.tables e below (T144.setTop (mkF m 433 #[.val (.int p1), .val (.int p2), .val (.int p3), .val (.int p4), .val (.int a_), .val (.int wd), .val (.int vv), .val (.int ff), .val (.ref b1), .val (.ref b2)] [(.long (vv.toInt64)), (.int wd), (.int a_), (.int (10 : Int32)), (.ref b2)])) _
    refine XS.iload X144.here hx rfl (hb hby at_433) rfl ?_
    show Steps p.tables e below (T144.setTop (mkF m 435 #[.val (.int p1), .val (.int p2), .val (.int p3), .val (.int p4), .val (.int a_), .val (.int wd), .val (.int vv), .val (.int ff), .val (.ref b1), .val (.ref b2)] [(.int ff), (.long (vv.toInt64)), (.int wd), (.int a_), (.int (10 : Int32)), (.ref b2)])) _
    refine XS.aload X144.here hx rfl (hb hby at_435) rfl rfl ?_
    exact kt
  obtain ⟨_, _, ⟨T146, L146, k146, n146⟩, -, X146, ⟨Lc146, hQ146, l146, y146, z146⟩, st146⟩ := Jvm.LawKit.callS X144 hx (y := (⟨"com/example/travessia/travessia/core/BytesPutDigitsPinLaw", "ok", "([BIIIJB[J)Z"⟩ : MethodName)) hown (mvT hZ (hw _ (List.mem_of_getElem? (i := 20) rfl))) (mvT hZ (hw _ (List.mem_of_getElem? (i := 21) rfl))) (mvT hZ (hw _ (List.mem_of_getElem? (i := 22) rfl))) (mvT hZ (hw _ (List.mem_of_getElem? (i := 23) rfl))) (by decide) (backOf (W := 0) (rm_ok l Z a0 hw [] b2 (10 : Int32) a_ wd (vv.toInt64) ff b1 10 (own_pd an wn vv (fun _ => .int ff)) (fun j => .long (own_p10 j)) T123.heap n0 Zs124 V123 VP_124 (by decide) rfl (by decide) (own_H1 a_ wd vv ff (10 : Int32) an wn 10 han sum rfl) (own_H2 a_ wd vv ff (10 : Int32) an wn 10 han sum hN bv rfl)) hZ (hw _ (List.mem_of_getElem? (i := 23) rfl)) (hw _ (List.mem_of_getElem? (i := 22) rfl)) (by decide) (by decide)) (g := (mkF m 437 #[.val (.int p1), .val (.int p2), .val (.int p3), .val (.int p4), .val (.int a_), .val (.int wd), .val (.int vv), .val (.int ff), .val (.ref b1), .val (.ref b2)] [(.ref b1), (.int ff), (.long (vv.toInt64)), (.int wd), (.int a_), (.int (10 : Int32)), (.ref b2)])) rfl (by rw [hml]; rfl) (argsL := [(.ref b2), (.int (10 : Int32)), (.int a_), (.int wd), (.long (vv.toInt64)), (.int ff), (.ref b1)]) (rest := []) (lenOf pd_1 rfl) rfl (by show 2 * 0 + _ ≤ _; exact Nat.le_of_eq rfl) (hb hby at_437) (fun _ _ => ⟨rfl, hh144, (by decide : 2 + 0 ≤ _), (by decide : 28 + 0 ≤ _)⟩)
  dsimp only [Pt.U, Pt.locs, Pt.cells, Pt.slots] at X146 l146 y146 z146 st146 hQ146
  rw [l146, y146, z146] at X146
  obtain ⟨rfl, N146q, hh146⟩ := hQ146
  have N146 := Fr.app N144 N146q
  have R147 : ∀ t, Steps p.tables e below (T146.setTop (mkF m 458 #[.val (.int p1), .val (.int p2), .val (.int p3), .val (.int p4), .val (.int a_), .val (.int wd), .val (.int vv), .val (.int ff), .val (.ref b1), .val (.ref b2)] [(.ref b1), (.int ff), (.long (vv.toInt64)), (.int wd), (.int a_), (.int (11 : Int32)), (.ref b2)])) t → Steps p.tables e below (s₁.setTop (mkF m 0 #[.val (.int p1), .val (.int p2), .val (.int p3), .val (.int p4), .unset, .unset, .unset, .unset, .unset, .unset] [])) t := by
    intro t kt
    refine R145 _ ?_
    refine st146 _ ?_
    show Steps p.tables e below (T146.setTop (mkF m 440 #[.val (.int p1), .val (.int p2), .val (.int p3), .val (.int p4), .val (.int a_), .val (.int wd), .val (.int vv), .val (.int ff), .val (.ref b1), .val (.ref b2)] [(.int (1 : Int32))])) _
    refine XS.ifNo X146.here hx rfl (hb hby at_440) rfl ((if0 _ _).trans (feq (by decide : ¬ ((1 : Int32) = (0 : Int32)))).1) ?_
    show Steps p.tables e below (T146.setTop (mkF m 443 #[.val (.int p1), .val (.int p2), .val (.int p3), .val (.int p4), .val (.int a_), .val (.int wd), .val (.int vv), .val (.int ff), .val (.ref b1), .val (.ref b2)] [])) _
    refine XS.aload X146.here hx rfl (hb hby at_443) rfl rfl ?_
    show Steps p.tables e below (T146.setTop (mkF m 445 #[.val (.int p1), .val (.int p2), .val (.int p3), .val (.int p4), .val (.int a_), .val (.int wd), .val (.int vv), .val (.int ff), .val (.ref b1), .val (.ref b2)] [(.ref b2)])) _
    refine XS.bipush X146.here hx rfl (hb hby at_445) ?_
    show Steps p.tables e below (T146.setTop (mkF m 447 #[.val (.int p1), .val (.int p2), .val (.int p3), .val (.int p4), .val (.int a_), .val (.int wd), .val (.int vv), .val (.int ff), .val (.ref b1), .val (.ref b2)] [(.int (11 : Int32)), (.ref b2)])) _
    refine XS.iload X146.here hx rfl (hb hby at_447) rfl ?_
    show Steps p.tables e below (T146.setTop (mkF m 449 #[.val (.int p1), .val (.int p2), .val (.int p3), .val (.int p4), .val (.int a_), .val (.int wd), .val (.int vv), .val (.int ff), .val (.ref b1), .val (.ref b2)] [(.int a_), (.int (11 : Int32)), (.ref b2)])) _
    refine XS.iload X146.here hx rfl (hb hby at_449) rfl ?_
    show Steps p.tables e below (T146.setTop (mkF m 451 #[.val (.int p1), .val (.int p2), .val (.int p3), .val (.int p4), .val (.int a_), .val (.int wd), .val (.int vv), .val (.int ff), .val (.ref b1), .val (.ref b2)] [(.int wd), (.int a_), (.int (11 : Int32)), (.ref b2)])) _
    refine XS.iload X146.here hx rfl (hb hby at_451) rfl ?_
    show Steps p.tables e below (T146.setTop (mkF m 453 #[.val (.int p1), .val (.int p2), .val (.int p3), .val (.int p4), .val (.int a_), .val (.int wd), .val (.int vv), .val (.int ff), .val (.ref b1), .val (.ref b2)] [(.int vv), (.int wd), (.int a_), (.int (11 : Int32)), (.ref b2)])) _
    refine XS.i2l X146.here hx rfl (hb hby at_453) rfl ?_
    show Steps p.tables e below (T146.setTop (mkF m 454 #[.val (.int p1), .val (.int p2), .val (.int p3), .val (.int p4), .val (.int a_), .val (.int wd), .val (.int vv), .val (.int ff), .val (.ref b1), .val (.ref b2)] [(.long (vv.toInt64)), (.int wd), (.int a_), (.int (11 : Int32)), (.ref b2)])) _
    refine XS.iload X146.here hx rfl (hb hby at_454) rfl ?_
    show Steps p.tables e below (T146.setTop (mkF m 456 #[.val (.int p1), .val (.int p2), .val (.int p3), .val (.int p4), .val (.int a_), .val (.int wd), .val (.int vv), .val (.int ff), .val (.ref b1), .val (.ref b2)] [(.int ff), (.long (vv.toInt64)), (.int wd), (.int a_), (.int (11 : Int32)), (.ref b2)])) _
    refine XS.aload X146.here hx rfl (hb hby at_456) rfl rfl ?_
    exact kt
  obtain ⟨_, _, ⟨T148, L148, k148, n148⟩, -, X148, ⟨Lc148, hQ148, l148, y148, z148⟩, st148⟩ := Jvm.LawKit.callS X146 hx (y := (⟨"com/example/travessia/travessia/core/BytesPutDigitsPinLaw", "ok", "([BIIIJB[J)Z"⟩ : MethodName)) hown (mvT hZ (hw _ (List.mem_of_getElem? (i := 20) rfl))) (mvT hZ (hw _ (List.mem_of_getElem? (i := 21) rfl))) (mvT hZ (hw _ (List.mem_of_getElem? (i := 22) rfl))) (mvT hZ (hw _ (List.mem_of_getElem? (i := 23) rfl))) (by decide) (backOf (W := 0) (rm_ok l Z a0 hw [] b2 (11 : Int32) a_ wd (vv.toInt64) ff b1 11 (own_pd an wn vv (fun _ => .int ff)) (fun j => .long (own_p10 j)) T123.heap n0 Zs124 V123 VP_124 (by decide) rfl (by decide) (own_H1 a_ wd vv ff (11 : Int32) an wn 11 han sum rfl) (own_H2 a_ wd vv ff (11 : Int32) an wn 11 han sum hN bv rfl)) hZ (hw _ (List.mem_of_getElem? (i := 23) rfl)) (hw _ (List.mem_of_getElem? (i := 22) rfl)) (by decide) (by decide)) (g := (mkF m 458 #[.val (.int p1), .val (.int p2), .val (.int p3), .val (.int p4), .val (.int a_), .val (.int wd), .val (.int vv), .val (.int ff), .val (.ref b1), .val (.ref b2)] [(.ref b1), (.int ff), (.long (vv.toInt64)), (.int wd), (.int a_), (.int (11 : Int32)), (.ref b2)])) rfl (by rw [hml]; rfl) (argsL := [(.ref b2), (.int (11 : Int32)), (.int a_), (.int wd), (.long (vv.toInt64)), (.int ff), (.ref b1)]) (rest := []) (lenOf pd_1 rfl) rfl (by show 2 * 0 + _ ≤ _; exact Nat.le_of_eq rfl) (hb hby at_458) (fun _ _ => ⟨rfl, hh146, (by decide : 2 + 0 ≤ _), (by decide : 28 + 0 ≤ _)⟩)
  dsimp only [Pt.U, Pt.locs, Pt.cells, Pt.slots] at X148 l148 y148 z148 st148 hQ148
  rw [l148, y148, z148] at X148
  obtain ⟨rfl, N148q, hh148⟩ := hQ148
  have N148 := Fr.app N146 N148q
  have R149 : ∀ t, Steps p.tables e below (T148.setTop (mkF m 479 #[.val (.int p1), .val (.int p2), .val (.int p3), .val (.int p4), .val (.int a_), .val (.int wd), .val (.int vv), .val (.int ff), .val (.ref b1), .val (.ref b2)] [(.ref b1), (.int ff), (.long (vv.toInt64)), (.int wd), (.int a_), (.int (12 : Int32)), (.ref b2)])) t → Steps p.tables e below (s₁.setTop (mkF m 0 #[.val (.int p1), .val (.int p2), .val (.int p3), .val (.int p4), .unset, .unset, .unset, .unset, .unset, .unset] [])) t := by
    intro t kt
    refine R147 _ ?_
    refine st148 _ ?_
    show Steps p.tables e below (T148.setTop (mkF m 461 #[.val (.int p1), .val (.int p2), .val (.int p3), .val (.int p4), .val (.int a_), .val (.int wd), .val (.int vv), .val (.int ff), .val (.ref b1), .val (.ref b2)] [(.int (1 : Int32))])) _
    refine XS.ifNo X148.here hx rfl (hb hby at_461) rfl ((if0 _ _).trans (feq (by decide : ¬ ((1 : Int32) = (0 : Int32)))).1) ?_
    show Steps p.tables e below (T148.setTop (mkF m 464 #[.val (.int p1), .val (.int p2), .val (.int p3), .val (.int p4), .val (.int a_), .val (.int wd), .val (.int vv), .val (.int ff), .val (.ref b1), .val (.ref b2)] [])) _
    refine XS.aload X148.here hx rfl (hb hby at_464) rfl rfl ?_
    show Steps p.tables e below (T148.setTop (mkF m 466 #[.val (.int p1), .val (.int p2), .val (.int p3), .val (.int p4), .val (.int a_), .val (.int wd), .val (.int vv), .val (.int ff), .val (.ref b1), .val (.ref b2)] [(.ref b2)])) _
    refine XS.bipush X148.here hx rfl (hb hby at_466) ?_
    show Steps p.tables e below (T148.setTop (mkF m 468 #[.val (.int p1), .val (.int p2), .val (.int p3), .val (.int p4), .val (.int a_), .val (.int wd), .val (.int vv), .val (.int ff), .val (.ref b1), .val (.ref b2)] [(.int (12 : Int32)), (.ref b2)])) _
    refine XS.iload X148.here hx rfl (hb hby at_468) rfl ?_
    show Steps p.tables e below (T148.setTop (mkF m 470 #[.val (.int p1), .val (.int p2), .val (.int p3), .val (.int p4), .val (.int a_), .val (.int wd), .val (.int vv), .val (.int ff), .val (.ref b1), .val (.ref b2)] [(.int a_), (.int (12 : Int32)), (.ref b2)])) _
    refine XS.iload X148.here hx rfl (hb hby at_470) rfl ?_
    show Steps p.tables e below (T148.setTop (mkF m 472 #[.val (.int p1), .val (.int p2), .val (.int p3), .val (.int p4), .val (.int a_), .val (.int wd), .val (.int vv), .val (.int ff), .val (.ref b1), .val (.ref b2)] [(.int wd), (.int a_), (.int (12 : Int32)), (.ref b2)])) _
    refine XS.iload X148.here hx rfl (hb hby at_472) rfl ?_
    show Steps p.tables e below (T148.setTop (mkF m 474 #[.val (.int p1), .val (.int p2), .val (.int p3), .val (.int p4), .val (.int a_), .val (.int wd), .val (.int vv), .val (.int ff), .val (.ref b1), .val (.ref b2)] [(.int vv), (.int wd), (.int a_), (.int (12 : Int32)), (.ref b2)])) _
    refine XS.i2l X148.here hx rfl (hb hby at_474) rfl ?_
    show Steps p.tables e below (T148.setTop (mkF m 475 #[.val (.int p1), .val (.int p2), .val (.int p3), .val (.int p4), .val (.int a_), .val (.int wd), .val (.int vv), .val (.int ff), .val (.ref b1), .val (.ref b2)] [(.long (vv.toInt64)), (.int wd), (.int a_), (.int (12 : Int32)), (.ref b2)])) _
    refine XS.iload X148.here hx rfl (hb hby at_475) rfl ?_
    show Steps p.tables e below (T148.setTop (mkF m 477 #[.val (.int p1), .val (.int p2), .val (.int p3), .val (.int p4), .val (.int a_), .val (.int wd), .val (.int vv), .val (.int ff), .val (.ref b1), .val (.ref b2)] [(.int ff), (.long (vv.toInt64)), (.int wd), (.int a_), (.int (12 : Int32)), (.ref b2)])) _
    refine XS.aload X148.here hx rfl (hb hby at_477) rfl rfl ?_
    exact kt
  obtain ⟨_, _, ⟨T150, L150, k150, n150⟩, -, X150, ⟨Lc150, hQ150, l150, y150, z150⟩, st150⟩ := Jvm.LawKit.callS X148 hx (y := (⟨"com/example/travessia/travessia/core/BytesPutDigitsPinLaw", "ok", "([BIIIJB[J)Z"⟩ : MethodName)) hown (mvT hZ (hw _ (List.mem_of_getElem? (i := 20) rfl))) (mvT hZ (hw _ (List.mem_of_getElem? (i := 21) rfl))) (mvT hZ (hw _ (List.mem_of_getElem? (i := 22) rfl))) (mvT hZ (hw _ (List.mem_of_getElem? (i := 23) rfl))) (by decide) (backOf (W := 0) (rm_ok l Z a0 hw [] b2 (12 : Int32) a_ wd (vv.toInt64) ff b1 12 (own_pd an wn vv (fun _ => .int ff)) (fun j => .long (own_p10 j)) T123.heap n0 Zs124 V123 VP_124 (by decide) rfl (by decide) (own_H1 a_ wd vv ff (12 : Int32) an wn 12 han sum rfl) (own_H2 a_ wd vv ff (12 : Int32) an wn 12 han sum hN bv rfl)) hZ (hw _ (List.mem_of_getElem? (i := 23) rfl)) (hw _ (List.mem_of_getElem? (i := 22) rfl)) (by decide) (by decide)) (g := (mkF m 479 #[.val (.int p1), .val (.int p2), .val (.int p3), .val (.int p4), .val (.int a_), .val (.int wd), .val (.int vv), .val (.int ff), .val (.ref b1), .val (.ref b2)] [(.ref b1), (.int ff), (.long (vv.toInt64)), (.int wd), (.int a_), (.int (12 : Int32)), (.ref b2)])) rfl (by rw [hml]; rfl) (argsL := [(.ref b2), (.int (12 : Int32)), (.int a_), (.int wd), (.long (vv.toInt64)), (.int ff), (.ref b1)]) (rest := []) (lenOf pd_1 rfl) rfl (by show 2 * 0 + _ ≤ _; exact Nat.le_of_eq rfl) (hb hby at_479) (fun _ _ => ⟨rfl, hh148, (by decide : 2 + 0 ≤ _), (by decide : 28 + 0 ≤ _)⟩)
  dsimp only [Pt.U, Pt.locs, Pt.cells, Pt.slots] at X150 l150 y150 z150 st150 hQ150
  rw [l150, y150, z150] at X150
  obtain ⟨rfl, N150q, hh150⟩ := hQ150
  have N150 := Fr.app N148 N150q
  have R151 : ∀ t, Steps p.tables e below (T150.setTop (mkF m 500 #[.val (.int p1), .val (.int p2), .val (.int p3), .val (.int p4), .val (.int a_), .val (.int wd), .val (.int vv), .val (.int ff), .val (.ref b1), .val (.ref b2)] [(.ref b1), (.int ff), (.long (vv.toInt64)), (.int wd), (.int a_), (.int (13 : Int32)), (.ref b2)])) t → Steps p.tables e below (s₁.setTop (mkF m 0 #[.val (.int p1), .val (.int p2), .val (.int p3), .val (.int p4), .unset, .unset, .unset, .unset, .unset, .unset] [])) t := by
    intro t kt
    refine R149 _ ?_
    refine st150 _ ?_
    show Steps p.tables e below (T150.setTop (mkF m 482 #[.val (.int p1), .val (.int p2), .val (.int p3), .val (.int p4), .val (.int a_), .val (.int wd), .val (.int vv), .val (.int ff), .val (.ref b1), .val (.ref b2)] [(.int (1 : Int32))])) _
    refine XS.ifNo X150.here hx rfl (hb hby at_482) rfl ((if0 _ _).trans (feq (by decide : ¬ ((1 : Int32) = (0 : Int32)))).1) ?_
    show Steps p.tables e below (T150.setTop (mkF m 485 #[.val (.int p1), .val (.int p2), .val (.int p3), .val (.int p4), .val (.int a_), .val (.int wd), .val (.int vv), .val (.int ff), .val (.ref b1), .val (.ref b2)] [])) _
    refine XS.aload X150.here hx rfl (hb hby at_485) rfl rfl ?_
    show Steps p.tables e below (T150.setTop (mkF m 487 #[.val (.int p1), .val (.int p2), .val (.int p3), .val (.int p4), .val (.int a_), .val (.int wd), .val (.int vv), .val (.int ff), .val (.ref b1), .val (.ref b2)] [(.ref b2)])) _
    refine XS.bipush X150.here hx rfl (hb hby at_487) ?_
    show Steps p.tables e below (T150.setTop (mkF m 489 #[.val (.int p1), .val (.int p2), .val (.int p3), .val (.int p4), .val (.int a_), .val (.int wd), .val (.int vv), .val (.int ff), .val (.ref b1), .val (.ref b2)] [(.int (13 : Int32)), (.ref b2)])) _
    refine XS.iload X150.here hx rfl (hb hby at_489) rfl ?_
    show Steps p.tables e below (T150.setTop (mkF m 491 #[.val (.int p1), .val (.int p2), .val (.int p3), .val (.int p4), .val (.int a_), .val (.int wd), .val (.int vv), .val (.int ff), .val (.ref b1), .val (.ref b2)] [(.int a_), (.int (13 : Int32)), (.ref b2)])) _
    refine XS.iload X150.here hx rfl (hb hby at_491) rfl ?_
    show Steps p.tables e below (T150.setTop (mkF m 493 #[.val (.int p1), .val (.int p2), .val (.int p3), .val (.int p4), .val (.int a_), .val (.int wd), .val (.int vv), .val (.int ff), .val (.ref b1), .val (.ref b2)] [(.int wd), (.int a_), (.int (13 : Int32)), (.ref b2)])) _
    refine XS.iload X150.here hx rfl (hb hby at_493) rfl ?_
    show Steps p.tables e below (T150.setTop (mkF m 495 #[.val (.int p1), .val (.int p2), .val (.int p3), .val (.int p4), .val (.int a_), .val (.int wd), .val (.int vv), .val (.int ff), .val (.ref b1), .val (.ref b2)] [(.int vv), (.int wd), (.int a_), (.int (13 : Int32)), (.ref b2)])) _
    refine XS.i2l X150.here hx rfl (hb hby at_495) rfl ?_
    show Steps p.tables e below (T150.setTop (mkF m 496 #[.val (.int p1), .val (.int p2), .val (.int p3), .val (.int p4), .val (.int a_), .val (.int wd), .val (.int vv), .val (.int ff), .val (.ref b1), .val (.ref b2)] [(.long (vv.toInt64)), (.int wd), (.int a_), (.int (13 : Int32)), (.ref b2)])) _
    refine XS.iload X150.here hx rfl (hb hby at_496) rfl ?_
    show Steps p.tables e below (T150.setTop (mkF m 498 #[.val (.int p1), .val (.int p2), .val (.int p3), .val (.int p4), .val (.int a_), .val (.int wd), .val (.int vv), .val (.int ff), .val (.ref b1), .val (.ref b2)] [(.int ff), (.long (vv.toInt64)), (.int wd), (.int a_), (.int (13 : Int32)), (.ref b2)])) _
    refine XS.aload X150.here hx rfl (hb hby at_498) rfl rfl ?_
    exact kt
  obtain ⟨_, _, ⟨T152, L152, k152, n152⟩, -, X152, ⟨Lc152, hQ152, l152, y152, z152⟩, st152⟩ := Jvm.LawKit.callS X150 hx (y := (⟨"com/example/travessia/travessia/core/BytesPutDigitsPinLaw", "ok", "([BIIIJB[J)Z"⟩ : MethodName)) hown (mvT hZ (hw _ (List.mem_of_getElem? (i := 20) rfl))) (mvT hZ (hw _ (List.mem_of_getElem? (i := 21) rfl))) (mvT hZ (hw _ (List.mem_of_getElem? (i := 22) rfl))) (mvT hZ (hw _ (List.mem_of_getElem? (i := 23) rfl))) (by decide) (backOf (W := 0) (rm_ok l Z a0 hw [] b2 (13 : Int32) a_ wd (vv.toInt64) ff b1 13 (own_pd an wn vv (fun _ => .int ff)) (fun j => .long (own_p10 j)) T123.heap n0 Zs124 V123 VP_124 (by decide) rfl (by decide) (own_H1 a_ wd vv ff (13 : Int32) an wn 13 han sum rfl) (own_H2 a_ wd vv ff (13 : Int32) an wn 13 han sum hN bv rfl)) hZ (hw _ (List.mem_of_getElem? (i := 23) rfl)) (hw _ (List.mem_of_getElem? (i := 22) rfl)) (by decide) (by decide)) (g := (mkF m 500 #[.val (.int p1), .val (.int p2), .val (.int p3), .val (.int p4), .val (.int a_), .val (.int wd), .val (.int vv), .val (.int ff), .val (.ref b1), .val (.ref b2)] [(.ref b1), (.int ff), (.long (vv.toInt64)), (.int wd), (.int a_), (.int (13 : Int32)), (.ref b2)])) rfl (by rw [hml]; rfl) (argsL := [(.ref b2), (.int (13 : Int32)), (.int a_), (.int wd), (.long (vv.toInt64)), (.int ff), (.ref b1)]) (rest := []) (lenOf pd_1 rfl) rfl (by show 2 * 0 + _ ≤ _; exact Nat.le_of_eq rfl) (hb hby at_500) (fun _ _ => ⟨rfl, hh150, (by decide : 2 + 0 ≤ _), (by decide : 28 + 0 ≤ _)⟩)
  dsimp only [Pt.U, Pt.locs, Pt.cells, Pt.slots] at X152 l152 y152 z152 st152 hQ152
  rw [l152, y152, z152] at X152
  obtain ⟨rfl, N152q, hh152⟩ := hQ152
  have N152 := Fr.app N150 N152q
  have R153 : ∀ t, Steps p.tables e below (T152.setTop (mkF m 511 #[.val (.int p1), .val (.int p2), .val (.int p3), .val (.int p4), .val (.int a_), .val (.int wd), .val (.int vv), .val (.int ff), .val (.ref b1), .val (.ref b2)] [(.int (1 : Int32))])) t → Steps p.tables e below (s₁.setTop (mkF m 0 #[.val (.int p1), .val (.int p2), .val (.int p3), .val (.int p4), .unset, .unset, .unset, .unset, .unset, .unset] [])) t := by
    intro t kt
    refine R151 _ ?_
    refine st152 _ ?_
    show Steps p.tables e below (T152.setTop (mkF m 503 #[.val (.int p1), .val (.int p2), .val (.int p3), .val (.int p4), .val (.int a_), .val (.int wd), .val (.int vv), .val (.int ff), .val (.ref b1), .val (.ref b2)] [(.int (1 : Int32))])) _
    refine XS.ifNo X152.here hx rfl (hb hby at_503) rfl ((if0 _ _).trans (feq (by decide : ¬ ((1 : Int32) = (0 : Int32)))).1) ?_
    show Steps p.tables e below (T152.setTop (mkF m 506 #[.val (.int p1), .val (.int p2), .val (.int p3), .val (.int p4), .val (.int a_), .val (.int wd), .val (.int vv), .val (.int ff), .val (.ref b1), .val (.ref b2)] [])) _
    refine XS.iconst X152.here hx rfl (hb hby at_506) ?_
    show Steps p.tables e below (T152.setTop (mkF m 507 #[.val (.int p1), .val (.int p2), .val (.int p3), .val (.int p4), .val (.int a_), .val (.int wd), .val (.int vv), .val (.int ff), .val (.ref b1), .val (.ref b2)] [(.int (1 : Int32))])) _
    refine XS.goto X152.here hx rfl (pc0 := 507) (pc' := 511) rfl (hb hby at_507) (by decide) (by decide) ?_
    exact kt
  obtain ⟨fs, hr, hrun, hended, hW, hsame⟩ := X152.leave (v := some (.int (1 : Int32))) (fun h => by rw [Bd.returns] at h; cases h)
  refine ⟨_, _, pre0 _ (R153 _ ?_), hrun, hended, _, _, rfl, ?_, ⟨_, rfl⟩, hW, hsame.mono (by decide) (by decide)⟩
  · exact retN X152 hx (t := .boolean) Bd.returns (by simp) (hb hby at_511) hr
  · show Q_rm_law Z p1 p2 p3 p4 h0 n0 _ T152.heap _
    rw [hh152]
    exact ⟨rfl, N152⟩
set_option maxRecDepth 65536 in
set_option maxHeartbeats 40000000 in
theorem comes_1 {Post : Tables → Env → Array Value → State → Outcome → State → Prop} (hpost : ∀ tb e args s v u, (limb_1_1.after args s (.returned v) u = true ∧ limb_1_2.after args s (.returned v) u = true ∧ True) → FrameEnd s (.returned v) u (Jvm.fieldLocs frame_1_writes args s ++ Jvm.arrayLocs frame_1_arrays args s ++ Jvm.staticLocs frame_1_statics s) 16 128 → Post tb e args s (.returned v) u) :
    ArmFor flags0 classFile x code maxLocals ret World_1 tables_1 room_1 Calls_1 rest_1 Pre_1 Post := by
  intro l hfl _ _ p e ha hc hk s m args below hf hA hF happ hP
  obtain ⟨hcalls, hrest, hpre⟩ := hP
  obtain ⟨-, -, -, hnamed, -, -, -, hat⟩ := (Spec.applies_iff hf).mp happ
  obtain ⟨hg, hn⟩ := and_e (Cond.before_iff.mp (show (Jvm.Cond.and given_1 narrow_1).before args s = true from hpre))
  obtain ⟨gc, gr0⟩ := and_e hg
  obtain ⟨ga0, gr1⟩ := and_e gr0
  obtain ⟨ga1, gr2⟩ := and_e gr1
  obtain ⟨ga2, gr3⟩ := and_e gr2
  obtain ⟨w0, w1, w2, w3, rfl⟩ : ∃ w0 w1 w2 w3 : Value, args = #[w0, w1, w2, w3] := by
    have hs : args.size = 4 := by simpa [Cond.value, given_1] using gc
    obtain ⟨L⟩ := args
    match L, hs with
    | [w0, w1, w2, w3], _ => exact ⟨w0, w1, w2, w3, rfl⟩
  have hw := fun d (hd : d ∈ tables_1) => atoms_spec (ws := Jvm.Cond.code x code maxLocals ret :: tables_1) hat d (List.mem_cons_of_mem _ hd)
  have hfit : Fit s := fun {y c} hc i hi => by
    obtain ⟨ha, rfl⟩ := Array.getElem?_eq_some_iff.mp hc
    have q := List.all_eq_true.mp ((Array.all_eq_true_iff_forall_mem.mp hF) _ (Array.getElem_mem ha)) i (List.mem_range.mpr hi)
    simpa [Array.getElem?_eq_getElem hi] using q
  obtain ⟨i0, ei0⟩ := is_v ga0
  obtain rfl : w0 = (.int i0) := Option.some.inj ei0
  obtain ⟨i1, ei1⟩ := is_v ga1
  obtain rfl : w1 = (.int i1) := Option.some.inj ei1
  obtain ⟨i2, ei2⟩ := is_v ga2
  obtain rfl : w2 = (.int i2) := Option.some.inj ei2
  obtain ⟨i3, ei3⟩ := is_v gr3
  obtain rfl : w3 = (.int i3) := Option.some.inj ei3
  obtain ⟨n, o, h1, h2, h3, _, L, rfl, ⟨rfl, N⟩, hq⟩ := rm_law l s _ hw tables_1 i0 i1 i2 i3 s.heap s.heap.size (Nat.le_refl _)  p e ha hc hk s m _ below hf ((Spec.applies_iff_loose hf).mp happ).1 ⟨rfl, State.Warmed39.refl s, rfl⟩ trivial
  refine ⟨n, _, h1, h2, h3, hpost _ _ _ _ _ _ ⟨Cond.after_iff.mpr rfl, Cond.after_iff.mpr (eq_i res_at (Term.int_eval (1)) rfl), trivial⟩ ⟨hq.1, hq.2.1, (hq.2.2.sift fun y hy => Or.inr (N y hy)).mono (by decide) (by decide)⟩⟩
theorem main_1_1 : Claimed_1_1 := comes_1 fun _ _ _ _ _ _ h hF => ⟨h.1, hF⟩
theorem main_1_2 : Claimed_1_2 := comes_1 fun _ _ _ _ _ _ h hF => ⟨h.2.1, hF⟩
end Jvm.Pilot.@@N@@
namespace Jvm.Pilot.@@N@@
open Jvm Jvm.ClassFile Sem Op Lib Jvm.Free Jvm.Stand Jvm.Pilot.@@N@@.Jvm.D
/-! MADE BY PROGRAM (witnessworld.py) out of the Statement's table words and the real class files: 11 classes; the members and pool entries that the words name. The judged class is class 1, her method 1. -/
namespace start1
open Jvm.ClassFile
def u (s : String) : CpInfo := .utf8 (stringToUtf16 s)
/-- a pool by its gaps: so many unusable entries, then the entry; so many at the end -/
def gap : Nat → List CpInfo → List CpInfo
  | 0, r => r
  | n + 1, r => .unusable :: gap n r
def poolList (es : List (Nat × CpInfo)) (last : Nat) : List CpInfo := es.foldr (fun e r => gap e.1 (e.2 :: r)) (gap last [])
def pool (es : List (Nat × CpInfo)) (last : Nat) : Array CpInfo := ⟨poolList es last⟩
def fileOf (pool : Array CpInfo) (this : Nat) (attrs : Array Attribute := #[]) (ms : Array MethodInfo := #[]) (fl : Nat := 33) (sup : Nat := 0) (ifs : Array Nat := #[]) (fds : Array FieldInfo := #[]) : ClassFile where
  minorVersion := 0
  majorVersion := 65
  constantPool := pool
  accessFlags := fl
  thisClass := this
  superClass := sup
  interfaces := ifs
  fields := fds
  methods := ms
  attributes := attrs
def plain (name : String) (sup : Option ClassId) : Class where
  name := name
  kind := .ordinary
  loader := none
  accessFlags := 33
  super := sup
  interfaces := #[]
  cf := none
  fields := #[]
  methods := #[]
  instanceTypes := #[]
  staticTypes := #[]
  resolved := #[]
  callSites := []
  init := .initialized
  statics := none
  mirror := none

def pool0 : Array CpInfo := pool [(5, u "<init>"), (0, u "()V"), (1, .class_ 10), (1, u "java/lang/Object")] 113

def k0m0 : Method := { name := "<init>", desc := "()V", sig := { parameters := [], returnType := none }, accessFlags := 1, code := none }
/-- java/lang/Object -/
def k0 : Class := { plain "java/lang/Object" none with
  accessFlags := 33
  interfaces := #[]
  cf := some (fileOf pool0 8 #[] #[{ accessFlags := 1, nameIndex := 5, descriptorIndex := 6, attributes := #[] }] 33 0 #[] #[])
  fields := #[]
  methods := #[k0m0]
  instanceTypes := #[]
  staticTypes := #[]
  resolved := Array.replicate 124 none
  statics := none }

def pool1 : Array CpInfo := pool [(2, .class_ 4), (1, u "java/lang/Object"), (0, u "<init>"), (0, u "()V"), (0, .integer 2147483647), (0, .long 10), (1, .long 100), (1, .long 1000), (1, .long 10000), (1, .long 100000), (1, .long 1000000), (1, .long 10000000), (1, .long 100000000), (1, .long 1000000000), (1, .long 10000000000), (1, .long 100000000000), (1, .long 1000000000000), (1, .long 10000000000000), (1, .methodref 35 36), (0, .class_ 37), (0, .nameAndType 38 39), (0, u "com/example/travessia/travessia/core/Bytes"), (0, u "putDigits"), (0, u "([BIII)V"), (0, .methodref 41 42), (0, .class_ 43), (0, .nameAndType 44 45), (0, u "com/example/travessia/travessia/core/BytesPutDigitsPinLaw"), (0, u "ok"), (0, u "([BIIIJB[J)Z"), (2, u "law"), (0, u "(IIII)Z")] 7

def k1m0 : Method := { name := "<init>", desc := "()V", sig := { parameters := [], returnType := none }, accessFlags := 1, code := none }
def k1c1 : Code := { maxStack := 8, maxLocals := 10, code := code, exceptionTable := #[], attributes := #[] }
def k1m1 : Method := { name := "law", desc := "(IIII)Z", sig := { parameters := [.int, .int, .int, .int], returnType := some .boolean }, accessFlags := 9, code := some k1c1 }
def k1c2 : Code := { maxStack := 4, maxLocals := 11, code := method_3_code, exceptionTable := #[], attributes := #[] }
def k1m2 : Method := { name := "ok", desc := "([BIIIJB[J)Z", sig := { parameters := [(.array .byte), .int, .int, .int, .long, .byte, (.array .long)], returnType := some .boolean }, accessFlags := 10, code := some k1c2 }
/-- com/example/travessia/travessia/core/BytesPutDigitsPinLaw -/
def k1 : Class := { plain "com/example/travessia/travessia/core/BytesPutDigitsPinLaw" (some 0) with
  accessFlags := 49
  interfaces := #[]
  cf := some (fileOf pool1 41 #[] #[{ accessFlags := 1, nameIndex := 5, descriptorIndex := 6, attributes := #[] }, { accessFlags := 9, nameIndex := 48, descriptorIndex := 49, attributes := #[] }, { accessFlags := 10, nameIndex := 44, descriptorIndex := 45, attributes := #[] }] 49 2 #[] #[])
  fields := #[]
  methods := #[k1m0, k1m1, k1m2]
  instanceTypes := #[]
  staticTypes := #[]
  resolved := Array.replicate 57 none
  statics := none }

def pool2 : Array CpInfo := pool [(2, .class_ 4), (1, u "java/lang/Object"), (0, u "<init>"), (0, u "()V"), (1, .class_ 10), (1, u "com/example/travessia/travessia/core/Bytes"), (0, u "bytes"), (0, u "[B"), (2, u "length"), (0, u "I"), (12, u "putDigits"), (0, u "([BIII)V")] 35

def k2m0 : Method := { name := "<init>", desc := "()V", sig := { parameters := [], returnType := none }, accessFlags := 0, code := none }
def k2c1 : Code := { maxStack := 5, maxLocals := 6, code := prog_1_method_8_code, exceptionTable := #[], attributes := #[] }
def k2m1 : Method := { name := "putDigits", desc := "([BIII)V", sig := { parameters := [(.array .byte), .int, .int, .int], returnType := none }, accessFlags := 8, code := some k2c1 }
/-- com/example/travessia/travessia/core/Bytes -/
def k2 : Class := { plain "com/example/travessia/travessia/core/Bytes" (some 0) with
  accessFlags := 48
  interfaces := #[]
  cf := some (fileOf pool2 8 #[] #[{ accessFlags := 0, nameIndex := 5, descriptorIndex := 6, attributes := #[] }, { accessFlags := 8, nameIndex := 29, descriptorIndex := 30, attributes := #[] }] 48 2 #[] #[{ accessFlags := 2, nameIndex := 11, descriptorIndex := 12, attributes := #[] }, { accessFlags := 2, nameIndex := 15, descriptorIndex := 16, attributes := #[] }])
  fields := #[{ name := "bytes", type := (.array .byte), accessFlags := 2, slot := 0, constantValue := 0 }, { name := "length", type := .int, accessFlags := 2, slot := 1, constantValue := 0 }]
  methods := #[k2m0, k2m1]
  instanceTypes := #[(.array .byte), .int]
  staticTypes := #[]
  resolved := Array.replicate 66 none
  statics := none }

def pool3 : Array CpInfo := pool [(1, u "java/lang/Cloneable"), (0, .class_ 1), (0, u "java/lang/Object"), (0, .class_ 3)] 3

/-- java/lang/Cloneable -/
def k3 : Class := { plain "java/lang/Cloneable" (some 0) with
  accessFlags := 1537
  interfaces := #[]
  cf := some (fileOf pool3 2 #[] #[] 1537 4 #[] #[])
  fields := #[]
  methods := #[]
  instanceTypes := #[]
  staticTypes := #[]
  resolved := Array.replicate 8 none
  statics := none }

def pool4 : Array CpInfo := pool [(1, u "java/io/Serializable"), (0, .class_ 1), (0, u "java/lang/Object"), (0, .class_ 3)] 3

/-- java/io/Serializable -/
def k4 : Class := { plain "java/io/Serializable" (some 0) with
  accessFlags := 1537
  interfaces := #[]
  cf := some (fileOf pool4 2 #[] #[] 1537 4 #[] #[])
  fields := #[]
  methods := #[]
  instanceTypes := #[]
  staticTypes := #[]
  resolved := Array.replicate 8 none
  statics := none }

/-- the primitive byte -/
def k5 : Class := { plain "byte" none with kind := .primitive 'B', accessFlags := 0x411 }
/-- [B -/
def k6 : Class := { plain "[B" (some 0) with kind := .array 5 .byte, interfaces := #[3, 4], accessFlags := 1041 }

/-- the primitive int -/
def k7 : Class := { plain "int" none with kind := .primitive 'I', accessFlags := 0x411 }
/-- [I -/
def k8 : Class := { plain "[I" (some 0) with kind := .array 7 .int, interfaces := #[3, 4], accessFlags := 1041 }

/-- the primitive long -/
def k9 : Class := { plain "long" none with kind := .primitive 'J', accessFlags := 0x411 }
/-- [J -/
def k10 : Class := { plain "[J" (some 0) with kind := .array 9 .long, interfaces := #[3, 4], accessFlags := 1041 }

def heap : Heap := #[]
def classes : Array Class := #[k0, k1, k2, k3, k4, k5, k6, k7, k8, k9, k10]
def interned : List (Array UInt16 × Addr) := []
def slotsUsed : Nat := 0
def theMethod : MethodId := ⟨1, 1⟩
def args0 : Array Value := #[.int 5, .int 7, .int 300, .int 9]
def aboutOver (below : List Frame) : State where
  vm := { classes := classes, interned := interned.toArray }
  heap := heap
  slotsUsed := slotsUsed
  threads := #[{ frames := .invoking theMethod args0 :: below }]
def below0 : List Frame := [.native { method := ⟨0, 0⟩, args := #[] }]
def about1 : State := aboutOver below0
def p0 : Program := .bare "" "" ""
def e0 : Env := launch0.env 0 0 0
theorem w_frames : about1.frames = Frame.invoking theMethod args0 :: below0 := rfl
set_option maxRecDepth 65536 in
theorem w_args : argsFit about1.vm theMethod args0 = true := by decide +kernel
set_option maxRecDepth 65536 in
theorem w_heap : heapFits about1 = true := by decide +kernel
set_option maxRecDepth 65536 in
theorem w_runnable : about1.curStatus? = some .runnable := by decide +kernel
set_option maxRecDepth 65536 in
theorem w_alone : about1.alone = true := by decide +kernel
set_option maxRecDepth 65536 in
theorem w_named : about1.methodNamed? x = some theMethod := by decide +kernel
set_option maxRecDepth 65536 in
theorem w_hears : about1.hears theMethod below0 = true := by decide +kernel
set_option maxRecDepth 65536 in
theorem w_ripe : about1.ripe theMethod args0 below0 = true := by decide +kernel
theorem w_running : about1.status = .running := rfl
set_option maxRecDepth 65536 in
theorem w_room : about1.hasRoom e0.platform room_1 = true :=
  launch0.hasRoom_least _ room_1 (by decide +kernel) (by decide +kernel) (by decide +kernel) (by decide +kernel) (by decide +kernel) (by decide +kernel)
theorem allAtoms_all (ts : List Jvm.Cond) (a : Array Jvm.Value) (st : Jvm.State) : (allAtoms ts).before a st = ts.all (fun c => c.before a st) := by
  induction ts with
  | nil => rfl
  | cons c t ih =>
    show (Jvm.Cond.and c (allAtoms t)).before a st = _
    rw [Jvm.Cond.before_and, ih, List.all_cons]
def words1 : List Jvm.Cond := Jvm.Cond.code x code maxLocals ret :: tables_1
/-- a 'code' word, met by the world's own term for the bytes: nothing is compared byte by byte -/
theorem code_word {y : MethodName} {bytes : ByteArray} {mx : Nat} {rt : Option FieldType} {a : Array Value} {s : State} {m : MethodId} {meth : Method} {c : Code} (h1 : s.methodNamed? y = some m) (h2 : s.vm.method? m = some meth) (h3 : meth.code = some c) (h4 : c.code = bytes)
    (h5 : (c.maxLocals == mx && c.exceptionTable.isEmpty && decide (c.maxStack ≤ mostOperands) && decide (meth.sig.returnType = rt) && !meth.locks && decide (parseMethodDescriptor y.desc = some meth.sig)) = true) : (Jvm.Cond.code y bytes mx rt).before a s = true := by
  simp only [Bool.and_eq_true, beq_iff_eq, Bool.not_eq_true', decide_eq_true_eq] at h5
  obtain ⟨⟨⟨⟨⟨g1, g2⟩, g3⟩, g4⟩, g5⟩, g6⟩ := h5
  simp [Cond.before, Cond.holds, Cond.value, h1, h2, h3, h4, g1, g2, g3, g4, g5, g6]
def isCode : Jvm.Cond → Bool
  | .code _ _ _ _ => true
  | _ => false
theorem all_split {L : List Jvm.Cond} {P : Jvm.Cond → Bool} (h1 : L.all (fun c => isCode c || P c) = true) (h2 : ∀ c ∈ L.filter isCode, P c = true) : L.all P = true := by
  refine List.all_eq_true.mpr fun c hc => ?_
  have h := List.all_eq_true.mp h1 c hc
  rcases Bool.eq_false_or_eq_true (isCode c) with hi | hi
  · exact h2 c (List.mem_filter.mpr ⟨hc, hi⟩)
  · simpa [hi] using h
set_option maxRecDepth 65536 in
theorem w_c0 : (Jvm.Cond.code x code maxLocals ret).before args0 about1 = true := code_word (m := ⟨1, 1⟩) (meth := k1m1) (c := k1c1) (by decide +kernel) rfl rfl rfl (by decide +kernel)
set_option maxRecDepth 65536 in
theorem w_c1 : (Jvm.Cond.code ({ cls := "com/example/travessia/travessia/core/Bytes", name := "putDigits", desc := "([BIII)V" } : Jvm.MethodName) prog_1_method_8_code (6 : Nat) (Option.none : Option Jvm.ClassFile.FieldType)).before args0 about1 = true := code_word (m := ⟨2, 1⟩) (meth := k2m1) (c := k2c1) (by decide +kernel) rfl rfl rfl (by decide +kernel)
set_option maxRecDepth 65536 in
theorem w_c2 : (Jvm.Cond.code ({ cls := "com/example/travessia/travessia/core/BytesPutDigitsPinLaw", name := "ok", desc := "([BIIIJB[J)Z" } : Jvm.MethodName) method_3_code (11 : Nat) (Option.some Jvm.ClassFile.FieldType.boolean)).before args0 about1 = true := code_word (m := ⟨1, 2⟩) (meth := k1m2) (c := k1c2) (by decide +kernel) rfl rfl rfl (by decide +kernel)
def codes1 : List Jvm.Cond := [Jvm.Cond.code x code maxLocals ret, Jvm.Cond.code ({ cls := "com/example/travessia/travessia/core/Bytes", name := "putDigits", desc := "([BIII)V" } : Jvm.MethodName) prog_1_method_8_code (6 : Nat) (Option.none : Option Jvm.ClassFile.FieldType), Jvm.Cond.code ({ cls := "com/example/travessia/travessia/core/BytesPutDigitsPinLaw", name := "ok", desc := "([BIIIJB[J)Z" } : Jvm.MethodName) method_3_code (11 : Nat) (Option.some Jvm.ClassFile.FieldType.boolean)]
set_option maxRecDepth 65536 in
theorem codes_eq : words1.filter isCode = codes1 := rfl
theorem w_codes : ∀ c ∈ words1.filter isCode, c.before args0 about1 = true := by
  rw [codes_eq]
  intro c hc
  simp only [codes1, List.mem_cons, List.not_mem_nil, or_false] at hc
  rcases hc with rfl | rfl | rfl
  · exact w_c0
  · exact w_c1
  · exact w_c2
set_option maxRecDepth 65536 in
theorem w_t1 : (words1.take 24).all (fun c => isCode c || c.before args0 about1) = true := by decide +kernel
set_option maxRecDepth 65536 in
theorem w_t2 : (words1.drop 24).all (fun c => isCode c || c.before args0 about1) = true := by decide +kernel
theorem w_tables : (allAtoms (Jvm.Cond.code x code maxLocals ret :: tables_1)).before args0 about1 = true := by
  rw [allAtoms_all]
  show words1.all (fun c => c.before args0 about1) = true
  refine all_split ?_ w_codes
  rw [← List.take_append_drop 24 words1, List.all_append, w_t1, w_t2]
  rfl
set_option maxRecDepth 65536 in
theorem w_case : (Jvm.Cond.and given_1 narrow_1).before args0 about1 = true := by decide +kernel
theorem w_applies : (headSpec (Jvm.Cond.code x code maxLocals ret :: tables_1) room_1).applies x e0.platform about1 = true :=
  (Spec.applies_iff w_frames).mpr ⟨w_running, w_runnable, w_alone, w_named, w_hears, w_ripe, w_room, w_tables⟩
theorem atStart : AtStart classFile x code maxLocals ret World_1 tables_1 room_1 Calls_1 rest_1 Pre_1 launch0 p0 e0 about1 theMethod args0 below0 :=
  ⟨lists_1, trivial, launch0.admits_env _ _ _, launch0.least_env, fairChoices_fair.cas, fairChoices_fair.clock, w_frames, w_args, w_heap, w_applies, trivial, trivial, w_case⟩
end start1
theorem witness_1 : WitnessClaimed_1 := ⟨start1.p0, start1.e0, start1.about1, start1.theMethod, start1.args0, start1.below0, start1.atStart⟩
end Jvm.Pilot.@@N@@
