import JvmDerived
import JvmDerived.Pilot.@@N@@Statement
import JvmDerived.Pilot.@@N@@Code
set_option linter.unusedVariables false
set_option linter.unusedSimpArgs false
namespace Jvm.RoadKit
open Sem ClassFile Op Lib Jvm.Stand Jvm.Free Jvm.LawKit
section New
variable {p : Program} {l : Launch} {e : Env} {R : Room} {s : State} {m : MethodId} {args : Array Value} {below : List Frame} {meth : Method} {c : Code} {T : State} {locs : List Loc} {cells slots : Nat}
theorem retI (X : Stand p l e R s m args below meth c T locs cells slots) (hx : p.tables.exec = Jvm.exec) {pc : Nat} {Ls : Array Slot} {z : Int32} {rest : List Value} (hret : meth.sig.returnType = some .int) (hd : decode c.code pc = .ok (.ireturn, 1)) {fs : List Frame}
    (hl : ∀ (f : JFrame) (acts : List Action), f.method = m → f.locked = none → f.entered = [] → (doReturn e (T.setTop f) acts (some (.int z))).1 = T.setFrames fs) : Steps p.tables e below (T.setTop (mkF m pc Ls (.int z :: rest))) (T.setFrames fs) := by
  have hm' : T.vm.method? m = some meth := X.method'
  have hn : narrow .int (.int z) = .int z := rfl
  show Steps p.tables e below (T.setTop { method := m, pc := pc, locals := Ls, stack := _ :: rest, locked := none }) _
  jvm_step X.here [X.here.top, hx, hd, hm', hret, hn]
  first | (intro acts; rw [hl _ acts rfl rfl rfl]) | rw [hl _ _ rfl rfl rfl]
  exact Steps.refl _
end New
end Jvm.RoadKit
namespace Jvm.Pilot.@@N@@
open Jvm Jvm.ClassFile Sem Op Lib Jvm.Free Jvm.Stand Jvm.LawKit Jvm.RoadKit Bundle Jvm.Pilot.@@N@@.Jvm.D
abbrev cF : String := "com/example/workaday_tariff/workadaytariff/engine/PeriodCensus$Fingerprints"
abbrev cR : String := "com/example/workaday_tariff/workadaytariff/engine/PeriodCensus$Repeats"
abbrev cP : String := "com/example/workaday_tariff/workadaytariff/engine/PeriodCensus"
abbrev cD : String := "Lcom/example/workaday_tariff/workadaytariff/engine/PeriodCensus$Fingerprints;"
abbrev cL : String := "com/example/workaday_tariff/workadaytariff/engine/PeriodCensusAddPinLaw"
abbrev cQ : String := "java/util/DualPivotQuicksort"
theorem oW {Z : State} {a0 : Array Value} {d : Jvm.Cond} (hw : ∀ d ∈ tables_1, d.before a0 Z = true) (i : Nat) (h : tables_1[i]? = some d) : d.before a0 Z = true := hw d (List.mem_of_getElem? h)
abbrev oD (b : ByteArray) (pc : Nat) (i : Jvm.ClassFile.Instr) (n : Nat) : Prop := Jvm.ClassFile.decode b pc = .ok (i, n)
abbrev k0 : ByteArray := jdk_2529_method_12_code
abbrev k1 : ByteArray := jdk_2529_method_13_code
abbrev k2 : ByteArray := jdk_2529_method_15_code
abbrev k3 : ByteArray := jdk_29_method_69_code
abbrev k4 : ByteArray := jdk_65_method_30_code
abbrev k5 : ByteArray := jdk_65_method_55_code
abbrev k6 : ByteArray := jdk_65_method_56_code
abbrev k7 : ByteArray := jdk_65_method_5_code
abbrev k8 : ByteArray := method_3_code
abbrev k9 : ByteArray := method_4_code
abbrev k10 : ByteArray := method_5_code
abbrev k11 : ByteArray := prog_41_method_1_code
abbrev k12 : ByteArray := prog_41_method_2_code
abbrev k13 : ByteArray := prog_41_method_3_code
abbrev k14 : ByteArray := prog_41_method_4_code
abbrev k15 : ByteArray := prog_41_method_5_code
abbrev k16 : ByteArray := prog_42_method_1_code
abbrev k17 : ByteArray := prog_42_method_2_code
abbrev k18 : ByteArray := prog_42_method_3_code
abbrev k19 : ByteArray := prog_42_method_4_code
abbrev k20 : ByteArray := prog_42_method_5_code
abbrev k21 : ByteArray := prog_42_method_6_code
abbrev k22 : ByteArray := prog_43_method_1_code
abbrev k23 : ByteArray := prog_43_method_2_code
abbrev k24 : ByteArray := prog_43_method_3_code
abbrev k25 : ByteArray := prog_43_method_4_code
abbrev k26 : ByteArray := prog_43_method_5_code
abbrev k27 : ByteArray := prog_43_method_6_code
abbrev k28 : ByteArray := prog_43_method_7_code
abbrev rM0 : Room := ({ frames := 0, cells := 0, slots := 0, locals := 0 } : Room)
abbrev rM1 : Room := ({ frames := 1, cells := 0, slots := 0, locals := 16 } : Room)
abbrev rM2 : Room := ({ frames := 1, cells := 0, slots := 0, locals := 18 } : Room)
abbrev rM3 : Room := ({ frames := 1, cells := 0, slots := 0, locals := 21 } : Room)
abbrev rM4 : Room := ({ frames := 1, cells := 0, slots := 0, locals := 24 } : Room)
abbrev rM5 : Room := ({ frames := 1, cells := 1, slots := 1024, locals := 12 } : Room)
abbrev rM6 : Room := ({ frames := 1, cells := 3, slots := 12, locals := 12 } : Room)
abbrev rM7 : Room := ({ frames := 2, cells := 0, slots := 0, locals := 37 } : Room)
abbrev rM8 : Room := ({ frames := 2, cells := 0, slots := 0, locals := 41 } : Room)
abbrev rM9 : Room := ({ frames := 2, cells := 0, slots := 0, locals := 54 } : Room)
abbrev rM10 : Room := ({ frames := 2, cells := 6, slots := 2084, locals := 26 } : Room)
abbrev rM11 : Room := ({ frames := 3, cells := 0, slots := 0, locals := 51 } : Room)
abbrev rM12 : Room := ({ frames := 3, cells := 0, slots := 0, locals := 72 } : Room)
abbrev rM13 : Room := ({ frames := 4, cells := 0, slots := 0, locals := 86 } : Room)
abbrev rM14 : Room := ({ frames := 5, cells := 10, slots := 2200, locals := 110 } : Room)
abbrev Sq (p : Program) (e : Env) (below : List Frame) (T U : State) : Prop := ∀ tg, Steps p.tables e below T tg → Steps p.tables e below U tg
abbrev vI (x : Int32) : Slot := .val (.int x)
abbrev vJ (x : Int64) : Slot := .val (.long x)
abbrev vR (x : Addr) : Slot := .val (.ref x)
def AV (Z : State) (h : Heap) (a : Addr) (ty : FieldType) (n : Nat) (f : Nat → Value) : Prop := ∃ c : Cell, Arr Z h a c ty ∧ c.slots.size = n ∧ ∀ j, j < n → c.slots[j]? = some (f j) ∧ fits ty (f j) = true
def own_upd (f : Nat → Value) (k : Nat) (v : Value) : Nat → Value := fun j => if j = k then v else f j
section AVs
variable {Z : State} {h h' : Heap} {a b : Addr} {ty : FieldType} {n : Nat} {f : Nat → Value} {v : Value} {sl : Nat}
theorem AV.lt (A : AV Z h a ty n f) : a < h.size := by obtain ⟨c, A, -⟩ := A; exact A.lt
theorem AV.ext (A : AV Z h a ty n f) (E : Ext h h') : AV Z h' a ty n f := by obtain ⟨c, A, r⟩ := A; exact ⟨c, A.ext E, r⟩
theorem AV.other (A : AV Z h b ty n f) (W : Wr h h' a sl v) (q : b ≠ a) : AV Z h' b ty n f := by obtain ⟨c, A, r⟩ := A; exact ⟨c, A.other W q, r⟩
theorem AV.keep {ws : List Addr} (A : AV Z h a ty n f) (K : Keep h h' ws) (q : a ∉ ws) : AV Z h' a ty n f := by obtain ⟨c, A, r⟩ := A; exact ⟨c, ⟨K.2.1 a c A.1 q, A.2⟩, r⟩
theorem AV.new {k : ClassId} {z : Int32} (A : Arr Z h a (newA k ty z) ty) (hz : z.toNatClampNeg = n) (hf : fits ty (defaultValue ty) = true) : AV Z h a ty n (fun _ => defaultValue ty) := ⟨_, A, by rw [sz_new]; exact hz, fun j hj => ⟨by simp [newA, hz, hj], hf⟩⟩
theorem AV.set (A : AV Z h a ty n f) (W : Wr h h' a sl v) (hv : fits ty v = true) : AV Z h' a ty n (own_upd f sl v) := by
 obtain ⟨c, A, S, H⟩ := A
 refine ⟨_, A.same W, by rw [sz_set]; exact S, fun j hj => ?_⟩
 by_cases e : j = sl
 ·subst e
  exact ⟨by simp [Cell.setSlot, own_upd, S, hj], by simp [own_upd, hv]⟩
 ·have e2 : (c.setSlot sl v).slots[j]? = c.slots[j]? := Array.getElem?_setIfInBounds_ne (Ne.symm e)
  exact ⟨by rw [e2, own_upd, if_neg e]; exact (H j hj).1, by rw [own_upd, if_neg e]; exact (H j hj).2⟩
theorem AV.at (A : AV Z h a ty n f) {j : Int32} {k : Nat} (h0 : ¬ j < 0) (hj : j.toNatClampNeg = k) (hk : k < n) : ∃ c : Cell, Arr Z h a c ty ∧ ¬ (j < 0 ∨ c.slots.size ≤ j.toNatClampNeg) ∧ c.slots[j.toNatClampNeg]? = some (f k) := by
 obtain ⟨c, A, S, H⟩ := A
 exact ⟨c, A, fun q => q.elim h0 (fun r => by omega), by rw [hj]; exact (H k hk).1⟩
theorem AV.len (A : AV Z h a ty n f) : ∃ c : Cell, Arr Z h a c ty ∧ c.slots.size.toInt32 = n.toInt32 := by
 obtain ⟨c, A, S, H⟩ := A
 exact ⟨c, A, by rw [S]⟩
theorem AV.congr (A : AV Z h a ty n f) {g : Nat → Value} (e : ∀ j, j < n → f j = g j) : AV Z h a ty n g := by
 obtain ⟨c, A, S, H⟩ := A
 exact ⟨c, A, S, fun j hj => by rw [← e j hj]; exact H j hj⟩
theorem AV.fit (A : AV Z h a ty n f) {j : Nat} (hj : j < n) : fits ty (f j) = true := by
 obtain ⟨c, A, S, H⟩ := A
 exact (H j hj).2
end AVs
theorem own_notin1 {a b : Addr} (h : a ≠ b) : a ∉ [b] := fun q => h (List.mem_singleton.mp q)
theorem own_notin2 {a b c : Addr} (h : a ≠ b) (h2 : a ≠ c) : a ∉ [b, c] := fun q => by
 rcases List.mem_cons.mp q with r | r
 ·exact h r
 ·exact own_notin1 h2 r
theorem own_notin0 {a : Addr} : a ∉ ([] : List Addr) := nofun
theorem own_trans0 {ws : List Addr} {n : Nat} : ∀ x ∈ ([] : List Addr), x ∈ ws ∨ n ≤ x := nofun
theorem own_trans1 {ws : List Addr} {n : Nat} {a : Addr} (h : a ∈ ws ∨ n ≤ a) : ∀ x ∈ [a], x ∈ ws ∨ n ≤ x := fun x q => by cases List.mem_singleton.mp q; exact h
theorem own_trans2 {ws : List Addr} {n : Nat} {a b : Addr} (h : a ∈ ws ∨ n ≤ a) (h2 : b ∈ ws ∨ n ≤ b) : ∀ x ∈ [a, b], x ∈ ws ∨ n ≤ x := fun x q => by
 rcases List.mem_cons.mp q with r | r
 ·cases r; exact h
 ·cases List.mem_singleton.mp r; exact h2
def own_set {α : Type} (f : Nat → α) (k : Nat) (v : α) : Nat → α := fun j => if j = k then v else f j
section AVt
variable {Z : State} {h h' : Heap} {a : Addr} {n sl : Nat}
theorem AV.setI {g : Nat → Int32} {v : Int32} (A : AV Z h a .int n (fun j => .int (g j))) (W : Wr h h' a sl (.int v)) : AV Z h' a .int n (fun j => .int (own_set g sl v j)) := (A.set W rfl).congr (fun j _ => by simp only [own_upd, own_set]; split <;> rfl)
theorem AV.setJ {g : Nat → Int64} {v : Int64} (A : AV Z h a .long n (fun j => .long (g j))) (W : Wr h h' a sl (.long v)) : AV Z h' a .long n (fun j => .long (own_set g sl v j)) := (A.set W rfl).congr (fun j _ => by simp only [own_upd, own_set]; split <;> rfl)
end AVt
theorem own_notin3 {a b c d : Addr} (h : a ≠ b) (h2 : a ≠ c) (h3 : a ≠ d) : a ∉ [b, c, d] := fun q => by
 rcases List.mem_cons.mp q with r | r
 ·exact h r
 ·exact own_notin2 h2 h3 r
theorem own_trans3 {ws : List Addr} {n : Nat} {a b c : Addr} (h : a ∈ ws ∨ n ≤ a) (h2 : b ∈ ws ∨ n ≤ b) (h3 : c ∈ ws ∨ n ≤ c) : ∀ x ∈ [a, b, c], x ∈ ws ∨ n ≤ x := fun x q => by
 rcases List.mem_cons.mp q with r | r
 ·cases r; exact h
 ·exact own_trans2 h2 h3 x r
theorem own_selp {s : State} {args : Array Value} {y : MethodName} {n : Nat} (hins : (Jvm.Cond.instantiable y.cls n).before args s = true) (hpriv : (Jvm.Cond.privateMethod y).before args s = true) (hinst : (Jvm.Cond.instanceMethod y).before args s = true) (hy : y.cls ≠ "java/lang/invoke/MethodHandle" ∧ y.cls ≠ "java/lang/invoke/VarHandle") : (Jvm.Cond.selects y.cls y y).before args s = true := by
 obtain ⟨c, k, hc, hk, -, hniab, -, -⟩ := Cond.instantiable_spec hins
 exact selects_self_of_private hc hk (Bool.or_eq_false_iff.mp hniab).1 (Cond.privateMethod_at hpriv) hinst hy
/-- an array whose first places hold the list l (through g) -/
def VG {α : Type} (Z : State) (h : Heap) (a : Addr) (ty : FieldType) (N : Nat) (g : α → Value) (d : α) (l : List α) : Prop := l.length ≤ N ∧ ∃ f, AV Z h a ty N f ∧ ∀ j, j < l.length → f j = g (l.getD j d)
section VGs
variable {α : Type} {Z : State} {h h' : Heap} {a b : Addr} {ty : FieldType} {N : Nat} {g : α → Value} {d : α} {l : List α} {v : Value} {sl : Nat}
theorem VG.lt (A : VG Z h a ty N g d l) : a < h.size := by obtain ⟨-, f, A, -⟩ := A; exact A.lt
theorem VG.ext (A : VG Z h a ty N g d l) (E : Ext h h') : VG Z h' a ty N g d l := by obtain ⟨q, f, A, r⟩ := A; exact ⟨q, f, A.ext E, r⟩
theorem VG.other (A : VG Z h b ty N g d l) (W : Wr h h' a sl v) (q : b ≠ a) : VG Z h' b ty N g d l := by obtain ⟨k, f, A, r⟩ := A; exact ⟨k, f, A.other W q, r⟩
theorem VG.keep {ws : List Addr} (A : VG Z h a ty N g d l) (K : Keep h h' ws) (q : a ∉ ws) : VG Z h' a ty N g d l := by obtain ⟨k, f, A, r⟩ := A; exact ⟨k, f, A.keep K q, r⟩
theorem VG.new {f : Nat → Value} (A : AV Z h a ty N f) : VG Z h a ty N g d [] := ⟨Nat.zero_le _, f, A, fun j hj => absurd hj (Nat.not_lt_zero _)⟩
theorem VG.len (A : VG Z h a ty N g d l) : ∃ c : Cell, Arr Z h a c ty ∧ c.slots.size.toInt32 = N.toInt32 := by obtain ⟨-, f, A, -⟩ := A; exact A.len
theorem VG.at (A : VG Z h a ty N g d l) {j : Int32} {k : Nat} (h0 : ¬ j < 0) (hj : j.toNatClampNeg = k) (hk : k < l.length) : ∃ c : Cell, Arr Z h a c ty ∧ ¬ (j < 0 ∨ c.slots.size ≤ j.toNatClampNeg) ∧ c.slots[j.toNatClampNeg]? = some (g (l.getD k d)) := by
 obtain ⟨q, f, A, r⟩ := A
 obtain ⟨c, B, i, e⟩ := A.at h0 hj (Nat.lt_of_lt_of_le hk q)
 exact ⟨c, B, i, by rw [e, r k hk]⟩
theorem VG.room (A : VG Z h a ty N g d l) {j : Int32} {k : Nat} (h0 : ¬ j < 0) (hj : j.toNatClampNeg = k) (hk : k < N) : ∃ c : Cell, Arr Z h a c ty ∧ ¬ (j < 0 ∨ c.slots.size ≤ j.toNatClampNeg) := by
 obtain ⟨q, f, A, r⟩ := A
 obtain ⟨c, B, i, e⟩ := A.at h0 hj hk
 exact ⟨c, B, i⟩
theorem VG.push {r : α} (A : VG Z h a ty N g d l) (W : Wr h h' a l.length (g r)) (hl : l.length < N) (hv : fits ty (g r) = true) : VG Z h' a ty N g d (l ++ [r]) := by
 obtain ⟨q, f, A, e⟩ := A
 refine ⟨by simp; omega, _, A.set W hv, fun j hj => ?_⟩
 simp only [List.length_append, List.length_singleton] at hj
 rw [own_upd]
 by_cases c : j = l.length
 ·subst c; simp [List.getD]
 ·have c2 : j < l.length := by omega
  rw [if_neg c, e j c2]
  have : (l ++ [r]).getD j d = l.getD j d := by simp only [List.getD, List.getElem?_append_left c2]
  rw [this]
theorem VG.set {r : α} {k : Nat} (A : VG Z h a ty N g d l) (W : Wr h h' a k (g r)) (hk : k < l.length) (hv : fits ty (g r) = true) : VG Z h' a ty N g d (l.set k r) := by
 obtain ⟨q, f, A, e⟩ := A
 refine ⟨by simpa using q, _, A.set W hv, fun j hj => ?_⟩
 rw [List.length_set] at hj
 rw [own_upd]
 by_cases c : j = k
 ·subst c; simp [List.getD, hj]
 ·rw [if_neg c, e j hj]
  simp only [List.getD]
  rw [List.getElem?_set_ne (Ne.symm c)]
end VGs
def own_b2 (b : Bool) : Int32 := if b then 1 else 0
theorem own_b2n (b : Bool) : nar .boolean (own_b2 b) = own_b2 b ∧ fits .boolean (.int (own_b2 b)) = true := by cases b <;> exact ⟨rfl, rfl⟩
theorem own_b2z (b : Bool) : own_b2 b = 0 ↔ b = false := by cases b <;> decide
def own_mono (φ : Nat → Int64) : Prop := ∀ a b, a < 4 → b < 4 → (φ a < φ b ↔ a < b)
theorem own_mono.eq {φ : Nat → Int64} (H : own_mono φ) {a b : Nat} (ha : a < 4) (hb : b < 4) : φ a = φ b ↔ a = b := by
 constructor
 ·intro e
  have p := H a b ha hb
  have q := H b a hb ha
  rw [e] at p q
  have n : ¬ (φ b < φ b) := by rw [Int64.lt_iff_toInt_lt]; omega
  have p' : ¬ a < b := fun c => n (p.mpr c)
  have q' : ¬ b < a := fun c => n (q.mpr c)
  omega
 ·intro e; rw [e]
/-- lcmp's answers by ranks -/
theorem own_cl {φ : Nat → Int64} (H : own_mono φ) {a b : Nat} (ha : a < 4) (hb : b < 4) : lcmpW (φ a) (φ b) < (0 : Int32) ↔ a < b := (lw_lt _ _).trans (H a b ha hb)
theorem own_ce {φ : Nat → Int64} (H : own_mono φ) {a b : Nat} (ha : a < 4) (hb : b < 4) : lcmpW (φ a) (φ b) = (0 : Int32) ↔ a = b := (lw_eq _ _).trans (H.eq ha hb)
theorem own_cg {φ : Nat → Int64} (H : own_mono φ) {a b : Nat} (ha : a < 4) (hb : b < 4) : (0 : Int32) < lcmpW (φ a) (φ b) ↔ b < a := by
 have l := own_cl H ha hb
 have e := own_ce H ha hb
 rw [Int32.lt_iff_toInt_lt] at l ⊢
 rw [← Int32.toInt_inj] at e
 have z : (0 : Int32).toInt = 0 := rfl
 omega
def own_ok (l : List Nat) : Prop := l.length ≤ 4 ∧ ∀ x ∈ l, x < 4
theorem own_ok.at {l : List Nat} (H : own_ok l) {k : Nat} (hk : k < l.length) : l.getD k 0 < 4 := by
 rw [List.getD, List.getElem?_eq_getElem hk]
 exact H.2 _ (List.getElem_mem hk)
def own_i (n : Nat) : Int32 := Int32.ofNat n
theorem own_i0 : own_i 0 = 0 := rfl
theorem own_it {n : Nat} (h : n < 2 ^ 31) : (own_i n).toInt = n := Int32.toInt_ofNat_of_lt h
theorem own_ic {n : Nat} (h : n < 2 ^ 31) : ¬ own_i n < 0 ∧ (own_i n).toNatClampNeg = n := by
 have e := own_it h
 have z : (0 : Int32).toInt = 0 := rfl
 exact ⟨by rw [Int32.lt_iff_toInt_lt]; omega, by simp only [Int32.toNatClampNeg]; omega⟩
theorem own_ilt {a b : Nat} (ha : a < 2 ^ 31) (hb : b < 2 ^ 31) : own_i a < own_i b ↔ a < b := by
 rw [Int32.lt_iff_toInt_lt, own_it ha, own_it hb]; omega
theorem own_ieq {a b : Nat} (ha : a < 2 ^ 31) (hb : b < 2 ^ 31) : own_i a = own_i b ↔ a = b := by
 rw [← Int32.toInt_inj, own_it ha, own_it hb]; omega
theorem own_iadd {a b : Nat} (h : a + b < 2 ^ 31) : own_i a + own_i b = own_i (a + b) := by
 rw [← Int32.toInt_inj, own_it h]
 have q := c_iadd (own_i a) (own_i b)
 have e1 := own_it (n := a) (by omega)
 have e2 := own_it (n := b) (by omega)
 have b1 := Int32.le_toInt (own_i a + own_i b)
 have b2 := Int32.toInt_lt (own_i a + own_i b)
 omega
theorem own_i1 {a : Nat} (h : a + 1 < 2 ^ 31) : own_i a + (1 : Int32) = own_i (a + 1) := own_iadd (b := 1) h
theorem own_isub {a b : Nat} (h : b ≤ a) (ha : a < 2 ^ 31) : own_i a - own_i b = own_i (a - b) := by
 rw [← Int32.toInt_inj, own_it (by omega)]
 have q := c_isub (own_i a) (own_i b)
 have e1 := own_it (n := a) ha
 have e2 := own_it (n := b) (by omega)
 have b1 := Int32.le_toInt (own_i a - own_i b)
 have b2 := Int32.toInt_lt (own_i a - own_i b)
 omega
theorem own_toi (n : Nat) : (n : Nat).toInt32 = own_i n := rfl
/-- which row leads, which follows -/
def own_ld (q : Nat) : List Nat → Bool
 | [] => true
 | x :: r => if x = q then false else own_ld q r
def own_fo (q : Nat) : List Nat → List Bool → Bool
 | x :: r, b :: s => (decide (x = q) && b) || own_fo q r s
 | _, _ => false
/-- insertion, step by step -/
def own_in1 : List Nat → List Nat
 | a :: b :: r => if b < a then b :: a :: r else a :: b :: r
 | l => l
def own_in2 : List Nat → List Nat
 | a :: b :: c :: r => if c < b then (if c < a then c :: a :: b :: r else a :: c :: b :: r) else a :: b :: c :: r
 | l => l
def own_in3 : List Nat → List Nat
 | a :: b :: c :: d :: r => if d < c then (if d < b then (if d < a then d :: a :: b :: c :: r else a :: d :: b :: c :: r) else a :: b :: d :: c :: r) else a :: b :: c :: d :: r
 | l => l
def own_sort (l : List Nat) : List Nat := own_in3 (own_in2 (own_in1 l))
/-- where the run that starts at i ends: j goes on while the place holds x -/
def own_rl (l : List Nat) (x : Nat) : Nat → Nat → Nat
 | 0, j => j
 | d + 1, j => if l.getD j 0 = x then own_rl l x d (j + 1) else j
def own_re (l : List Nat) (i : Nat) : Nat := own_rl l (l.getD i 0) (l.length - (i + 1)) (i + 1)
/-- how many runs of more than one from i -/
def own_cn (l : List Nat) : Nat → Nat → Nat
 | 0, _ => 0
 | d + 1, i => if i < l.length then (if 1 < own_re l i - i then 1 else 0) + own_cn l d (own_re l i) else 0
/-- the followers' place and count -/
def own_fw (w : List Nat) (x : Nat) : Nat → Nat → Nat → Nat × Nat
 | 0, j, c => (j, c)
 | d + 1, j, c => if x < w.getD j 0 then (j, c) else own_fw w x d (j + 1) (if w.getD j 0 = x then c + 1 else c)
/-- the repeats: fingerprints, counts, near, anyFar -/
def own_rp (l w : List Nat) : Nat → Nat → Nat → List Nat → List Nat → List Bool → Bool → List Nat × List Nat × List Bool × Bool
 | 0, _, _, fp, rw, nr, far => (fp, rw, nr, far)
 | d + 1, i, j, fp, rw, nr, far =>
  if i < l.length then
   (if 1 < own_re l i - i then
    own_rp l w d (own_re l i) (own_fw w (l.getD i 0) (w.length - j) j 0).1 (fp ++ [l.getD i 0]) (rw ++ [own_re l i - i]) (nr ++ [decide ((own_fw w (l.getD i 0) (w.length - j) j 0).2 = own_re l i - i - 1)]) (far || !decide ((own_fw w (l.getD i 0) (w.length - j) j 0).2 = own_re l i - i - 1))
   else own_rp l w d (own_re l i) (own_fw w (l.getD i 0) (w.length - j) j 0).1 fp rw nr far)
  else (fp, rw, nr, far)
def own_nd (n0 : Nat) (a1 rc lg p1 t1 p2 t2 : Addr) : Prop := a1 ≠ rc ∧ a1 ≠ lg ∧ a1 ≠ p1 ∧ a1 ≠ t1 ∧ a1 ≠ p2 ∧ a1 ≠ t2 ∧ rc ≠ lg ∧ rc ≠ p1 ∧ rc ≠ t1 ∧ rc ≠ p2 ∧ rc ≠ t2 ∧ lg ≠ p1 ∧ lg ≠ t1 ∧ lg ≠ p2 ∧ lg ≠ t2 ∧ p1 ≠ t1 ∧ p1 ≠ p2 ∧ p1 ≠ t2 ∧ t1 ≠ p2 ∧ t1 ≠ t2 ∧ p2 ≠ t2 ∧ n0 ≤ a1 ∧ n0 ≤ rc ∧ n0 ≤ lg ∧ n0 ≤ p1 ∧ n0 ≤ t1 ∧ n0 ≤ p2 ∧ n0 ≤ t2
theorem own_specRef {p : Program} {l : Launch} {e : Env} {R : Room} {s : State} {m : MethodId} {args : Array Value} {below : List Frame} {meth : Method} {c : Code} {T : State} {locs : List Loc} {cells slots : Nat} {Z : State} {a0 : Array Value} (X : Stand p l e R s m args below meth c T locs cells slots) (hx : p.tables.exec = Jvm.exec) (hZ : Z.Warmed39 s.vm) {own : String} {index : Nat} {y : MethodName} (hy1 : y.name = "<init>")
  (hown : s.vm.findClass own = some m.cls) (href : (Jvm.Cond.methodRef own index y).before a0 Z = true) (hinst : (Jvm.Cond.instanceMethod y).before a0 Z = true)
  {bytes : ByteArray} {maxL : Nat} (hcode : (Jvm.Cond.code y bytes maxL none).before a0 Z = true)
  (hy : y.cls ≠ "java/lang/invoke/MethodHandle" ∧ y.cls ≠ "java/lang/invoke/VarHandle")
  {W : Nat} {Pre : Pt → Array Value → Prop} {Post : Pt → Array Value → Option Value → Pt → Prop} (hK : Back l R p e below s args y 3 W Pre Post)
  {g : JFrame} (hg : g.method = m) (hsize : g.locals.size = c.maxLocals) {a : Addr} {argsL rest : List Value}
  (hlen : ∀ sig, parseMethodDescriptor y.desc = some sig → argsL.length = sig.parameters.length) (hstack : g.stack = argsL.reverse ++ .ref a :: rest) (hW : 2 * g.monitorRoom + (rest.map fun v => v.category).sum ≤ W)
  (hdg : Jvm.ClassFile.decode c.code g.pc = .ok (.invokespecial index, 3)) (hpre : ∀ vm₁, s.WarmedH vm₁ → Pre ⟨T.setVm vm₁, locs, cells, slots⟩ (.ref a :: argsL).toArray) :
  ∃ (v : Option Value) (vm₁ : Vm) (B : Pt), s.WarmedH vm₁ ∧ Stand p l e R s m args below meth c B.U B.locs B.cells B.slots ∧ Post ⟨T.setVm vm₁, locs, cells, slots⟩ (.ref a :: argsL).toArray v B ∧
   Steps p.tables e below (T.setTop g) (B.U.setTop { g with pc := g.pc + 3, stack := v.toList ++ rest }) := by
 subst hg
 obtain ⟨obj, methO, hnO, hmO, hstO, habO⟩ := Cond.instanceMethod_spec hinst
 obtain ⟨methO', cO, hmO', hcO, hbO, hlO, -, hlockO, -, hsigO⟩ := Cond.code_spec hnO hcode
 cases hmO.symm.trans hmO'
 obtain ⟨kO, hkO, hnameO⟩ := className_of_methodNamed hnO
 obtain ⟨hnameMO, hdescO⟩ := name_of_methodNamed hnO hmO
 have hWT : Z.Warmed39 T.vm := wtrans hZ X.warmed
 have hr' := Cond.methodRef_warmed39 hWT hnO hy href
 have hownT : (Z.setVm T.vm).vm.findClass own = some g.method.cls := by
  show T.vm.findClass own = _
  rw [X.warmed.alike.findClass]; exact hown
 obtain ⟨r0, c', hf, hready, hfind, dk, cf, ci, nt, hdk, hcf, hcp, hcr⟩ := Cond.methodRef_named e hownT hr'
 cases hf.symm.trans ((State.methodFound?_setVm_of_named hWT.alike hnO hy).trans (State.methodFound?_of_named hnO hy))
 have hc' : c' = obj.cls := by
  have q1 : T.vm.findClass y.cls = some c' := hfind
  rw [hWT.alike.findClass, findClass_of_methodNamed hnO] at q1
  exact (Option.some.inj q1).symm
 subst hc'
 obtain ⟨kO₂, hkO₂, heO₂⟩ := hWT.alike.2.2 _ _ hkO
 have hmT : T.vm.method? obj = some methO := by rw [hWT.alike.method?]; exact hmO
 have hfound : lookupSpecial T.vm obj.cls "<init>" methO.desc = .method obj := by
  rw [hWT.alike.lookupSpecial, hdescO, ← hy1]; exact lookupSpecial_of_named hnO hmO hstO
 have hstep : ∀ target, (∀ acts, Steps p.tables e below (doInvoke e (T.setTop { g with stack := rest }) acts obj (.ref a :: argsL).toArray).1 target) → Steps p.tables e below (T.setTop g) target := fun target hrest => by
  jvm_step X.here [hx, hdg, invokespecial.wp_init (e := e) (s := T) (k := kO₂) (meth := methO) (m := obj) (a := a) (args := argsL) (rest := rest) (f := g) X.here.top ⟨dk, cf, ci, nt, hdk, hcf, hcp, hcr⟩ hready hkO₂ hmT (by rw [hnameMO]; exact hy1) hstO habO hfound (hlen _ hsigO) hstack]
  exact hrest
 have hnS : s.methodNamed? y = some obj := by
  have q : (Z.setVm s.vm).methodNamed? y = some obj := by rw [State.methodNamed?_setVm hZ.alike]; exact hnO
  exact q
 have hp' : Pre ⟨T, locs, cells, slots⟩ (Value.ref a :: argsL).toArray := hpre T.vm X.warmed
 obtain ⟨v, B, X', hpost, hsteps⟩ := hK g.method meth c ⟨T, locs, cells, slots⟩ { g with stack := rest } (.invokespecial index) obj (Value.ref a :: argsL).toArray X rfl hsize hdg hW (X.named hnS) hp'
 exact ⟨v, T.vm, B, X.warmed, X', hpost, (hstep _ fun acts => by rw [doInvoke_state]; exact Steps.refl _).trans hsteps⟩
theorem own_privRef {p : Program} {l : Launch} {e : Env} {R : Room} {s : State} {m : MethodId} {args : Array Value} {below : List Frame} {meth : Method} {c : Code} {T : State} {locs : List Loc} {cells slots : Nat} {Z : State} {a0 : Array Value} {h : Heap} (X : Stand p l e R s m args below meth c T locs cells slots) (hx : p.tables.exec = Jvm.exec) (hZ : Z.Warmed39 s.vm) {own : String} {index : Nat} {y : MethodName}
  (hown : s.vm.findClass own = some m.cls) (href : (Jvm.Cond.methodRef own index y).before a0 Z = true) (hinst : (Jvm.Cond.instanceMethod y).before a0 Z = true) (hpriv : (Jvm.Cond.privateMethod y).before a0 Z = true)
  {nI : Nat} (hins : (Jvm.Cond.instantiable y.cls nI).before a0 Z = true) {bytes : ByteArray} {maxL : Nat} {ret : Option FieldType} (hcode : (Jvm.Cond.code y bytes maxL ret).before a0 Z = true)
  (hy : y.cls ≠ "java/lang/invoke/MethodHandle" ∧ y.cls ≠ "java/lang/invoke/VarHandle")
  {W : Nat} {Pre : Pt → Array Value → Prop} {Post : Pt → Array Value → Option Value → Pt → Prop} (hK : Back l R p e below s args y 3 W Pre Post)
  {a : Addr} {C : String} (eT : T.heap = h) (EX : Exa Z h a C)
  {g : JFrame} (hg : g.method = m) (hsize : g.locals.size = c.maxLocals) {argsL rest : List Value}
  (hlen : ∀ sig, parseMethodDescriptor y.desc = some sig → argsL.length = sig.parameters.length) (hstack : g.stack = argsL.reverse ++ .ref a :: rest) (hW : 2 * g.monitorRoom + (rest.map fun v => v.category).sum ≤ W)
  (hdg : Jvm.ClassFile.decode c.code g.pc = .ok (.invokevirtual index, 3)) (hpre : ∀ vm₁, s.WarmedH vm₁ → Pre ⟨T.setVm vm₁, locs, cells, slots⟩ (.ref a :: argsL).toArray) :
  ∃ (v : Option Value) (vm₁ : Vm) (B : Pt), s.WarmedH vm₁ ∧ Stand p l e R s m args below meth c B.U B.locs B.cells B.slots ∧ Post ⟨T.setVm vm₁, locs, cells, slots⟩ (.ref a :: argsL).toArray v B ∧
   Steps p.tables e below (T.setTop g) (B.U.setTop { g with pc := g.pc + 3, stack := v.toList ++ rest }) := by
 subst hg
 obtain ⟨cq, hcq, hcq'⟩ := EX.cell
 obtain ⟨obj, methO, hnO, hmO, hstO, habO⟩ := Cond.instanceMethod_spec hinst
 obtain ⟨methO', cO, hmO', hcO, hbO, hlO, -, hlockO, -, hsigO⟩ := Cond.code_spec hnO hcode
 cases hmO.symm.trans hmO'
 obtain ⟨kO, hkO, hnameO⟩ := className_of_methodNamed hnO
 have hWT : Z.Warmed39 T.vm := wtrans hZ X.warmed
 have hr' := Cond.methodRef_warmed39 hWT hnO hy href
 have hownT : (Z.setVm T.vm).vm.findClass own = some g.method.cls := by
  show T.vm.findClass own = _
  rw [X.warmed.alike.findClass]; exact hown
 obtain ⟨r0, c', hf, hready, hfind, dk, cf, ci, nt, hdk, hcf, hcp, hcr⟩ := Cond.methodRef_named e hownT hr'
 cases hf.symm.trans ((State.methodFound?_setVm_of_named hWT.alike hnO hy).trans (State.methodFound?_of_named hnO hy))
 have hc' : c' = obj.cls := by
  have q1 : T.vm.findClass y.cls = some c' := hfind
  rw [hWT.alike.findClass, findClass_of_methodNamed hnO] at q1
  exact (Option.some.inj q1).symm
 subst hc'
 obtain ⟨cI, kI, hcI, hkI, -, hniab, -, -⟩ := Cond.instantiable_spec hins
 have hcc : cI = obj.cls := Option.some.inj (hcI.symm.trans (findClass_of_methodNamed hnO))
 subst hcc
 cases hkO.symm.trans hkI
 obtain ⟨kO₂, hkO₂, heO₂⟩ := hWT.alike.2.2 _ _ hkO
 have hni : kO₂.isInterface = false := by rw [heO₂]; exact (Bool.or_eq_false_iff.mp hniab).1
 have hmT : T.vm.method? obj = some methO := by rw [hWT.alike.method?]; exact hmO
 have hpv := Cond.privateMethod_at hpriv obj methO hnO hmO
 have hsel : selectMethod e.platform T.vm cq.cls obj = .method obj := selectMethod_private hmT hpv
 have hpoly : signaturePolymorphic kO₂ methO = false := signaturePolymorphic_of_name (by rw [heO₂]; show kO.name ≠ _ ∧ kO.name ≠ _; rw [hnameO]; exact hy) methO
 have hstep : ∀ target, (∀ acts, Steps p.tables e below (doInvoke e (T.setTop { g with stack := rest }) acts obj (.ref a :: argsL).toArray).1 target) → Steps p.tables e below (T.setTop g) target := fun target hrest => by
  jvm_step X.here [hx, hdg, invokevirtual.wp_named (e := e) (s := T) (f := g) (a := a) (cell := cq) (args := argsL) (rest := rest) X.here.top ⟨dk, cf, ci, nt, hdk, hcf, hcp, hcr⟩ hkO₂ hni hready hkO₂ hmT hpoly hstO (hlen _ hsigO) hstack (by rw [eT]; exact hcq) hcq' hsel hmT habO hkO₂ hni]
  exact hrest
 have hnS : s.methodNamed? y = some obj := by
  have q : (Z.setVm s.vm).methodNamed? y = some obj := by rw [State.methodNamed?_setVm hZ.alike]; exact hnO
  exact q
 have hp' : Pre ⟨T, locs, cells, slots⟩ (Value.ref a :: argsL).toArray := hpre T.vm X.warmed
 obtain ⟨v, B, X', hpost, hsteps⟩ := hK g.method meth c ⟨T, locs, cells, slots⟩ { g with stack := rest } (.invokevirtual index) obj (Value.ref a :: argsL).toArray X rfl hsize hdg hW (X.named hnS) hp'
 exact ⟨v, T.vm, B, X.warmed, X', hpost, (hstep _ fun acts => by rw [doInvoke_state]; exact Steps.refl _).trans hsteps⟩
def own_min (a b : Int32) : Int32 := if b < a then b else a
theorem own_min16 {n : Nat} (h : n ≤ 4) : own_min (own_i n) (16 : Int32) = own_i n := by
 rw [own_min, if_neg]
 have : (16 : Int32) = own_i 16 := rfl
 rw [this, own_ilt (by omega) (by omega)]; omega
theorem own_ne1024 {n : Nat} (h : n ≤ 4) : ¬ (own_i n = (1024 : Int32)) := by
 have : (1024 : Int32) = own_i 1024 := rfl
 rw [this, own_ieq (by omega) (by omega)]; omega
theorem own_lenr {α : Type} {l : List α} {r : α} (h : l.length ≤ 4) : own_i l.length + (1 : Int32) = own_i (l ++ [r]).length := by
 rw [own_i1 (by omega)]; simp
theorem own_rem16 {n : Nat} (h : n ≤ 3) : own_i n - (own_i n / (16 : Int32)) * (16 : Int32) = own_i n := by
 have c : n = 0 ∨ n = 1 ∨ n = 2 ∨ n = 3 := by omega
 rcases c with rfl | rfl | rfl | rfl <;> decide
theorem own_s16 {n : Nat} (h : n ≤ 4) : n < 16 := by omega
theorem own_s1024 {n : Nat} (h : n ≤ 4) : n < 1024 := by omega
theorem own_3i {n : Nat} (h : n ≤ 3) : n < 2 ^ 31 := by omega
theorem own_4i {n : Nat} (h : n ≤ 4) : n < 2 ^ 31 := by omega
theorem own_34 {n : Nat} (h : n ≤ 3) : n ≤ 4 := by omega
theorem own_tk {α : Type} {l : List α} {i : Nat} (d : α) (h : i < l.length) : l.take (i + 1) = l.take i ++ [l.getD i d] := by
 rw [List.take_succ, List.getD, List.getElem?_eq_getElem h]; rfl
theorem own_ld_app (q : Nat) (l : List Nat) (x : Nat) : own_ld q (l ++ [x]) = (own_ld q l && !decide (x = q)) := by
 induction l with
 | nil => by_cases c : x = q <;> simp [own_ld, c]
 | cons y r ih => by_cases c : y = q <;> simp [own_ld, c, ih]
theorem own_fo_app (q : Nat) : ∀ (l : List Nat) (s : List Bool) (x : Nat) (b : Bool), l.length = s.length → own_fo q (l ++ [x]) (s ++ [b]) = (own_fo q l s || (decide (x = q) && b))
 | [], [], x, b, _ => by simp [own_fo]
 | y :: r, c :: t, x, b, h => by
  have := own_fo_app q r t x b (by simpa using h)
  simp [own_fo, this, Bool.or_assoc]
 | [], _ :: _, _, _, h => by simp at h
 | _ :: _, [], _, _, h => by simp at h
theorem own_ld1 {q : Nat} {l : List Nat} {i : Nat} (h : i < l.length) (e : l.getD i 0 = q) : own_b2 (own_ld q (l.take (i + 1))) = 0 := by
 rw [own_tk 0 h, own_ld_app, decide_eq_true e]; simp [own_b2]
theorem own_ld0 {q : Nat} {l : List Nat} {i : Nat} (h : i < l.length) (e : ¬ l.getD i 0 = q) : own_b2 (own_ld q (l.take (i + 1))) = own_b2 (own_ld q (l.take i)) := by
 rw [own_tk 0 h, own_ld_app, decide_eq_false e]; simp
theorem own_tl {l : List Nat} {s : List Bool} {i : Nat} (hs : s.length = l.length) : (l.take i).length = (s.take i).length := by simp [hs]
theorem own_fo0 {q : Nat} {l : List Nat} {s : List Bool} {i : Nat} (hs : s.length = l.length) (h : i < l.length) (e : ¬ l.getD i 0 = q) : own_b2 (own_fo q (l.take (i + 1)) (s.take (i + 1))) = own_b2 (own_fo q (l.take i) (s.take i)) := by
 rw [own_tk 0 h, own_tk false (hs ▸ h : i < s.length), own_fo_app _ _ _ _ _ (own_tl hs), decide_eq_false e]; simp
theorem own_foA {q : Nat} {l : List Nat} {s : List Bool} {i : Nat} (hs : s.length = l.length) (h : i < l.length) (e : l.getD i 0 = q) (f : ¬ own_b2 (own_fo q (l.take i) (s.take i)) = 0) : own_b2 (own_fo q (l.take (i + 1)) (s.take (i + 1))) = 1 := by
 rw [own_tk 0 h, own_tk false (hs ▸ h : i < s.length), own_fo_app _ _ _ _ _ (own_tl hs)]
 cases c : own_fo q (l.take i) (s.take i)
 ·rw [c] at f; exact absurd rfl f
 ·rfl
theorem own_foB {q : Nat} {l : List Nat} {s : List Bool} {i : Nat} (hs : s.length = l.length) (h : i < l.length) (e : l.getD i 0 = q) (f : own_b2 (own_fo q (l.take i) (s.take i)) = 0) : own_b2 (own_fo q (l.take (i + 1)) (s.take (i + 1))) = own_b2 (s.getD i false) := by
 rw [own_tk 0 h, own_tk false (hs ▸ h : i < s.length), own_fo_app _ _ _ _ _ (own_tl hs)]
 rw [(own_b2z _).mp f, decide_eq_true e]; simp
theorem own_b21 {b : Bool} (h : ¬ own_b2 b = 0) : own_b2 b = 1 := by cases b; exact absurd rfl h; rfl
theorem own_okt {l : List Nat} (h : own_ok l) {x : Nat} (hx : x < 4) (hl : l.length ≤ 3) : own_ok (l ++ [x]) := ⟨by simp; omega, fun y hy => by
 rcases List.mem_append.mp hy with q | q
 ·exact h.2 y q
 ·rw [List.mem_singleton.mp q]; exact hx⟩
theorem own_tkR {α : Type} (l : List α) : l.take l.length = l := List.take_length
theorem own_tkB {α β : Type} {l : List α} {s : List β} (h : s.length = l.length) : s.take l.length = s := by rw [← h]; exact List.take_length
theorem own_irr {n : Nat} : ¬ own_i n < own_i n := by rw [Int32.lt_iff_toInt_lt]; omega
theorem own_it3 {i n : Nat} (h : i < n) (hn : n ≤ 4) : own_i i < own_i n := (own_ilt (by omega) (by omega)).mpr h
def own_rwR (κ ra rb rs : Nat) (R : List Nat) : List Nat := if κ = 1 then R ++ [rs] else if κ = 2 then R ++ [ra] else if κ = 3 then R ++ [rb] else R
def own_rwB (κ ra rb : Nat) (R : List Nat) (B : List Bool) : List Bool := if κ = 1 then B ++ [false] else if κ = 2 then B ++ [own_ld ra R] else if κ = 3 then B ++ [own_ld rb R] else B
def own_rwP (κ ra rb : Nat) (P : List Nat) : List Nat := if κ = 2 then P ++ [ra] else if κ = 3 then P ++ [rb] else P
def own_rwF (κ ra rb : Nat) (R : List Nat) (B : List Bool) (F : List Nat) : List Nat := if κ = 2 then (if own_fo ra R B = true then F ++ [ra] else F) else if κ = 3 then (if own_fo rb R B = true then F ++ [rb] else F) else F
theorem own_rwR_0 (ra rb rs : Nat) (R : List Nat) : own_rwR 0 ra rb rs R = R := rfl
theorem own_rwR_1 (ra rb rs : Nat) (R : List Nat) : own_rwR 1 ra rb rs R = R ++ [rs] := rfl
theorem own_rwR_2 (ra rb rs : Nat) (R : List Nat) : own_rwR 2 ra rb rs R = R ++ [ra] := rfl
theorem own_rwR_3 (ra rb rs : Nat) (R : List Nat) : own_rwR 3 ra rb rs R = R ++ [rb] := rfl
theorem own_rwB_0 (ra rb : Nat) (R : List Nat) (B : List Bool) : own_rwB 0 ra rb R B = B := rfl
theorem own_rwB_1 (ra rb : Nat) (R : List Nat) (B : List Bool) : own_rwB 1 ra rb R B = B ++ [false] := rfl
theorem own_rwB_2 (ra rb : Nat) (R : List Nat) (B : List Bool) : own_rwB 2 ra rb R B = B ++ [own_ld ra R] := rfl
theorem own_rwB_3 (ra rb : Nat) (R : List Nat) (B : List Bool) : own_rwB 3 ra rb R B = B ++ [own_ld rb R] := rfl
theorem own_rwP_0 (ra rb : Nat) (P : List Nat) : own_rwP 0 ra rb P = P := rfl
theorem own_rwP_1 (ra rb : Nat) (P : List Nat) : own_rwP 1 ra rb P = P := rfl
theorem own_rwP_2 (ra rb : Nat) (P : List Nat) : own_rwP 2 ra rb P = P ++ [ra] := rfl
theorem own_rwP_3 (ra rb : Nat) (P : List Nat) : own_rwP 3 ra rb P = P ++ [rb] := rfl
theorem own_rwF_0 (ra rb : Nat) (R : List Nat) (B : List Bool) (F : List Nat) : own_rwF 0 ra rb R B F = F := rfl
theorem own_rwF_1 (ra rb : Nat) (R : List Nat) (B : List Bool) (F : List Nat) : own_rwF 1 ra rb R B F = F := rfl
theorem own_rwF_2 (ra rb : Nat) (R : List Nat) (B : List Bool) (F : List Nat) : own_rwF 2 ra rb R B F = (if own_fo ra R B = true then F ++ [ra] else F) := rfl
theorem own_rwF_3 (ra rb : Nat) (R : List Nat) (B : List Bool) (F : List Nat) : own_rwF 3 ra rb R B F = (if own_fo rb R B = true then F ++ [rb] else F) := rfl
theorem own_memi {a : Addr} {l : List Addr} {n k : Nat} (h : l[k]? = some a) : a ∈ l ∨ n ≤ a := Or.inl (List.mem_of_getElem? h)
theorem own_b2t {b : Bool} (h : ¬ own_b2 b = 0) : b = true := by cases b; exact absurd rfl h; rfl
theorem own_l4 {l : List Nat} (h : own_ok l) : l = [] ∨ (∃ a, l = [a] ∧ a < 4) ∨ (∃ a b, l = [a, b] ∧ a < 4 ∧ b < 4) ∨ (∃ a b c, l = [a, b, c] ∧ a < 4 ∧ b < 4 ∧ c < 4) ∨ (∃ a b c d, l = [a, b, c, d] ∧ a < 4 ∧ b < 4 ∧ c < 4 ∧ d < 4) := by
 obtain ⟨hl, hm⟩ := h
 match l, hl with
 | [], _ => exact Or.inl rfl
 | [a], _ => exact Or.inr (Or.inl ⟨a, rfl, hm a (by simp)⟩)
 | [a, b], _ => exact Or.inr (Or.inr (Or.inl ⟨a, b, rfl, hm a (by simp), hm b (by simp)⟩))
 | [a, b, c], _ => exact Or.inr (Or.inr (Or.inr (Or.inl ⟨a, b, c, rfl, hm a (by simp), hm b (by simp), hm c (by simp)⟩)))
 | [a, b, c, d], _ => exact Or.inr (Or.inr (Or.inr (Or.inr ⟨a, b, c, d, rfl, hm a (by simp), hm b (by simp), hm c (by simp), hm d (by simp)⟩)))
 | _ :: _ :: _ :: _ :: _ :: _, hl => simp at hl
theorem own_f1 {a b : Nat} (r : List Nat) (ha : a < 4) (hb : b < 4) : ∃ u v, own_in1 (a :: b :: r) = u :: v :: r ∧ u < 4 ∧ v < 4 := by
 rw [own_in1]; split
 ·exact ⟨b, a, rfl, hb, ha⟩
 ·exact ⟨a, b, rfl, ha, hb⟩
theorem own_f2 {a b c : Nat} (r : List Nat) (ha : a < 4) (hb : b < 4) (hc : c < 4) : ∃ u v w, own_in2 (a :: b :: c :: r) = u :: v :: w :: r ∧ u < 4 ∧ v < 4 ∧ w < 4 := by
 rw [own_in2]; split
 ·split
  ·exact ⟨c, a, b, rfl, hc, ha, hb⟩
  ·exact ⟨a, c, b, rfl, ha, hc, hb⟩
 ·exact ⟨a, b, c, rfl, ha, hb, hc⟩
theorem own_f3 {a b c d : Nat} (r : List Nat) (ha : a < 4) (hb : b < 4) (hc : c < 4) (hd : d < 4) : ∃ u v w x, own_in3 (a :: b :: c :: d :: r) = u :: v :: w :: x :: r ∧ u < 4 ∧ v < 4 ∧ w < 4 ∧ x < 4 := by
 rw [own_in3]; split
 ·split
  ·split
   ·exact ⟨d, a, b, c, rfl, hd, ha, hb, hc⟩
   ·exact ⟨a, d, b, c, rfl, ha, hd, hb, hc⟩
  ·exact ⟨a, b, d, c, rfl, ha, hb, hd, hc⟩
 ·exact ⟨a, b, c, d, rfl, ha, hb, hc, hd⟩
theorem own_s2 (a b : Nat) : own_sort [a, b] = own_in1 [a, b] := by
 simp only [own_sort, own_in1]; split <;> rfl
theorem own_s3 (a b c : Nat) : own_sort [a, b, c] = own_in2 (own_in1 [a, b, c]) := by
 simp only [own_sort, own_in1]; split <;> (simp only [own_in2]; split <;> (try split) <;> rfl)
theorem own_sort_ok {l : List Nat} (h : own_ok l) : own_ok (own_sort l) ∧ (own_sort l).length = l.length := by
 rcases own_l4 h with rfl | ⟨a, rfl, ha⟩ | ⟨a, b, rfl, ha, hb⟩ | ⟨a, b, c, rfl, ha, hb, hc⟩ | ⟨a, b, c, d, rfl, ha, hb, hc, hd⟩
 ·exact ⟨h, rfl⟩
 ·exact ⟨h, rfl⟩
 ·obtain ⟨u, v, e, hu, hv⟩ := own_f1 [] ha hb
  rw [own_sort, e]
  exact ⟨⟨by simp [own_in2, own_in3], by simp [own_in2, own_in3, hu, hv]⟩, rfl⟩
 ·obtain ⟨u, v, e, hu, hv⟩ := own_f1 [c] ha hb
  obtain ⟨u2, v2, w2, e2, hu2, hv2, hw2⟩ := own_f2 [] hu hv hc
  rw [own_sort, e, e2]
  exact ⟨⟨by simp [own_in3], by simp [own_in3, hu2, hv2, hw2]⟩, rfl⟩
 ·obtain ⟨u, v, e, hu, hv⟩ := own_f1 [c, d] ha hb
  obtain ⟨u2, v2, w2, e2, hu2, hv2, hw2⟩ := own_f2 [d] hu hv hc
  obtain ⟨u3, v3, w3, x3, e3, hu3, hv3, hw3, hx3⟩ := own_f3 [] hu2 hv2 hw2 hd
  rw [own_sort, e, e2, e3]
  exact ⟨⟨by simp, by simp [hu3, hv3, hw3, hx3]⟩, rfl⟩
theorem own_lt65 {n : Nat} (h : n ≤ 4) : own_i n < ((65 : Int32) + (0 : Int32)) := by
 have : ((65 : Int32) + (0 : Int32)) = own_i 65 := rfl
 rw [this, own_ilt (by omega) (by omega)]; omega
theorem own_lt44 {n : Nat} (h : n ≤ 4) : own_i n < (44 : Int32) := by
 have : (44 : Int32) = own_i 44 := rfl
 rw [this, own_ilt (by omega) (by omega)]; omega
theorem own_nl {n N : Nat} (h : n ≤ N) (hN : N ≤ 1024) : ¬ own_i N < own_i n := by rw [own_ilt (by omega) (by omega)]; omega
theorem own_sb0 (x : Int32) : x - (0 : Int32) = x := by simp
def own_rd (n0 : Nat) (rp f1 f2 f3 : Addr) : Prop := rp ≠ f1 ∧ rp ≠ f2 ∧ rp ≠ f3 ∧ f1 ≠ f2 ∧ f1 ≠ f3 ∧ f2 ≠ f3 ∧ n0 ≤ rp ∧ n0 ≤ f1 ∧ n0 ≤ f2 ∧ n0 ≤ f3
theorem own_b2nr (b : Bool) : narrow .boolean (.int (own_b2 b)) = .int (own_b2 b) := by cases b <;> rfl
def own_bs : List Nat → Nat → Int32
 | [], _ => -1
 | [x], r => if x < r then -2 else if r < x then -1 else 0
 | x :: y :: _, r => if x < r then (if y < r then -3 else if r < y then -2 else 1) else if r < x then -1 else 0
def own_bk (fp : List Nat) (r : Nat) : Nat := (own_bs fp r).toNatClampNeg
theorem own_bsx {fp : List Nat} {r : Nat} (h : ¬ own_bs fp r < 0) : (own_bs fp r) = own_i (own_bk fp r) ∧ own_bk fp r < fp.length := by
 unfold own_bk
 match fp with
 | [] => exact absurd (show own_bs [] r < 0 from (by decide : (-1 : Int32) < 0)) h
 | [x] =>
  simp only [own_bs] at h ⊢
  split at h
  ·exact absurd (by decide) h
  ·split at h
   ·exact absurd (by decide) h
   ·rename_i a b; rw [if_neg a, if_neg b]; exact ⟨rfl, by simp [show (0 : Int32).toNatClampNeg = 0 from rfl]⟩
 | x :: y :: t =>
  simp only [own_bs] at h ⊢
  split at h
  ·rename_i a
   split at h
   ·exact absurd (by decide) h
   ·split at h
    ·exact absurd (by decide) h
    ·rename_i b c; rw [if_pos a, if_neg b, if_neg c]; exact ⟨rfl, by simp [show (1 : Int32).toNatClampNeg = 1 from rfl]⟩
  ·rename_i a
   split at h
   ·exact absurd (by decide) h
   ·rename_i b; rw [if_neg a, if_neg b]; exact ⟨rfl, by simp [show (0 : Int32).toNatClampNeg = 0 from rfl]⟩
def own_ok2 (fp : List Nat) : Prop := fp.length ≤ 2 ∧ ∀ x ∈ fp, x < 4
theorem own_l2 {l : List Nat} (h : own_ok2 l) : l = [] ∨ (∃ a, l = [a] ∧ a < 4) ∨ (∃ a b, l = [a, b] ∧ a < 4 ∧ b < 4) := by
 obtain ⟨hl, hm⟩ := h
 match l, hl with
 | [], _ => exact Or.inl rfl
 | [a], _ => exact Or.inr (Or.inl ⟨a, rfl, hm a (by simp)⟩)
 | [a, b], _ => exact Or.inr (Or.inr ⟨a, b, rfl, hm a (by simp), hm b (by simp)⟩)
 | _ :: _ :: _ :: _, hl => simp at hl
def own_rpd (fp : List Nat) (r : Nat) : Int32 := if own_bs fp r < 0 then 0 else 1
def own_nrw (fp rw : List Nat) (nr : List Bool) (r : Nat) : Int32 := if own_bs fp r < 0 then 0 else if own_b2 (nr.getD (own_bk fp r) false) = 0 then 0 else own_i (rw.getD (own_bk fp r) 0)
def own_fr (fp : List Nat) (nr : List Bool) (r : Nat) : Int32 := if own_bs fp r < 0 then 0 else if own_b2 (nr.getD (own_bk fp r) false) = 0 then 1 else 0
theorem own_rl_b (l : List Nat) (x : Nat) : ∀ d j, j ≤ own_rl l x d j ∧ own_rl l x d j ≤ j + d
 | 0, j => ⟨Nat.le_refl _, Nat.le_refl _⟩
 | d + 1, j => by
  rw [own_rl]; split
  ·have := own_rl_b l x d (j + 1); omega
  ·omega
theorem own_re_b {l : List Nat} {i : Nat} (h : i < l.length) : i < own_re l i ∧ own_re l i ≤ l.length := by
 have := own_rl_b l (l.getD i 0) (l.length - (i + 1)) (i + 1)
 rw [own_re]; omega
theorem own_cn_b (l : List Nat) : ∀ d i, 2 * own_cn l d i ≤ l.length - i
 | 0, i => by rw [own_cn]; omega
 | d + 1, i => by
  rw [own_cn]; split
  ·rename_i h
   have := own_cn_b l d (own_re l i)
   have := own_re_b h
   split <;> omega
  ·omega
theorem own_fw_b (w : List Nat) (x : Nat) : ∀ d j c, c ≤ j → j ≤ (own_fw w x d j c).1 ∧ (own_fw w x d j c).1 ≤ j + d ∧ (own_fw w x d j c).2 ≤ (own_fw w x d j c).1
 | 0, j, c, h => ⟨Nat.le_refl _, Nat.le_refl _, h⟩
 | d + 1, j, c, h => by
  rw [own_fw]; split
  ·exact ⟨Nat.le_refl _, by show j ≤ j + (d + 1); omega, h⟩
  ·have := own_fw_b w x d (j + 1) (if w.getD j 0 = x then c + 1 else c) (by split <;> omega); omega
theorem own_1lt {n : Nat} (h : n ≤ 4) : (1 : Int32) < own_i n ↔ 1 < n := own_ilt (a := 1) (by decide) (by omega)
theorem own_sub1 {n : Nat} (h : n ≤ 4) (h0 : 1 ≤ n) : own_i n - (1 : Int32) = own_i (n - 1) := own_isub (b := 1) h0 (by omega)
theorem own_le4 {a b : Nat} (h : a ≤ 4) : a - b ≤ 4 := by omega
theorem own_sub31 {a : Nat} (h : a ≤ 4) : a < 2 ^ 31 := by omega
theorem own_notin4 {a b c d e : Addr} (h : a ≠ b) (h2 : a ≠ c) (h3 : a ≠ d) (h4 : a ≠ e) : a ∉ [b, c, d, e] := fun q => by
 rcases List.mem_cons.mp q with r | r
 ·exact h r
 ·exact own_notin3 h2 h3 h4 r
theorem own_trans4 {ws : List Addr} {n : Nat} {a b c d : Addr} (h : a ∈ ws ∨ n ≤ a) (h2 : b ∈ ws ∨ n ≤ b) (h3 : c ∈ ws ∨ n ≤ c) (h4 : d ∈ ws ∨ n ≤ d) : ∀ x ∈ [a, b, c, d], x ∈ ws ∨ n ≤ x := fun x q => by
 rcases List.mem_cons.mp q with r | r
 ·cases r; exact h
 ·exact own_trans3 h2 h3 h4 x r
def own_q (a b : Nat) : Int32 := if own_i a = own_i b then (1 : Int32) else (0 : Int32)
theorem own_qb {a b : Nat} (ha : a ≤ 4) (hb : b ≤ 4) : own_q a b = own_b2 (decide (a = b)) := by
 rw [own_q]
 by_cases c : a = b
 ·rw [if_pos (by rw [c]), c]; simp [own_b2]
 ·rw [if_neg (fun q => c ((own_ieq (by omega) (by omega)).mp q))]; simp [own_b2, c]
def own_ap (p1 t1 p2 t2 rp f1 f2 f3 : Addr) : Prop := p1 ≠ rp ∧ p1 ≠ f1 ∧ p1 ≠ f2 ∧ p1 ≠ f3 ∧ t1 ≠ rp ∧ t1 ≠ f1 ∧ t1 ≠ f2 ∧ t1 ≠ f3 ∧ p2 ≠ rp ∧ p2 ≠ f1 ∧ p2 ≠ f2 ∧ p2 ≠ f3 ∧ t2 ≠ rp ∧ t2 ≠ f1 ∧ t2 ≠ f2 ∧ t2 ≠ f3
theorem own_nil4 : own_ok [] := ⟨by decide, fun _ q => nomatch q⟩
def own_h (κ a b q : Nat) : Nat := if κ = 2 then (if a = q then 1 else 0) else if κ = 3 then (if b = q then 1 else 0) else 0
theorem own_h1 (κ a b q : Nat) : own_h κ a b q ≤ 1 := by unfold own_h; (repeat' split) <;> omega
def own_ub (κ0 κ1 κ2 κ3 a b q : Nat) : Bool :=
 if own_h κ0 a b q = 1 then false
 else if own_h κ1 a b q = 1 then decide (κ0 = 1)
 else if own_h κ2 a b q = 1 then (decide (κ0 = 1) || decide (κ1 = 1))
 else if own_h κ3 a b q = 1 then (decide (κ0 = 1) || decide (κ1 = 1) || decide (κ2 = 1))
 else (decide (κ0 = 1) || decide (κ1 = 1) || decide (κ2 = 1) || decide (κ3 = 1))
theorem own_ie1 {n : Nat} (h : n ≤ 4) : own_i n = (1 : Int32) ↔ n = 1 := own_ieq (b := 1) (by omega) (by decide)
theorem own_k4l {κ : Nat} (h : κ = 0 ∨ κ = 1 ∨ κ = 2 ∨ κ = 3) : κ ≤ 4 := by omega
abbrev own_T : Type := List Nat × List Bool × List Nat × List Nat
def own_stp (κ ra rb rs : Nat) (s : own_T) : own_T := (own_rwR κ ra rb rs s.1, own_rwB κ ra rb s.1 s.2.1, own_rwP κ ra rb s.2.2.1, own_rwF κ ra rb s.1 s.2.1 s.2.2.2)
def own_inv (n : Nat) (s : own_T) : Prop := (own_ok s.1 ∧ s.1.length ≤ n) ∧ s.2.1.length = s.1.length ∧ (own_ok s.2.2.1 ∧ s.2.2.1.length ≤ n) ∧ (own_ok s.2.2.2 ∧ s.2.2.2.length ≤ n)
theorem own_inv0 : own_inv 0 ([], [], [], []) := ⟨⟨own_nil4, Nat.le_refl _⟩, rfl, ⟨own_nil4, Nat.le_refl _⟩, ⟨own_nil4, Nat.le_refl _⟩⟩
theorem own_okp {l : List Nat} {n r : Nat} (h : own_ok l ∧ l.length ≤ n) (hn : n ≤ 3) (hr : r < 4) : own_ok (l ++ [r]) ∧ (l ++ [r]).length ≤ n + 1 := ⟨own_okt h.1 hr (Nat.le_trans h.2 hn), by simp; exact h.2⟩
theorem own_okk {l : List Nat} {n : Nat} (h : own_ok l ∧ l.length ≤ n) : own_ok l ∧ l.length ≤ n + 1 := ⟨h.1, Nat.le_succ_of_le h.2⟩
theorem own_okif {c : Prop} [Decidable c] {l : List Nat} {n r : Nat} (h : own_ok l ∧ l.length ≤ n) (hn : n ≤ 3) (hr : r < 4) : own_ok (if c then l ++ [r] else l) ∧ (if c then l ++ [r] else l).length ≤ n + 1 := by
 split
 ·exact own_okp h hn hr
 ·exact own_okk h
theorem own_stp_ok {κ ra rb rs n : Nat} {s : own_T} (h : own_inv n s) (hn : n ≤ 3) (ha : ra < 4) (hb : rb < 4) (hs : rs < 4) (k : κ = 0 ∨ κ = 1 ∨ κ = 2 ∨ κ = 3) : own_inv (n + 1) (own_stp κ ra rb rs s) := by
 obtain ⟨h1, h2, h3, h4⟩ := h
 rcases k with rfl | rfl | rfl | rfl
 ·exact ⟨own_okk h1, h2, own_okk h3, own_okk h4⟩
 ·exact ⟨own_okp h1 hn hs, by show (s.2.1 ++ [false]).length = (s.1 ++ [rs]).length; simp [h2], own_okk h3, own_okk h4⟩
 ·exact ⟨own_okp h1 hn ha, by show (s.2.1 ++ [own_ld ra s.1]).length = (s.1 ++ [ra]).length; simp [h2], own_okp h3 hn ha, own_okif h4 hn ha⟩
 ·exact ⟨own_okp h1 hn hb, by show (s.2.1 ++ [own_ld rb s.1]).length = (s.1 ++ [rb]).length; simp [h2], own_okp h3 hn hb, own_okif h4 hn hb⟩
def own_pk (x : Int32) (v : Int64) : Int64 := if x = (0 : Int32) then v else (-3750763034362895579 : Int64)
def own_qq (x : Int32) (u v w : Int64) : Int64 := if x = (0 : Int32) then u else if x = (1 : Int32) then v else if x = (2 : Int32) then w else (-3750763034362895579 : Int64)
theorem own_kap (x : Int32) : ∃ κ : Nat, x &&& (3 : Int32) = own_i κ ∧ (κ = 0 ∨ κ = 1 ∨ κ = 2 ∨ κ = 3) := by
 have q := c_and x (3 : Int32) (by decide)
 have f : (3 : Int32).toInt = 3 := rfl
 refine ⟨(x &&& (3 : Int32)).toInt.toNat, ?_, by omega⟩
 rw [← Int32.toInt_inj, own_it (by omega)]
 omega
def own_inc (l : List Int) : Prop := l.Pairwise (· < ·) ∧ ∀ x ∈ l, -9223372036854775808 ≤ x ∧ x < 9223372036854775808
theorem own_insx (x : Int) (hx : -9223372036854775808 ≤ x ∧ x < 9223372036854775808) : ∀ l : List Int, own_inc l → ∃ l', own_inc l' ∧ x ∈ l' ∧ (∀ y ∈ l, y ∈ l') ∧ (∀ y ∈ l', y = x ∨ y ∈ l) ∧ ((x ∈ l ∧ l'.length = l.length) ∨ (x ∉ l ∧ l'.length = l.length + 1))
 | [], _ => ⟨[x], ⟨List.pairwise_singleton _ _, fun y hy => by rw [List.mem_singleton.mp hy]; exact hx⟩, by simp, by simp, by simp, by simp⟩
 | y :: r, h => by
  obtain ⟨h1, h2⟩ := h
  obtain ⟨h3, h4⟩ := List.pairwise_cons.mp h1
  by_cases c1 : x < y
  ·refine ⟨x :: y :: r, ⟨List.pairwise_cons.mpr ⟨fun z hz => ?_, h1⟩, fun z hz => ?_⟩, by simp, fun z hz => by simp at hz ⊢; exact Or.inr hz, fun z hz => by simpa using hz, Or.inr ⟨fun q => ?_, rfl⟩⟩
   ·rcases List.mem_cons.mp hz with q | q
    ·rw [q]; exact c1
    ·have := h3 z q; omega
   ·rcases List.mem_cons.mp hz with q | q
    ·rw [q]; exact hx
    ·exact h2 z q
   ·rcases List.mem_cons.mp q with q | q
    ·omega
    ·have := h3 x q; omega
  ·by_cases c2 : x = y
   ·subst c2; exact ⟨x :: r, ⟨h1, h2⟩, by simp, fun z hz => hz, fun z hz => Or.inr hz, Or.inl ⟨by simp, rfl⟩⟩
   ·obtain ⟨l', ⟨a1, a2⟩, b, c, d, e⟩ := own_insx x hx r ⟨h4, fun z hz => h2 z (List.mem_cons_of_mem _ hz)⟩
    refine ⟨y :: l', ⟨List.pairwise_cons.mpr ⟨fun z hz => ?_, a1⟩, fun z hz => ?_⟩, List.mem_cons_of_mem _ b, fun z hz => ?_, fun z hz => ?_, ?_⟩
    ·rcases d z hz with q | q
     ·omega
     ·exact h3 z q
    ·rcases List.mem_cons.mp hz with q | q
     ·rw [q]; exact h2 y (by simp)
     ·exact a2 z q
    ·rcases List.mem_cons.mp hz with q | q
     ·rw [q]; simp
     ·exact List.mem_cons_of_mem _ (c z q)
    ·rcases List.mem_cons.mp hz with q | q
     ·exact Or.inr (by rw [q]; simp)
     ·exact (d z q).imp id (List.mem_cons_of_mem _)
    ·rcases e with ⟨q, r'⟩ | ⟨q, r'⟩
     ·exact Or.inl ⟨List.mem_cons_of_mem _ q, by simp [r']⟩
     ·exact Or.inr ⟨fun z => (List.mem_cons.mp z).elim c2 q, by simp [r']⟩
theorem own_filler (l : List Int) (h : l.length ≤ 3) : ∃ y : Int, (y = 0 ∨ y = 1 ∨ y = 2 ∨ y = 3) ∧ y ∉ l := by
 match l, h with
 | [], _ => exact ⟨0, by simp, by simp⟩
 | [a], _ => exact if c : a = 0 then ⟨1, by simp, by simp; omega⟩ else ⟨0, by simp, by simp; omega⟩
 | [a, b], _ =>
  by_cases c0 : a ≠ 0 ∧ b ≠ 0
  ·exact ⟨0, by simp, by simp; omega⟩
  ·by_cases c1 : a ≠ 1 ∧ b ≠ 1
   ·exact ⟨1, by simp, by simp; omega⟩
   ·exact ⟨2, by simp, by simp; omega⟩
 | [a, b, c], _ =>
  by_cases c0 : a ≠ 0 ∧ b ≠ 0 ∧ c ≠ 0
  ·exact ⟨0, by simp, by simp; omega⟩
  ·by_cases c1 : a ≠ 1 ∧ b ≠ 1 ∧ c ≠ 1
   ·exact ⟨1, by simp, by simp; omega⟩
   ·by_cases c2 : a ≠ 2 ∧ b ≠ 2 ∧ c ≠ 2
    ·exact ⟨2, by simp, by simp; omega⟩
    ·exact ⟨3, by simp, by simp; omega⟩
 | _ :: _ :: _ :: _ :: _, h => simp at h
theorem own_grow (l : List Int) (h : own_inc l) (n : Nat) (hn : l.length + n = 4) : ∃ l', own_inc l' ∧ (∀ y ∈ l, y ∈ l') ∧ l'.length = 4 := by
 induction n generalizing l with
 | zero => exact ⟨l, h, fun _ q => q, hn⟩
 | succ n ih =>
  obtain ⟨y, hy, hyl⟩ := own_filler l (by omega)
  obtain ⟨l1, a, b, c, d, e⟩ := own_insx y (by omega) l h
  obtain ⟨l2, p, q, r⟩ := ih l1 a (by rcases e with ⟨e, -⟩ | ⟨-, e⟩; exact absurd e hyl; omega)
  exact ⟨l2, p, fun z hz => q z (c z hz), r⟩
theorem own_e1 {P : Prop} {n m : Nat} (h : (P ∧ m = n) ∨ (¬ P ∧ m = n + 1)) : m ≤ n + 1 := by rcases h with ⟨-, h⟩ | ⟨-, h⟩ <;> omega
theorem own_phi (a b s q : Int64) : ∃ (φ : Nat → Int64) (ra rb rs rq : Nat), own_mono φ ∧ (ra < 4 ∧ rb < 4 ∧ rs < 4 ∧ rq < 4) ∧ a = φ ra ∧ b = φ rb ∧ s = φ rs ∧ q = φ rq := by
 have rg : ∀ x : Int64, -9223372036854775808 ≤ x.toInt ∧ x.toInt < 9223372036854775808 := fun x => ⟨Int64.le_toInt x, Int64.toInt_lt x⟩
 obtain ⟨l1, i1, m1, -, -, e1⟩ := own_insx a.toInt (rg a) [] ⟨List.Pairwise.nil, fun _ z => nomatch z⟩
 obtain ⟨l2, i2, m2, c2, -, e2⟩ := own_insx b.toInt (rg b) l1 i1
 obtain ⟨l3, i3, m3, c3, -, e3⟩ := own_insx s.toInt (rg s) l2 i2
 obtain ⟨l4, i4, m4, c4, -, e4⟩ := own_insx q.toInt (rg q) l3 i3
 have le : l4.length ≤ 4 := by
  have z : ([] : List Int).length = 0 := rfl
  have g1 := own_e1 e1
  have g2 := own_e1 e2
  have g3 := own_e1 e3
  have g4 := own_e1 e4
  omega
 obtain ⟨l, ⟨p1, p2⟩, cc, hl⟩ := own_grow l4 i4 (4 - l4.length) (by omega)
 have at_ : ∀ x : Int64, x.toInt ∈ l → ∃ r, r < 4 ∧ x = Int64.ofInt (l.getD r 0) := fun x hx => by
  obtain ⟨r, hr, er⟩ := List.getElem_of_mem hx
  refine ⟨r, by omega, ?_⟩
  rw [List.getD, List.getElem?_eq_getElem hr, Option.getD_some, er, Int64.ofInt_toInt]
 obtain ⟨ra, ya, ea⟩ := at_ a (cc _ (c4 _ (c3 _ (c2 _ m1))))
 obtain ⟨rb, yb, eb⟩ := at_ b (cc _ (c4 _ (c3 _ m2)))
 obtain ⟨rs, ys, es⟩ := at_ s (cc _ (c4 _ m3))
 obtain ⟨rq, yq, eq⟩ := at_ q (cc _ m4)
 refine ⟨fun r => Int64.ofInt (l.getD r 0), ra, rb, rs, rq, fun u v hu hv => ?_, ⟨ya, yb, ys, yq⟩, ea, eb, es, eq⟩
 have t : ∀ (r : Nat) (hr : r < 4), (Int64.ofInt (l.getD r 0)).toInt = l.getD r 0 ∧ l.getD r 0 = l[r]'(by omega) := fun r hr => by
  have h : r < l.length := by omega
  have g : l.getD r 0 = l[r] := by rw [List.getD, List.getElem?_eq_getElem h, Option.getD_some]
  have b := p2 _ (List.getElem_mem h)
  exact ⟨by rw [g]; exact Int64.toInt_ofInt_of_le (by omega) (by omega), g⟩
 rw [Int64.lt_iff_toInt_lt, (t u hu).1, (t v hv).1, (t u hu).2, (t v hv).2]
 have pw := List.pairwise_iff_getElem.mp p1
 constructor
 ·intro h
  rcases Nat.lt_trichotomy u v with c | c | c
  ·exact c
  ·subst c; omega
  ·have := pw v u (by omega) (by omega) c; omega
 ·intro h
  exact pw u v (by omega) (by omega) h
def own_x24 (n : Nat) : Int32 := if (1 : Int32) < own_i n then (1 : Int32) else (0 : Int32)
def own_x25 (n : Nat) (b : Bool) : Int32 := if (1 : Int32) < own_i n then (if own_b2 b = (0 : Int32) then (0 : Int32) else (1 : Int32)) else (0 : Int32)
def own_x26 (n : Nat) (b : Bool) : Int32 := if (1 : Int32) < own_i n then (if own_b2 b = (0 : Int32) then own_i n else (0 : Int32)) else (0 : Int32)
/-- all four answers, by ranks -/
def own_chk (κ0 κ1 κ2 κ3 ra rb rs rq : Nat) : Bool :=
 let s := own_stp κ3 ra rb rs (own_stp κ2 ra rb rs (own_stp κ1 ra rb rs (own_stp κ0 ra rb rs ([], [], [], []))))
 let r := own_rp (own_sort s.2.2.1) (own_sort s.2.2.2) 4 0 0 [] [] [] false
 let n := own_h κ0 ra rb rq + own_h κ1 ra rb rq + own_h κ2 ra rb rq + own_h κ3 ra rb rq
 let ns := own_h κ0 ra rb rs + own_h κ1 ra rb rs + own_h κ2 ra rb rs + own_h κ3 ra rb rs
 let bq := decide (rq = rs) && own_ub κ0 κ1 κ2 κ3 ra rb rq
 decide (own_rpd r.1 rq = own_x24 n) && decide (own_nrw r.1 r.2.1 r.2.2.1 rq = own_x26 n bq) && decide (own_fr r.1 r.2.2.1 rq = own_x25 n bq) && decide (own_b2 r.2.2.2 = own_x25 ns (own_ub κ0 κ1 κ2 κ3 ra rb rs))
def own_all4 (f : Nat → Bool) : Bool := f 0 && f 1 && f 2 && f 3
theorem own_all4e {f : Nat → Bool} (h : own_all4 f = true) {k : Nat} (hk : k < 4) : f k = true := by
 simp only [own_all4, Bool.and_eq_true] at h
 have c : k = 0 ∨ k = 1 ∨ k = 2 ∨ k = 3 := by omega
 rcases c with rfl | rfl | rfl | rfl
 ·exact h.1.1.1
 ·exact h.1.1.2
 ·exact h.1.2
 ·exact h.2
def own_chk4 (κ0 κ1 : Nat) : Bool := own_all4 fun κ2 => own_all4 fun κ3 => own_all4 fun ra => own_all4 fun rb => own_all4 fun rs => own_all4 fun rq => own_chk κ0 κ1 κ2 κ3 ra rb rs rq
theorem own_m00 : own_chk4 0 0 = true := by decide +kernel
theorem own_m01 : own_chk4 0 1 = true := by decide +kernel
theorem own_m02 : own_chk4 0 2 = true := by decide +kernel
theorem own_m03 : own_chk4 0 3 = true := by decide +kernel
theorem own_m10 : own_chk4 1 0 = true := by decide +kernel
theorem own_m11 : own_chk4 1 1 = true := by decide +kernel
theorem own_m12 : own_chk4 1 2 = true := by decide +kernel
theorem own_m13 : own_chk4 1 3 = true := by decide +kernel
theorem own_m20 : own_chk4 2 0 = true := by decide +kernel
theorem own_m21 : own_chk4 2 1 = true := by decide +kernel
theorem own_m22 : own_chk4 2 2 = true := by decide +kernel
theorem own_m23 : own_chk4 2 3 = true := by decide +kernel
theorem own_m30 : own_chk4 3 0 = true := by decide +kernel
theorem own_m31 : own_chk4 3 1 = true := by decide +kernel
theorem own_m32 : own_chk4 3 2 = true := by decide +kernel
theorem own_m33 : own_chk4 3 3 = true := by decide +kernel
theorem own_chkA {κ0 κ1 : Nat} (h0 : κ0 < 4) (h1 : κ1 < 4) : own_chk4 κ0 κ1 = true := by
 have c0 : κ0 = 0 ∨ κ0 = 1 ∨ κ0 = 2 ∨ κ0 = 3 := by omega
 have c1 : κ1 = 0 ∨ κ1 = 1 ∨ κ1 = 2 ∨ κ1 = 3 := by omega
 rcases c0 with rfl | rfl | rfl | rfl <;> rcases c1 with rfl | rfl | rfl | rfl
 ·exact own_m00
 ·exact own_m01
 ·exact own_m02
 ·exact own_m03
 ·exact own_m10
 ·exact own_m11
 ·exact own_m12
 ·exact own_m13
 ·exact own_m20
 ·exact own_m21
 ·exact own_m22
 ·exact own_m23
 ·exact own_m30
 ·exact own_m31
 ·exact own_m32
 ·exact own_m33
theorem own_master {κ0 κ1 κ2 κ3 ra rb rs rq : Nat} (h0 : κ0 < 4) (h1 : κ1 < 4) (h2 : κ2 < 4) (h3 : κ3 < 4) (ha : ra < 4) (hb : rb < 4) (hs : rs < 4) (hq : rq < 4) : own_chk κ0 κ1 κ2 κ3 ra rb rs rq = true :=
 own_all4e (own_all4e (own_all4e (own_all4e (own_all4e (own_all4e (own_chkA h0 h1) h2) h3) ha) hb) hs) hq
theorem own_iad {a b c d : Nat} (ha : a ≤ 1) (hb : b ≤ 1) (hc : c ≤ 1) (hd : d ≤ 1) : (((own_i a + own_i b) + own_i c) + own_i d) = own_i (a + b + c + d) := by
 rw [own_iadd (by omega), own_iadd (by omega), own_iadd (by omega)]
theorem own_k4b {κ : Nat} (h : κ = 0 ∨ κ = 1 ∨ κ = 2 ∨ κ = 3) : κ < 4 := by omega
def own_b0 (b : Bool) : Int32 := if own_b2 b = (0 : Int32) then (0 : Int32) else (1 : Int32)
theorem own_b0e (b : Bool) : own_b0 b = own_b2 b := by cases b <;> rfl
theorem d7_0 : oD k3 0 (.iload_n 0) 1 := by decide +kernel
theorem d7_1 : oD k3 1 (.iload_n 1) 1 := by decide +kernel
theorem d7_2 : oD k3 2 (.if_icmp .gt 7) 3 := by decide +kernel
theorem d7_9 : oD k3 9 (.iload_n 1) 1 := by decide +kernel
theorem d7_10 : oD k3 10 .ireturn 1 := by decide +kernel
theorem d7_5 : oD k3 5 (.iload_n 0) 1 := by decide +kernel
theorem d7_6 : oD k3 6 (.goto 4) 3 := by decide +kernel
theorem ef_rm_min (m : MethodId) (p1 : Int32) (p2 : Int32) : entryFrame m #[(.int p1), (.int p2)] 2 = mkF m 0 #[vI p1, vI p2] [] := by first | (simp [entryFrame, mkF, argsToLocals, Value.category]; done) | rfl
def Q_rm_min (Z : State) (p1 : Int32) (p2 : Int32) (h0 : Heap) (n0 : Nat) (v : Option Value) (h : Heap) (L : List Loc) : Prop := v = some (.int (own_min p1 p2)) ∧ Fr n0 L ∧ h = h0
set_option maxRecDepth 65536 in
set_option maxHeartbeats 40000000 in
theorem rm_min (l : Launch) (Z : State) (a0 : Array Value) (hw : ∀ d ∈ tables_1, d.before a0 Z = true) (ws : List Jvm.Cond) (p1 : Int32) (p2 : Int32) (h0 : Heap) (n0 : Nat) (Z0 : n0 ≤ h0.size) :
  MetFree l (⟨"java/lang/Math", "min", "(II)I"⟩ : MethodName) (head1 (Jvm.Cond.code (⟨"java/lang/Math", "min", "(II)I"⟩ : MethodName) jdk_29_method_69_code 2 (some .int) :: ws) rM0) (fun a U => a = #[(.int p1), (.int p2)] ∧ Z.Warmed39 U.vm ∧ U.heap = h0) (fun _ _ _ _ _ => True) (fun _ U oC U' => ∃ v L, oC = .returned v ∧ Q_rm_min Z p1 p2 h0 n0 v U'.heap L ∧ FrameEnd U oC U' L rM0.cells rM0.slots) := by
 refine MetFree.of_bodySF (Jvm.Free.JP.mathPlain rfl (by decide +kernel)) hisR ?_
 intro p e s m args below meth c s₁ Bd hml0 hP hK
 obtain ⟨rfl, hZ, hh⟩ := hP
 have hx := Bd.exec
 have hby := Bd.bytes
 have hml : c.maxLocals = 2 := hml0
 have hown : s.vm.findClass "java/lang/Math" = some m.cls := findClass_of_methodNamed Bd.named
 have hnm := (name_of_methodNamed Bd.named Bd.method).1
 have X0 : Stand p l e rM0 s m #[(.int p1), (.int p2)] below meth c s₁ [] 0 0 := Stand.of_body Bd
 have e0 : s₁.heap = h0 := by rw [← hh, Bd.state]; rfl
 have N0 := Fr.nil n0
 have pre0 : Sq p e below (s₁.setTop (mkF m 0 #[vI p1, vI p2] [])) (s₁.setTop (entryFrame m #[(.int p1), (.int p2)] 2)) := fun t k => castTop (ef_rm_min m p1 p2) k
 have pre00 : Sq p e below (s₁.setTop (mkF m 0 #[vI p1, vI p2] [])) (s₁.setTop (mkF m 0 #[vI p1, vI p2] [])) := fun _ k => k
 have R1 := fun (tg : State) (kt : Steps p.tables e below (s₁.setTop (mkF m 2 #[vI p1, vI p2] [(.int p2), (.int p1)])) tg) => pre00 tg (by
  show Steps _ _ _ (s₁.setTop (mkF m 0 #[vI p1, vI p2] [])) _
  refine XS.iloadN X0.here hx rfl (hb hby d7_0) rfl ?_
  refine XS.iloadN X0.here hx rfl (hb hby d7_1) rfl ?_
  exact kt)
 by_cases hc : p2 < p1
 ·have R2 := fun (tg : State) (kt : Steps p.tables e below (s₁.setTop (mkF m 10 #[vI p1, vI p2] [(.int p2)])) tg) => R1 tg (by
   show Steps _ _ _ (s₁.setTop (mkF m 2 #[vI p1, vI p2] [(.int p2), (.int p1)])) _
   refine XS.icmpYes X0.here hx rfl (pc0 := 2) (pc' := 9) rfl (hb hby d7_2) rfl (tlt (hc : p2 < p1)).2.2.1 (by decide) (by decide) ?_
   refine XS.iloadN X0.here hx rfl (hb hby d7_9) rfl ?_
   exact kt)
  clear R1
  obtain ⟨fs, hr, hrun, hended, hW, hsame⟩ := X0.leave (v := some (.int p2)) (fun h => by rw [Bd.returns] at h; cases h)
  refine ⟨_, _, pre0 _ (R2 _ ?_), hrun, hended, _, _, rfl, ?_, ⟨_, rfl⟩, hW, hsame.mono (by decide) (by decide)⟩
  ·exact retI X0 hx Bd.returns (hb hby d7_10) hr
  ·show Q_rm_min Z p1 p2 h0 n0 _ s₁.heap _
   rw [e0]
   exact ⟨by simp [own_min, hc], N0, rfl⟩
 ·have R3 := fun (tg : State) (kt : Steps p.tables e below (s₁.setTop (mkF m 10 #[vI p1, vI p2] [(.int p1)])) tg) => R1 tg (by
   show Steps _ _ _ (s₁.setTop (mkF m 2 #[vI p1, vI p2] [(.int p2), (.int p1)])) _
   refine XS.icmpNo X0.here hx rfl (hb hby d7_2) rfl (flt (hc : ¬ (p2 < p1))).2.2.1 ?_
   refine XS.iloadN X0.here hx rfl (hb hby d7_5) rfl ?_
   show Steps _ _ _ (s₁.setTop (mkF m 6 #[vI p1, vI p2] [(.int p1)])) _
   refine XS.goto X0.here hx rfl (pc0 := 6) (pc' := 10) rfl (hb hby d7_6) (by decide) (by decide) ?_
   exact kt)
  clear R1
  obtain ⟨fs, hr, hrun, hended, hW, hsame⟩ := X0.leave (v := some (.int p1)) (fun h => by rw [Bd.returns] at h; cases h)
  refine ⟨_, _, pre0 _ (R3 _ ?_), hrun, hended, _, _, rfl, ?_, ⟨_, rfl⟩, hW, hsame.mono (by decide) (by decide)⟩
  ·exact retI X0 hx Bd.returns (hb hby d7_10) hr
  ·show Q_rm_min Z p1 p2 h0 n0 _ s₁.heap _
   rw [e0]
   exact ⟨by simp [own_min, hc], N0, rfl⟩
theorem pn_0 : plainName "com/example/workaday_tariff/workadaytariff/engine/PeriodCensus$Fingerprints" = true := by first | (simp [plainName, overriddenIn]; done) | decide +kernel
theorem d3_0 : oD k16 0 (.aload_n 0) 1 := by decide +kernel
theorem d3_1 : oD k16 1 (.invokespecial 1) 3 := by decide +kernel
theorem d3_4 : oD k16 4 (.aload_n 0) 1 := by decide +kernel
theorem d3_5 : oD k16 5 (.sipush 1024) 3 := by decide +kernel
theorem d3_8 : oD k16 8 (.newarray .long) 2 := by decide +kernel
theorem d3_10 : oD k16 10 (.putfield 7) 3 := by decide +kernel
theorem d3_13 : oD k16 13 .return_ 1 := by decide +kernel
theorem ef_rm_fpi (m : MethodId) (a1 : Addr) : entryFrame m #[(.ref a1)] 1 = mkF m 0 #[vR a1] [] := by first | (simp [entryFrame, mkF, argsToLocals, Value.category]; done) | rfl
def Q_rm_fpi (Z : State) (a1 : Addr) (φ : Nat → Int64) (h0 : Heap) (n0 : Nat) (v : Option Value) (h : Heap) (L : List Loc) : Prop := ∃ t : Addr, v = none ∧ Fr n0 L ∧ h0.size ≤ t ∧ Keep h0 h [a1] ∧ Exa Z h a1 cF ∧ Fld Z h a1 cF "values" "[J" (.ref t) ∧ Fld Z h a1 cF "size" "I" (.int (own_i (([] : List Nat)).length)) ∧ VG Z h t .long 1024 (fun r => .long (φ r)) 0 ([] : List Nat)
set_option maxRecDepth 65536 in
set_option maxHeartbeats 40000000 in
theorem rm_fpi (l : Launch) (Z : State) (a0 : Array Value) (hw : ∀ d ∈ tables_1, d.before a0 Z = true) (ws : List Jvm.Cond) (a1 : Addr) (φ : Nat → Int64) (h0 : Heap) (n0 : Nat) (Z0 : n0 ≤ h0.size) (E1 : Exa Z h0 a1 cF) (Fv : Fld Z h0 a1 cF "values" "[J" .null) (Fs : Fld Z h0 a1 cF "size" "I" (.int (0 : Int32))) (ga : n0 ≤ a1) :
  MetFree l (⟨cF, "<init>", "()V"⟩ : MethodName) (head1 (Jvm.Cond.code (⟨cF, "<init>", "()V"⟩ : MethodName) prog_42_method_1_code 1 none :: ws) rM5) (fun a U => a = #[(.ref a1)] ∧ Z.Warmed39 U.vm ∧ U.heap = h0) (fun _ _ _ _ _ => True) (fun _ U oC U' => ∃ v L, oC = .returned v ∧ Q_rm_fpi Z a1 φ h0 n0 v U'.heap L ∧ FrameEnd U oC U' L rM5.cells rM5.slots) := by
 refine MetFree.of_bodySF (plainFor_of_name pn_0) hisR ?_
 intro p e s m args below meth c s₁ Bd hml0 hP hK
 obtain ⟨rfl, hZ, hh⟩ := hP
 have hx := Bd.exec
 have hby := Bd.bytes
 have hml : c.maxLocals = 1 := hml0
 have hown : s.vm.findClass cF = some m.cls := findClass_of_methodNamed Bd.named
 have hnm := (name_of_methodNamed Bd.named Bd.method).1
 have X0 : Stand p l e rM5 s m #[(.ref a1)] below meth c s₁ [] 0 0 := Stand.of_body Bd
 have e0 : s₁.heap = h0 := by rw [← hh, Bd.state]; rfl
 have N0 := Fr.nil n0
 have pre0 : Sq p e below (s₁.setTop (mkF m 0 #[vR a1] [])) (s₁.setTop (entryFrame m #[(.ref a1)] 1)) := fun t k => castTop (ef_rm_fpi m a1) k
 have pre00 : Sq p e below (s₁.setTop (mkF m 0 #[vR a1] [])) (s₁.setTop (mkF m 0 #[vR a1] [])) := fun _ k => k
 have R4 := fun (tg : State) (kt : Steps p.tables e below (s₁.setTop (mkF m 1 #[vR a1] [(.ref a1)])) tg) => pre00 tg (by
  show Steps _ _ _ (s₁.setTop (mkF m 0 #[vR a1] [])) _
  refine XS.aloadN X0.here hx rfl (hb hby d3_0) rfl rfl ?_
  exact kt)
 obtain ⟨T5, X5, e5, st5⟩ := initO X0 hx hZ hown (oW hw 21 rfl) (oW hw 7 rfl) (oW hw 8 rfl) e0 (g := (mkF m 1 #[vR a1] [(.ref a1)])) rfl (by rw [hml]; rfl) rfl (hb hby d3_1) (by decide) (W := 0) (by show 2 * 0 + _ ≤ _; exact Nat.le_of_eq rfl) (by decide)
 have R6 := fun (tg : State) (kt : Steps p.tables e below (T5.setTop (mkF m 8 #[vR a1] [(.int (1024 : Int32)), (.ref a1)])) tg) => R4 tg (by
  refine st5 _ ?_
  refine XS.aloadN X5.here hx rfl (hb hby d3_4) rfl rfl ?_
  refine XS.sipush X5.here hx rfl (hb hby d3_5) ?_
  exact kt)
 clear R4 st5
 obtain ⟨T7, h7, k7, X7, e7, E7, A7, st7⟩ := newP X5 hx hZ (oW hw 9 rfl) e5 (g := (mkF m 8 #[vR a1] [(.int (1024 : Int32)), (.ref a1)])) rfl (hb hby d3_8) rfl (by decide) (cap := 1024) (by decide) (by decide) (by decide) (by decide)
 obtain ⟨t, g7⟩ : ∃ z, z = h0.size := ⟨_, rfl⟩
 rw [← g7] at A7 st7
 have g_t : n0 ≤ t := Nat.le_trans Z0 (Nat.le_of_eq g7.symm)
 have sz_t : h0.size ≤ t := Nat.le_trans (Keep.refl h0 [a1]).1 (Nat.le_of_eq g7.symm)
 have ne_a1_t : a1 ≠ t := Nat.ne_of_lt (Nat.lt_of_lt_of_le E1.lt (Nat.le_of_eq g7.symm))
 have E_a1_7 := E1.ext E7
 have Fv_7 := Fv.ext E7
 have Fs_7 := Fs.ext E7
 have Zs7 : n0 ≤ h7.size := Nat.le_trans Z0 E7.1
 have Ke7 : Keep h0 h7 [a1] := Keep.ext (Keep.refl h0 [a1]) E7
 have VA : AV Z h7 t .long 1024 (fun _ => defaultValue .long) := AV.new A7 rfl rfl
 have R8 := fun (tg : State) (kt : Steps p.tables e below (T7.setTop (mkF m 10 #[vR a1] [(.ref t), (.ref a1)])) tg) => R6 tg (by
  refine st7 _ ?_
  exact kt)
 clear R6 st7
 obtain ⟨T9, h9, X9, e9, W9, st9⟩ := putF X7 hx hZ hown (host := "") (Or.inl (oW hw 22 rfl)) Via.refl e7 Fv_7 E_a1_7 (Or.inl (oW hw 23 rfl)) (oW hw 16 rfl) (ty := (.array .long)) (by decide) rfl rfl (g := (mkF m 10 #[vR a1] [(.ref t), (.ref a1)])) rfl rfl (hb hby d3_10)
 have N9 := Fr.snoc X9 N0 ga
 have Fv_9 := Fv_7.same W9
 have E_a1_9 := E_a1_7.wr W9
 have Fs_9 := Fs_7.other W9 (Or.inr (slot_ne (Or.inl (oW hw 43 rfl)) (Or.inl (oW hw 23 rfl)) (by decide) (t := .int) (t' := (.array .long)) (by decide) (by decide)))
 have VA_9 := VA.other W9 (Ne.symm ne_a1_t)
 clear E_a1_7 Fs_7
 have Zs9 : n0 ≤ h9.size := Nat.le_trans Zs7 (Keep.of_wr W9).1
 have Kw9 : Keep h0 h9 [a1] := Keep.wr Ke7 W9 (Or.inl (List.mem_of_getElem? (i := 0) rfl))
 have R10 := fun (tg : State) (kt : Steps p.tables e below (T9.setTop (mkF m 13 #[vR a1] [])) tg) => R8 tg (by
  refine st9 _ ?_
  exact kt)
 clear R8 st9
 obtain ⟨fs, hr, hrun, hended, hW, hsame⟩ := X9.leave (v := none) (fun _ => rfl)
 refine ⟨_, _, pre0 _ (R10 _ ?_), hrun, hended, _, _, rfl, ?_, ⟨_, rfl⟩, hW, hsame.mono (by decide) (by decide)⟩
 ·exact X9.returnOut hx Bd.returns (hb hby d3_13) hr
 ·show Q_rm_fpi Z a1 φ h0 n0 _ T9.heap _
  rw [e9]
  exact ⟨t, rfl, N9, sz_t, Kw9, E_a1_9, Fv_9, Fs_9, VG.new VA_9⟩
theorem pn_1 : plainName "com/example/workaday_tariff/workadaytariff/engine/PeriodCensus" = true := by first | (simp [plainName, overriddenIn]; done) | decide +kernel
theorem d1_0 : oD k11 0 (.aload_n 0) 1 := by decide +kernel
theorem d1_1 : oD k11 1 (.invokespecial 1) 3 := by decide +kernel
theorem d1_4 : oD k11 4 (.aload_n 0) 1 := by decide +kernel
theorem d1_5 : oD k11 5 (.bipush 16) 2 := by decide +kernel
theorem d1_7 : oD k11 7 (.newarray .long) 2 := by decide +kernel
theorem d1_9 : oD k11 9 (.putfield 9) 3 := by decide +kernel
theorem d1_12 : oD k11 12 (.aload_n 0) 1 := by decide +kernel
theorem d1_13 : oD k11 13 (.bipush 16) 2 := by decide +kernel
theorem d1_15 : oD k11 15 (.newarray .boolean) 2 := by decide +kernel
theorem d1_17 : oD k11 17 (.putfield 15) 3 := by decide +kernel
theorem d1_20 : oD k11 20 (.aload_n 0) 1 := by decide +kernel
theorem d1_21 : oD k11 21 (.new 19) 3 := by decide +kernel
theorem d1_24 : oD k11 24 .dup 1 := by decide +kernel
theorem pd_0 : parseMethodDescriptor "()V" = some ⟨[], none⟩ := by decide +kernel
theorem d1_25 : oD k11 25 (.invokespecial 21) 3 := by decide +kernel
theorem d1_28 : oD k11 28 (.putfield 22) 3 := by decide +kernel
theorem d1_31 : oD k11 31 (.aload_n 0) 1 := by decide +kernel
theorem d1_32 : oD k11 32 (.new 19) 3 := by decide +kernel
theorem d1_35 : oD k11 35 .dup 1 := by decide +kernel
theorem d1_36 : oD k11 36 (.invokespecial 21) 3 := by decide +kernel
theorem d1_39 : oD k11 39 (.putfield 26) 3 := by decide +kernel
theorem d1_42 : oD k11 42 .return_ 1 := by decide +kernel
theorem ef_rm_pci (m : MethodId) (a1 : Addr) : entryFrame m #[(.ref a1)] 1 = mkF m 0 #[vR a1] [] := by first | (simp [entryFrame, mkF, argsToLocals, Value.category]; done) | rfl
def Q_rm_pci (Z : State) (a1 : Addr) (φ : Nat → Int64) (h0 : Heap) (n0 : Nat) (v : Option Value) (h : Heap) (L : List Loc) : Prop := ∃ rc lg p1 t1 p2 t2 : Addr, v = none ∧ Fr n0 L ∧ Keep h0 h [a1] ∧ own_nd n0 a1 rc lg p1 t1 p2 t2 ∧ Exa Z h a1 cP ∧ Fld Z h a1 cP "recent" "[J" (.ref rc) ∧ Fld Z h a1 cP "recentLeading" "[Z" (.ref lg) ∧ Fld Z h a1 cP "periods" cD (.ref p1) ∧ Fld Z h a1 cP "followers" cD (.ref p2) ∧ Fld Z h a1 cP "seen" "I" (.int (own_i (([] : List Nat)).length)) ∧ VG Z h rc .long 16 (fun r => .long (φ r)) 0 ([] : List Nat) ∧ VG Z h lg .boolean 16 (fun b => .int (own_b2 b)) false ([] : List Bool) ∧ Exa Z h p1 cF ∧ Fld Z h p1 cF "values" "[J" (.ref t1) ∧ Fld Z h p1 cF "size" "I" (.int (own_i (([] : List Nat)).length)) ∧ VG Z h t1 .long 1024 (fun r => .long (φ r)) 0 ([] : List Nat) ∧ Exa Z h p2 cF ∧ Fld Z h p2 cF "values" "[J" (.ref t2) ∧ Fld Z h p2 cF "size" "I" (.int (own_i (([] : List Nat)).length)) ∧ VG Z h t2 .long 1024 (fun r => .long (φ r)) 0 ([] : List Nat)
set_option maxRecDepth 65536 in
set_option maxHeartbeats 40000000 in
theorem rm_pci (l : Launch) (Z : State) (a0 : Array Value) (hw : ∀ d ∈ tables_1, d.before a0 Z = true) (ws : List Jvm.Cond) (a1 : Addr) (φ : Nat → Int64) (h0 : Heap) (n0 : Nat) (Z0 : n0 ≤ h0.size) (E1 : Exa Z h0 a1 cP) (Fq : Fld Z h0 a1 cP "recent" "[J" .null) (Fl : Fld Z h0 a1 cP "recentLeading" "[Z" .null) (Fp : Fld Z h0 a1 cP "periods" cD .null) (Ff : Fld Z h0 a1 cP "followers" cD .null) (Fn : Fld Z h0 a1 cP "seen" "I" (.int (0 : Int32))) (ga : n0 ≤ a1) :
  MetFree l (⟨cP, "<init>", "()V"⟩ : MethodName) (head1 (Jvm.Cond.code (⟨cP, "<init>", "()V"⟩ : MethodName) prog_41_method_1_code 1 none :: ws) rM10) (fun a U => a = #[(.ref a1)] ∧ Z.Warmed39 U.vm ∧ U.heap = h0) (fun _ _ _ _ _ => True) (fun _ U oC U' => ∃ v L, oC = .returned v ∧ Q_rm_pci Z a1 φ h0 n0 v U'.heap L ∧ FrameEnd U oC U' L rM10.cells rM10.slots) := by
 refine MetFree.of_bodySF (plainFor_of_name pn_1) hisR ?_
 intro p e s m args below meth c s₁ Bd hml0 hP hK
 obtain ⟨rfl, hZ, hh⟩ := hP
 have hx := Bd.exec
 have hby := Bd.bytes
 have hml : c.maxLocals = 1 := hml0
 have hown : s.vm.findClass cP = some m.cls := findClass_of_methodNamed Bd.named
 have hnm := (name_of_methodNamed Bd.named Bd.method).1
 have X0 : Stand p l e rM10 s m #[(.ref a1)] below meth c s₁ [] 0 0 := Stand.of_body Bd
 have e0 : s₁.heap = h0 := by rw [← hh, Bd.state]; rfl
 have N0 := Fr.nil n0
 have pre0 : Sq p e below (s₁.setTop (mkF m 0 #[vR a1] [])) (s₁.setTop (entryFrame m #[(.ref a1)] 1)) := fun t k => castTop (ef_rm_pci m a1) k
 have pre00 : Sq p e below (s₁.setTop (mkF m 0 #[vR a1] [])) (s₁.setTop (mkF m 0 #[vR a1] [])) := fun _ k => k
 have R11 := fun (tg : State) (kt : Steps p.tables e below (s₁.setTop (mkF m 1 #[vR a1] [(.ref a1)])) tg) => pre00 tg (by
  show Steps _ _ _ (s₁.setTop (mkF m 0 #[vR a1] [])) _
  refine XS.aloadN X0.here hx rfl (hb hby d1_0) rfl rfl ?_
  exact kt)
 obtain ⟨T12, X12, e12, st12⟩ := initO X0 hx hZ hown (oW hw 6 rfl) (oW hw 7 rfl) (oW hw 8 rfl) e0 (g := (mkF m 1 #[vR a1] [(.ref a1)])) rfl (by rw [hml]; rfl) rfl (hb hby d1_1) (by decide) (W := 0) (by show 2 * 0 + _ ≤ _; exact Nat.le_of_eq rfl) (by decide)
 have R13 := fun (tg : State) (kt : Steps p.tables e below (T12.setTop (mkF m 7 #[vR a1] [(.int (16 : Int32)), (.ref a1)])) tg) => R11 tg (by
  refine st12 _ ?_
  refine XS.aloadN X12.here hx rfl (hb hby d1_4) rfl rfl ?_
  refine XS.bipush X12.here hx rfl (hb hby d1_5) ?_
  exact kt)
 clear R11 st12
 obtain ⟨T14, h14, k14, X14, e14, E14, A14, st14⟩ := newP X12 hx hZ (oW hw 9 rfl) e12 (g := (mkF m 7 #[vR a1] [(.int (16 : Int32)), (.ref a1)])) rfl (hb hby d1_7) rfl (by decide) (cap := 16) (by decide) (by decide) (by decide) (by decide)
 obtain ⟨rc, g14⟩ : ∃ z, z = h0.size := ⟨_, rfl⟩
 rw [← g14] at A14 st14
 have g_rc : n0 ≤ rc := Nat.le_trans Z0 (Nat.le_of_eq g14.symm)
 have sz_rc : h0.size ≤ rc := Nat.le_trans (Keep.refl h0 [a1]).1 (Nat.le_of_eq g14.symm)
 have ne_a1_rc : a1 ≠ rc := Nat.ne_of_lt (Nat.lt_of_lt_of_le E1.lt (Nat.le_of_eq g14.symm))
 have E_a1_14 := E1.ext E14
 have Fq_14 := Fq.ext E14
 have Fl_14 := Fl.ext E14
 have Fp_14 := Fp.ext E14
 have Ff_14 := Ff.ext E14
 have Fn_14 := Fn.ext E14
 have Zs14 : n0 ≤ h14.size := Nat.le_trans Z0 E14.1
 have Ke14 : Keep h0 h14 [a1] := Keep.ext (Keep.refl h0 [a1]) E14
 have VRa : AV Z h14 rc .long 16 (fun _ => defaultValue .long) := AV.new A14 rfl rfl
 have R15 := fun (tg : State) (kt : Steps p.tables e below (T14.setTop (mkF m 9 #[vR a1] [(.ref rc), (.ref a1)])) tg) => R13 tg (by
  refine st14 _ ?_
  exact kt)
 clear R13 st14
 obtain ⟨T16, h16, X16, e16, W16, st16⟩ := putF X14 hx hZ hown (host := "") (Or.inl (oW hw 10 rfl)) Via.refl e14 Fq_14 E_a1_14 (Or.inr ⟨(oW hw 11 rfl), rfl, hnm⟩) (oW hw 1 rfl) (ty := (.array .long)) (by decide) rfl rfl (g := (mkF m 9 #[vR a1] [(.ref rc), (.ref a1)])) rfl rfl (hb hby d1_9)
 have N16 := Fr.snoc X16 N0 ga
 have Fq_16 := Fq_14.same W16
 have E_a1_16 := E_a1_14.wr W16
 have Fl_16 := Fl_14.other W16 (Or.inr (slot_ne (Or.inr (oW hw 14 rfl)) (Or.inr (oW hw 11 rfl)) (by decide) (t := (.array .boolean)) (t' := (.array .long)) (by decide) (by decide)))
 have Fp_16 := Fp_14.other W16 (Or.inr (slot_ne (Or.inl (oW hw 25 rfl)) (Or.inr (oW hw 11 rfl)) (by decide) (t := (.object cF)) (t' := (.array .long)) (by decide) (by decide)))
 have Ff_16 := Ff_14.other W16 (Or.inr (slot_ne (Or.inl (oW hw 27 rfl)) (Or.inr (oW hw 11 rfl)) (by decide) (t := (.object cF)) (t' := (.array .long)) (by decide) (by decide)))
 have Fn_16 := Fn_14.other W16 (Or.inr (slot_ne (Or.inl (oW hw 45 rfl)) (Or.inr (oW hw 11 rfl)) (by decide) (t := .int) (t' := (.array .long)) (by decide) (by decide)))
 have VRa_16 := VRa.other W16 (Ne.symm ne_a1_rc)
 clear E_a1_14 Fl_14 Fp_14 Ff_14 Fn_14
 have Zs16 : n0 ≤ h16.size := Nat.le_trans Zs14 (Keep.of_wr W16).1
 have Kw16 : Keep h0 h16 [a1] := Keep.wr Ke14 W16 (Or.inl (List.mem_of_getElem? (i := 0) rfl))
 have R17 := fun (tg : State) (kt : Steps p.tables e below (T16.setTop (mkF m 15 #[vR a1] [(.int (16 : Int32)), (.ref a1)])) tg) => R15 tg (by
  refine st16 _ ?_
  refine XS.aloadN X16.here hx rfl (hb hby d1_12) rfl rfl ?_
  show Steps _ _ _ (T16.setTop (mkF m 13 #[vR a1] [(.ref a1)])) _
  refine XS.bipush X16.here hx rfl (hb hby d1_13) ?_
  exact kt)
 clear R15 st16
 obtain ⟨T18, h18, k18, X18, e18, E18, A18, st18⟩ := newP X16 hx hZ (oW hw 12 rfl) e16 (g := (mkF m 15 #[vR a1] [(.int (16 : Int32)), (.ref a1)])) rfl (hb hby d1_15) rfl (by decide) (cap := 16) (by decide) (by decide) (by decide) (by decide)
 obtain ⟨lg, g18⟩ : ∃ z, z = h16.size := ⟨_, rfl⟩
 rw [← g18] at A18 st18
 have g_lg : n0 ≤ lg := Nat.le_trans Zs16 (Nat.le_of_eq g18.symm)
 have sz_lg : h0.size ≤ lg := Nat.le_trans Kw16.1 (Nat.le_of_eq g18.symm)
 have ne_a1_lg : a1 ≠ lg := Nat.ne_of_lt (Nat.lt_of_lt_of_le E_a1_16.lt (Nat.le_of_eq g18.symm))
 have ne_rc_lg : rc ≠ lg := Nat.ne_of_lt (Nat.lt_of_lt_of_le VRa_16.lt (Nat.le_of_eq g18.symm))
 have E_a1_18 := E_a1_16.ext E18
 have Fq_18 := Fq_16.ext E18
 have Fl_18 := Fl_16.ext E18
 have Fp_18 := Fp_16.ext E18
 have Ff_18 := Ff_16.ext E18
 have Fn_18 := Fn_16.ext E18
 have VRa_18 := VRa_16.ext E18
 clear E_a1_16 Fq_16 Fl_16 Fp_16 Ff_16 Fn_16 VRa_16
 have Zs18 : n0 ≤ h18.size := Nat.le_trans Zs16 E18.1
 have Ke18 : Keep h0 h18 [a1] := Keep.ext Kw16 E18
 have VBa : AV Z h18 lg .boolean 16 (fun _ => defaultValue .boolean) := AV.new A18 rfl rfl
 have R19 := fun (tg : State) (kt : Steps p.tables e below (T18.setTop (mkF m 17 #[vR a1] [(.ref lg), (.ref a1)])) tg) => R17 tg (by
  refine st18 _ ?_
  exact kt)
 clear R17 st18
 obtain ⟨T20, h20, X20, e20, W20, st20⟩ := putF X18 hx hZ hown (host := "") (Or.inl (oW hw 13 rfl)) Via.refl e18 Fl_18 E_a1_18 (Or.inr ⟨(oW hw 14 rfl), rfl, hnm⟩) (oW hw 1 rfl) (ty := (.array .boolean)) (by decide) rfl rfl (g := (mkF m 17 #[vR a1] [(.ref lg), (.ref a1)])) rfl rfl (hb hby d1_17)
 have N20 := Fr.snoc X20 N16 ga
 have Fl_20 := Fl_18.same W20
 have E_a1_20 := E_a1_18.wr W20
 have Fq_20 := Fq_18.other W20 (Or.inr (slot_ne (Or.inr (oW hw 11 rfl)) (Or.inr (oW hw 14 rfl)) (by decide) (t := (.array .long)) (t' := (.array .boolean)) (by decide) (by decide)))
 have Fp_20 := Fp_18.other W20 (Or.inr (slot_ne (Or.inl (oW hw 25 rfl)) (Or.inr (oW hw 14 rfl)) (by decide) (t := (.object cF)) (t' := (.array .boolean)) (by decide) (by decide)))
 have Ff_20 := Ff_18.other W20 (Or.inr (slot_ne (Or.inl (oW hw 27 rfl)) (Or.inr (oW hw 14 rfl)) (by decide) (t := (.object cF)) (t' := (.array .boolean)) (by decide) (by decide)))
 have Fn_20 := Fn_18.other W20 (Or.inr (slot_ne (Or.inl (oW hw 45 rfl)) (Or.inr (oW hw 14 rfl)) (by decide) (t := .int) (t' := (.array .boolean)) (by decide) (by decide)))
 have VRa_20 := VRa_18.other W20 (Ne.symm ne_a1_rc)
 have VBa_20 := VBa.other W20 (Ne.symm ne_a1_lg)
 clear E_a1_18 Fq_18 Fp_18 Ff_18 Fn_18 VRa_18
 have Zs20 : n0 ≤ h20.size := Nat.le_trans Zs18 (Keep.of_wr W20).1
 have Kw20 : Keep h0 h20 [a1] := Keep.wr Ke18 W20 (Or.inl (List.mem_of_getElem? (i := 0) rfl))
 have R21 := fun (tg : State) (kt : Steps p.tables e below (T20.setTop (mkF m 21 #[vR a1] [(.ref a1)])) tg) => R19 tg (by
  refine st20 _ ?_
  refine XS.aloadN X20.here hx rfl (hb hby d1_20) rfl rfl ?_
  exact kt)
 clear R19 st20
 obtain ⟨T22, h22, X22, e22, E22, A22, D22, -, st22⟩ := newO X20 hx hZ hown (oW hw 15 rfl) (oW hw 16 rfl) (oW hw 17 rfl) e20 (g := (mkF m 21 #[vR a1] [(.ref a1)])) rfl (hb hby d1_21) (by decide) (by decide)
 obtain ⟨p1, g22⟩ : ∃ z, z = h20.size := ⟨_, rfl⟩
 rw [← g22] at A22 D22 st22
 have E_p1 := A22
 have g_p1 : n0 ≤ p1 := Nat.le_trans Zs20 (Nat.le_of_eq g22.symm)
 have sz_p1 : h0.size ≤ p1 := Nat.le_trans Kw20.1 (Nat.le_of_eq g22.symm)
 have ne_a1_p1 : a1 ≠ p1 := Nat.ne_of_lt (Nat.lt_of_lt_of_le E_a1_20.lt (Nat.le_of_eq g22.symm))
 have ne_rc_p1 : rc ≠ p1 := Nat.ne_of_lt (Nat.lt_of_lt_of_le VRa_20.lt (Nat.le_of_eq g22.symm))
 have ne_lg_p1 : lg ≠ p1 := Nat.ne_of_lt (Nat.lt_of_lt_of_le VBa_20.lt (Nat.le_of_eq g22.symm))
 have E_a1_22 := E_a1_20.ext E22
 have Fq_22 := Fq_20.ext E22
 have Fl_22 := Fl_20.ext E22
 have Fp_22 := Fp_20.ext E22
 have Ff_22 := Ff_20.ext E22
 have Fn_22 := Fn_20.ext E22
 have VRa_22 := VRa_20.ext E22
 have VBa_22 := VBa_20.ext E22
 clear E_a1_20 Fq_20 Fl_20 Fp_20 Ff_20 Fn_20 VRa_20 VBa_20
 have Zs22 : n0 ≤ h22.size := Nat.le_trans Zs20 E22.1
 have Ke22 : Keep h0 h22 [a1] := Keep.ext Kw20 E22
 have Pv : Fld Z h22 p1 cF "values" "[J" .null := D22 (Or.inl (oW hw 23 rfl)) (ty := (.array .long)) (by decide)
 have Ps : Fld Z h22 p1 cF "size" "I" (.int (0 : Int32)) := D22 (Or.inl (oW hw 43 rfl)) (ty := .int) (by decide)
 have R23 := fun (tg : State) (kt : Steps p.tables e below (T22.setTop (mkF m 25 #[vR a1] [(.ref p1), (.ref p1), (.ref a1)])) tg) => R21 tg (by
  refine st22 _ ?_
  refine XS.dup X22.here hx rfl (hb hby d1_24) rfl rfl ?_
  exact kt)
 clear R21 st22
 obtain ⟨_, _, ⟨T24, L24, k24, n24⟩, -, X24, ⟨Lc24, hQ24, l24, y24, z24⟩, st24⟩ := own_specRef X22 hx hZ (y := (⟨cF, "<init>", "()V"⟩ : MethodName)) rfl hown (oW hw 18 rfl) (oW hw 19 rfl) (oW hw 20 rfl) (by decide) (backOf (W := 2) (rm_fpi l Z a0 hw [] p1 φ h22 n0 Zs22 E_p1 Pv Ps g_p1) hZ (oW hw 20 rfl) (oW hw 17 rfl) (by decide) (by decide)) (g := (mkF m 25 #[vR a1] [(.ref p1), (.ref p1), (.ref a1)])) rfl (by rw [hml]; rfl) (a := p1) (argsL := []) (rest := [(.ref p1), (.ref a1)]) (lenOf pd_0 rfl) rfl (by show 2 * 0 + _ ≤ _; exact Nat.le_of_eq rfl) (hb hby d1_25) (fun _ _ => ⟨rfl, e22, (by decide : 3 + 1 ≤ _), (by decide : 34 + 1024 ≤ _)⟩)
 dsimp only [Pt.U, Pt.locs, Pt.cells, Pt.slots] at X24 l24 y24 z24 st24 hQ24
 rw [l24, y24, z24] at X24
 obtain ⟨t1, rfl, N24q, sz_t1, K24, EP, VP, SP, AP⟩ := hQ24
 have N24 := Fr.app N20 N24q
 have g_t1 : n0 ≤ t1 := Nat.le_trans Zs22 sz_t1
 have ne_a1_t1 : a1 ≠ t1 := Nat.ne_of_lt (Nat.lt_of_lt_of_le E_a1_22.lt sz_t1)
 have ne_rc_t1 : rc ≠ t1 := Nat.ne_of_lt (Nat.lt_of_lt_of_le VRa_22.lt sz_t1)
 have ne_lg_t1 : lg ≠ t1 := Nat.ne_of_lt (Nat.lt_of_lt_of_le VBa_22.lt sz_t1)
 have ne_p1_t1 : p1 ≠ t1 := Nat.ne_of_lt (Nat.lt_of_lt_of_le Pv.lt sz_t1)
 have sy_t1 : h0.size ≤ t1 := Nat.le_trans Ke22.1 sz_t1
 have E_a1_25 := E_a1_22.keep K24
 have Fq_25 := Fq_22.keep K24 (own_notin1 ne_a1_p1)
 have Fl_25 := Fl_22.keep K24 (own_notin1 ne_a1_p1)
 have Fp_25 := Fp_22.keep K24 (own_notin1 ne_a1_p1)
 have Ff_25 := Ff_22.keep K24 (own_notin1 ne_a1_p1)
 have Fn_25 := Fn_22.keep K24 (own_notin1 ne_a1_p1)
 have VRa_25 := VRa_22.keep K24 (own_notin1 ne_rc_p1)
 have VBa_25 := VBa_22.keep K24 (own_notin1 ne_lg_p1)
 clear E_a1_22 Fq_22 Fl_22 Fp_22 Ff_22 Fn_22 VRa_22 VBa_22
 have Zs25 : n0 ≤ T24.heap.size := Nat.le_trans Zs22 K24.1
 have Kk25 : Keep h0 T24.heap [a1] := Keep.trans Ke22 K24 (own_trans1 (Or.inr sz_p1))
 have R26 := fun (tg : State) (kt : Steps p.tables e below (T24.setTop (mkF m 28 #[vR a1] [(.ref p1), (.ref a1)])) tg) => R23 tg (by
  refine st24.trans ?_
  exact kt)
 clear R23 st24
 obtain ⟨T27, h27, X27, e27, W27, st27⟩ := putF X24 hx hZ hown (host := "") (Or.inl (oW hw 24 rfl)) Via.refl rfl Fp_25 E_a1_25 (Or.inl (oW hw 25 rfl)) (oW hw 1 rfl) (ty := (.object cF)) (by decide) rfl rfl (g := (mkF m 28 #[vR a1] [(.ref p1), (.ref a1)])) rfl rfl (hb hby d1_28)
 have N27 := Fr.snoc X27 N24 ga
 have Fp_27 := Fp_25.same W27
 have E_a1_27 := E_a1_25.wr W27
 have Fq_27 := Fq_25.other W27 (Or.inr (slot_ne (Or.inr (oW hw 11 rfl)) (Or.inl (oW hw 25 rfl)) (by decide) (t := (.array .long)) (t' := (.object cF)) (by decide) (by decide)))
 have Fl_27 := Fl_25.other W27 (Or.inr (slot_ne (Or.inr (oW hw 14 rfl)) (Or.inl (oW hw 25 rfl)) (by decide) (t := (.array .boolean)) (t' := (.object cF)) (by decide) (by decide)))
 have Ff_27 := Ff_25.other W27 (Or.inr (slot_ne (Or.inl (oW hw 27 rfl)) (Or.inl (oW hw 25 rfl)) (by decide) (t := (.object cF)) (t' := (.object cF)) (by decide) (by decide)))
 have Fn_27 := Fn_25.other W27 (Or.inr (slot_ne (Or.inl (oW hw 45 rfl)) (Or.inl (oW hw 25 rfl)) (by decide) (t := .int) (t' := (.object cF)) (by decide) (by decide)))
 have VRa_27 := VRa_25.other W27 (Ne.symm ne_a1_rc)
 have VBa_27 := VBa_25.other W27 (Ne.symm ne_a1_lg)
 have E_p1_27 := EP.wr W27
 have Pv_27 := VP.other W27 (Or.inl (Ne.symm ne_a1_p1))
 have Ps_27 := SP.other W27 (Or.inl (Ne.symm ne_a1_p1))
 have VP_27 := AP.other W27 (Ne.symm ne_a1_t1)
 clear E_a1_25 Fq_25 Fl_25 Ff_25 Fn_25 VRa_25 VBa_25
 have Zs27 : n0 ≤ h27.size := Nat.le_trans Zs25 (Keep.of_wr W27).1
 have Kw27 : Keep h0 h27 [a1] := Keep.wr Kk25 W27 (Or.inl (List.mem_of_getElem? (i := 0) rfl))
 have R28 := fun (tg : State) (kt : Steps p.tables e below (T27.setTop (mkF m 32 #[vR a1] [(.ref a1)])) tg) => R26 tg (by
  refine st27 _ ?_
  refine XS.aloadN X27.here hx rfl (hb hby d1_31) rfl rfl ?_
  exact kt)
 clear R26 st27
 obtain ⟨T29, h29, X29, e29, E29, A29, D29, -, st29⟩ := newO X27 hx hZ hown (oW hw 15 rfl) (oW hw 16 rfl) (oW hw 17 rfl) e27 (g := (mkF m 32 #[vR a1] [(.ref a1)])) rfl (hb hby d1_32) (by decide) (by decide)
 obtain ⟨p2, g29⟩ : ∃ z, z = h27.size := ⟨_, rfl⟩
 rw [← g29] at A29 D29 st29
 have E_p2 := A29
 have g_p2 : n0 ≤ p2 := Nat.le_trans Zs27 (Nat.le_of_eq g29.symm)
 have sz_p2 : h0.size ≤ p2 := Nat.le_trans Kw27.1 (Nat.le_of_eq g29.symm)
 have ne_a1_p2 : a1 ≠ p2 := Nat.ne_of_lt (Nat.lt_of_lt_of_le E_a1_27.lt (Nat.le_of_eq g29.symm))
 have ne_rc_p2 : rc ≠ p2 := Nat.ne_of_lt (Nat.lt_of_lt_of_le VRa_27.lt (Nat.le_of_eq g29.symm))
 have ne_lg_p2 : lg ≠ p2 := Nat.ne_of_lt (Nat.lt_of_lt_of_le VBa_27.lt (Nat.le_of_eq g29.symm))
 have ne_p1_p2 : p1 ≠ p2 := Nat.ne_of_lt (Nat.lt_of_lt_of_le E_p1_27.lt (Nat.le_of_eq g29.symm))
 have ne_t1_p2 : t1 ≠ p2 := Nat.ne_of_lt (Nat.lt_of_lt_of_le VP_27.lt (Nat.le_of_eq g29.symm))
 have E_a1_29 := E_a1_27.ext E29
 have Fq_29 := Fq_27.ext E29
 have Fl_29 := Fl_27.ext E29
 have Fp_29 := Fp_27.ext E29
 have Ff_29 := Ff_27.ext E29
 have Fn_29 := Fn_27.ext E29
 have VRa_29 := VRa_27.ext E29
 have VBa_29 := VBa_27.ext E29
 have E_p1_29 := E_p1_27.ext E29
 have Pv_29 := Pv_27.ext E29
 have Ps_29 := Ps_27.ext E29
 have VP_29 := VP_27.ext E29
 clear E_a1_27 Fq_27 Fl_27 Fp_27 Ff_27 Fn_27 VRa_27 VBa_27 E_p1_27 Pv_27 Ps_27 VP_27
 have Zs29 : n0 ≤ h29.size := Nat.le_trans Zs27 E29.1
 have Ke29 : Keep h0 h29 [a1] := Keep.ext Kw27 E29
 have Qv : Fld Z h29 p2 cF "values" "[J" .null := D29 (Or.inl (oW hw 23 rfl)) (ty := (.array .long)) (by decide)
 have Qs : Fld Z h29 p2 cF "size" "I" (.int (0 : Int32)) := D29 (Or.inl (oW hw 43 rfl)) (ty := .int) (by decide)
 have R30 := fun (tg : State) (kt : Steps p.tables e below (T29.setTop (mkF m 36 #[vR a1] [(.ref p2), (.ref p2), (.ref a1)])) tg) => R28 tg (by
  refine st29 _ ?_
  show Steps _ _ _ (T29.setTop (mkF m 35 #[vR a1] [(.ref p2), (.ref a1)])) _
  refine XS.dup X29.here hx rfl (hb hby d1_35) rfl rfl ?_
  exact kt)
 clear R28 st29
 obtain ⟨_, _, ⟨T31, L31, k31, n31⟩, -, X31, ⟨Lc31, hQ31, l31, y31, z31⟩, st31⟩ := own_specRef X29 hx hZ (y := (⟨cF, "<init>", "()V"⟩ : MethodName)) rfl hown (oW hw 18 rfl) (oW hw 19 rfl) (oW hw 20 rfl) (by decide) (backOf (W := 2) (rm_fpi l Z a0 hw [] p2 φ h29 n0 Zs29 E_p2 Qv Qs g_p2) hZ (oW hw 20 rfl) (oW hw 17 rfl) (by decide) (by decide)) (g := (mkF m 36 #[vR a1] [(.ref p2), (.ref p2), (.ref a1)])) rfl (by rw [hml]; rfl) (a := p2) (argsL := []) (rest := [(.ref p2), (.ref a1)]) (lenOf pd_0 rfl) rfl (by show 2 * 0 + _ ≤ _; exact Nat.le_of_eq rfl) (hb hby d1_36) (fun _ _ => ⟨rfl, e29, (by decide : 5 + 1 ≤ _), (by decide : 1060 + 1024 ≤ _)⟩)
 dsimp only [Pt.U, Pt.locs, Pt.cells, Pt.slots] at X31 l31 y31 z31 st31 hQ31
 rw [l31, y31, z31] at X31
 obtain ⟨t2, rfl, N31q, sz_t2, K31, EQ, VQ, SQ, AQ⟩ := hQ31
 have N31 := Fr.app N27 N31q
 have g_t2 : n0 ≤ t2 := Nat.le_trans Zs29 sz_t2
 have ne_a1_t2 : a1 ≠ t2 := Nat.ne_of_lt (Nat.lt_of_lt_of_le E_a1_29.lt sz_t2)
 have ne_rc_t2 : rc ≠ t2 := Nat.ne_of_lt (Nat.lt_of_lt_of_le VRa_29.lt sz_t2)
 have ne_lg_t2 : lg ≠ t2 := Nat.ne_of_lt (Nat.lt_of_lt_of_le VBa_29.lt sz_t2)
 have ne_p1_t2 : p1 ≠ t2 := Nat.ne_of_lt (Nat.lt_of_lt_of_le E_p1_29.lt sz_t2)
 have ne_t1_t2 : t1 ≠ t2 := Nat.ne_of_lt (Nat.lt_of_lt_of_le VP_29.lt sz_t2)
 have ne_p2_t2 : p2 ≠ t2 := Nat.ne_of_lt (Nat.lt_of_lt_of_le Qv.lt sz_t2)
 have sy_t2 : h0.size ≤ t2 := Nat.le_trans Ke29.1 sz_t2
 have E_a1_32 := E_a1_29.keep K31
 have Fq_32 := Fq_29.keep K31 (own_notin1 ne_a1_p2)
 have Fl_32 := Fl_29.keep K31 (own_notin1 ne_a1_p2)
 have Fp_32 := Fp_29.keep K31 (own_notin1 ne_a1_p2)
 have Ff_32 := Ff_29.keep K31 (own_notin1 ne_a1_p2)
 have Fn_32 := Fn_29.keep K31 (own_notin1 ne_a1_p2)
 have VRa_32 := VRa_29.keep K31 (own_notin1 ne_rc_p2)
 have VBa_32 := VBa_29.keep K31 (own_notin1 ne_lg_p2)
 have E_p1_32 := E_p1_29.keep K31
 have Pv_32 := Pv_29.keep K31 (own_notin1 ne_p1_p2)
 have Ps_32 := Ps_29.keep K31 (own_notin1 ne_p1_p2)
 have VP_32 := VP_29.keep K31 (own_notin1 ne_t1_p2)
 clear E_a1_29 Fq_29 Fl_29 Fp_29 Ff_29 Fn_29 VRa_29 VBa_29 E_p1_29 Pv_29 Ps_29 VP_29
 have Zs32 : n0 ≤ T31.heap.size := Nat.le_trans Zs29 K31.1
 have Kk32 : Keep h0 T31.heap [a1] := Keep.trans Ke29 K31 (own_trans1 (Or.inr sz_p2))
 have R33 := fun (tg : State) (kt : Steps p.tables e below (T31.setTop (mkF m 39 #[vR a1] [(.ref p2), (.ref a1)])) tg) => R30 tg (by
  refine st31.trans ?_
  exact kt)
 clear R30 st31
 obtain ⟨T34, h34, X34, e34, W34, st34⟩ := putF X31 hx hZ hown (host := "") (Or.inl (oW hw 26 rfl)) Via.refl rfl Ff_32 E_a1_32 (Or.inl (oW hw 27 rfl)) (oW hw 1 rfl) (ty := (.object cF)) (by decide) rfl rfl (g := (mkF m 39 #[vR a1] [(.ref p2), (.ref a1)])) rfl rfl (hb hby d1_39)
 have N34 := Fr.snoc X34 N31 ga
 have Ff_34 := Ff_32.same W34
 have E_a1_34 := E_a1_32.wr W34
 have Fq_34 := Fq_32.other W34 (Or.inr (slot_ne (Or.inr (oW hw 11 rfl)) (Or.inl (oW hw 27 rfl)) (by decide) (t := (.array .long)) (t' := (.object cF)) (by decide) (by decide)))
 have Fl_34 := Fl_32.other W34 (Or.inr (slot_ne (Or.inr (oW hw 14 rfl)) (Or.inl (oW hw 27 rfl)) (by decide) (t := (.array .boolean)) (t' := (.object cF)) (by decide) (by decide)))
 have Fp_34 := Fp_32.other W34 (Or.inr (slot_ne (Or.inl (oW hw 25 rfl)) (Or.inl (oW hw 27 rfl)) (by decide) (t := (.object cF)) (t' := (.object cF)) (by decide) (by decide)))
 have Fn_34 := Fn_32.other W34 (Or.inr (slot_ne (Or.inl (oW hw 45 rfl)) (Or.inl (oW hw 27 rfl)) (by decide) (t := .int) (t' := (.object cF)) (by decide) (by decide)))
 have VRa_34 := VRa_32.other W34 (Ne.symm ne_a1_rc)
 have VBa_34 := VBa_32.other W34 (Ne.symm ne_a1_lg)
 have E_p1_34 := E_p1_32.wr W34
 have Pv_34 := Pv_32.other W34 (Or.inl (Ne.symm ne_a1_p1))
 have Ps_34 := Ps_32.other W34 (Or.inl (Ne.symm ne_a1_p1))
 have VP_34 := VP_32.other W34 (Ne.symm ne_a1_t1)
 have E_p2_34 := EQ.wr W34
 have Qv_34 := VQ.other W34 (Or.inl (Ne.symm ne_a1_p2))
 have Qs_34 := SQ.other W34 (Or.inl (Ne.symm ne_a1_p2))
 have VF_34 := AQ.other W34 (Ne.symm ne_a1_t2)
 clear E_a1_32 Fq_32 Fl_32 Fp_32 Fn_32 VRa_32 VBa_32 E_p1_32 Pv_32 Ps_32 VP_32
 have Zs34 : n0 ≤ h34.size := Nat.le_trans Zs32 (Keep.of_wr W34).1
 have Kw34 : Keep h0 h34 [a1] := Keep.wr Kk32 W34 (Or.inl (List.mem_of_getElem? (i := 0) rfl))
 have R35 := fun (tg : State) (kt : Steps p.tables e below (T34.setTop (mkF m 42 #[vR a1] [])) tg) => R33 tg (by
  refine st34 _ ?_
  exact kt)
 clear R33 st34
 obtain ⟨fs, hr, hrun, hended, hW, hsame⟩ := X34.leave (v := none) (fun _ => rfl)
 refine ⟨_, _, pre0 _ (R35 _ ?_), hrun, hended, _, _, rfl, ?_, ⟨_, rfl⟩, hW, hsame.mono (by decide) (by decide)⟩
 ·exact X34.returnOut hx Bd.returns (hb hby d1_42) hr
 ·show Q_rm_pci Z a1 φ h0 n0 _ T34.heap _
  rw [e34]
  exact ⟨rc, lg, p1, t1, p2, t2, rfl, N34, Kw34, ⟨ne_a1_rc, ne_a1_lg, ne_a1_p1, ne_a1_t1, ne_a1_p2, ne_a1_t2, ne_rc_lg, ne_rc_p1, ne_rc_t1, ne_rc_p2, ne_rc_t2, ne_lg_p1, ne_lg_t1, ne_lg_p2, ne_lg_t2, ne_p1_t1, ne_p1_p2, ne_p1_t2, ne_t1_p2, ne_t1_t2, ne_p2_t2, ga, g_rc, g_lg, g_p1, g_t1, g_p2, g_t2⟩, E_a1_34, Fq_34, Fl_34, Fp_34, Ff_34, Fn_34, (VG.new VRa_34), (VG.new VBa_34), E_p1_34, Pv_34, Ps_34, VP_34, E_p2_34, Qv_34, Qs_34, VF_34⟩
theorem d6_0 : oD k17 0 (.aload_n 0) 1 := by decide +kernel
theorem d6_1 : oD k17 1 (.getfield 13) 3 := by decide +kernel
theorem d6_4 : oD k17 4 (.aload_n 0) 1 := by decide +kernel
theorem d6_5 : oD k17 5 (.getfield 7) 3 := by decide +kernel
theorem d6_8 : oD k17 8 .arraylength 1 := by decide +kernel
theorem d6_9 : oD k17 9 (.if_icmp .ne 20) 3 := by decide +kernel
theorem d6_29 : oD k17 29 (.aload_n 0) 1 := by decide +kernel
theorem d6_30 : oD k17 30 (.getfield 7) 3 := by decide +kernel
theorem d6_33 : oD k17 33 (.aload_n 0) 1 := by decide +kernel
theorem d6_34 : oD k17 34 .dup 1 := by decide +kernel
theorem d6_35 : oD k17 35 (.getfield 13) 3 := by decide +kernel
theorem d6_38 : oD k17 38 .dup_x1 1 := by decide +kernel
theorem d6_39 : oD k17 39 (.iconst 1) 1 := by decide +kernel
theorem d6_40 : oD k17 40 .iadd 1 := by decide +kernel
theorem d6_41 : oD k17 41 (.putfield 13) 3 := by decide +kernel
theorem d6_44 : oD k17 44 (.lload_n 1) 1 := by decide +kernel
theorem d6_45 : oD k17 45 .lastore 1 := by decide +kernel
theorem d6_46 : oD k17 46 .return_ 1 := by decide +kernel
theorem ef_rm_fpa (m : MethodId) (a1 : Addr) (q2 : Int64) : entryFrame m #[(.ref a1), (.long q2)] 3 = mkF m 0 #[vR a1, vJ q2, .second] [] := by first | (simp [entryFrame, mkF, argsToLocals, Value.category]; done) | rfl
def Q_rm_fpa (Z : State) (a1 : Addr) (q2 : Int64) (φ : Nat → Int64) (t : Addr) (ll : List Nat) (r : Nat) (h0 : Heap) (n0 : Nat) (v : Option Value) (h : Heap) (L : List Loc) : Prop := v = none ∧ Fr n0 L ∧ Keep h0 h [a1, t] ∧ Exa Z h a1 cF ∧ Fld Z h a1 cF "values" "[J" (.ref t) ∧ Fld Z h a1 cF "size" "I" (.int (own_i ((ll ++ [r])).length)) ∧ VG Z h t .long 1024 (fun r => .long (φ r)) 0 (ll ++ [r])
set_option maxRecDepth 65536 in
set_option maxHeartbeats 40000000 in
theorem rm_fpa (l : Launch) (Z : State) (a0 : Array Value) (hw : ∀ d ∈ tables_1, d.before a0 Z = true) (ws : List Jvm.Cond) (a1 : Addr) (q2 : Int64) (φ : Nat → Int64) (t : Addr) (ll : List Nat) (r : Nat) (h0 : Heap) (n0 : Nat) (Z0 : n0 ≤ h0.size) (E1 : Exa Z h0 a1 cF) (Fv : Fld Z h0 a1 cF "values" "[J" (.ref t)) (Fs : Fld Z h0 a1 cF "size" "I" (.int (own_i (ll).length))) (VV : VG Z h0 t .long 1024 (fun r => .long (φ r)) 0 ll) (hq : q2 = φ r) (hl : ll.length ≤ 4) (ga : n0 ≤ a1) (gt : n0 ≤ t) (nt : a1 ≠ t) :
  MetFree l (⟨cF, "add", "(J)V"⟩ : MethodName) (head1 (Jvm.Cond.code (⟨cF, "add", "(J)V"⟩ : MethodName) prog_42_method_2_code 3 none :: ws) rM0) (fun a U => a = #[(.ref a1), (.long q2)] ∧ Z.Warmed39 U.vm ∧ U.heap = h0) (fun _ _ _ _ _ => True) (fun _ U oC U' => ∃ v L, oC = .returned v ∧ Q_rm_fpa Z a1 q2 φ t ll r h0 n0 v U'.heap L ∧ FrameEnd U oC U' L rM0.cells rM0.slots) := by
 refine MetFree.of_bodySF (plainFor_of_name pn_0) hisR ?_
 intro p e s m args below meth c s₁ Bd hml0 hP hK
 obtain ⟨rfl, hZ, hh⟩ := hP
 have hx := Bd.exec
 have hby := Bd.bytes
 have hml : c.maxLocals = 3 := hml0
 have hown : s.vm.findClass cF = some m.cls := findClass_of_methodNamed Bd.named
 have hnm := (name_of_methodNamed Bd.named Bd.method).1
 have X0 : Stand p l e rM0 s m #[(.ref a1), (.long q2)] below meth c s₁ [] 0 0 := Stand.of_body Bd
 have e0 : s₁.heap = h0 := by rw [← hh, Bd.state]; rfl
 have N0 := Fr.nil n0
 have pre0 : Sq p e below (s₁.setTop (mkF m 0 #[vR a1, vJ q2, .second] [])) (s₁.setTop (entryFrame m #[(.ref a1), (.long q2)] 3)) := fun t k => castTop (ef_rm_fpa m a1 q2) k
 have pre00 : Sq p e below (s₁.setTop (mkF m 0 #[vR a1, vJ q2, .second] [])) (s₁.setTop (mkF m 0 #[vR a1, vJ q2, .second] [])) := fun _ k => k
 have R36 := fun (tg : State) (kt : Steps p.tables e below (s₁.setTop (mkF m 0 #[vR a1, vJ (φ r), .second] [])) tg) => pre00 tg (by rw [hq]; exact kt)
 obtain ⟨i0, ik⟩ := own_ic (own_4i hl)
 have R37 := fun (tg : State) (kt : Steps p.tables e below (s₁.setTop (mkF m 1 #[vR a1, vJ (φ r), .second] [(.ref a1)])) tg) => R36 tg (by
  show Steps _ _ _ (s₁.setTop (mkF m 0 #[vR a1, vJ (φ r), .second] [])) _
  refine XS.aloadN X0.here hx rfl (hb hby d6_0) rfl rfl ?_
  exact kt)
 clear R36
 obtain ⟨T38, X38, e38, st38⟩ := getF X0 hx hZ hown (host := "") (Or.inl (oW hw 42 rfl)) Via.refl e0 Fs (g := (mkF m 1 #[vR a1, vJ (φ r), .second] [(.ref a1)])) rfl rfl (hb hby d6_1)
 have R39 := fun (tg : State) (kt : Steps p.tables e below (T38.setTop (mkF m 5 #[vR a1, vJ (φ r), .second] [(.ref a1), (.int (own_i ll.length))])) tg) => R37 tg (by
  refine st38 _ ?_
  refine XS.aloadN X38.here hx rfl (hb hby d6_4) rfl rfl ?_
  exact kt)
 clear R37 st38
 obtain ⟨T40, X40, e40, st40⟩ := getF X38 hx hZ hown (host := "") (Or.inl (oW hw 22 rfl)) Via.refl e38 Fv (g := (mkF m 5 #[vR a1, vJ (φ r), .second] [(.ref a1), (.int (own_i ll.length))])) rfl rfl (hb hby d6_5)
 have R41 := fun (tg : State) (kt : Steps p.tables e below (T40.setTop (mkF m 8 #[vR a1, vJ (φ r), .second] [(.ref t), (.int (own_i ll.length))])) tg) => R39 tg (by
  refine st40 _ ?_
  exact kt)
 clear R39 st40
 obtain ⟨cl42, Ar42, ln42⟩ := VV.len
 have R43 := fun (tg : State) (kt : Steps p.tables e below (T40.setTop (mkF m 30 #[vR a1, vJ (φ r), .second] [(.ref a1)])) tg) => R41 tg (by
  show Steps _ _ _ (T40.setTop (mkF m 8 #[vR a1, vJ (φ r), .second] [(.ref t), (.int (own_i ll.length))])) _
  refine X40.arraylength hx (by rw [e40]; exact Ar42.1) (State.isArrayOf_alike hZ.alike Ar42.2.1) (g := (mkF m 8 #[vR a1, vJ (φ r), .second] [(.ref t), (.int (own_i ll.length))])) rfl rfl (hb hby d6_8) _ ?_
  rw [ln42]
  show Steps _ _ _ (T40.setTop (mkF m 9 #[vR a1, vJ (φ r), .second] [(.int (1024 : Int32)), (.int (own_i ll.length))])) _
  refine XS.icmpYes X40.here hx rfl (pc0 := 9) (pc' := 29) rfl (hb hby d6_9) rfl (feq (own_ne1024 hl : ¬ ((own_i ll.length) = (1024 : Int32)))).2 (by decide) (by decide) ?_
  refine XS.aloadN X40.here hx rfl (hb hby d6_29) rfl rfl ?_
  exact kt)
 clear R41
 obtain ⟨T44, X44, e44, st44⟩ := getF X40 hx hZ hown (host := "") (Or.inl (oW hw 22 rfl)) Via.refl e40 Fv (g := (mkF m 30 #[vR a1, vJ (φ r), .second] [(.ref a1)])) rfl rfl (hb hby d6_30)
 have R45 := fun (tg : State) (kt : Steps p.tables e below (T44.setTop (mkF m 35 #[vR a1, vJ (φ r), .second] [(.ref a1), (.ref a1), (.ref t)])) tg) => R43 tg (by
  refine st44 _ ?_
  refine XS.aloadN X44.here hx rfl (hb hby d6_33) rfl rfl ?_
  refine XS.dup X44.here hx rfl (hb hby d6_34) rfl rfl ?_
  exact kt)
 clear R43 st44
 obtain ⟨T46, X46, e46, st46⟩ := getF X44 hx hZ hown (host := "") (Or.inl (oW hw 42 rfl)) Via.refl e44 Fs (g := (mkF m 35 #[vR a1, vJ (φ r), .second] [(.ref a1), (.ref a1), (.ref t)])) rfl rfl (hb hby d6_35)
 have R47 := fun (tg : State) (kt : Steps p.tables e below (T46.setTop (mkF m 41 #[vR a1, vJ (φ r), .second] [(.int ((own_i ll.length) + (1 : Int32))), (.ref a1), (.int (own_i ll.length)), (.ref t)])) tg) => R45 tg (by
  refine st46 _ ?_
  show Steps _ _ _ (T46.setTop (mkF m 38 #[vR a1, vJ (φ r), .second] [(.int (own_i ll.length)), (.ref a1), (.ref t)])) _
  refine XS.dupX1 X46.here hx rfl (hb hby d6_38) rfl rfl rfl ?_
  refine XS.iconst X46.here hx rfl (hb hby d6_39) ?_
  show Steps _ _ _ (T46.setTop (mkF m 40 #[vR a1, vJ (φ r), .second] [(.int (1 : Int32)), (.int (own_i ll.length)), (.ref a1), (.int (own_i ll.length)), (.ref t)])) _
  refine XS.iadd X46.here hx rfl (hb hby d6_40) rfl ?_
  exact kt)
 clear R45 st46
 obtain ⟨T48, h48, X48, e48, W48, st48⟩ := putF X46 hx hZ hown (host := "") (Or.inl (oW hw 42 rfl)) Via.refl e46 Fs E1 (Or.inl (oW hw 43 rfl)) (oW hw 16 rfl) (ty := .int) (by decide) rfl rfl (g := (mkF m 41 #[vR a1, vJ (φ r), .second] [(.int ((own_i ll.length) + (1 : Int32))), (.ref a1), (.int (own_i ll.length)), (.ref t)])) rfl rfl (hb hby d6_41)
 have N48 := Fr.snoc X48 N0 ga
 have Fs_48 := Fs.same W48
 have E_a1_48 := E1.wr W48
 have Fv_48 := Fv.other W48 (Or.inr (slot_ne (Or.inl (oW hw 23 rfl)) (Or.inl (oW hw 43 rfl)) (by decide) (t := (.array .long)) (t' := .int) (by decide) (by decide)))
 have VV_48 := VV.other W48 (Ne.symm nt)
 have Zs48 : n0 ≤ h48.size := Nat.le_trans Z0 (Keep.of_wr W48).1
 have Kw48 : Keep h0 h48 [a1, t] := Keep.wr (Keep.refl h0 [a1, t]) W48 (Or.inl (List.mem_of_getElem? (i := 0) rfl))
 have R49 := fun (tg : State) (kt : Steps p.tables e below (T48.setTop (mkF m 45 #[vR a1, vJ (φ r), .second] [(.long (φ r)), (.int (own_i ll.length)), (.ref t)])) tg) => R47 tg (by
  refine st48 _ ?_
  refine XS.lloadN X48.here hx rfl (hb hby d6_44) rfl ?_
  exact kt)
 clear R47 st48
 obtain ⟨cl50, Ar50, hin50⟩ := VV_48.room (j := (own_i ll.length)) (k := ll.length) i0 ik (own_s1024 hl)
 obtain ⟨T51, h51, X51, e51, W51, st51⟩ := stJ X48 hx hZ e48 Ar50 (j := (own_i ll.length)) hin50 (g := (mkF m 45 #[vR a1, vJ (φ r), .second] [(.long (φ r)), (.int (own_i ll.length)), (.ref t)])) rfl rfl (hb hby d6_45)
 have N51 := Fr.snoc X51 N48 gt
 rw [show ((own_i ll.length) : Int32).toNatClampNeg = ll.length from ik] at W51
 have VV_51 : VG Z h51 t .long 1024 (fun r => .long (φ r)) 0 (ll ++ [r]) := VV_48.push (r := r) W51 (own_s1024 hl) rfl
 have E_a1_51 := E_a1_48.wr W51
 have Fv_51 := Fv_48.other W51 (Or.inl nt)
 have Fs_51 := Fs_48.other W51 (Or.inl nt)
 clear E_a1_48 Fv_48 Fs_48
 have Zs51 : n0 ≤ h51.size := Nat.le_trans Zs48 (Keep.of_wr W51).1
 have Kw51 : Keep h0 h51 [a1, t] := Keep.wr Kw48 W51 (Or.inl (List.mem_of_getElem? (i := 1) rfl))
 have R52 := fun (tg : State) (kt : Steps p.tables e below (T51.setTop (mkF m 46 #[vR a1, vJ (φ r), .second] [])) tg) => R49 tg (by
  refine st51 _ ?_
  exact kt)
 clear R49 st51
 have Fsz : Fld Z h51 a1 cF "size" "I" (.int (own_i ((ll ++ [r])).length)) := by have q := Fs_51; rw [own_lenr (r := r) hl] at q; exact q
 obtain ⟨fs, hr, hrun, hended, hW, hsame⟩ := X51.leave (v := none) (fun _ => rfl)
 refine ⟨_, _, pre0 _ (R52 _ ?_), hrun, hended, _, _, rfl, ?_, ⟨_, rfl⟩, hW, hsame.mono (by decide) (by decide)⟩
 ·exact X51.returnOut hx Bd.returns (hb hby d6_46) hr
 ·show Q_rm_fpa Z a1 q2 φ t ll r h0 n0 _ T51.heap _
  rw [e51]
  exact ⟨rfl, N51, Kw51, E_a1_51, Fv_51, Fsz, VV_51⟩
theorem d8_0 : oD k15 0 (.aload_n 0) 1 := by decide +kernel
theorem d8_1 : oD k15 1 (.getfield 33) 3 := by decide +kernel
theorem d8_4 : oD k15 4 (.aload_n 0) 1 := by decide +kernel
theorem d8_5 : oD k15 5 (.getfield 9) 3 := by decide +kernel
theorem d8_8 : oD k15 8 .arraylength 1 := by decide +kernel
theorem d8_9 : oD k15 9 .irem 1 := by decide +kernel
theorem d8_10 : oD k15 10 (.istore 4) 2 := by decide +kernel
theorem d8_12 : oD k15 12 (.aload_n 0) 1 := by decide +kernel
theorem d8_13 : oD k15 13 (.getfield 9) 3 := by decide +kernel
theorem d8_16 : oD k15 16 (.iload 4) 2 := by decide +kernel
theorem d8_18 : oD k15 18 (.lload_n 1) 1 := by decide +kernel
theorem d8_19 : oD k15 19 .lastore 1 := by decide +kernel
theorem d8_20 : oD k15 20 (.aload_n 0) 1 := by decide +kernel
theorem d8_21 : oD k15 21 (.getfield 15) 3 := by decide +kernel
theorem d8_24 : oD k15 24 (.iload 4) 2 := by decide +kernel
theorem d8_26 : oD k15 26 (.iload_n 3) 1 := by decide +kernel
theorem d8_27 : oD k15 27 .bastore 1 := by decide +kernel
theorem d8_28 : oD k15 28 (.aload_n 0) 1 := by decide +kernel
theorem d8_29 : oD k15 29 .dup 1 := by decide +kernel
theorem d8_30 : oD k15 30 (.getfield 33) 3 := by decide +kernel
theorem d8_33 : oD k15 33 (.iconst 1) 1 := by decide +kernel
theorem d8_34 : oD k15 34 .iadd 1 := by decide +kernel
theorem d8_35 : oD k15 35 (.putfield 33) 3 := by decide +kernel
theorem d8_38 : oD k15 38 .return_ 1 := by decide +kernel
theorem ef_rm_rem (m : MethodId) (a1 : Addr) (q2 : Int64) (p4 : Int32) : entryFrame m #[(.ref a1), (.long q2), (.int p4)] 5 = mkF m 0 #[vR a1, vJ q2, .second, vI p4, .unset] [] := by first | (simp [entryFrame, mkF, argsToLocals, Value.category]; done) | rfl
def Q_rm_rem (Z : State) (a1 : Addr) (q2 : Int64) (p4 : Int32) (φ : Nat → Int64) (rc : Addr) (lg : Addr) (p1 : Addr) (p2 : Addr) (R : List Nat) (B : List Bool) (r : Nat) (bb : Bool) (h0 : Heap) (n0 : Nat) (v : Option Value) (h : Heap) (L : List Loc) : Prop := v = none ∧ Fr n0 L ∧ Keep h0 h [a1, rc, lg] ∧ Exa Z h a1 cP ∧ Fld Z h a1 cP "recent" "[J" (.ref rc) ∧ Fld Z h a1 cP "recentLeading" "[Z" (.ref lg) ∧ Fld Z h a1 cP "periods" cD (.ref p1) ∧ Fld Z h a1 cP "followers" cD (.ref p2) ∧ Fld Z h a1 cP "seen" "I" (.int (own_i ((R ++ [r])).length)) ∧ VG Z h rc .long 16 (fun r => .long (φ r)) 0 (R ++ [r]) ∧ VG Z h lg .boolean 16 (fun b => .int (own_b2 b)) false (B ++ [bb])
set_option maxRecDepth 65536 in
set_option maxHeartbeats 40000000 in
theorem rm_rem (l : Launch) (Z : State) (a0 : Array Value) (hw : ∀ d ∈ tables_1, d.before a0 Z = true) (ws : List Jvm.Cond) (a1 : Addr) (q2 : Int64) (p4 : Int32) (φ : Nat → Int64) (rc : Addr) (lg : Addr) (p1 : Addr) (p2 : Addr) (R : List Nat) (B : List Bool) (r : Nat) (bb : Bool) (h0 : Heap) (n0 : Nat) (Z0 : n0 ≤ h0.size) (Ea : Exa Z h0 a1 cP) (Fq : Fld Z h0 a1 cP "recent" "[J" (.ref rc)) (Fl : Fld Z h0 a1 cP "recentLeading" "[Z" (.ref lg)) (Fp : Fld Z h0 a1 cP "periods" cD (.ref p1)) (Ff : Fld Z h0 a1 cP "followers" cD (.ref p2)) (Fn : Fld Z h0 a1 cP "seen" "I" (.int (own_i (R).length))) (VR : VG Z h0 rc .long 16 (fun r => .long (φ r)) 0 R) (VB : VG Z h0 lg .boolean 16 (fun b => .int (own_b2 b)) false B) (hq : q2 = φ r) (hbb : p4 = own_b2 bb) (hR : R.length ≤ 3) (hB : B.length = R.length) (ga : n0 ≤ a1) (grc : n0 ≤ rc) (glg : n0 ≤ lg) (n1 : a1 ≠ rc) (n2 : a1 ≠ lg) (n3 : rc ≠ lg) :
  MetFree l (⟨cP, "remember", "(JZ)V"⟩ : MethodName) (head1 (Jvm.Cond.code (⟨cP, "remember", "(JZ)V"⟩ : MethodName) prog_41_method_5_code 5 none :: ws) rM0) (fun a U => a = #[(.ref a1), (.long q2), (.int p4)] ∧ Z.Warmed39 U.vm ∧ U.heap = h0) (fun _ _ _ _ _ => True) (fun _ U oC U' => ∃ v L, oC = .returned v ∧ Q_rm_rem Z a1 q2 p4 φ rc lg p1 p2 R B r bb h0 n0 v U'.heap L ∧ FrameEnd U oC U' L rM0.cells rM0.slots) := by
 refine MetFree.of_bodySF (plainFor_of_name pn_1) hisR ?_
 intro p e s m args below meth c s₁ Bd hml0 hP hK
 obtain ⟨rfl, hZ, hh⟩ := hP
 have hx := Bd.exec
 have hby := Bd.bytes
 have hml : c.maxLocals = 5 := hml0
 have hown : s.vm.findClass cP = some m.cls := findClass_of_methodNamed Bd.named
 have hnm := (name_of_methodNamed Bd.named Bd.method).1
 have X0 : Stand p l e rM0 s m #[(.ref a1), (.long q2), (.int p4)] below meth c s₁ [] 0 0 := Stand.of_body Bd
 have e0 : s₁.heap = h0 := by rw [← hh, Bd.state]; rfl
 have N0 := Fr.nil n0
 have pre0 : Sq p e below (s₁.setTop (mkF m 0 #[vR a1, vJ q2, .second, vI p4, .unset] [])) (s₁.setTop (entryFrame m #[(.ref a1), (.long q2), (.int p4)] 5)) := fun t k => castTop (ef_rm_rem m a1 q2 p4) k
 have pre00 : Sq p e below (s₁.setTop (mkF m 0 #[vR a1, vJ q2, .second, vI p4, .unset] [])) (s₁.setTop (mkF m 0 #[vR a1, vJ q2, .second, vI p4, .unset] [])) := fun _ k => k
 obtain ⟨i0, ik⟩ := own_ic (own_3i hR)
 have R53 := fun (tg : State) (kt : Steps p.tables e below (s₁.setTop (mkF m 0 #[vR a1, vJ (φ r), .second, vI (own_b2 bb), .unset] [])) tg) => pre00 tg (by rw [hq, hbb]; exact kt)
 have R54 := fun (tg : State) (kt : Steps p.tables e below (s₁.setTop (mkF m 1 #[vR a1, vJ (φ r), .second, vI (own_b2 bb), .unset] [(.ref a1)])) tg) => R53 tg (by
  show Steps _ _ _ (s₁.setTop (mkF m 0 #[vR a1, vJ (φ r), .second, vI (own_b2 bb), .unset] [])) _
  refine XS.aloadN X0.here hx rfl (hb hby d8_0) rfl rfl ?_
  exact kt)
 clear R53
 obtain ⟨T55, X55, e55, st55⟩ := getF X0 hx hZ hown (host := "") (Or.inl (oW hw 44 rfl)) Via.refl e0 Fn (g := (mkF m 1 #[vR a1, vJ (φ r), .second, vI (own_b2 bb), .unset] [(.ref a1)])) rfl rfl (hb hby d8_1)
 have R56 := fun (tg : State) (kt : Steps p.tables e below (T55.setTop (mkF m 5 #[vR a1, vJ (φ r), .second, vI (own_b2 bb), .unset] [(.ref a1), (.int (own_i R.length))])) tg) => R54 tg (by
  refine st55 _ ?_
  refine XS.aloadN X55.here hx rfl (hb hby d8_4) rfl rfl ?_
  exact kt)
 clear R54 st55
 obtain ⟨T57, X57, e57, st57⟩ := getF X55 hx hZ hown (host := "") (Or.inl (oW hw 10 rfl)) Via.refl e55 Fq (g := (mkF m 5 #[vR a1, vJ (φ r), .second, vI (own_b2 bb), .unset] [(.ref a1), (.int (own_i R.length))])) rfl rfl (hb hby d8_5)
 have R58 := fun (tg : State) (kt : Steps p.tables e below (T57.setTop (mkF m 8 #[vR a1, vJ (φ r), .second, vI (own_b2 bb), .unset] [(.ref rc), (.int (own_i R.length))])) tg) => R56 tg (by
  refine st57 _ ?_
  exact kt)
 clear R56 st57
 obtain ⟨cl59, Ar59, ln59⟩ := VR.len
 have R60 := fun (tg : State) (kt : Steps p.tables e below (T57.setTop (mkF m 10 #[vR a1, vJ (φ r), .second, vI (own_b2 bb), .unset] [(.int ((own_i R.length) - ((own_i R.length) / (16 : Int32)) * (16 : Int32)))])) tg) => R58 tg (by
  show Steps _ _ _ (T57.setTop (mkF m 8 #[vR a1, vJ (φ r), .second, vI (own_b2 bb), .unset] [(.ref rc), (.int (own_i R.length))])) _
  refine X57.arraylength hx (by rw [e57]; exact Ar59.1) (State.isArrayOf_alike hZ.alike Ar59.2.1) (g := (mkF m 8 #[vR a1, vJ (φ r), .second, vI (own_b2 bb), .unset] [(.ref rc), (.int (own_i R.length))])) rfl rfl (hb hby d8_8) _ ?_
  rw [ln59]
  show Steps _ _ _ (T57.setTop (mkF m 9 #[vR a1, vJ (φ r), .second, vI (own_b2 bb), .unset] [(.int (16 : Int32)), (.int (own_i R.length))])) _
  refine XS.irem X57.here hx rfl (hb hby d8_9) rfl (by decide) ?_
  exact kt)
 clear R58
 have R61 := fun (tg : State) (kt : Steps p.tables e below (T57.setTop (mkF m 10 #[vR a1, vJ (φ r), .second, vI (own_b2 bb), .unset] [(.int (own_i R.length))])) tg) => R60 tg (by rw [own_rem16 hR]; exact kt)
 clear R60
 have R62 := fun (tg : State) (kt : Steps p.tables e below (T57.setTop (mkF m 13 #[vR a1, vJ (φ r), .second, vI (own_b2 bb), vI (own_i R.length)] [(.ref a1)])) tg) => R61 tg (by
  show Steps _ _ _ (T57.setTop (mkF m 10 #[vR a1, vJ (φ r), .second, vI (own_b2 bb), .unset] [(.int (own_i R.length))])) _
  refine XS.istore X57.here hx rfl (hb hby d8_10) rfl (l' := #[vR a1, vJ (φ r), .second, vI (own_b2 bb), vI (own_i R.length)]) rfl ?_
  refine XS.aloadN X57.here hx rfl (hb hby d8_12) rfl rfl ?_
  exact kt)
 clear R61
 obtain ⟨T63, X63, e63, st63⟩ := getF X57 hx hZ hown (host := "") (Or.inl (oW hw 10 rfl)) Via.refl e57 Fq (g := (mkF m 13 #[vR a1, vJ (φ r), .second, vI (own_b2 bb), vI (own_i R.length)] [(.ref a1)])) rfl rfl (hb hby d8_13)
 have R64 := fun (tg : State) (kt : Steps p.tables e below (T63.setTop (mkF m 19 #[vR a1, vJ (φ r), .second, vI (own_b2 bb), vI (own_i R.length)] [(.long (φ r)), (.int (own_i R.length)), (.ref rc)])) tg) => R62 tg (by
  refine st63 _ ?_
  refine XS.iload X63.here hx rfl (hb hby d8_16) rfl ?_
  refine XS.lloadN X63.here hx rfl (hb hby d8_18) rfl ?_
  exact kt)
 clear R62 st63
 obtain ⟨cl65, Ar65, hin65⟩ := VR.room (j := (own_i R.length)) (k := R.length) i0 ik (own_s16 (own_34 hR))
 obtain ⟨T66, h66, X66, e66, W66, st66⟩ := stJ X63 hx hZ e63 Ar65 (j := (own_i R.length)) hin65 (g := (mkF m 19 #[vR a1, vJ (φ r), .second, vI (own_b2 bb), vI (own_i R.length)] [(.long (φ r)), (.int (own_i R.length)), (.ref rc)])) rfl rfl (hb hby d8_19)
 have N66 := Fr.snoc X66 N0 grc
 rw [show ((own_i R.length) : Int32).toNatClampNeg = R.length from ik] at W66
 have VR_66 : VG Z h66 rc .long 16 (fun r => .long (φ r)) 0 (R ++ [r]) := VR.push (r := r) W66 (own_s16 (own_34 hR)) rfl
 have E_a1_66 := Ea.wr W66
 have Fq_66 := Fq.other W66 (Or.inl n1)
 have Fl_66 := Fl.other W66 (Or.inl n1)
 have Fp_66 := Fp.other W66 (Or.inl n1)
 have Ff_66 := Ff.other W66 (Or.inl n1)
 have Fn_66 := Fn.other W66 (Or.inl n1)
 have VB_66 := VB.other W66 (Ne.symm n3)
 have Zs66 : n0 ≤ h66.size := Nat.le_trans Z0 (Keep.of_wr W66).1
 have Kw66 : Keep h0 h66 [a1, rc, lg] := Keep.wr (Keep.refl h0 [a1, rc, lg]) W66 (Or.inl (List.mem_of_getElem? (i := 1) rfl))
 have R67 := fun (tg : State) (kt : Steps p.tables e below (T66.setTop (mkF m 21 #[vR a1, vJ (φ r), .second, vI (own_b2 bb), vI (own_i R.length)] [(.ref a1)])) tg) => R64 tg (by
  refine st66 _ ?_
  show Steps _ _ _ (T66.setTop (mkF m 20 #[vR a1, vJ (φ r), .second, vI (own_b2 bb), vI (own_i R.length)] [])) _
  refine XS.aloadN X66.here hx rfl (hb hby d8_20) rfl rfl ?_
  exact kt)
 clear R64 st66
 obtain ⟨T68, X68, e68, st68⟩ := getF X66 hx hZ hown (host := "") (Or.inl (oW hw 13 rfl)) Via.refl e66 Fl_66 (g := (mkF m 21 #[vR a1, vJ (φ r), .second, vI (own_b2 bb), vI (own_i R.length)] [(.ref a1)])) rfl rfl (hb hby d8_21)
 have R69 := fun (tg : State) (kt : Steps p.tables e below (T68.setTop (mkF m 27 #[vR a1, vJ (φ r), .second, vI (own_b2 bb), vI (own_i R.length)] [(.int (own_b2 bb)), (.int (own_i R.length)), (.ref lg)])) tg) => R67 tg (by
  refine st68 _ ?_
  refine XS.iload X68.here hx rfl (hb hby d8_24) rfl ?_
  refine XS.iloadN X68.here hx rfl (hb hby d8_26) rfl ?_
  exact kt)
 clear R67 st68
 have ikB : (own_i R.length).toNatClampNeg = B.length := ik.trans hB.symm
 have h16 : B.length < 16 := by rw [hB]; exact own_s16 (own_34 hR)
 obtain ⟨cl70, Ar70, hin70⟩ := VB_66.room (j := (own_i R.length)) (k := B.length) i0 ikB h16
 obtain ⟨T71, h71, X71, e71, W71, st71⟩ := stZ X68 hx hZ e68 Ar70 (j := (own_i R.length)) hin70 (g := (mkF m 27 #[vR a1, vJ (φ r), .second, vI (own_b2 bb), vI (own_i R.length)] [(.int (own_b2 bb)), (.int (own_i R.length)), (.ref lg)])) rfl rfl (hb hby d8_27)
 have N71 := Fr.snoc X71 N66 glg
 rw [show ((own_i R.length) : Int32).toNatClampNeg = B.length from ikB] at W71
 rw [(own_b2n bb).1] at W71
 have VB_71 : VG Z h71 lg .boolean 16 (fun b => .int (own_b2 b)) false (B ++ [bb]) := VB_66.push (r := bb) W71 h16 (own_b2n bb).2
 have E_a1_71 := E_a1_66.wr W71
 have Fq_71 := Fq_66.other W71 (Or.inl n2)
 have Fl_71 := Fl_66.other W71 (Or.inl n2)
 have Fp_71 := Fp_66.other W71 (Or.inl n2)
 have Ff_71 := Ff_66.other W71 (Or.inl n2)
 have Fn_71 := Fn_66.other W71 (Or.inl n2)
 have VR_71 := VR_66.other W71 n3
 clear E_a1_66 Fq_66 Fl_66 Fp_66 Ff_66 Fn_66 VR_66
 have Zs71 : n0 ≤ h71.size := Nat.le_trans Zs66 (Keep.of_wr W71).1
 have Kw71 : Keep h0 h71 [a1, rc, lg] := Keep.wr Kw66 W71 (Or.inl (List.mem_of_getElem? (i := 2) rfl))
 have R72 := fun (tg : State) (kt : Steps p.tables e below (T71.setTop (mkF m 30 #[vR a1, vJ (φ r), .second, vI (own_b2 bb), vI (own_i R.length)] [(.ref a1), (.ref a1)])) tg) => R69 tg (by
  refine st71 _ ?_
  refine XS.aloadN X71.here hx rfl (hb hby d8_28) rfl rfl ?_
  show Steps _ _ _ (T71.setTop (mkF m 29 #[vR a1, vJ (φ r), .second, vI (own_b2 bb), vI (own_i R.length)] [(.ref a1)])) _
  refine XS.dup X71.here hx rfl (hb hby d8_29) rfl rfl ?_
  exact kt)
 clear R69 st71
 obtain ⟨T73, X73, e73, st73⟩ := getF X71 hx hZ hown (host := "") (Or.inl (oW hw 44 rfl)) Via.refl e71 Fn_71 (g := (mkF m 30 #[vR a1, vJ (φ r), .second, vI (own_b2 bb), vI (own_i R.length)] [(.ref a1), (.ref a1)])) rfl rfl (hb hby d8_30)
 have R74 := fun (tg : State) (kt : Steps p.tables e below (T73.setTop (mkF m 35 #[vR a1, vJ (φ r), .second, vI (own_b2 bb), vI (own_i R.length)] [(.int ((own_i R.length) + (1 : Int32))), (.ref a1)])) tg) => R72 tg (by
  refine st73 _ ?_
  refine XS.iconst X73.here hx rfl (hb hby d8_33) ?_
  show Steps _ _ _ (T73.setTop (mkF m 34 #[vR a1, vJ (φ r), .second, vI (own_b2 bb), vI (own_i R.length)] [(.int (1 : Int32)), (.int (own_i R.length)), (.ref a1)])) _
  refine XS.iadd X73.here hx rfl (hb hby d8_34) rfl ?_
  exact kt)
 clear R72 st73
 obtain ⟨T75, h75, X75, e75, W75, st75⟩ := putF X73 hx hZ hown (host := "") (Or.inl (oW hw 44 rfl)) Via.refl e73 Fn_71 E_a1_71 (Or.inl (oW hw 45 rfl)) (oW hw 1 rfl) (ty := .int) (by decide) rfl rfl (g := (mkF m 35 #[vR a1, vJ (φ r), .second, vI (own_b2 bb), vI (own_i R.length)] [(.int ((own_i R.length) + (1 : Int32))), (.ref a1)])) rfl rfl (hb hby d8_35)
 have N75 := Fr.snoc X75 N71 ga
 have Fn_75 := Fn_71.same W75
 have E_a1_75 := E_a1_71.wr W75
 have Fq_75 := Fq_71.other W75 (Or.inr (slot_ne (Or.inr (oW hw 11 rfl)) (Or.inl (oW hw 45 rfl)) (by decide) (t := (.array .long)) (t' := .int) (by decide) (by decide)))
 have Fl_75 := Fl_71.other W75 (Or.inr (slot_ne (Or.inr (oW hw 14 rfl)) (Or.inl (oW hw 45 rfl)) (by decide) (t := (.array .boolean)) (t' := .int) (by decide) (by decide)))
 have Fp_75 := Fp_71.other W75 (Or.inr (slot_ne (Or.inl (oW hw 25 rfl)) (Or.inl (oW hw 45 rfl)) (by decide) (t := (.object cF)) (t' := .int) (by decide) (by decide)))
 have Ff_75 := Ff_71.other W75 (Or.inr (slot_ne (Or.inl (oW hw 27 rfl)) (Or.inl (oW hw 45 rfl)) (by decide) (t := (.object cF)) (t' := .int) (by decide) (by decide)))
 have VR_75 := VR_71.other W75 (Ne.symm n1)
 have VB_75 := VB_71.other W75 (Ne.symm n2)
 clear E_a1_71 Fq_71 Fl_71 Fp_71 Ff_71 VR_71 VB_71
 have Zs75 : n0 ≤ h75.size := Nat.le_trans Zs71 (Keep.of_wr W75).1
 have Kw75 : Keep h0 h75 [a1, rc, lg] := Keep.wr Kw71 W75 (Or.inl (List.mem_of_getElem? (i := 0) rfl))
 have R76 := fun (tg : State) (kt : Steps p.tables e below (T75.setTop (mkF m 38 #[vR a1, vJ (φ r), .second, vI (own_b2 bb), vI (own_i R.length)] [])) tg) => R74 tg (by
  refine st75 _ ?_
  exact kt)
 clear R74 st75
 have Fnz : Fld Z h75 a1 cP "seen" "I" (.int (own_i ((R ++ [r])).length)) := by have q := Fn_75; rw [own_lenr (r := r) (own_34 hR)] at q; exact q
 obtain ⟨fs, hr, hrun, hended, hW, hsame⟩ := X75.leave (v := none) (fun _ => rfl)
 refine ⟨_, _, pre0 _ (R76 _ ?_), hrun, hended, _, _, rfl, ?_, ⟨_, rfl⟩, hW, hsame.mono (by decide) (by decide)⟩
 ·exact X75.returnOut hx Bd.returns (hb hby d8_38) hr
 ·show Q_rm_rem Z a1 q2 p4 φ rc lg p1 p2 R B r bb h0 n0 _ T75.heap _
  rw [e75]
  exact ⟨rfl, N75, Kw75, E_a1_75, Fq_75, Fl_75, Fp_75, Ff_75, Fnz, VR_75, VB_75⟩
theorem d29_0 : oD k13 0 (.aload_n 0) 1 := by decide +kernel
theorem d29_1 : oD k13 1 (.ldc2_w 49) 3 := by decide +kernel
theorem d29_4 : oD k13 4 (.iconst 0) 1 := by decide +kernel
theorem pd_1 : parseMethodDescriptor "(JZ)V" = some ⟨[.long, .boolean], none⟩ := by decide +kernel
theorem d29_5 : oD k13 5 (.invokevirtual 43) 3 := by decide +kernel
theorem d29_8 : oD k13 8 .return_ 1 := by decide +kernel
theorem ef_rm_una (m : MethodId) (a1 : Addr) : entryFrame m #[(.ref a1)] 1 = mkF m 0 #[vR a1] [] := by first | (simp [entryFrame, mkF, argsToLocals, Value.category]; done) | rfl
def Q_rm_una (Z : State) (a1 : Addr) (φ : Nat → Int64) (rc : Addr) (lg : Addr) (p1 : Addr) (p2 : Addr) (R : List Nat) (B : List Bool) (r : Nat) (h0 : Heap) (n0 : Nat) (v : Option Value) (h : Heap) (L : List Loc) : Prop := v = none ∧ Fr n0 L ∧ Keep h0 h [a1, rc, lg] ∧ Exa Z h a1 cP ∧ Fld Z h a1 cP "recent" "[J" (.ref rc) ∧ Fld Z h a1 cP "recentLeading" "[Z" (.ref lg) ∧ Fld Z h a1 cP "periods" cD (.ref p1) ∧ Fld Z h a1 cP "followers" cD (.ref p2) ∧ Fld Z h a1 cP "seen" "I" (.int (own_i ((R ++ [r])).length)) ∧ VG Z h rc .long 16 (fun r => .long (φ r)) 0 (R ++ [r]) ∧ VG Z h lg .boolean 16 (fun b => .int (own_b2 b)) false (B ++ [false])
set_option maxRecDepth 65536 in
set_option maxHeartbeats 40000000 in
theorem rm_una (l : Launch) (Z : State) (a0 : Array Value) (hw : ∀ d ∈ tables_1, d.before a0 Z = true) (ws : List Jvm.Cond) (a1 : Addr) (φ : Nat → Int64) (rc : Addr) (lg : Addr) (p1 : Addr) (p2 : Addr) (R : List Nat) (B : List Bool) (r : Nat) (h0 : Heap) (n0 : Nat) (Z0 : n0 ≤ h0.size) (Ea : Exa Z h0 a1 cP) (Fq : Fld Z h0 a1 cP "recent" "[J" (.ref rc)) (Fl : Fld Z h0 a1 cP "recentLeading" "[Z" (.ref lg)) (Fp : Fld Z h0 a1 cP "periods" cD (.ref p1)) (Ff : Fld Z h0 a1 cP "followers" cD (.ref p2)) (Fn : Fld Z h0 a1 cP "seen" "I" (.int (own_i (R).length))) (VR : VG Z h0 rc .long 16 (fun r => .long (φ r)) 0 R) (VB : VG Z h0 lg .boolean 16 (fun b => .int (own_b2 b)) false B) (hq : φ r = (-3750763034362895579 : Int64)) (hR : R.length ≤ 3) (hB : B.length = R.length) (ga : n0 ≤ a1) (grc : n0 ≤ rc) (glg : n0 ≤ lg) (n1 : a1 ≠ rc) (n2 : a1 ≠ lg) (n3 : rc ≠ lg) :
  MetFree l (⟨cP, "addUnnamed", "()V"⟩ : MethodName) (head1 (Jvm.Cond.code (⟨cP, "addUnnamed", "()V"⟩ : MethodName) prog_41_method_3_code 1 none :: ws) rM1) (fun a U => a = #[(.ref a1)] ∧ Z.Warmed39 U.vm ∧ U.heap = h0) (fun _ _ _ _ _ => True) (fun _ U oC U' => ∃ v L, oC = .returned v ∧ Q_rm_una Z a1 φ rc lg p1 p2 R B r h0 n0 v U'.heap L ∧ FrameEnd U oC U' L rM1.cells rM1.slots) := by
 refine MetFree.of_bodySF (plainFor_of_name pn_1) hisR ?_
 intro p e s m args below meth c s₁ Bd hml0 hP hK
 obtain ⟨rfl, hZ, hh⟩ := hP
 have hx := Bd.exec
 have hby := Bd.bytes
 have hml : c.maxLocals = 1 := hml0
 have hown : s.vm.findClass cP = some m.cls := findClass_of_methodNamed Bd.named
 have hnm := (name_of_methodNamed Bd.named Bd.method).1
 have X0 : Stand p l e rM1 s m #[(.ref a1)] below meth c s₁ [] 0 0 := Stand.of_body Bd
 have e0 : s₁.heap = h0 := by rw [← hh, Bd.state]; rfl
 have N0 := Fr.nil n0
 have pre0 : Sq p e below (s₁.setTop (mkF m 0 #[vR a1] [])) (s₁.setTop (entryFrame m #[(.ref a1)] 1)) := fun t k => castTop (ef_rm_una m a1) k
 have pre00 : Sq p e below (s₁.setTop (mkF m 0 #[vR a1] [])) (s₁.setTop (mkF m 0 #[vR a1] [])) := fun _ k => k
 have R77 := fun (tg : State) (kt : Steps p.tables e below (s₁.setTop (mkF m 5 #[vR a1] [(.int (0 : Int32)), (.long (-3750763034362895579 : Int64)), (.ref a1)])) tg) => pre00 tg (by
  show Steps _ _ _ (s₁.setTop (mkF m 0 #[vR a1] [])) _
  refine XS.aloadN X0.here hx rfl (hb hby d29_0) rfl rfl ?_
  show Steps _ _ _ (s₁.setTop (mkF m 1 #[vR a1] [(.ref a1)])) _
  refine X0.ldc2Long hx hown (mvT hZ (oW hw 156 rfl)) (g := (mkF m 1 #[vR a1] [(.ref a1)])) rfl (hb hby d29_1) _ ?_
  refine XS.iconst X0.here hx rfl (hb hby d29_4) ?_
  exact kt)
 obtain ⟨cq78, q78, q78'⟩ := Ea.cell
 obtain ⟨_, _, ⟨T78, L78, k78, n78⟩, -, X78, ⟨Lc78, hQ78, l78, y78, z78⟩, st78⟩ := X0.privateBack hx (y := (⟨cP, "remember", "(JZ)V"⟩ : MethodName)) hown (mvT hZ (oW hw 50 rfl)) (mvT hZ (oW hw 51 rfl)) (own_selp (mvT hZ (oW hw 1 rfl)) (mvP hZ (oW hw 52 rfl)) (mvT hZ (oW hw 51 rfl)) (by decide)) (Cond.privateMethod_at (mvP hZ (oW hw 52 rfl) (args := #[]))) (mvT hZ (oW hw 53 rfl)) (by decide) (backOf (W := 0) (rm_rem l Z a0 hw [] a1 (-3750763034362895579 : Int64) (0 : Int32) φ rc lg p1 p2 R B r false h0 n0 Z0 Ea Fq Fl Fp Ff Fn VR VB hq.symm rfl hR hB ga grc glg n1 n2 n3) hZ (oW hw 53 rfl) (oW hw 2 rfl) (by decide) (by decide)) (g := (mkF m 5 #[vR a1] [(.int (0 : Int32)), (.long (-3750763034362895579 : Int64)), (.ref a1)])) rfl (by rw [hml]; rfl) (Steps.refl _) (a := a1) (by rw [e0]; exact q78) q78' (argsL := [(.long (-3750763034362895579 : Int64)), (.int (0 : Int32))]) (rest := []) (lenOf pd_1 rfl) rfl (by show 2 * 0 + _ ≤ _; exact Nat.le_of_eq rfl) (hb hby d29_5) (fun _ _ => ⟨rfl, e0, (by decide : 0 + 0 ≤ _), (by decide : 0 + 0 ≤ _)⟩)
 dsimp only [Pt.U, Pt.locs, Pt.cells, Pt.slots] at X78 l78 y78 z78 st78 hQ78
 rw [l78, y78, z78] at X78
 obtain ⟨rfl, N78q, K78, zEa, zFq, zFl, zFp, zFf, zFn, zVR, zVB⟩ := hQ78
 have N78 := Fr.app N0 N78q
 have R79 := fun (tg : State) (kt : Steps p.tables e below (T78.setTop (mkF m 8 #[vR a1] [])) tg) => R77 tg (by
  refine st78.trans ?_
  exact kt)
 clear R77 st78
 obtain ⟨fs, hr, hrun, hended, hW, hsame⟩ := X78.leave (v := none) (fun _ => rfl)
 refine ⟨_, _, pre0 _ (R79 _ ?_), hrun, hended, _, _, rfl, ?_, ⟨_, rfl⟩, hW, hsame.mono (by decide) (by decide)⟩
 ·exact X78.returnOut hx Bd.returns (hb hby d29_8) hr
 ·show Q_rm_una Z a1 φ rc lg p1 p2 R B r h0 n0 _ T78.heap _
  exact ⟨rfl, N78, K78, zEa, zFq, zFl, zFp, zFf, zFn, zVR, zVB⟩
theorem d5_16 : oD k12 16 (.iload 5) 2 := by decide +kernel
theorem d5_18 : oD k12 18 (.aload_n 0) 1 := by decide +kernel
theorem d5_19 : oD k12 19 (.getfield 33) 3 := by decide +kernel
theorem d5_22 : oD k12 22 (.aload_n 0) 1 := by decide +kernel
theorem d5_23 : oD k12 23 (.getfield 9) 3 := by decide +kernel
theorem d5_26 : oD k12 26 .arraylength 1 := by decide +kernel
theorem pd_2 : parseMethodDescriptor "(II)I" = some ⟨[.int, .int], some .int⟩ := by decide +kernel
theorem d5_27 : oD k12 27 (.invokestatic 37) 3 := by decide +kernel
theorem d5_30 : oD k12 30 (.if_icmp .ge 45) 3 := by decide +kernel
theorem d5_33 : oD k12 33 (.aload_n 0) 1 := by decide +kernel
theorem d5_34 : oD k12 34 (.getfield 9) 3 := by decide +kernel
theorem d5_37 : oD k12 37 (.iload 5) 2 := by decide +kernel
theorem d5_39 : oD k12 39 .laload 1 := by decide +kernel
theorem d5_40 : oD k12 40 (.lload_n 1) 1 := by decide +kernel
theorem d5_41 : oD k12 41 .lcmp 1 := by decide +kernel
theorem d5_42 : oD k12 42 (.ifCond .ne 27) 3 := by decide +kernel
theorem d5_69 : oD k12 69 (.iinc 5 1) 3 := by decide +kernel
theorem d5_72 : oD k12 72 (.goto (-56)) 3 := by decide +kernel
theorem d5_45 : oD k12 45 (.iconst 0) 1 := by decide +kernel
theorem d5_46 : oD k12 46 (.istore_n 3) 1 := by decide +kernel
theorem d5_47 : oD k12 47 (.iload 4) 2 := by decide +kernel
theorem d5_49 : oD k12 49 (.ifCond .ne 13) 3 := by decide +kernel
theorem d5_62 : oD k12 62 (.iconst 1) 1 := by decide +kernel
theorem d5_63 : oD k12 63 (.goto 4) 3 := by decide +kernel
theorem d5_67 : oD k12 67 (.istore 4) 2 := by decide +kernel
theorem d5_52 : oD k12 52 (.aload_n 0) 1 := by decide +kernel
theorem d5_53 : oD k12 53 (.getfield 15) 3 := by decide +kernel
theorem d5_56 : oD k12 56 (.iload 5) 2 := by decide +kernel
theorem d5_58 : oD k12 58 .baload 1 := by decide +kernel
theorem d5_59 : oD k12 59 (.ifCond .eq 7) 3 := by decide +kernel
theorem d5_66 : oD k12 66 (.iconst 0) 1 := by decide +kernel
set_option maxRecDepth 65536 in
set_option maxHeartbeats 40000000 in
theorem lp_add {p : Program} {l : Launch} {e : Env} {s : State} {m : MethodId} {args : Array Value} {below : List Frame} {meth : Method} {c : Code} {Z : State} {a0 : Array Value} {n0 : Nat} {T0 : State} {locs : List Loc} {h0 : Heap} (cl : Nat) (sl : Nat) (φ : Nat → Int64) (a1 : Addr) (rc : Addr) (lg : Addr) (R : List Nat) (B : List Bool) (r : Nat) (i : Nat) (X0 : Stand p l e rM4 s m args below meth c T0 locs cl sl) (hx : p.tables.exec = Jvm.exec) (hZ : Z.Warmed39 s.vm) (hw : ∀ d ∈ tables_1, d.before a0 Z = true) (hby : c.code = prog_41_method_2_code) (hml : c.maxLocals = 6) (hown : s.vm.findClass cP = some m.cls) (hcl : cl + 0 ≤ rM4.cells) (hsl : sl + 0 ≤ rM4.slots) (e0 : T0.heap = h0) (N0 : Fr n0 locs) (Z0 : n0 ≤ h0.size) (Fq : Fld Z h0 a1 cP "recent" "[J" (.ref rc)) (Fl : Fld Z h0 a1 cP "recentLeading" "[Z" (.ref lg)) (Fn : Fld Z h0 a1 cP "seen" "I" (.int (own_i (R).length))) (VR : VG Z h0 rc .long 16 (fun r => .long (φ r)) 0 R) (VB : VG Z h0 lg .boolean 16 (fun b => .int (own_b2 b)) false B) (H : own_mono φ) (okR : own_ok R) (hr : r < 4) (hR : R.length ≤ 3) (hB : B.length = R.length) (hi : i < R.length) :
  ∃ (T' : State) (L' : List Loc), Stand p l e rM4 s m args below meth c T' L' cl sl ∧ T'.heap = h0 ∧ Fr n0 L' ∧ Sq p e below (T'.setTop (mkF m 16 #[vR a1, vJ (φ r), .second, vI (own_b2 (own_ld r (R.take (i + 1)))), vI (own_b2 (own_fo r (R.take (i + 1)) (B.take (i + 1)))), vI (own_i (i + 1))] [])) (T0.setTop (mkF m 16 #[vR a1, vJ (φ r), .second, vI (own_b2 (own_ld r (R.take i))), vI (own_b2 (own_fo r (R.take i) (B.take i))), vI (own_i i)] [])) := by
 obtain ⟨i0, ik⟩ := own_ic (own_3i (Nat.le_of_lt (Nat.lt_of_lt_of_le hi hR)))
 have hiB : i < B.length := by rw [hB]; exact hi
 have R80 := fun (tg : State) (kt : Steps p.tables e below (T0.setTop (mkF m 19 #[vR a1, vJ (φ r), .second, vI (own_b2 (own_ld r (R.take i))), vI (own_b2 (own_fo r (R.take i) (B.take i))), vI (own_i i)] [(.ref a1), (.int (own_i i))])) tg) => (fun (t : State) (k : Steps p.tables e below (T0.setTop (mkF m 16 #[vR a1, vJ (φ r), .second, vI (own_b2 (own_ld r (R.take i))), vI (own_b2 (own_fo r (R.take i) (B.take i))), vI (own_i i)] [])) t) => k) tg (by
  show Steps _ _ _ (T0.setTop (mkF m 16 #[vR a1, vJ (φ r), .second, vI (own_b2 (own_ld r (R.take i))), vI (own_b2 (own_fo r (R.take i) (B.take i))), vI (own_i i)] [])) _
  refine XS.iload X0.here hx rfl (hb hby d5_16) rfl ?_
  refine XS.aloadN X0.here hx rfl (hb hby d5_18) rfl rfl ?_
  exact kt)
 obtain ⟨T81, X81, e81, st81⟩ := getF X0 hx hZ hown (host := "") (Or.inl (oW hw 44 rfl)) Via.refl e0 Fn (g := (mkF m 19 #[vR a1, vJ (φ r), .second, vI (own_b2 (own_ld r (R.take i))), vI (own_b2 (own_fo r (R.take i) (B.take i))), vI (own_i i)] [(.ref a1), (.int (own_i i))])) rfl rfl (hb hby d5_19)
 have R82 := fun (tg : State) (kt : Steps p.tables e below (T81.setTop (mkF m 23 #[vR a1, vJ (φ r), .second, vI (own_b2 (own_ld r (R.take i))), vI (own_b2 (own_fo r (R.take i) (B.take i))), vI (own_i i)] [(.ref a1), (.int (own_i R.length)), (.int (own_i i))])) tg) => R80 tg (by
  refine st81 _ ?_
  refine XS.aloadN X81.here hx rfl (hb hby d5_22) rfl rfl ?_
  exact kt)
 clear R80 st81
 obtain ⟨T83, X83, e83, st83⟩ := getF X81 hx hZ hown (host := "") (Or.inl (oW hw 10 rfl)) Via.refl e81 Fq (g := (mkF m 23 #[vR a1, vJ (φ r), .second, vI (own_b2 (own_ld r (R.take i))), vI (own_b2 (own_fo r (R.take i) (B.take i))), vI (own_i i)] [(.ref a1), (.int (own_i R.length)), (.int (own_i i))])) rfl rfl (hb hby d5_23)
 have R84 := fun (tg : State) (kt : Steps p.tables e below (T83.setTop (mkF m 26 #[vR a1, vJ (φ r), .second, vI (own_b2 (own_ld r (R.take i))), vI (own_b2 (own_fo r (R.take i) (B.take i))), vI (own_i i)] [(.ref rc), (.int (own_i R.length)), (.int (own_i i))])) tg) => R82 tg (by
  refine st83 _ ?_
  exact kt)
 clear R82 st83
 obtain ⟨cl85, Ar85, ln85⟩ := VR.len
 have R86 := fun (tg : State) (kt : Steps p.tables e below (T83.setTop (mkF m 27 #[vR a1, vJ (φ r), .second, vI (own_b2 (own_ld r (R.take i))), vI (own_b2 (own_fo r (R.take i) (B.take i))), vI (own_i i)] [(.int (16 : Int32)), (.int (own_i R.length)), (.int (own_i i))])) tg) => R84 tg (by
  show Steps _ _ _ (T83.setTop (mkF m 26 #[vR a1, vJ (φ r), .second, vI (own_b2 (own_ld r (R.take i))), vI (own_b2 (own_fo r (R.take i) (B.take i))), vI (own_i i)] [(.ref rc), (.int (own_i R.length)), (.int (own_i i))])) _
  refine X83.arraylength hx (by rw [e83]; exact Ar85.1) (State.isArrayOf_alike hZ.alike Ar85.2.1) (g := (mkF m 26 #[vR a1, vJ (φ r), .second, vI (own_b2 (own_ld r (R.take i))), vI (own_b2 (own_fo r (R.take i) (B.take i))), vI (own_i i)] [(.ref rc), (.int (own_i R.length)), (.int (own_i i))])) rfl rfl (hb hby d5_26) _ ?_
  rw [ln85]
  exact kt)
 clear R84
 obtain ⟨_, _, ⟨T87, L87, k87, n87⟩, -, X87, ⟨Lc87, hQ87, l87, y87, z87⟩, st87⟩ := Jvm.LawKit.callS X83 hx (y := (⟨"java/lang/Math", "min", "(II)I"⟩ : MethodName)) hown (mvT hZ (oW hw 46 rfl)) (mvT hZ (oW hw 47 rfl)) (mvT hZ (oW hw 48 rfl)) (mvT hZ (oW hw 49 rfl)) (by decide) (backOf (W := 1) (rm_min l Z a0 hw [] (own_i R.length) (16 : Int32) h0 n0 Z0) hZ (oW hw 49 rfl) (oW hw 48 rfl) (by decide) (by decide)) (g := (mkF m 27 #[vR a1, vJ (φ r), .second, vI (own_b2 (own_ld r (R.take i))), vI (own_b2 (own_fo r (R.take i) (B.take i))), vI (own_i i)] [(.int (16 : Int32)), (.int (own_i R.length)), (.int (own_i i))])) rfl (by rw [hml]; rfl) (argsL := [(.int (own_i R.length)), (.int (16 : Int32))]) (rest := [(.int (own_i i))]) (lenOf pd_2 rfl) rfl (by show 2 * 0 + _ ≤ _; exact Nat.le_of_eq rfl) (hb hby d5_27) (fun _ _ => ⟨rfl, e83, hcl, hsl⟩)
 dsimp only [Pt.U, Pt.locs, Pt.cells, Pt.slots] at X87 l87 y87 z87 st87 hQ87
 rw [l87, y87, z87] at X87
 obtain ⟨rfl, N87q, hh87⟩ := hQ87
 have N87 := Fr.app N0 N87q
 have R88 := fun (tg : State) (kt : Steps p.tables e below (T87.setTop (mkF m 30 #[vR a1, vJ (φ r), .second, vI (own_b2 (own_ld r (R.take i))), vI (own_b2 (own_fo r (R.take i) (B.take i))), vI (own_i i)] [(.int (own_min (own_i R.length) (16 : Int32))), (.int (own_i i))])) tg) => R86 tg (by
  refine st87 _ ?_
  exact kt)
 clear R86 st87
 have R89 := fun (tg : State) (kt : Steps p.tables e below (T87.setTop (mkF m 30 #[vR a1, vJ (φ r), .second, vI (own_b2 (own_ld r (R.take i))), vI (own_b2 (own_fo r (R.take i) (B.take i))), vI (own_i i)] [(.int (own_i R.length)), (.int (own_i i))])) tg) => R88 tg (by rw [own_min16 (own_34 hR)]; exact kt)
 clear R88
 have R90 := fun (tg : State) (kt : Steps p.tables e below (T87.setTop (mkF m 34 #[vR a1, vJ (φ r), .second, vI (own_b2 (own_ld r (R.take i))), vI (own_b2 (own_fo r (R.take i) (B.take i))), vI (own_i i)] [(.ref a1)])) tg) => R89 tg (by
  show Steps _ _ _ (T87.setTop (mkF m 30 #[vR a1, vJ (φ r), .second, vI (own_b2 (own_ld r (R.take i))), vI (own_b2 (own_fo r (R.take i) (B.take i))), vI (own_i i)] [(.int (own_i R.length)), (.int (own_i i))])) _
  refine XS.icmpNo X87.here hx rfl (hb hby d5_30) rfl (tlt (own_it3 hi (own_34 hR) : (own_i i) < (own_i R.length))).2.1 ?_
  refine XS.aloadN X87.here hx rfl (hb hby d5_33) rfl rfl ?_
  exact kt)
 clear R89
 obtain ⟨T91, X91, e91, st91⟩ := getF X87 hx hZ hown (host := "") (Or.inl (oW hw 10 rfl)) Via.refl hh87 Fq (g := (mkF m 34 #[vR a1, vJ (φ r), .second, vI (own_b2 (own_ld r (R.take i))), vI (own_b2 (own_fo r (R.take i) (B.take i))), vI (own_i i)] [(.ref a1)])) rfl rfl (hb hby d5_34)
 have R92 := fun (tg : State) (kt : Steps p.tables e below (T91.setTop (mkF m 39 #[vR a1, vJ (φ r), .second, vI (own_b2 (own_ld r (R.take i))), vI (own_b2 (own_fo r (R.take i) (B.take i))), vI (own_i i)] [(.int (own_i i)), (.ref rc)])) tg) => R90 tg (by
  refine st91 _ ?_
  refine XS.iload X91.here hx rfl (hb hby d5_37) rfl ?_
  exact kt)
 clear R90 st91
 obtain ⟨cl93, Ar93, hin93, hat93⟩ := VR.at (j := (own_i i)) (k := i) i0 ik hi
 have R94 := fun (tg : State) (kt : Steps p.tables e below (T91.setTop (mkF m 42 #[vR a1, vJ (φ r), .second, vI (own_b2 (own_ld r (R.take i))), vI (own_b2 (own_fo r (R.take i) (B.take i))), vI (own_i i)] [(.int (lcmpW (φ (R.getD i 0)) (φ r)))])) tg) => R92 tg (by
  show Steps _ _ _ (T91.setTop (mkF m 39 #[vR a1, vJ (φ r), .second, vI (own_b2 (own_ld r (R.take i))), vI (own_b2 (own_fo r (R.take i) (B.take i))), vI (own_i i)] [(.int (own_i i)), (.ref rc)])) _
  refine X91.laload hx (j := (own_i i)) (v := (.long (φ (R.getD i 0)))) (by rw [e91]; exact Ar93.1) (State.isArrayOf_alike hZ.alike Ar93.2.1) Ar93.2.2 hin93 hat93 (g := (mkF m 39 #[vR a1, vJ (φ r), .second, vI (own_b2 (own_ld r (R.take i))), vI (own_b2 (own_fo r (R.take i) (B.take i))), vI (own_i i)] [(.int (own_i i)), (.ref rc)])) rfl rfl (hb hby d5_39) _ ?_
  refine XS.lloadN X91.here hx rfl (hb hby d5_40) rfl ?_
  show Steps _ _ _ (T91.setTop (mkF m 41 #[vR a1, vJ (φ r), .second, vI (own_b2 (own_ld r (R.take i))), vI (own_b2 (own_fo r (R.take i) (B.take i))), vI (own_i i)] [(.long (φ r)), (.long (φ (R.getD i 0)))])) _
  refine XS.lcmp X91.here hx rfl (hb hby d5_41) rfl ?_
  exact kt)
 clear R92
 by_cases he : R.getD i 0 = r
 ·have R97 := fun (tg : State) (kt : Steps p.tables e below (T91.setTop (mkF m 49 #[vR a1, vJ (φ r), .second, vI (0 : Int32), vI (own_b2 (own_fo r (R.take i) (B.take i))), vI (own_i i)] [(.int (own_b2 (own_fo r (R.take i) (B.take i))))])) tg) => R94 tg (by
   show Steps _ _ _ (T91.setTop (mkF m 42 #[vR a1, vJ (φ r), .second, vI (own_b2 (own_ld r (R.take i))), vI (own_b2 (own_fo r (R.take i) (B.take i))), vI (own_i i)] [(.int (lcmpW (φ (R.getD i 0)) (φ r)))])) _
   refine XS.ifNo X91.here hx rfl (hb hby d5_42) rfl ((if0 _ _).trans (teq ((own_ce H (okR.at hi) hr).mpr he : (lcmpW (φ (R.getD i 0)) (φ r)) = (0 : Int32))).2) ?_
   refine XS.iconst X91.here hx rfl (hb hby d5_45) ?_
   show Steps _ _ _ (T91.setTop (mkF m 46 #[vR a1, vJ (φ r), .second, vI (own_b2 (own_ld r (R.take i))), vI (own_b2 (own_fo r (R.take i) (B.take i))), vI (own_i i)] [(.int (0 : Int32))])) _
   refine XS.istoreN X91.here hx rfl (hb hby d5_46) rfl (l' := #[vR a1, vJ (φ r), .second, vI (0 : Int32), vI (own_b2 (own_fo r (R.take i) (B.take i))), vI (own_i i)]) rfl ?_
   refine XS.iload X91.here hx rfl (hb hby d5_47) rfl ?_
   exact kt)
  clear R94
  by_cases hf : (own_b2 (own_fo r (R.take i) (B.take i))) = (0 : Int32)
  ·have R100 := fun (tg : State) (kt : Steps p.tables e below (T91.setTop (mkF m 53 #[vR a1, vJ (φ r), .second, vI (0 : Int32), vI (own_b2 (own_fo r (R.take i) (B.take i))), vI (own_i i)] [(.ref a1)])) tg) => R97 tg (by
    show Steps _ _ _ (T91.setTop (mkF m 49 #[vR a1, vJ (φ r), .second, vI (0 : Int32), vI (own_b2 (own_fo r (R.take i) (B.take i))), vI (own_i i)] [(.int (own_b2 (own_fo r (R.take i) (B.take i))))])) _
    refine XS.ifNo X91.here hx rfl (hb hby d5_49) rfl ((if0 _ _).trans (teq (hf : (own_b2 (own_fo r (R.take i) (B.take i))) = (0 : Int32))).2) ?_
    refine XS.aloadN X91.here hx rfl (hb hby d5_52) rfl rfl ?_
    exact kt)
   clear R97
   obtain ⟨T101, X101, e101, st101⟩ := getF X91 hx hZ hown (host := "") (Or.inl (oW hw 13 rfl)) Via.refl e91 Fl (g := (mkF m 53 #[vR a1, vJ (φ r), .second, vI (0 : Int32), vI (own_b2 (own_fo r (R.take i) (B.take i))), vI (own_i i)] [(.ref a1)])) rfl rfl (hb hby d5_53)
   have R102 := fun (tg : State) (kt : Steps p.tables e below (T101.setTop (mkF m 58 #[vR a1, vJ (φ r), .second, vI (0 : Int32), vI (own_b2 (own_fo r (R.take i) (B.take i))), vI (own_i i)] [(.int (own_i i)), (.ref lg)])) tg) => R100 tg (by
    refine st101 _ ?_
    refine XS.iload X101.here hx rfl (hb hby d5_56) rfl ?_
    exact kt)
   clear R100 st101
   obtain ⟨cl103, Ar103, hin103, hat103⟩ := VB.at (j := (own_i i)) (k := i) i0 ik hiB
   have R104 := fun (tg : State) (kt : Steps p.tables e below (T101.setTop (mkF m 59 #[vR a1, vJ (φ r), .second, vI (0 : Int32), vI (own_b2 (own_fo r (R.take i) (B.take i))), vI (own_i i)] [(.int (own_b2 (B.getD i false)))])) tg) => R102 tg (by
    show Steps _ _ _ (T101.setTop (mkF m 58 #[vR a1, vJ (φ r), .second, vI (0 : Int32), vI (own_b2 (own_fo r (R.take i) (B.take i))), vI (own_i i)] [(.int (own_i i)), (.ref lg)])) _
    refine X101.baloadBooleans hx (j := (own_i i)) (v := (.int (own_b2 (B.getD i false)))) (by rw [e101]; exact Ar103.1) (State.isArrayOf_alike hZ.alike Ar103.2.1) Ar103.2.2 hin103 hat103 (g := (mkF m 58 #[vR a1, vJ (φ r), .second, vI (0 : Int32), vI (own_b2 (own_fo r (R.take i) (B.take i))), vI (own_i i)] [(.int (own_i i)), (.ref lg)])) rfl rfl (hb hby d5_58) _ ?_
    exact kt)
   clear R102
   by_cases hg : (own_b2 (B.getD i false)) = (0 : Int32)
   ·have R105 := fun (tg : State) (kt : Steps p.tables e below (T101.setTop (mkF m 16 #[vR a1, vJ (φ r), .second, vI (0 : Int32), vI (0 : Int32), vI ((own_i i) + (1 : Int32))] [])) tg) => R104 tg (by
     show Steps _ _ _ (T101.setTop (mkF m 59 #[vR a1, vJ (φ r), .second, vI (0 : Int32), vI (own_b2 (own_fo r (R.take i) (B.take i))), vI (own_i i)] [(.int (own_b2 (B.getD i false)))])) _
     refine XS.ifYes X101.here hx rfl (pc0 := 59) (pc' := 66) rfl (hb hby d5_59) rfl ((if0 _ _).trans (teq (hg : (own_b2 (B.getD i false)) = (0 : Int32))).1) (by decide) (by decide) ?_
     refine XS.iconst X101.here hx rfl (hb hby d5_66) ?_
     show Steps _ _ _ (T101.setTop (mkF m 67 #[vR a1, vJ (φ r), .second, vI (0 : Int32), vI (own_b2 (own_fo r (R.take i) (B.take i))), vI (own_i i)] [(.int (0 : Int32))])) _
     refine XS.istore X101.here hx rfl (hb hby d5_67) rfl (l' := #[vR a1, vJ (φ r), .second, vI (0 : Int32), vI (0 : Int32), vI (own_i i)]) rfl ?_
     show Steps _ _ _ (T101.setTop (mkF m 69 #[vR a1, vJ (φ r), .second, vI (0 : Int32), vI (0 : Int32), vI (own_i i)] [])) _
     refine XS.iinc X101.here hx rfl (hb hby d5_69) rfl (l' := #[vR a1, vJ (φ r), .second, vI (0 : Int32), vI (0 : Int32), vI ((own_i i) + (1 : Int32))]) rfl ?_
     show Steps _ _ _ (T101.setTop (mkF m 72 #[vR a1, vJ (φ r), .second, vI (0 : Int32), vI (0 : Int32), vI ((own_i i) + (1 : Int32))] [])) _
     refine XS.goto X101.here hx rfl (pc0 := 72) (pc' := 16) rfl (hb hby d5_72) (by decide) (by decide) ?_
     exact kt)
    clear R104
    have eI : own_i i + (1 : Int32) = own_i (i + 1) := own_i1 (Nat.lt_of_le_of_lt (Nat.le_trans hi hR) (by decide))
    have R106 := fun (tg : State) (kt : Steps p.tables e below (T101.setTop (mkF m 16 #[vR a1, vJ (φ r), .second, vI (own_b2 (own_ld r (R.take (i + 1)))), vI (own_b2 (own_fo r (R.take (i + 1)) (B.take (i + 1)))), vI (own_i (i + 1))] [])) tg) => R105 tg (by rw [own_ld1 hi he, (own_foB hB hi he hf).trans hg, ← eI] at kt; exact kt)
    clear R105
    exact ⟨_, _, X101, e101, N87, R106⟩
   ·have R107 := fun (tg : State) (kt : Steps p.tables e below (T101.setTop (mkF m 16 #[vR a1, vJ (φ r), .second, vI (0 : Int32), vI (1 : Int32), vI ((own_i i) + (1 : Int32))] [])) tg) => R104 tg (by
     show Steps _ _ _ (T101.setTop (mkF m 59 #[vR a1, vJ (φ r), .second, vI (0 : Int32), vI (own_b2 (own_fo r (R.take i) (B.take i))), vI (own_i i)] [(.int (own_b2 (B.getD i false)))])) _
     refine XS.ifNo X101.here hx rfl (hb hby d5_59) rfl ((if0 _ _).trans (feq (hg : ¬ ((own_b2 (B.getD i false)) = (0 : Int32)))).1) ?_
     refine XS.iconst X101.here hx rfl (hb hby d5_62) ?_
     show Steps _ _ _ (T101.setTop (mkF m 63 #[vR a1, vJ (φ r), .second, vI (0 : Int32), vI (own_b2 (own_fo r (R.take i) (B.take i))), vI (own_i i)] [(.int (1 : Int32))])) _
     refine XS.goto X101.here hx rfl (pc0 := 63) (pc' := 67) rfl (hb hby d5_63) (by decide) (by decide) ?_
     show Steps _ _ _ (T101.setTop (mkF m 67 #[vR a1, vJ (φ r), .second, vI (0 : Int32), vI (own_b2 (own_fo r (R.take i) (B.take i))), vI (own_i i)] [(.int (1 : Int32))])) _
     refine XS.istore X101.here hx rfl (hb hby d5_67) rfl (l' := #[vR a1, vJ (φ r), .second, vI (0 : Int32), vI (1 : Int32), vI (own_i i)]) rfl ?_
     show Steps _ _ _ (T101.setTop (mkF m 69 #[vR a1, vJ (φ r), .second, vI (0 : Int32), vI (1 : Int32), vI (own_i i)] [])) _
     refine XS.iinc X101.here hx rfl (hb hby d5_69) rfl (l' := #[vR a1, vJ (φ r), .second, vI (0 : Int32), vI (1 : Int32), vI ((own_i i) + (1 : Int32))]) rfl ?_
     show Steps _ _ _ (T101.setTop (mkF m 72 #[vR a1, vJ (φ r), .second, vI (0 : Int32), vI (1 : Int32), vI ((own_i i) + (1 : Int32))] [])) _
     refine XS.goto X101.here hx rfl (pc0 := 72) (pc' := 16) rfl (hb hby d5_72) (by decide) (by decide) ?_
     exact kt)
    clear R104
    have eI : own_i i + (1 : Int32) = own_i (i + 1) := own_i1 (Nat.lt_of_le_of_lt (Nat.le_trans hi hR) (by decide))
    have R108 := fun (tg : State) (kt : Steps p.tables e below (T101.setTop (mkF m 16 #[vR a1, vJ (φ r), .second, vI (own_b2 (own_ld r (R.take (i + 1)))), vI (own_b2 (own_fo r (R.take (i + 1)) (B.take (i + 1)))), vI (own_i (i + 1))] [])) tg) => R107 tg (by rw [own_ld1 hi he, (own_foB hB hi he hf).trans (own_b21 hg), ← eI] at kt; exact kt)
    clear R107
    exact ⟨_, _, X101, e101, N87, R108⟩
  ·have R98 := fun (tg : State) (kt : Steps p.tables e below (T91.setTop (mkF m 16 #[vR a1, vJ (φ r), .second, vI (0 : Int32), vI (1 : Int32), vI ((own_i i) + (1 : Int32))] [])) tg) => R97 tg (by
    show Steps _ _ _ (T91.setTop (mkF m 49 #[vR a1, vJ (φ r), .second, vI (0 : Int32), vI (own_b2 (own_fo r (R.take i) (B.take i))), vI (own_i i)] [(.int (own_b2 (own_fo r (R.take i) (B.take i))))])) _
    refine XS.ifYes X91.here hx rfl (pc0 := 49) (pc' := 62) rfl (hb hby d5_49) rfl ((if0 _ _).trans (feq (hf : ¬ ((own_b2 (own_fo r (R.take i) (B.take i))) = (0 : Int32)))).2) (by decide) (by decide) ?_
    refine XS.iconst X91.here hx rfl (hb hby d5_62) ?_
    show Steps _ _ _ (T91.setTop (mkF m 63 #[vR a1, vJ (φ r), .second, vI (0 : Int32), vI (own_b2 (own_fo r (R.take i) (B.take i))), vI (own_i i)] [(.int (1 : Int32))])) _
    refine XS.goto X91.here hx rfl (pc0 := 63) (pc' := 67) rfl (hb hby d5_63) (by decide) (by decide) ?_
    show Steps _ _ _ (T91.setTop (mkF m 67 #[vR a1, vJ (φ r), .second, vI (0 : Int32), vI (own_b2 (own_fo r (R.take i) (B.take i))), vI (own_i i)] [(.int (1 : Int32))])) _
    refine XS.istore X91.here hx rfl (hb hby d5_67) rfl (l' := #[vR a1, vJ (φ r), .second, vI (0 : Int32), vI (1 : Int32), vI (own_i i)]) rfl ?_
    show Steps _ _ _ (T91.setTop (mkF m 69 #[vR a1, vJ (φ r), .second, vI (0 : Int32), vI (1 : Int32), vI (own_i i)] [])) _
    refine XS.iinc X91.here hx rfl (hb hby d5_69) rfl (l' := #[vR a1, vJ (φ r), .second, vI (0 : Int32), vI (1 : Int32), vI ((own_i i) + (1 : Int32))]) rfl ?_
    show Steps _ _ _ (T91.setTop (mkF m 72 #[vR a1, vJ (φ r), .second, vI (0 : Int32), vI (1 : Int32), vI ((own_i i) + (1 : Int32))] [])) _
    refine XS.goto X91.here hx rfl (pc0 := 72) (pc' := 16) rfl (hb hby d5_72) (by decide) (by decide) ?_
    exact kt)
   clear R97
   have eI : own_i i + (1 : Int32) = own_i (i + 1) := own_i1 (Nat.lt_of_le_of_lt (Nat.le_trans hi hR) (by decide))
   have R99 := fun (tg : State) (kt : Steps p.tables e below (T91.setTop (mkF m 16 #[vR a1, vJ (φ r), .second, vI (own_b2 (own_ld r (R.take (i + 1)))), vI (own_b2 (own_fo r (R.take (i + 1)) (B.take (i + 1)))), vI (own_i (i + 1))] [])) tg) => R98 tg (by rw [own_ld1 hi he, own_foA hB hi he hf, ← eI] at kt; exact kt)
   clear R98
   exact ⟨_, _, X91, e91, N87, R99⟩
 ·have R95 := fun (tg : State) (kt : Steps p.tables e below (T91.setTop (mkF m 16 #[vR a1, vJ (φ r), .second, vI (own_b2 (own_ld r (R.take i))), vI (own_b2 (own_fo r (R.take i) (B.take i))), vI ((own_i i) + (1 : Int32))] [])) tg) => R94 tg (by
   show Steps _ _ _ (T91.setTop (mkF m 42 #[vR a1, vJ (φ r), .second, vI (own_b2 (own_ld r (R.take i))), vI (own_b2 (own_fo r (R.take i) (B.take i))), vI (own_i i)] [(.int (lcmpW (φ (R.getD i 0)) (φ r)))])) _
   refine XS.ifYes X91.here hx rfl (pc0 := 42) (pc' := 69) rfl (hb hby d5_42) rfl ((if0 _ _).trans (feq (fun q => he ((own_ce H (okR.at hi) hr).mp q) : ¬ ((lcmpW (φ (R.getD i 0)) (φ r)) = (0 : Int32)))).2) (by decide) (by decide) ?_
   show Steps _ _ _ (T91.setTop (mkF m 69 #[vR a1, vJ (φ r), .second, vI (own_b2 (own_ld r (R.take i))), vI (own_b2 (own_fo r (R.take i) (B.take i))), vI (own_i i)] [])) _
   refine XS.iinc X91.here hx rfl (hb hby d5_69) rfl (l' := #[vR a1, vJ (φ r), .second, vI (own_b2 (own_ld r (R.take i))), vI (own_b2 (own_fo r (R.take i) (B.take i))), vI ((own_i i) + (1 : Int32))]) rfl ?_
   show Steps _ _ _ (T91.setTop (mkF m 72 #[vR a1, vJ (φ r), .second, vI (own_b2 (own_ld r (R.take i))), vI (own_b2 (own_fo r (R.take i) (B.take i))), vI ((own_i i) + (1 : Int32))] [])) _
   refine XS.goto X91.here hx rfl (pc0 := 72) (pc' := 16) rfl (hb hby d5_72) (by decide) (by decide) ?_
   exact kt)
  clear R94
  have eI : own_i i + (1 : Int32) = own_i (i + 1) := own_i1 (Nat.lt_of_le_of_lt (Nat.le_trans hi hR) (by decide))
  have R96 := fun (tg : State) (kt : Steps p.tables e below (T91.setTop (mkF m 16 #[vR a1, vJ (φ r), .second, vI (own_b2 (own_ld r (R.take (i + 1)))), vI (own_b2 (own_fo r (R.take (i + 1)) (B.take (i + 1)))), vI (own_i (i + 1))] [])) tg) => R95 tg (by rw [own_ld0 hi he, own_fo0 hB hi he, ← eI] at kt; exact kt)
  clear R95
  exact ⟨_, _, X91, e91, N87, R96⟩
set_option maxHeartbeats 4000000 in
theorem lp_addL {p : Program} {l : Launch} {e : Env} {s : State} {m : MethodId} {args : Array Value} {below : List Frame} {meth : Method} {c : Code} {Z : State} {a0 : Array Value} {n0 : Nat} (cl sl : Nat) (φ : Nat → Int64) (a1 rc lg : Addr) (R : List Nat) (B : List Bool) (r : Nat) (hx : p.tables.exec = Jvm.exec) (hZ : Z.Warmed39 s.vm) (hw : ∀ d ∈ tables_1, d.before a0 Z = true) (hby : c.code = prog_41_method_2_code) (hml : c.maxLocals = 6) (hown : s.vm.findClass cP = some m.cls) (hcl : cl + 0 ≤ rM4.cells) (hsl : sl + 0 ≤ rM4.slots) {h0 : Heap} (Z0 : n0 ≤ h0.size) (Fq : Fld Z h0 a1 cP "recent" "[J" (.ref rc)) (Fl : Fld Z h0 a1 cP "recentLeading" "[Z" (.ref lg)) (Fn : Fld Z h0 a1 cP "seen" "I" (.int (own_i (R).length))) (VR : VG Z h0 rc .long 16 (fun r => .long (φ r)) 0 R) (VB : VG Z h0 lg .boolean 16 (fun b => .int (own_b2 b)) false B) (H : own_mono φ) (okR : own_ok R) (hr : r < 4) (hR : R.length ≤ 3) (hB : B.length = R.length) :
  ∀ (d i : Nat) {T0 : State} {locs : List Loc} (X0 : Stand p l e rM4 s m args below meth c T0 locs cl sl) (e0 : T0.heap = h0) (N0 : Fr n0 locs), i + d = R.length → ∃ (T' : State) (L' : List Loc), Stand p l e rM4 s m args below meth c T' L' cl sl ∧ T'.heap = h0 ∧ Fr n0 L' ∧ Sq p e below (T'.setTop (mkF m 16 #[vR a1, vJ (φ r), .second, vI (own_b2 (own_ld r (R.take R.length))), vI (own_b2 (own_fo r (R.take R.length) (B.take R.length))), vI (own_i R.length)] [])) (T0.setTop (mkF m 16 #[vR a1, vJ (φ r), .second, vI (own_b2 (own_ld r (R.take i))), vI (own_b2 (own_fo r (R.take i) (B.take i))), vI (own_i i)] [])) := by
 intro d
 induction d with
 | zero =>
  intro i T0 locs X0 e0 N0 hd
  cases (show i = R.length from hd)
  exact ⟨_, _, X0, e0, N0, fun tg kt => kt⟩
 | succ d ih =>
  intro i T0 locs X0 e0 N0 hd
  obtain ⟨T1, L1, X1, e1, N1, st1⟩ := lp_add cl sl φ a1 rc lg R B r i X0 hx hZ hw hby hml hown hcl hsl e0 N0 Z0 Fq Fl Fn VR VB H okR hr hR hB (by omega)
  obtain ⟨T2, L2, X2, e2, N2, st2⟩ := ih (i + 1) X1 e1 N1 (by omega)
  exact ⟨T2, L2, X2, e2, N2, fun tg kt => st1 tg (st2 tg kt)⟩
theorem d5_0 : oD k12 0 (.aload_n 0) 1 := by decide +kernel
theorem d5_1 : oD k12 1 (.getfield 22) 3 := by decide +kernel
theorem d5_4 : oD k12 4 (.lload_n 1) 1 := by decide +kernel
theorem pd_3 : parseMethodDescriptor "(J)V" = some ⟨[.long], none⟩ := by decide +kernel
theorem d5_5 : oD k12 5 (.invokevirtual 29) 3 := by decide +kernel
theorem d5_8 : oD k12 8 (.iconst 1) 1 := by decide +kernel
theorem d5_9 : oD k12 9 (.istore_n 3) 1 := by decide +kernel
theorem d5_10 : oD k12 10 (.iconst 0) 1 := by decide +kernel
theorem d5_11 : oD k12 11 (.istore 4) 2 := by decide +kernel
theorem d5_13 : oD k12 13 (.iconst 0) 1 := by decide +kernel
theorem d5_14 : oD k12 14 (.istore 5) 2 := by decide +kernel
theorem d5_75 : oD k12 75 (.iload 4) 2 := by decide +kernel
theorem d5_77 : oD k12 77 (.ifCond .eq 11) 3 := by decide +kernel
theorem d5_88 : oD k12 88 (.aload_n 0) 1 := by decide +kernel
theorem d5_89 : oD k12 89 (.lload_n 1) 1 := by decide +kernel
theorem d5_90 : oD k12 90 (.iload_n 3) 1 := by decide +kernel
theorem d5_91 : oD k12 91 (.invokevirtual 43) 3 := by decide +kernel
theorem d5_94 : oD k12 94 .return_ 1 := by decide +kernel
theorem d5_80 : oD k12 80 (.aload_n 0) 1 := by decide +kernel
theorem d5_81 : oD k12 81 (.getfield 26) 3 := by decide +kernel
theorem d5_84 : oD k12 84 (.lload_n 1) 1 := by decide +kernel
theorem d5_85 : oD k12 85 (.invokevirtual 29) 3 := by decide +kernel
theorem ef_rm_add (m : MethodId) (a1 : Addr) (q2 : Int64) : entryFrame m #[(.ref a1), (.long q2)] 6 = mkF m 0 #[vR a1, vJ q2, .second, .unset, .unset, .unset] [] := by first | (simp [entryFrame, mkF, argsToLocals, Value.category]; done) | rfl
def Q_rm_add (Z : State) (a1 : Addr) (q2 : Int64) (φ : Nat → Int64) (rc : Addr) (lg : Addr) (p1 : Addr) (t1 : Addr) (p2 : Addr) (t2 : Addr) (R : List Nat) (B : List Bool) (P : List Nat) (F : List Nat) (r : Nat) (h0 : Heap) (n0 : Nat) (v : Option Value) (h : Heap) (L : List Loc) : Prop := v = none ∧ Fr n0 L ∧ Keep h0 h [a1, rc, lg, p1, t1, p2, t2] ∧ Exa Z h a1 cP ∧ Fld Z h a1 cP "recent" "[J" (.ref rc) ∧ Fld Z h a1 cP "recentLeading" "[Z" (.ref lg) ∧ Fld Z h a1 cP "periods" cD (.ref p1) ∧ Fld Z h a1 cP "followers" cD (.ref p2) ∧ Fld Z h a1 cP "seen" "I" (.int (own_i ((R ++ [r])).length)) ∧ VG Z h rc .long 16 (fun r => .long (φ r)) 0 (R ++ [r]) ∧ VG Z h lg .boolean 16 (fun b => .int (own_b2 b)) false (B ++ [own_ld r R]) ∧ Exa Z h p1 cF ∧ Fld Z h p1 cF "values" "[J" (.ref t1) ∧ Fld Z h p1 cF "size" "I" (.int (own_i ((P ++ [r])).length)) ∧ VG Z h t1 .long 1024 (fun r => .long (φ r)) 0 (P ++ [r]) ∧ Exa Z h p2 cF ∧ Fld Z h p2 cF "values" "[J" (.ref t2) ∧ Fld Z h p2 cF "size" "I" (.int (own_i ((if own_fo r R B = true then F ++ [r] else F)).length)) ∧ VG Z h t2 .long 1024 (fun r => .long (φ r)) 0 (if own_fo r R B = true then F ++ [r] else F)
set_option maxRecDepth 65536 in
set_option maxHeartbeats 40000000 in
theorem rm_add (l : Launch) (Z : State) (a0 : Array Value) (hw : ∀ d ∈ tables_1, d.before a0 Z = true) (ws : List Jvm.Cond) (a1 : Addr) (q2 : Int64) (φ : Nat → Int64) (rc : Addr) (lg : Addr) (p1 : Addr) (t1 : Addr) (p2 : Addr) (t2 : Addr) (R : List Nat) (B : List Bool) (P : List Nat) (F : List Nat) (r : Nat) (h0 : Heap) (n0 : Nat) (Z0 : n0 ≤ h0.size) (Ea : Exa Z h0 a1 cP) (Fq : Fld Z h0 a1 cP "recent" "[J" (.ref rc)) (Fl : Fld Z h0 a1 cP "recentLeading" "[Z" (.ref lg)) (Fp : Fld Z h0 a1 cP "periods" cD (.ref p1)) (Ff : Fld Z h0 a1 cP "followers" cD (.ref p2)) (Fn : Fld Z h0 a1 cP "seen" "I" (.int (own_i (R).length))) (VR : VG Z h0 rc .long 16 (fun r => .long (φ r)) 0 R) (VB : VG Z h0 lg .boolean 16 (fun b => .int (own_b2 b)) false B) (E1 : Exa Z h0 p1 cF) (Pv : Fld Z h0 p1 cF "values" "[J" (.ref t1)) (Ps : Fld Z h0 p1 cF "size" "I" (.int (own_i (P).length))) (VP : VG Z h0 t1 .long 1024 (fun r => .long (φ r)) 0 P) (E2 : Exa Z h0 p2 cF) (Qv : Fld Z h0 p2 cF "values" "[J" (.ref t2)) (Qs : Fld Z h0 p2 cF "size" "I" (.int (own_i (F).length))) (VF : VG Z h0 t2 .long 1024 (fun r => .long (φ r)) 0 F) (ND : own_nd n0 a1 rc lg p1 t1 p2 t2) (hq : q2 = φ r) (H : own_mono φ) (okR : own_ok R) (hr : r < 4) (hR : R.length ≤ 3) (hB : B.length = R.length) (hP : P.length ≤ 4) (hF : F.length ≤ 4) :
  MetFree l (⟨cP, "add", "(J)V"⟩ : MethodName) (head1 (Jvm.Cond.code (⟨cP, "add", "(J)V"⟩ : MethodName) prog_41_method_2_code 6 none :: ws) rM4) (fun a U => a = #[(.ref a1), (.long q2)] ∧ Z.Warmed39 U.vm ∧ U.heap = h0) (fun _ _ _ _ _ => True) (fun _ U oC U' => ∃ v L, oC = .returned v ∧ Q_rm_add Z a1 q2 φ rc lg p1 t1 p2 t2 R B P F r h0 n0 v U'.heap L ∧ FrameEnd U oC U' L rM4.cells rM4.slots) := by
 refine MetFree.of_bodySF (plainFor_of_name pn_1) hisR ?_
 intro p e s m args below meth c s₁ Bd hml0 hP hK
 obtain ⟨rfl, hZ, hh⟩ := hP
 have hx := Bd.exec
 have hby := Bd.bytes
 have hml : c.maxLocals = 6 := hml0
 have hown : s.vm.findClass cP = some m.cls := findClass_of_methodNamed Bd.named
 have hnm := (name_of_methodNamed Bd.named Bd.method).1
 have X0 : Stand p l e rM4 s m #[(.ref a1), (.long q2)] below meth c s₁ [] 0 0 := Stand.of_body Bd
 have e0 : s₁.heap = h0 := by rw [← hh, Bd.state]; rfl
 have N0 := Fr.nil n0
 have pre0 : Sq p e below (s₁.setTop (mkF m 0 #[vR a1, vJ q2, .second, .unset, .unset, .unset] [])) (s₁.setTop (entryFrame m #[(.ref a1), (.long q2)] 6)) := fun t k => castTop (ef_rm_add m a1 q2) k
 have pre00 : Sq p e below (s₁.setTop (mkF m 0 #[vR a1, vJ q2, .second, .unset, .unset, .unset] [])) (s₁.setTop (mkF m 0 #[vR a1, vJ q2, .second, .unset, .unset, .unset] [])) := fun _ k => k
 obtain ⟨ne_a1_rc, ne_a1_lg, ne_a1_p1, ne_a1_t1, ne_a1_p2, ne_a1_t2, ne_rc_lg, ne_rc_p1, ne_rc_t1, ne_rc_p2, ne_rc_t2, ne_lg_p1, ne_lg_t1, ne_lg_p2, ne_lg_t2, ne_p1_t1, ne_p1_p2, ne_p1_t2, ne_t1_p2, ne_t1_t2, ne_p2_t2, g_a1, g_rc, g_lg, g_p1, g_t1, g_p2, g_t2⟩ := id ND
 have R109 := fun (tg : State) (kt : Steps p.tables e below (s₁.setTop (mkF m 0 #[vR a1, vJ (φ r), .second, .unset, .unset, .unset] [])) tg) => pre00 tg (by rw [hq]; exact kt)
 have R110 := fun (tg : State) (kt : Steps p.tables e below (s₁.setTop (mkF m 1 #[vR a1, vJ (φ r), .second, .unset, .unset, .unset] [(.ref a1)])) tg) => R109 tg (by
  show Steps _ _ _ (s₁.setTop (mkF m 0 #[vR a1, vJ (φ r), .second, .unset, .unset, .unset] [])) _
  refine XS.aloadN X0.here hx rfl (hb hby d5_0) rfl rfl ?_
  exact kt)
 clear R109
 obtain ⟨T111, X111, e111, st111⟩ := getF X0 hx hZ hown (host := "") (Or.inl (oW hw 24 rfl)) Via.refl e0 Fp (g := (mkF m 1 #[vR a1, vJ (φ r), .second, .unset, .unset, .unset] [(.ref a1)])) rfl rfl (hb hby d5_1)
 have R112 := fun (tg : State) (kt : Steps p.tables e below (T111.setTop (mkF m 5 #[vR a1, vJ (φ r), .second, .unset, .unset, .unset] [(.long (φ r)), (.ref p1)])) tg) => R110 tg (by
  refine st111 _ ?_
  refine XS.lloadN X111.here hx rfl (hb hby d5_4) rfl ?_
  exact kt)
 clear R110 st111
 obtain ⟨cq113, kq113, q113a, q113b, q113c⟩ := isOf hZ e111 E1
 obtain ⟨_, _, ⟨T113, L113, k113, n113⟩, -, X113, ⟨Lc113, hQ113, l113, y113, z113⟩, st113⟩ := X111.virtualBack hx (y := (⟨cF, "add", "(J)V"⟩ : MethodName)) (z := (⟨cF, "add", "(J)V"⟩ : MethodName)) hown (mvT hZ (oW hw 37 rfl)) (mvT hZ (oW hw 38 rfl)) (notFace_of_selects (args := #[]) (mvT hZ (oW hw 40 rfl))) (mvT hZ (oW hw 40 rfl)) (mvT hZ (oW hw 39 rfl)) (by decide) (backOf (W := 0) (rm_fpa l Z a0 hw [] p1 (φ r) φ t1 P r h0 n0 Z0 E1 Pv Ps VP rfl hP g_p1 g_t1 ne_p1_t1) hZ (oW hw 41 rfl) (oW hw 17 rfl) (by decide) (by decide)) q113a q113c (g := (mkF m 5 #[vR a1, vJ (φ r), .second, .unset, .unset, .unset] [(.long (φ r)), (.ref p1)])) rfl (by rw [hml]; rfl) (Steps.refl _) (argsL := [(.long (φ r))]) (rest := []) (lenOf pd_3 rfl) rfl (by show 2 * 0 + _ ≤ _; exact Nat.le_of_eq rfl) (hb hby d5_5) (fun _ _ => ⟨rfl, e111, (by decide : 0 + 0 ≤ _), (by decide : 0 + 0 ≤ _)⟩)
 dsimp only [Pt.U, Pt.locs, Pt.cells, Pt.slots] at X113 l113 y113 z113 st113 hQ113
 rw [l113, y113, z113] at X113
 obtain ⟨rfl, N113q, K113, E113z, Fv113z, Fs113z, VV113z⟩ := hQ113
 have N113 := Fr.app N0 N113q
 have E_a1_114 := Ea.keep K113
 have Fq_114 := Fq.keep K113 (own_notin2 ne_a1_p1 ne_a1_t1)
 have Fl_114 := Fl.keep K113 (own_notin2 ne_a1_p1 ne_a1_t1)
 have Fp_114 := Fp.keep K113 (own_notin2 ne_a1_p1 ne_a1_t1)
 have Ff_114 := Ff.keep K113 (own_notin2 ne_a1_p1 ne_a1_t1)
 have Fn_114 := Fn.keep K113 (own_notin2 ne_a1_p1 ne_a1_t1)
 have VR_114 := VR.keep K113 (own_notin2 ne_rc_p1 ne_rc_t1)
 have VB_114 := VB.keep K113 (own_notin2 ne_lg_p1 ne_lg_t1)
 have E_p2_114 := E2.keep K113
 have Qv_114 := Qv.keep K113 (own_notin2 (Ne.symm ne_p1_p2) (Ne.symm ne_t1_p2))
 have Qs_114 := Qs.keep K113 (own_notin2 (Ne.symm ne_p1_p2) (Ne.symm ne_t1_p2))
 have VF_114 := VF.keep K113 (own_notin2 (Ne.symm ne_p1_t2) (Ne.symm ne_t1_t2))
 have Zs114 : n0 ≤ T113.heap.size := Nat.le_trans Z0 K113.1
 have Kk114 : Keep h0 T113.heap [a1, rc, lg, p1, t1, p2, t2] := Keep.trans (Keep.refl h0 [a1, rc, lg, p1, t1, p2, t2]) K113 (own_trans2 (Or.inl (List.mem_of_getElem? (i := 3) rfl)) (Or.inl (List.mem_of_getElem? (i := 4) rfl)))
 have R115 := fun (tg : State) (kt : Steps p.tables e below (T113.setTop (mkF m 16 #[vR a1, vJ (φ r), .second, vI (1 : Int32), vI (0 : Int32), vI (0 : Int32)] [])) tg) => R112 tg (by
  refine st113.trans ?_
  refine XS.iconst X113.here hx rfl (hb hby d5_8) ?_
  show Steps _ _ _ (T113.setTop (mkF m 9 #[vR a1, vJ (φ r), .second, .unset, .unset, .unset] [(.int (1 : Int32))])) _
  refine XS.istoreN X113.here hx rfl (hb hby d5_9) rfl (l' := #[vR a1, vJ (φ r), .second, vI (1 : Int32), .unset, .unset]) rfl ?_
  refine XS.iconst X113.here hx rfl (hb hby d5_10) ?_
  show Steps _ _ _ (T113.setTop (mkF m 11 #[vR a1, vJ (φ r), .second, vI (1 : Int32), .unset, .unset] [(.int (0 : Int32))])) _
  refine XS.istore X113.here hx rfl (hb hby d5_11) rfl (l' := #[vR a1, vJ (φ r), .second, vI (1 : Int32), vI (0 : Int32), .unset]) rfl ?_
  refine XS.iconst X113.here hx rfl (hb hby d5_13) ?_
  show Steps _ _ _ (T113.setTop (mkF m 14 #[vR a1, vJ (φ r), .second, vI (1 : Int32), vI (0 : Int32), .unset] [(.int (0 : Int32))])) _
  refine XS.istore X113.here hx rfl (hb hby d5_14) rfl (l' := #[vR a1, vJ (φ r), .second, vI (1 : Int32), vI (0 : Int32), vI (0 : Int32)]) rfl ?_
  exact kt)
 clear R112 st113
 have R116 := fun (tg : State) (kt : Steps p.tables e below (T113.setTop (mkF m 16 #[vR a1, vJ (φ r), .second, vI (own_b2 (own_ld r (R.take 0))), vI (own_b2 (own_fo r (R.take 0) (B.take 0))), vI (own_i 0)] [])) tg) => R115 tg kt
 clear R115
 obtain ⟨T117, L117, X117, e117, N117, st117⟩ := lp_addL 0 0 φ a1 rc lg R B r hx hZ hw hby hml hown (by decide) (by decide) Zs114 Fq_114 Fl_114 Fn_114 VR_114 VB_114 H okR hr hR hB R.length 0 X113 rfl N113 (Nat.zero_add _)
 have R118 := fun (tg : State) (kt : Steps p.tables e below (T117.setTop (mkF m 16 #[vR a1, vJ (φ r), .second, vI (own_b2 (own_ld r (R.take R.length))), vI (own_b2 (own_fo r (R.take R.length) (B.take R.length))), vI (own_i R.length)] [])) tg) => R116 tg (by
  refine st117 _ ?_
  exact kt)
 clear R116 st117
 have R119 := fun (tg : State) (kt : Steps p.tables e below (T117.setTop (mkF m 16 #[vR a1, vJ (φ r), .second, vI (own_b2 (own_ld r R)), vI (own_b2 (own_fo r R B)), vI (own_i R.length)] [])) tg) => R118 tg (by rw [own_tkR R, own_tkB hB]; exact kt)
 clear R118
 have R120 := fun (tg : State) (kt : Steps p.tables e below (T117.setTop (mkF m 19 #[vR a1, vJ (φ r), .second, vI (own_b2 (own_ld r R)), vI (own_b2 (own_fo r R B)), vI (own_i R.length)] [(.ref a1), (.int (own_i R.length))])) tg) => R119 tg (by
  show Steps _ _ _ (T117.setTop (mkF m 16 #[vR a1, vJ (φ r), .second, vI (own_b2 (own_ld r R)), vI (own_b2 (own_fo r R B)), vI (own_i R.length)] [])) _
  refine XS.iload X117.here hx rfl (hb hby d5_16) rfl ?_
  refine XS.aloadN X117.here hx rfl (hb hby d5_18) rfl rfl ?_
  exact kt)
 clear R119
 obtain ⟨T121, X121, e121, st121⟩ := getF X117 hx hZ hown (host := "") (Or.inl (oW hw 44 rfl)) Via.refl e117 Fn_114 (g := (mkF m 19 #[vR a1, vJ (φ r), .second, vI (own_b2 (own_ld r R)), vI (own_b2 (own_fo r R B)), vI (own_i R.length)] [(.ref a1), (.int (own_i R.length))])) rfl rfl (hb hby d5_19)
 have R122 := fun (tg : State) (kt : Steps p.tables e below (T121.setTop (mkF m 23 #[vR a1, vJ (φ r), .second, vI (own_b2 (own_ld r R)), vI (own_b2 (own_fo r R B)), vI (own_i R.length)] [(.ref a1), (.int (own_i R.length)), (.int (own_i R.length))])) tg) => R120 tg (by
  refine st121 _ ?_
  refine XS.aloadN X121.here hx rfl (hb hby d5_22) rfl rfl ?_
  exact kt)
 clear R120 st121
 obtain ⟨T123, X123, e123, st123⟩ := getF X121 hx hZ hown (host := "") (Or.inl (oW hw 10 rfl)) Via.refl e121 Fq_114 (g := (mkF m 23 #[vR a1, vJ (φ r), .second, vI (own_b2 (own_ld r R)), vI (own_b2 (own_fo r R B)), vI (own_i R.length)] [(.ref a1), (.int (own_i R.length)), (.int (own_i R.length))])) rfl rfl (hb hby d5_23)
 have R124 := fun (tg : State) (kt : Steps p.tables e below (T123.setTop (mkF m 26 #[vR a1, vJ (φ r), .second, vI (own_b2 (own_ld r R)), vI (own_b2 (own_fo r R B)), vI (own_i R.length)] [(.ref rc), (.int (own_i R.length)), (.int (own_i R.length))])) tg) => R122 tg (by
  refine st123 _ ?_
  exact kt)
 clear R122 st123
 obtain ⟨cl125, Ar125, ln125⟩ := VR_114.len
 have R126 := fun (tg : State) (kt : Steps p.tables e below (T123.setTop (mkF m 27 #[vR a1, vJ (φ r), .second, vI (own_b2 (own_ld r R)), vI (own_b2 (own_fo r R B)), vI (own_i R.length)] [(.int (16 : Int32)), (.int (own_i R.length)), (.int (own_i R.length))])) tg) => R124 tg (by
  show Steps _ _ _ (T123.setTop (mkF m 26 #[vR a1, vJ (φ r), .second, vI (own_b2 (own_ld r R)), vI (own_b2 (own_fo r R B)), vI (own_i R.length)] [(.ref rc), (.int (own_i R.length)), (.int (own_i R.length))])) _
  refine X123.arraylength hx (by rw [e123]; exact Ar125.1) (State.isArrayOf_alike hZ.alike Ar125.2.1) (g := (mkF m 26 #[vR a1, vJ (φ r), .second, vI (own_b2 (own_ld r R)), vI (own_b2 (own_fo r R B)), vI (own_i R.length)] [(.ref rc), (.int (own_i R.length)), (.int (own_i R.length))])) rfl rfl (hb hby d5_26) _ ?_
  rw [ln125]
  exact kt)
 clear R124
 obtain ⟨_, _, ⟨T127, L127, k127, n127⟩, -, X127, ⟨Lc127, hQ127, l127, y127, z127⟩, st127⟩ := Jvm.LawKit.callS X123 hx (y := (⟨"java/lang/Math", "min", "(II)I"⟩ : MethodName)) hown (mvT hZ (oW hw 46 rfl)) (mvT hZ (oW hw 47 rfl)) (mvT hZ (oW hw 48 rfl)) (mvT hZ (oW hw 49 rfl)) (by decide) (backOf (W := 1) (rm_min l Z a0 hw [] (own_i R.length) (16 : Int32) T113.heap n0 Zs114) hZ (oW hw 49 rfl) (oW hw 48 rfl) (by decide) (by decide)) (g := (mkF m 27 #[vR a1, vJ (φ r), .second, vI (own_b2 (own_ld r R)), vI (own_b2 (own_fo r R B)), vI (own_i R.length)] [(.int (16 : Int32)), (.int (own_i R.length)), (.int (own_i R.length))])) rfl (by rw [hml]; rfl) (argsL := [(.int (own_i R.length)), (.int (16 : Int32))]) (rest := [(.int (own_i R.length))]) (lenOf pd_2 rfl) rfl (by show 2 * 0 + _ ≤ _; exact Nat.le_of_eq rfl) (hb hby d5_27) (fun _ _ => ⟨rfl, e123, (by decide : 0 + 0 ≤ _), (by decide : 0 + 0 ≤ _)⟩)
 dsimp only [Pt.U, Pt.locs, Pt.cells, Pt.slots] at X127 l127 y127 z127 st127 hQ127
 rw [l127, y127, z127] at X127
 obtain ⟨rfl, N127q, hh127⟩ := hQ127
 have N127 := Fr.app N117 N127q
 have R128 := fun (tg : State) (kt : Steps p.tables e below (T127.setTop (mkF m 30 #[vR a1, vJ (φ r), .second, vI (own_b2 (own_ld r R)), vI (own_b2 (own_fo r R B)), vI (own_i R.length)] [(.int (own_min (own_i R.length) (16 : Int32))), (.int (own_i R.length))])) tg) => R126 tg (by
  refine st127 _ ?_
  exact kt)
 clear R126 st127
 have R129 := fun (tg : State) (kt : Steps p.tables e below (T127.setTop (mkF m 30 #[vR a1, vJ (φ r), .second, vI (own_b2 (own_ld r R)), vI (own_b2 (own_fo r R B)), vI (own_i R.length)] [(.int (own_i R.length)), (.int (own_i R.length))])) tg) => R128 tg (by rw [own_min16 (own_34 hR)]; exact kt)
 clear R128
 have R130 := fun (tg : State) (kt : Steps p.tables e below (T127.setTop (mkF m 77 #[vR a1, vJ (φ r), .second, vI (own_b2 (own_ld r R)), vI (own_b2 (own_fo r R B)), vI (own_i R.length)] [(.int (own_b2 (own_fo r R B)))])) tg) => R129 tg (by
  show Steps _ _ _ (T127.setTop (mkF m 30 #[vR a1, vJ (φ r), .second, vI (own_b2 (own_ld r R)), vI (own_b2 (own_fo r R B)), vI (own_i R.length)] [(.int (own_i R.length)), (.int (own_i R.length))])) _
  refine XS.icmpYes X127.here hx rfl (pc0 := 30) (pc' := 75) rfl (hb hby d5_30) rfl (flt (own_irr : ¬ ((own_i R.length) < (own_i R.length)))).2.1 (by decide) (by decide) ?_
  refine XS.iload X127.here hx rfl (hb hby d5_75) rfl ?_
  exact kt)
 clear R129
 by_cases hf : (own_b2 (own_fo r R B)) = (0 : Int32)
 ·have R131 := fun (tg : State) (kt : Steps p.tables e below (T127.setTop (mkF m 91 #[vR a1, vJ (φ r), .second, vI (own_b2 (own_ld r R)), vI (own_b2 (own_fo r R B)), vI (own_i R.length)] [(.int (own_b2 (own_ld r R))), (.long (φ r)), (.ref a1)])) tg) => R130 tg (by
   show Steps _ _ _ (T127.setTop (mkF m 77 #[vR a1, vJ (φ r), .second, vI (own_b2 (own_ld r R)), vI (own_b2 (own_fo r R B)), vI (own_i R.length)] [(.int (own_b2 (own_fo r R B)))])) _
   refine XS.ifYes X127.here hx rfl (pc0 := 77) (pc' := 88) rfl (hb hby d5_77) rfl ((if0 _ _).trans (teq (hf : (own_b2 (own_fo r R B)) = (0 : Int32))).1) (by decide) (by decide) ?_
   refine XS.aloadN X127.here hx rfl (hb hby d5_88) rfl rfl ?_
   refine XS.lloadN X127.here hx rfl (hb hby d5_89) rfl ?_
   refine XS.iloadN X127.here hx rfl (hb hby d5_90) rfl ?_
   exact kt)
  clear R130
  obtain ⟨cq132, q132, q132'⟩ := E_a1_114.cell
  obtain ⟨_, _, ⟨T132, L132, k132, n132⟩, -, X132, ⟨Lc132, hQ132, l132, y132, z132⟩, st132⟩ := X127.privateBack hx (y := (⟨cP, "remember", "(JZ)V"⟩ : MethodName)) hown (mvT hZ (oW hw 50 rfl)) (mvT hZ (oW hw 51 rfl)) (own_selp (mvT hZ (oW hw 1 rfl)) (mvP hZ (oW hw 52 rfl)) (mvT hZ (oW hw 51 rfl)) (by decide)) (Cond.privateMethod_at (mvP hZ (oW hw 52 rfl) (args := #[]))) (mvT hZ (oW hw 53 rfl)) (by decide) (backOf (W := 0) (rm_rem l Z a0 hw [] a1 (φ r) (own_b2 (own_ld r R)) φ rc lg p1 p2 R B r (own_ld r R) T113.heap n0 Zs114 E_a1_114 Fq_114 Fl_114 Fp_114 Ff_114 Fn_114 VR_114 VB_114 rfl rfl hR hB g_a1 g_rc g_lg ne_a1_rc ne_a1_lg ne_rc_lg) hZ (oW hw 53 rfl) (oW hw 2 rfl) (by decide) (by decide)) (g := (mkF m 91 #[vR a1, vJ (φ r), .second, vI (own_b2 (own_ld r R)), vI (own_b2 (own_fo r R B)), vI (own_i R.length)] [(.int (own_b2 (own_ld r R))), (.long (φ r)), (.ref a1)])) rfl (by rw [hml]; rfl) (Steps.refl _) (a := a1) (by rw [hh127]; exact q132) q132' (argsL := [(.long (φ r)), (.int (own_b2 (own_ld r R)))]) (rest := []) (lenOf pd_1 rfl) rfl (by show 2 * 0 + _ ≤ _; exact Nat.le_of_eq rfl) (hb hby d5_91) (fun _ _ => ⟨rfl, hh127, (by decide : 0 + 0 ≤ _), (by decide : 0 + 0 ≤ _)⟩)
  dsimp only [Pt.U, Pt.locs, Pt.cells, Pt.slots] at X132 l132 y132 z132 st132 hQ132
  rw [l132, y132, z132] at X132
  obtain ⟨rfl, N132q, K132, zEa, zFq, zFl, zFp, zFf, zFn, zVR, zVB⟩ := hQ132
  have N132 := Fr.app N127 N132q
  have E_p2_133 := E_p2_114.keep K132
  have Qv_133 := Qv_114.keep K132 (own_notin3 (Ne.symm ne_a1_p2) (Ne.symm ne_rc_p2) (Ne.symm ne_lg_p2))
  have Qs_133 := Qs_114.keep K132 (own_notin3 (Ne.symm ne_a1_p2) (Ne.symm ne_rc_p2) (Ne.symm ne_lg_p2))
  have VF_133 := VF_114.keep K132 (own_notin3 (Ne.symm ne_a1_t2) (Ne.symm ne_rc_t2) (Ne.symm ne_lg_t2))
  have E_p1_133 := E113z.keep K132
  have Pv_133 := Fv113z.keep K132 (own_notin3 (Ne.symm ne_a1_p1) (Ne.symm ne_rc_p1) (Ne.symm ne_lg_p1))
  have Ps_133 := Fs113z.keep K132 (own_notin3 (Ne.symm ne_a1_p1) (Ne.symm ne_rc_p1) (Ne.symm ne_lg_p1))
  have VP_133 := VV113z.keep K132 (own_notin3 (Ne.symm ne_a1_t1) (Ne.symm ne_rc_t1) (Ne.symm ne_lg_t1))
  clear E_p2_114 Qv_114 Qs_114 VF_114
  have Zs133 : n0 ≤ T132.heap.size := Nat.le_trans Zs114 K132.1
  have Kk133 : Keep h0 T132.heap [a1, rc, lg, p1, t1, p2, t2] := Keep.trans Kk114 K132 (own_trans3 (Or.inl (List.mem_of_getElem? (i := 0) rfl)) (Or.inl (List.mem_of_getElem? (i := 1) rfl)) (Or.inl (List.mem_of_getElem? (i := 2) rfl)))
  have R134 := fun (tg : State) (kt : Steps p.tables e below (T132.setTop (mkF m 94 #[vR a1, vJ (φ r), .second, vI (own_b2 (own_ld r R)), vI (own_b2 (own_fo r R B)), vI (own_i R.length)] [])) tg) => R131 tg (by
   refine st132.trans ?_
   exact kt)
  clear R131 st132
  have eF : (if own_fo r R B = true then F ++ [r] else F) = F := if_neg (by rw [(own_b2z _).mp hf]; decide)
  obtain ⟨fs, hr, hrun, hended, hW, hsame⟩ := X132.leave (v := none) (fun _ => rfl)
  refine ⟨_, _, pre0 _ (R134 _ ?_), hrun, hended, _, _, rfl, ?_, ⟨_, rfl⟩, hW, hsame.mono (by decide) (by decide)⟩
  ·exact X132.returnOut hx Bd.returns (hb hby d5_94) hr
  ·show Q_rm_add Z a1 q2 φ rc lg p1 t1 p2 t2 R B P F r h0 n0 _ T132.heap _
   unfold Q_rm_add; rw [eF]; exact ⟨rfl, N132, Kk133, zEa, zFq, zFl, zFp, zFf, zFn, zVR, zVB, E_p1_133, Pv_133, Ps_133, VP_133, E_p2_133, Qv_133, Qs_133, VF_133⟩
 ·have R135 := fun (tg : State) (kt : Steps p.tables e below (T127.setTop (mkF m 81 #[vR a1, vJ (φ r), .second, vI (own_b2 (own_ld r R)), vI (own_b2 (own_fo r R B)), vI (own_i R.length)] [(.ref a1)])) tg) => R130 tg (by
   show Steps _ _ _ (T127.setTop (mkF m 77 #[vR a1, vJ (φ r), .second, vI (own_b2 (own_ld r R)), vI (own_b2 (own_fo r R B)), vI (own_i R.length)] [(.int (own_b2 (own_fo r R B)))])) _
   refine XS.ifNo X127.here hx rfl (hb hby d5_77) rfl ((if0 _ _).trans (feq (hf : ¬ ((own_b2 (own_fo r R B)) = (0 : Int32)))).1) ?_
   refine XS.aloadN X127.here hx rfl (hb hby d5_80) rfl rfl ?_
   exact kt)
  clear R130
  obtain ⟨T136, X136, e136, st136⟩ := getF X127 hx hZ hown (host := "") (Or.inl (oW hw 26 rfl)) Via.refl hh127 Ff_114 (g := (mkF m 81 #[vR a1, vJ (φ r), .second, vI (own_b2 (own_ld r R)), vI (own_b2 (own_fo r R B)), vI (own_i R.length)] [(.ref a1)])) rfl rfl (hb hby d5_81)
  have R137 := fun (tg : State) (kt : Steps p.tables e below (T136.setTop (mkF m 85 #[vR a1, vJ (φ r), .second, vI (own_b2 (own_ld r R)), vI (own_b2 (own_fo r R B)), vI (own_i R.length)] [(.long (φ r)), (.ref p2)])) tg) => R135 tg (by
   refine st136 _ ?_
   refine XS.lloadN X136.here hx rfl (hb hby d5_84) rfl ?_
   exact kt)
  clear R135 st136
  obtain ⟨cq138, kq138, q138a, q138b, q138c⟩ := isOf hZ e136 E_p2_114
  obtain ⟨_, _, ⟨T138, L138, k138, n138⟩, -, X138, ⟨Lc138, hQ138, l138, y138, z138⟩, st138⟩ := X136.virtualBack hx (y := (⟨cF, "add", "(J)V"⟩ : MethodName)) (z := (⟨cF, "add", "(J)V"⟩ : MethodName)) hown (mvT hZ (oW hw 37 rfl)) (mvT hZ (oW hw 38 rfl)) (notFace_of_selects (args := #[]) (mvT hZ (oW hw 40 rfl))) (mvT hZ (oW hw 40 rfl)) (mvT hZ (oW hw 39 rfl)) (by decide) (backOf (W := 0) (rm_fpa l Z a0 hw [] p2 (φ r) φ t2 F r T113.heap n0 Zs114 E_p2_114 Qv_114 Qs_114 VF_114 rfl hF g_p2 g_t2 ne_p2_t2) hZ (oW hw 41 rfl) (oW hw 17 rfl) (by decide) (by decide)) q138a q138c (g := (mkF m 85 #[vR a1, vJ (φ r), .second, vI (own_b2 (own_ld r R)), vI (own_b2 (own_fo r R B)), vI (own_i R.length)] [(.long (φ r)), (.ref p2)])) rfl (by rw [hml]; rfl) (Steps.refl _) (argsL := [(.long (φ r))]) (rest := []) (lenOf pd_3 rfl) rfl (by show 2 * 0 + _ ≤ _; exact Nat.le_of_eq rfl) (hb hby d5_85) (fun _ _ => ⟨rfl, e136, (by decide : 0 + 0 ≤ _), (by decide : 0 + 0 ≤ _)⟩)
  dsimp only [Pt.U, Pt.locs, Pt.cells, Pt.slots] at X138 l138 y138 z138 st138 hQ138
  rw [l138, y138, z138] at X138
  obtain ⟨rfl, N138q, K138, E138z, Fv138z, Fs138z, VV138z⟩ := hQ138
  have N138 := Fr.app N127 N138q
  have E_a1_139 := E_a1_114.keep K138
  have Fq_139 := Fq_114.keep K138 (own_notin2 ne_a1_p2 ne_a1_t2)
  have Fl_139 := Fl_114.keep K138 (own_notin2 ne_a1_p2 ne_a1_t2)
  have Fp_139 := Fp_114.keep K138 (own_notin2 ne_a1_p2 ne_a1_t2)
  have Ff_139 := Ff_114.keep K138 (own_notin2 ne_a1_p2 ne_a1_t2)
  have Fn_139 := Fn_114.keep K138 (own_notin2 ne_a1_p2 ne_a1_t2)
  have VR_139 := VR_114.keep K138 (own_notin2 ne_rc_p2 ne_rc_t2)
  have VB_139 := VB_114.keep K138 (own_notin2 ne_lg_p2 ne_lg_t2)
  have E_p1_139 := E113z.keep K138
  have Pv_139 := Fv113z.keep K138 (own_notin2 ne_p1_p2 ne_p1_t2)
  have Ps_139 := Fs113z.keep K138 (own_notin2 ne_p1_p2 ne_p1_t2)
  have VP_139 := VV113z.keep K138 (own_notin2 ne_t1_p2 ne_t1_t2)
  clear E_a1_114 Fq_114 Fl_114 Fp_114 Ff_114 Fn_114 VR_114 VB_114
  have Zs139 : n0 ≤ T138.heap.size := Nat.le_trans Zs114 K138.1
  have Kk139 : Keep h0 T138.heap [a1, rc, lg, p1, t1, p2, t2] := Keep.trans Kk114 K138 (own_trans2 (Or.inl (List.mem_of_getElem? (i := 5) rfl)) (Or.inl (List.mem_of_getElem? (i := 6) rfl)))
  have R140 := fun (tg : State) (kt : Steps p.tables e below (T138.setTop (mkF m 91 #[vR a1, vJ (φ r), .second, vI (own_b2 (own_ld r R)), vI (own_b2 (own_fo r R B)), vI (own_i R.length)] [(.int (own_b2 (own_ld r R))), (.long (φ r)), (.ref a1)])) tg) => R137 tg (by
   refine st138.trans ?_
   refine XS.aloadN X138.here hx rfl (hb hby d5_88) rfl rfl ?_
   show Steps _ _ _ (T138.setTop (mkF m 89 #[vR a1, vJ (φ r), .second, vI (own_b2 (own_ld r R)), vI (own_b2 (own_fo r R B)), vI (own_i R.length)] [(.ref a1)])) _
   refine XS.lloadN X138.here hx rfl (hb hby d5_89) rfl ?_
   refine XS.iloadN X138.here hx rfl (hb hby d5_90) rfl ?_
   exact kt)
  clear R137 st138
  obtain ⟨cq141, q141, q141'⟩ := E_a1_139.cell
  obtain ⟨_, _, ⟨T141, L141, k141, n141⟩, -, X141, ⟨Lc141, hQ141, l141, y141, z141⟩, st141⟩ := X138.privateBack hx (y := (⟨cP, "remember", "(JZ)V"⟩ : MethodName)) hown (mvT hZ (oW hw 50 rfl)) (mvT hZ (oW hw 51 rfl)) (own_selp (mvT hZ (oW hw 1 rfl)) (mvP hZ (oW hw 52 rfl)) (mvT hZ (oW hw 51 rfl)) (by decide)) (Cond.privateMethod_at (mvP hZ (oW hw 52 rfl) (args := #[]))) (mvT hZ (oW hw 53 rfl)) (by decide) (backOf (W := 0) (rm_rem l Z a0 hw [] a1 (φ r) (own_b2 (own_ld r R)) φ rc lg p1 p2 R B r (own_ld r R) T138.heap n0 Zs139 E_a1_139 Fq_139 Fl_139 Fp_139 Ff_139 Fn_139 VR_139 VB_139 rfl rfl hR hB g_a1 g_rc g_lg ne_a1_rc ne_a1_lg ne_rc_lg) hZ (oW hw 53 rfl) (oW hw 2 rfl) (by decide) (by decide)) (g := (mkF m 91 #[vR a1, vJ (φ r), .second, vI (own_b2 (own_ld r R)), vI (own_b2 (own_fo r R B)), vI (own_i R.length)] [(.int (own_b2 (own_ld r R))), (.long (φ r)), (.ref a1)])) rfl (by rw [hml]; rfl) (Steps.refl _) (a := a1) q141 q141' (argsL := [(.long (φ r)), (.int (own_b2 (own_ld r R)))]) (rest := []) (lenOf pd_1 rfl) rfl (by show 2 * 0 + _ ≤ _; exact Nat.le_of_eq rfl) (hb hby d5_91) (fun _ _ => ⟨rfl, rfl, (by decide : 0 + 0 ≤ _), (by decide : 0 + 0 ≤ _)⟩)
  dsimp only [Pt.U, Pt.locs, Pt.cells, Pt.slots] at X141 l141 y141 z141 st141 hQ141
  rw [l141, y141, z141] at X141
  obtain ⟨rfl, N141q, K141, zEa, zFq, zFl, zFp, zFf, zFn, zVR, zVB⟩ := hQ141
  have N141 := Fr.app N138 N141q
  have E_p1_142 := E_p1_139.keep K141
  have Pv_142 := Pv_139.keep K141 (own_notin3 (Ne.symm ne_a1_p1) (Ne.symm ne_rc_p1) (Ne.symm ne_lg_p1))
  have Ps_142 := Ps_139.keep K141 (own_notin3 (Ne.symm ne_a1_p1) (Ne.symm ne_rc_p1) (Ne.symm ne_lg_p1))
  have VP_142 := VP_139.keep K141 (own_notin3 (Ne.symm ne_a1_t1) (Ne.symm ne_rc_t1) (Ne.symm ne_lg_t1))
  have E_p2_142 := E138z.keep K141
  have Qv_142 := Fv138z.keep K141 (own_notin3 (Ne.symm ne_a1_p2) (Ne.symm ne_rc_p2) (Ne.symm ne_lg_p2))
  have Qs_142 := Fs138z.keep K141 (own_notin3 (Ne.symm ne_a1_p2) (Ne.symm ne_rc_p2) (Ne.symm ne_lg_p2))
  have VF_142 := VV138z.keep K141 (own_notin3 (Ne.symm ne_a1_t2) (Ne.symm ne_rc_t2) (Ne.symm ne_lg_t2))
  clear E_p1_139 Pv_139 Ps_139 VP_139
  have Zs142 : n0 ≤ T141.heap.size := Nat.le_trans Zs139 K141.1
  have Kk142 : Keep h0 T141.heap [a1, rc, lg, p1, t1, p2, t2] := Keep.trans Kk139 K141 (own_trans3 (Or.inl (List.mem_of_getElem? (i := 0) rfl)) (Or.inl (List.mem_of_getElem? (i := 1) rfl)) (Or.inl (List.mem_of_getElem? (i := 2) rfl)))
  have R143 := fun (tg : State) (kt : Steps p.tables e below (T141.setTop (mkF m 94 #[vR a1, vJ (φ r), .second, vI (own_b2 (own_ld r R)), vI (own_b2 (own_fo r R B)), vI (own_i R.length)] [])) tg) => R140 tg (by
   refine st141.trans ?_
   exact kt)
  clear R140 st141
  have eF : (if own_fo r R B = true then F ++ [r] else F) = (F ++ [r]) := if_pos (own_b2t hf)
  obtain ⟨fs, hr, hrun, hended, hW, hsame⟩ := X141.leave (v := none) (fun _ => rfl)
  refine ⟨_, _, pre0 _ (R143 _ ?_), hrun, hended, _, _, rfl, ?_, ⟨_, rfl⟩, hW, hsame.mono (by decide) (by decide)⟩
  ·exact X141.returnOut hx Bd.returns (hb hby d5_94) hr
  ·show Q_rm_add Z a1 q2 φ rc lg p1 t1 p2 t2 R B P F r h0 n0 _ T141.heap _
   unfold Q_rm_add; rw [eF]; exact ⟨rfl, N141, Kk142, zEa, zFq, zFl, zFp, zFf, zFn, zVR, zVB, E_p1_142, Pv_142, Ps_142, VP_142, E_p2_142, Qv_142, Qs_142, VF_142⟩
theorem pn_2 : plainName "com/example/workaday_tariff/workadaytariff/engine/PeriodCensusAddPinLaw" = true := by first | (simp [plainName, overriddenIn]; done) | decide +kernel
theorem d4_0 : oD k8 0 (.iload_n 1) 1 := by decide +kernel
theorem d4_1 : oD k8 1 (.iconst 1) 1 := by decide +kernel
theorem d4_2 : oD k8 2 (.if_icmp .ne 10) 3 := by decide +kernel
theorem d4_12 : oD k8 12 (.iload_n 1) 1 := by decide +kernel
theorem d4_13 : oD k8 13 (.iconst 2) 1 := by decide +kernel
theorem d4_14 : oD k8 14 (.if_icmp .ne 11) 3 := by decide +kernel
theorem d4_25 : oD k8 25 (.iload_n 1) 1 := by decide +kernel
theorem d4_26 : oD k8 26 (.iconst 3) 1 := by decide +kernel
theorem d4_27 : oD k8 27 (.if_icmp .ne 9) 3 := by decide +kernel
theorem d4_36 : oD k8 36 .return_ 1 := by decide +kernel
theorem d4_5 : oD k8 5 (.aload_n 0) 1 := by decide +kernel
theorem d4_6 : oD k8 6 (.invokevirtual 47) 3 := by decide +kernel
theorem d4_9 : oD k8 9 (.goto 27) 3 := by decide +kernel
theorem d4_17 : oD k8 17 (.aload_n 0) 1 := by decide +kernel
theorem d4_18 : oD k8 18 (.lload_n 2) 1 := by decide +kernel
theorem d4_19 : oD k8 19 (.invokevirtual 50) 3 := by decide +kernel
theorem d4_22 : oD k8 22 (.goto 14) 3 := by decide +kernel
theorem d4_30 : oD k8 30 (.aload_n 0) 1 := by decide +kernel
theorem d4_31 : oD k8 31 (.lload 4) 2 := by decide +kernel
theorem d4_33 : oD k8 33 (.invokevirtual 50) 3 := by decide +kernel
theorem ef_rm_row (m : MethodId) (a1 : Addr) (pk : Int32) (q3 : Int64) (q4 : Int64) : entryFrame m #[(.ref a1), (.int pk), (.long q3), (.long q4)] 6 = mkF m 0 #[vR a1, vI pk, vJ q3, .second, vJ q4, .second] [] := by first | (simp [entryFrame, mkF, argsToLocals, Value.category]; done) | rfl
def Q_rm_row (Z : State) (a1 : Addr) (pk : Int32) (q3 : Int64) (q4 : Int64) (φ : Nat → Int64) (rc : Addr) (lg : Addr) (p1 : Addr) (t1 : Addr) (p2 : Addr) (t2 : Addr) (R : List Nat) (B : List Bool) (P : List Nat) (F : List Nat) (κ : Nat) (ra : Nat) (rb : Nat) (rs : Nat) (h0 : Heap) (n0 : Nat) (v : Option Value) (h : Heap) (L : List Loc) : Prop := v = none ∧ Fr n0 L ∧ Keep h0 h [a1, rc, lg, p1, t1, p2, t2] ∧ Exa Z h a1 cP ∧ Fld Z h a1 cP "recent" "[J" (.ref rc) ∧ Fld Z h a1 cP "recentLeading" "[Z" (.ref lg) ∧ Fld Z h a1 cP "periods" cD (.ref p1) ∧ Fld Z h a1 cP "followers" cD (.ref p2) ∧ Fld Z h a1 cP "seen" "I" (.int (own_i ((own_rwR κ ra rb rs R)).length)) ∧ VG Z h rc .long 16 (fun r => .long (φ r)) 0 (own_rwR κ ra rb rs R) ∧ VG Z h lg .boolean 16 (fun b => .int (own_b2 b)) false (own_rwB κ ra rb R B) ∧ Exa Z h p1 cF ∧ Fld Z h p1 cF "values" "[J" (.ref t1) ∧ Fld Z h p1 cF "size" "I" (.int (own_i ((own_rwP κ ra rb P)).length)) ∧ VG Z h t1 .long 1024 (fun r => .long (φ r)) 0 (own_rwP κ ra rb P) ∧ Exa Z h p2 cF ∧ Fld Z h p2 cF "values" "[J" (.ref t2) ∧ Fld Z h p2 cF "size" "I" (.int (own_i ((own_rwF κ ra rb R B F)).length)) ∧ VG Z h t2 .long 1024 (fun r => .long (φ r)) 0 (own_rwF κ ra rb R B F)
set_option maxRecDepth 65536 in
set_option maxHeartbeats 40000000 in
theorem rm_row (l : Launch) (Z : State) (a0 : Array Value) (hw : ∀ d ∈ tables_1, d.before a0 Z = true) (ws : List Jvm.Cond) (a1 : Addr) (pk : Int32) (q3 : Int64) (q4 : Int64) (φ : Nat → Int64) (rc : Addr) (lg : Addr) (p1 : Addr) (t1 : Addr) (p2 : Addr) (t2 : Addr) (R : List Nat) (B : List Bool) (P : List Nat) (F : List Nat) (κ : Nat) (ra : Nat) (rb : Nat) (rs : Nat) (h0 : Heap) (n0 : Nat) (Z0 : n0 ≤ h0.size) (Ea : Exa Z h0 a1 cP) (Fq : Fld Z h0 a1 cP "recent" "[J" (.ref rc)) (Fl : Fld Z h0 a1 cP "recentLeading" "[Z" (.ref lg)) (Fp : Fld Z h0 a1 cP "periods" cD (.ref p1)) (Ff : Fld Z h0 a1 cP "followers" cD (.ref p2)) (Fn : Fld Z h0 a1 cP "seen" "I" (.int (own_i (R).length))) (VR : VG Z h0 rc .long 16 (fun r => .long (φ r)) 0 R) (VB : VG Z h0 lg .boolean 16 (fun b => .int (own_b2 b)) false B) (E1 : Exa Z h0 p1 cF) (Pv : Fld Z h0 p1 cF "values" "[J" (.ref t1)) (Ps : Fld Z h0 p1 cF "size" "I" (.int (own_i (P).length))) (VP : VG Z h0 t1 .long 1024 (fun r => .long (φ r)) 0 P) (E2 : Exa Z h0 p2 cF) (Qv : Fld Z h0 p2 cF "values" "[J" (.ref t2)) (Qs : Fld Z h0 p2 cF "size" "I" (.int (own_i (F).length))) (VF : VG Z h0 t2 .long 1024 (fun r => .long (φ r)) 0 F) (ND : own_nd n0 a1 rc lg p1 t1 p2 t2) (hk : pk = own_i κ) (hq3 : q3 = φ ra) (hq4 : q4 = φ rb) (hqs : φ rs = (-3750763034362895579 : Int64)) (H : own_mono φ) (okR : own_ok R) (hra : ra < 4) (hrb : rb < 4) (hR : R.length ≤ 3) (hB : B.length = R.length) (hP : P.length ≤ 4) (hF : F.length ≤ 4) (k4 : κ = 0 ∨ κ = 1 ∨ κ = 2 ∨ κ = 3) :
  MetFree l (⟨cL, "row", "(Lcom/example/workaday_tariff/workadaytariff/engine/PeriodCensus;IJJ)V"⟩ : MethodName) (head1 (Jvm.Cond.code (⟨cL, "row", "(Lcom/example/workaday_tariff/workadaytariff/engine/PeriodCensus;IJJ)V"⟩ : MethodName) method_3_code 6 none :: ws) rM8) (fun a U => a = #[(.ref a1), (.int pk), (.long q3), (.long q4)] ∧ Z.Warmed39 U.vm ∧ U.heap = h0) (fun _ _ _ _ _ => True) (fun _ U oC U' => ∃ v L, oC = .returned v ∧ Q_rm_row Z a1 pk q3 q4 φ rc lg p1 t1 p2 t2 R B P F κ ra rb rs h0 n0 v U'.heap L ∧ FrameEnd U oC U' L rM8.cells rM8.slots) := by
 refine MetFree.of_bodySF (plainFor_of_name pn_2) hisR ?_
 intro p e s m args below meth c s₁ Bd hml0 hP hK
 obtain ⟨rfl, hZ, hh⟩ := hP
 have hx := Bd.exec
 have hby := Bd.bytes
 have hml : c.maxLocals = 6 := hml0
 have hown : s.vm.findClass cL = some m.cls := findClass_of_methodNamed Bd.named
 have hnm := (name_of_methodNamed Bd.named Bd.method).1
 have X0 : Stand p l e rM8 s m #[(.ref a1), (.int pk), (.long q3), (.long q4)] below meth c s₁ [] 0 0 := Stand.of_body Bd
 have e0 : s₁.heap = h0 := by rw [← hh, Bd.state]; rfl
 have N0 := Fr.nil n0
 have pre0 : Sq p e below (s₁.setTop (mkF m 0 #[vR a1, vI pk, vJ q3, .second, vJ q4, .second] [])) (s₁.setTop (entryFrame m #[(.ref a1), (.int pk), (.long q3), (.long q4)] 6)) := fun t k => castTop (ef_rm_row m a1 pk q3 q4) k
 have pre00 : Sq p e below (s₁.setTop (mkF m 0 #[vR a1, vI pk, vJ q3, .second, vJ q4, .second] [])) (s₁.setTop (mkF m 0 #[vR a1, vI pk, vJ q3, .second, vJ q4, .second] [])) := fun _ k => k
 rcases k4 with k4 | k4 | k4 | k4
 ·obtain ⟨ne_a1_rc, ne_a1_lg, ne_a1_p1, ne_a1_t1, ne_a1_p2, ne_a1_t2, ne_rc_lg, ne_rc_p1, ne_rc_t1, ne_rc_p2, ne_rc_t2, ne_lg_p1, ne_lg_t1, ne_lg_p2, ne_lg_t2, ne_p1_t1, ne_p1_p2, ne_p1_t2, ne_t1_p2, ne_t1_t2, ne_p2_t2, g_a1, g_rc, g_lg, g_p1, g_t1, g_p2, g_t2⟩ := id ND
  rw [k4] at hk
  have hk : pk = (0 : Int32) := hk
  have R144 := fun (tg : State) (kt : Steps p.tables e below (s₁.setTop (mkF m 0 #[vR a1, vI (0 : Int32), vJ (φ ra), .second, vJ (φ rb), .second] [])) tg) => pre00 tg (by rw [hk, hq3, hq4]; exact kt)
  have R145 := fun (tg : State) (kt : Steps p.tables e below (s₁.setTop (mkF m 36 #[vR a1, vI (0 : Int32), vJ (φ ra), .second, vJ (φ rb), .second] [])) tg) => R144 tg (by
   show Steps _ _ _ (s₁.setTop (mkF m 0 #[vR a1, vI (0 : Int32), vJ (φ ra), .second, vJ (φ rb), .second] [])) _
   refine XS.iloadN X0.here hx rfl (hb hby d4_0) rfl ?_
   refine XS.iconst X0.here hx rfl (hb hby d4_1) ?_
   show Steps _ _ _ (s₁.setTop (mkF m 2 #[vR a1, vI (0 : Int32), vJ (φ ra), .second, vJ (φ rb), .second] [(.int (1 : Int32)), (.int (0 : Int32))])) _
   refine XS.icmpYes X0.here hx rfl (pc0 := 2) (pc' := 12) rfl (hb hby d4_2) rfl (feq (by decide : ¬ ((0 : Int32) = (1 : Int32)))).2 (by decide) (by decide) ?_
   refine XS.iloadN X0.here hx rfl (hb hby d4_12) rfl ?_
   refine XS.iconst X0.here hx rfl (hb hby d4_13) ?_
   show Steps _ _ _ (s₁.setTop (mkF m 14 #[vR a1, vI (0 : Int32), vJ (φ ra), .second, vJ (φ rb), .second] [(.int (2 : Int32)), (.int (0 : Int32))])) _
   refine XS.icmpYes X0.here hx rfl (pc0 := 14) (pc' := 25) rfl (hb hby d4_14) rfl (feq (by decide : ¬ ((0 : Int32) = (2 : Int32)))).2 (by decide) (by decide) ?_
   refine XS.iloadN X0.here hx rfl (hb hby d4_25) rfl ?_
   refine XS.iconst X0.here hx rfl (hb hby d4_26) ?_
   show Steps _ _ _ (s₁.setTop (mkF m 27 #[vR a1, vI (0 : Int32), vJ (φ ra), .second, vJ (φ rb), .second] [(.int (3 : Int32)), (.int (0 : Int32))])) _
   refine XS.icmpYes X0.here hx rfl (pc0 := 27) (pc' := 36) rfl (hb hby d4_27) rfl (feq (by decide : ¬ ((0 : Int32) = (3 : Int32)))).2 (by decide) (by decide) ?_
   exact kt)
  clear R144
  obtain ⟨fs, hr, hrun, hended, hW, hsame⟩ := X0.leave (v := none) (fun _ => rfl)
  refine ⟨_, _, pre0 _ (R145 _ ?_), hrun, hended, _, _, rfl, ?_, ⟨_, rfl⟩, hW, hsame.mono (by decide) (by decide)⟩
  ·exact X0.returnOut hx Bd.returns (hb hby d4_36) hr
  ·show Q_rm_row Z a1 pk q3 q4 φ rc lg p1 t1 p2 t2 R B P F κ ra rb rs h0 n0 _ s₁.heap _
   rw [e0]
   unfold Q_rm_row; rw [k4, own_rwR_0, own_rwB_0, own_rwP_0, own_rwF_0]; exact ⟨rfl, N0, (Keep.refl h0 [a1, rc, lg, p1, t1, p2, t2]), Ea, Fq, Fl, Fp, Ff, Fn, VR, VB, E1, Pv, Ps, VP, E2, Qv, Qs, VF⟩
 ·obtain ⟨ne_a1_rc, ne_a1_lg, ne_a1_p1, ne_a1_t1, ne_a1_p2, ne_a1_t2, ne_rc_lg, ne_rc_p1, ne_rc_t1, ne_rc_p2, ne_rc_t2, ne_lg_p1, ne_lg_t1, ne_lg_p2, ne_lg_t2, ne_p1_t1, ne_p1_p2, ne_p1_t2, ne_t1_p2, ne_t1_t2, ne_p2_t2, g_a1, g_rc, g_lg, g_p1, g_t1, g_p2, g_t2⟩ := id ND
  rw [k4] at hk
  have hk : pk = (1 : Int32) := hk
  have R146 := fun (tg : State) (kt : Steps p.tables e below (s₁.setTop (mkF m 0 #[vR a1, vI (1 : Int32), vJ (φ ra), .second, vJ (φ rb), .second] [])) tg) => pre00 tg (by rw [hk, hq3, hq4]; exact kt)
  have R147 := fun (tg : State) (kt : Steps p.tables e below (s₁.setTop (mkF m 6 #[vR a1, vI (1 : Int32), vJ (φ ra), .second, vJ (φ rb), .second] [(.ref a1)])) tg) => R146 tg (by
   show Steps _ _ _ (s₁.setTop (mkF m 0 #[vR a1, vI (1 : Int32), vJ (φ ra), .second, vJ (φ rb), .second] [])) _
   refine XS.iloadN X0.here hx rfl (hb hby d4_0) rfl ?_
   refine XS.iconst X0.here hx rfl (hb hby d4_1) ?_
   show Steps _ _ _ (s₁.setTop (mkF m 2 #[vR a1, vI (1 : Int32), vJ (φ ra), .second, vJ (φ rb), .second] [(.int (1 : Int32)), (.int (1 : Int32))])) _
   refine XS.icmpNo X0.here hx rfl (hb hby d4_2) rfl (teq (by decide : (1 : Int32) = (1 : Int32))).2 ?_
   refine XS.aloadN X0.here hx rfl (hb hby d4_5) rfl rfl ?_
   exact kt)
  clear R146
  obtain ⟨cq148, kq148, q148a, q148b, q148c⟩ := isOf hZ e0 Ea
  obtain ⟨_, _, ⟨T148, L148, k148, n148⟩, -, X148, ⟨Lc148, hQ148, l148, y148, z148⟩, st148⟩ := X0.virtualBack hx (y := (⟨cP, "addUnnamed", "()V"⟩ : MethodName)) (z := (⟨cP, "addUnnamed", "()V"⟩ : MethodName)) hown (mvT hZ (oW hw 151 rfl)) (mvT hZ (oW hw 152 rfl)) (notFace_of_selects (args := #[]) (mvT hZ (oW hw 154 rfl))) (mvT hZ (oW hw 154 rfl)) (mvT hZ (oW hw 153 rfl)) (by decide) (backOf (W := 0) (rm_una l Z a0 hw [] a1 φ rc lg p1 p2 R B rs h0 n0 Z0 Ea Fq Fl Fp Ff Fn VR VB hqs hR hB g_a1 g_rc g_lg ne_a1_rc ne_a1_lg ne_rc_lg) hZ (oW hw 155 rfl) (oW hw 2 rfl) (by decide) (by decide)) q148a q148c (g := (mkF m 6 #[vR a1, vI (1 : Int32), vJ (φ ra), .second, vJ (φ rb), .second] [(.ref a1)])) rfl (by rw [hml]; rfl) (Steps.refl _) (argsL := []) (rest := []) (lenOf pd_0 rfl) rfl (by show 2 * 0 + _ ≤ _; exact Nat.le_of_eq rfl) (hb hby d4_6) (fun _ _ => ⟨rfl, e0, (by decide : 0 + 0 ≤ _), (by decide : 0 + 0 ≤ _)⟩)
  dsimp only [Pt.U, Pt.locs, Pt.cells, Pt.slots] at X148 l148 y148 z148 st148 hQ148
  rw [l148, y148, z148] at X148
  obtain ⟨rfl, N148q, K148, zEa, zFq, zFl, zFp, zFf, zFn, zVR, zVB⟩ := hQ148
  have N148 := Fr.app N0 N148q
  have E_p1_149 := E1.keep K148
  have Pv_149 := Pv.keep K148 (own_notin3 (Ne.symm ne_a1_p1) (Ne.symm ne_rc_p1) (Ne.symm ne_lg_p1))
  have Ps_149 := Ps.keep K148 (own_notin3 (Ne.symm ne_a1_p1) (Ne.symm ne_rc_p1) (Ne.symm ne_lg_p1))
  have VP_149 := VP.keep K148 (own_notin3 (Ne.symm ne_a1_t1) (Ne.symm ne_rc_t1) (Ne.symm ne_lg_t1))
  have E_p2_149 := E2.keep K148
  have Qv_149 := Qv.keep K148 (own_notin3 (Ne.symm ne_a1_p2) (Ne.symm ne_rc_p2) (Ne.symm ne_lg_p2))
  have Qs_149 := Qs.keep K148 (own_notin3 (Ne.symm ne_a1_p2) (Ne.symm ne_rc_p2) (Ne.symm ne_lg_p2))
  have VF_149 := VF.keep K148 (own_notin3 (Ne.symm ne_a1_t2) (Ne.symm ne_rc_t2) (Ne.symm ne_lg_t2))
  have Zs149 : n0 ≤ T148.heap.size := Nat.le_trans Z0 K148.1
  have Kk149 : Keep h0 T148.heap [a1, rc, lg, p1, t1, p2, t2] := Keep.trans (Keep.refl h0 [a1, rc, lg, p1, t1, p2, t2]) K148 (own_trans3 (Or.inl (List.mem_of_getElem? (i := 0) rfl)) (Or.inl (List.mem_of_getElem? (i := 1) rfl)) (Or.inl (List.mem_of_getElem? (i := 2) rfl)))
  have R150 := fun (tg : State) (kt : Steps p.tables e below (T148.setTop (mkF m 36 #[vR a1, vI (1 : Int32), vJ (φ ra), .second, vJ (φ rb), .second] [])) tg) => R147 tg (by
   refine st148.trans ?_
   show Steps _ _ _ (T148.setTop (mkF m 9 #[vR a1, vI (1 : Int32), vJ (φ ra), .second, vJ (φ rb), .second] [])) _
   refine XS.goto X148.here hx rfl (pc0 := 9) (pc' := 36) rfl (hb hby d4_9) (by decide) (by decide) ?_
   exact kt)
  clear R147 st148
  obtain ⟨fs, hr, hrun, hended, hW, hsame⟩ := X148.leave (v := none) (fun _ => rfl)
  refine ⟨_, _, pre0 _ (R150 _ ?_), hrun, hended, _, _, rfl, ?_, ⟨_, rfl⟩, hW, hsame.mono (by decide) (by decide)⟩
  ·exact X148.returnOut hx Bd.returns (hb hby d4_36) hr
  ·show Q_rm_row Z a1 pk q3 q4 φ rc lg p1 t1 p2 t2 R B P F κ ra rb rs h0 n0 _ T148.heap _
   unfold Q_rm_row; rw [k4, own_rwR_1, own_rwB_1, own_rwP_1, own_rwF_1]; exact ⟨rfl, N148, Kk149, zEa, zFq, zFl, zFp, zFf, zFn, zVR, zVB, E_p1_149, Pv_149, Ps_149, VP_149, E_p2_149, Qv_149, Qs_149, VF_149⟩
 ·obtain ⟨ne_a1_rc, ne_a1_lg, ne_a1_p1, ne_a1_t1, ne_a1_p2, ne_a1_t2, ne_rc_lg, ne_rc_p1, ne_rc_t1, ne_rc_p2, ne_rc_t2, ne_lg_p1, ne_lg_t1, ne_lg_p2, ne_lg_t2, ne_p1_t1, ne_p1_p2, ne_p1_t2, ne_t1_p2, ne_t1_t2, ne_p2_t2, g_a1, g_rc, g_lg, g_p1, g_t1, g_p2, g_t2⟩ := id ND
  rw [k4] at hk
  have hk : pk = (2 : Int32) := hk
  have R151 := fun (tg : State) (kt : Steps p.tables e below (s₁.setTop (mkF m 0 #[vR a1, vI (2 : Int32), vJ (φ ra), .second, vJ (φ rb), .second] [])) tg) => pre00 tg (by rw [hk, hq3, hq4]; exact kt)
  have R152 := fun (tg : State) (kt : Steps p.tables e below (s₁.setTop (mkF m 19 #[vR a1, vI (2 : Int32), vJ (φ ra), .second, vJ (φ rb), .second] [(.long (φ ra)), (.ref a1)])) tg) => R151 tg (by
   show Steps _ _ _ (s₁.setTop (mkF m 0 #[vR a1, vI (2 : Int32), vJ (φ ra), .second, vJ (φ rb), .second] [])) _
   refine XS.iloadN X0.here hx rfl (hb hby d4_0) rfl ?_
   refine XS.iconst X0.here hx rfl (hb hby d4_1) ?_
   show Steps _ _ _ (s₁.setTop (mkF m 2 #[vR a1, vI (2 : Int32), vJ (φ ra), .second, vJ (φ rb), .second] [(.int (1 : Int32)), (.int (2 : Int32))])) _
   refine XS.icmpYes X0.here hx rfl (pc0 := 2) (pc' := 12) rfl (hb hby d4_2) rfl (feq (by decide : ¬ ((2 : Int32) = (1 : Int32)))).2 (by decide) (by decide) ?_
   refine XS.iloadN X0.here hx rfl (hb hby d4_12) rfl ?_
   refine XS.iconst X0.here hx rfl (hb hby d4_13) ?_
   show Steps _ _ _ (s₁.setTop (mkF m 14 #[vR a1, vI (2 : Int32), vJ (φ ra), .second, vJ (φ rb), .second] [(.int (2 : Int32)), (.int (2 : Int32))])) _
   refine XS.icmpNo X0.here hx rfl (hb hby d4_14) rfl (teq (by decide : (2 : Int32) = (2 : Int32))).2 ?_
   refine XS.aloadN X0.here hx rfl (hb hby d4_17) rfl rfl ?_
   refine XS.lloadN X0.here hx rfl (hb hby d4_18) rfl ?_
   exact kt)
  clear R151
  obtain ⟨cq153, kq153, q153a, q153b, q153c⟩ := isOf hZ e0 Ea
  obtain ⟨_, _, ⟨T153, L153, k153, n153⟩, -, X153, ⟨Lc153, hQ153, l153, y153, z153⟩, st153⟩ := X0.virtualBack hx (y := (⟨cP, "add", "(J)V"⟩ : MethodName)) (z := (⟨cP, "add", "(J)V"⟩ : MethodName)) hown (mvT hZ (oW hw 32 rfl)) (mvT hZ (oW hw 33 rfl)) (notFace_of_selects (args := #[]) (mvT hZ (oW hw 35 rfl))) (mvT hZ (oW hw 35 rfl)) (mvT hZ (oW hw 34 rfl)) (by decide) (backOf (W := 0) (rm_add l Z a0 hw [] a1 (φ ra) φ rc lg p1 t1 p2 t2 R B P F ra h0 n0 Z0 Ea Fq Fl Fp Ff Fn VR VB E1 Pv Ps VP E2 Qv Qs VF ND rfl H okR hra hR hB hP hF) hZ (oW hw 36 rfl) (oW hw 2 rfl) (by decide) (by decide)) q153a q153c (g := (mkF m 19 #[vR a1, vI (2 : Int32), vJ (φ ra), .second, vJ (φ rb), .second] [(.long (φ ra)), (.ref a1)])) rfl (by rw [hml]; rfl) (Steps.refl _) (argsL := [(.long (φ ra))]) (rest := []) (lenOf pd_3 rfl) rfl (by show 2 * 0 + _ ≤ _; exact Nat.le_of_eq rfl) (hb hby d4_19) (fun _ _ => ⟨rfl, e0, (by decide : 0 + 0 ≤ _), (by decide : 0 + 0 ≤ _)⟩)
  dsimp only [Pt.U, Pt.locs, Pt.cells, Pt.slots] at X153 l153 y153 z153 st153 hQ153
  rw [l153, y153, z153] at X153
  obtain ⟨rfl, N153q, K153, zEa, zFq, zFl, zFp, zFf, zFn, zVR, zVB, zE1, zPv, zPs, zVP, zE2, zQv, zQs, zVF⟩ := hQ153
  have N153 := Fr.app N0 N153q
  have Kz153 : Keep h0 T153.heap [a1, rc, lg, p1, t1, p2, t2] := K153
  have Zs153 : n0 ≤ T153.heap.size := Nat.le_trans Z0 K153.1
  have R154 := fun (tg : State) (kt : Steps p.tables e below (T153.setTop (mkF m 36 #[vR a1, vI (2 : Int32), vJ (φ ra), .second, vJ (φ rb), .second] [])) tg) => R152 tg (by
   refine st153.trans ?_
   show Steps _ _ _ (T153.setTop (mkF m 22 #[vR a1, vI (2 : Int32), vJ (φ ra), .second, vJ (φ rb), .second] [])) _
   refine XS.goto X153.here hx rfl (pc0 := 22) (pc' := 36) rfl (hb hby d4_22) (by decide) (by decide) ?_
   exact kt)
  clear R152 st153
  obtain ⟨fs, hr, hrun, hended, hW, hsame⟩ := X153.leave (v := none) (fun _ => rfl)
  refine ⟨_, _, pre0 _ (R154 _ ?_), hrun, hended, _, _, rfl, ?_, ⟨_, rfl⟩, hW, hsame.mono (by decide) (by decide)⟩
  ·exact X153.returnOut hx Bd.returns (hb hby d4_36) hr
  ·show Q_rm_row Z a1 pk q3 q4 φ rc lg p1 t1 p2 t2 R B P F κ ra rb rs h0 n0 _ T153.heap _
   unfold Q_rm_row; rw [k4, own_rwR_2, own_rwB_2, own_rwP_2, own_rwF_2]; exact ⟨rfl, N153, Kz153, zEa, zFq, zFl, zFp, zFf, zFn, zVR, zVB, zE1, zPv, zPs, zVP, zE2, zQv, zQs, zVF⟩
 ·obtain ⟨ne_a1_rc, ne_a1_lg, ne_a1_p1, ne_a1_t1, ne_a1_p2, ne_a1_t2, ne_rc_lg, ne_rc_p1, ne_rc_t1, ne_rc_p2, ne_rc_t2, ne_lg_p1, ne_lg_t1, ne_lg_p2, ne_lg_t2, ne_p1_t1, ne_p1_p2, ne_p1_t2, ne_t1_p2, ne_t1_t2, ne_p2_t2, g_a1, g_rc, g_lg, g_p1, g_t1, g_p2, g_t2⟩ := id ND
  rw [k4] at hk
  have hk : pk = (3 : Int32) := hk
  have R155 := fun (tg : State) (kt : Steps p.tables e below (s₁.setTop (mkF m 0 #[vR a1, vI (3 : Int32), vJ (φ ra), .second, vJ (φ rb), .second] [])) tg) => pre00 tg (by rw [hk, hq3, hq4]; exact kt)
  have R156 := fun (tg : State) (kt : Steps p.tables e below (s₁.setTop (mkF m 33 #[vR a1, vI (3 : Int32), vJ (φ ra), .second, vJ (φ rb), .second] [(.long (φ rb)), (.ref a1)])) tg) => R155 tg (by
   show Steps _ _ _ (s₁.setTop (mkF m 0 #[vR a1, vI (3 : Int32), vJ (φ ra), .second, vJ (φ rb), .second] [])) _
   refine XS.iloadN X0.here hx rfl (hb hby d4_0) rfl ?_
   refine XS.iconst X0.here hx rfl (hb hby d4_1) ?_
   show Steps _ _ _ (s₁.setTop (mkF m 2 #[vR a1, vI (3 : Int32), vJ (φ ra), .second, vJ (φ rb), .second] [(.int (1 : Int32)), (.int (3 : Int32))])) _
   refine XS.icmpYes X0.here hx rfl (pc0 := 2) (pc' := 12) rfl (hb hby d4_2) rfl (feq (by decide : ¬ ((3 : Int32) = (1 : Int32)))).2 (by decide) (by decide) ?_
   refine XS.iloadN X0.here hx rfl (hb hby d4_12) rfl ?_
   refine XS.iconst X0.here hx rfl (hb hby d4_13) ?_
   show Steps _ _ _ (s₁.setTop (mkF m 14 #[vR a1, vI (3 : Int32), vJ (φ ra), .second, vJ (φ rb), .second] [(.int (2 : Int32)), (.int (3 : Int32))])) _
   refine XS.icmpYes X0.here hx rfl (pc0 := 14) (pc' := 25) rfl (hb hby d4_14) rfl (feq (by decide : ¬ ((3 : Int32) = (2 : Int32)))).2 (by decide) (by decide) ?_
   refine XS.iloadN X0.here hx rfl (hb hby d4_25) rfl ?_
   refine XS.iconst X0.here hx rfl (hb hby d4_26) ?_
   show Steps _ _ _ (s₁.setTop (mkF m 27 #[vR a1, vI (3 : Int32), vJ (φ ra), .second, vJ (φ rb), .second] [(.int (3 : Int32)), (.int (3 : Int32))])) _
   refine XS.icmpNo X0.here hx rfl (hb hby d4_27) rfl (teq (by decide : (3 : Int32) = (3 : Int32))).2 ?_
   refine XS.aloadN X0.here hx rfl (hb hby d4_30) rfl rfl ?_
   refine XS.lload X0.here hx rfl (hb hby d4_31) rfl ?_
   exact kt)
  clear R155
  obtain ⟨cq157, kq157, q157a, q157b, q157c⟩ := isOf hZ e0 Ea
  obtain ⟨_, _, ⟨T157, L157, k157, n157⟩, -, X157, ⟨Lc157, hQ157, l157, y157, z157⟩, st157⟩ := X0.virtualBack hx (y := (⟨cP, "add", "(J)V"⟩ : MethodName)) (z := (⟨cP, "add", "(J)V"⟩ : MethodName)) hown (mvT hZ (oW hw 32 rfl)) (mvT hZ (oW hw 33 rfl)) (notFace_of_selects (args := #[]) (mvT hZ (oW hw 35 rfl))) (mvT hZ (oW hw 35 rfl)) (mvT hZ (oW hw 34 rfl)) (by decide) (backOf (W := 0) (rm_add l Z a0 hw [] a1 (φ rb) φ rc lg p1 t1 p2 t2 R B P F rb h0 n0 Z0 Ea Fq Fl Fp Ff Fn VR VB E1 Pv Ps VP E2 Qv Qs VF ND rfl H okR hrb hR hB hP hF) hZ (oW hw 36 rfl) (oW hw 2 rfl) (by decide) (by decide)) q157a q157c (g := (mkF m 33 #[vR a1, vI (3 : Int32), vJ (φ ra), .second, vJ (φ rb), .second] [(.long (φ rb)), (.ref a1)])) rfl (by rw [hml]; rfl) (Steps.refl _) (argsL := [(.long (φ rb))]) (rest := []) (lenOf pd_3 rfl) rfl (by show 2 * 0 + _ ≤ _; exact Nat.le_of_eq rfl) (hb hby d4_33) (fun _ _ => ⟨rfl, e0, (by decide : 0 + 0 ≤ _), (by decide : 0 + 0 ≤ _)⟩)
  dsimp only [Pt.U, Pt.locs, Pt.cells, Pt.slots] at X157 l157 y157 z157 st157 hQ157
  rw [l157, y157, z157] at X157
  obtain ⟨rfl, N157q, K157, zEa, zFq, zFl, zFp, zFf, zFn, zVR, zVB, zE1, zPv, zPs, zVP, zE2, zQv, zQs, zVF⟩ := hQ157
  have N157 := Fr.app N0 N157q
  have Kz157 : Keep h0 T157.heap [a1, rc, lg, p1, t1, p2, t2] := K157
  have Zs157 : n0 ≤ T157.heap.size := Nat.le_trans Z0 K157.1
  have R158 := fun (tg : State) (kt : Steps p.tables e below (T157.setTop (mkF m 36 #[vR a1, vI (3 : Int32), vJ (φ ra), .second, vJ (φ rb), .second] [])) tg) => R156 tg (by
   refine st157.trans ?_
   exact kt)
  clear R156 st157
  obtain ⟨fs, hr, hrun, hended, hW, hsame⟩ := X157.leave (v := none) (fun _ => rfl)
  refine ⟨_, _, pre0 _ (R158 _ ?_), hrun, hended, _, _, rfl, ?_, ⟨_, rfl⟩, hW, hsame.mono (by decide) (by decide)⟩
  ·exact X157.returnOut hx Bd.returns (hb hby d4_36) hr
  ·show Q_rm_row Z a1 pk q3 q4 φ rc lg p1 t1 p2 t2 R B P F κ ra rb rs h0 n0 _ T157.heap _
   unfold Q_rm_row; rw [k4, own_rwR_3, own_rwB_3, own_rwP_3, own_rwF_3]; exact ⟨rfl, N157, Kz157, zEa, zFq, zFl, zFp, zFf, zFn, zVR, zVB, zE1, zPv, zPs, zVP, zE2, zQv, zQs, zVF⟩
theorem pn_3 : plainName "java/util/Arrays" = true := by first | (simp [plainName, overriddenIn]; done) | decide +kernel
theorem d12_0 : oD k4 0 (.iload_n 1) 1 := by decide +kernel
theorem d12_1 : oD k4 1 (.iload_n 2) 1 := by decide +kernel
theorem d12_2 : oD k4 2 (.if_icmp .le 44) 3 := by decide +kernel
theorem d12_46 : oD k4 46 (.iload_n 1) 1 := by decide +kernel
theorem d12_47 : oD k4 47 (.ifCond .ge 12) 3 := by decide +kernel
theorem d12_59 : oD k4 59 (.iload_n 2) 1 := by decide +kernel
theorem d12_60 : oD k4 60 (.iload_n 0) 1 := by decide +kernel
theorem d12_61 : oD k4 61 (.if_icmp .le 12) 3 := by decide +kernel
theorem d12_73 : oD k4 73 .return_ 1 := by decide +kernel
theorem ef_rm_rck (m : MethodId) (p1 : Int32) (p2 : Int32) (p3 : Int32) : entryFrame m #[(.int p1), (.int p2), (.int p3)] 3 = mkF m 0 #[vI p1, vI p2, vI p3] [] := by first | (simp [entryFrame, mkF, argsToLocals, Value.category]; done) | rfl
def Q_rm_rck (Z : State) (p1 : Int32) (p2 : Int32) (p3 : Int32) (h0 : Heap) (n0 : Nat) (v : Option Value) (h : Heap) (L : List Loc) : Prop := v = none ∧ Fr n0 L ∧ h = h0
set_option maxRecDepth 65536 in
set_option maxHeartbeats 40000000 in
theorem rm_rck (l : Launch) (Z : State) (a0 : Array Value) (hw : ∀ d ∈ tables_1, d.before a0 Z = true) (ws : List Jvm.Cond) (p1 : Int32) (p2 : Int32) (p3 : Int32) (h0 : Heap) (n0 : Nat) (Z0 : n0 ≤ h0.size) (h1 : ¬ p3 < p2) (h2 : ¬ p2 < (0 : Int32)) (h3 : ¬ p1 < p3) :
  MetFree l (⟨"java/util/Arrays", "rangeCheck", "(III)V"⟩ : MethodName) (head1 (Jvm.Cond.code (⟨"java/util/Arrays", "rangeCheck", "(III)V"⟩ : MethodName) jdk_65_method_30_code 3 none :: ws) rM0) (fun a U => a = #[(.int p1), (.int p2), (.int p3)] ∧ Z.Warmed39 U.vm ∧ U.heap = h0) (fun _ _ _ _ _ => True) (fun _ U oC U' => ∃ v L, oC = .returned v ∧ Q_rm_rck Z p1 p2 p3 h0 n0 v U'.heap L ∧ FrameEnd U oC U' L rM0.cells rM0.slots) := by
 refine MetFree.of_bodySF (plainFor_of_name pn_3) hisR ?_
 intro p e s m args below meth c s₁ Bd hml0 hP hK
 obtain ⟨rfl, hZ, hh⟩ := hP
 have hx := Bd.exec
 have hby := Bd.bytes
 have hml : c.maxLocals = 3 := hml0
 have hown : s.vm.findClass "java/util/Arrays" = some m.cls := findClass_of_methodNamed Bd.named
 have hnm := (name_of_methodNamed Bd.named Bd.method).1
 have X0 : Stand p l e rM0 s m #[(.int p1), (.int p2), (.int p3)] below meth c s₁ [] 0 0 := Stand.of_body Bd
 have e0 : s₁.heap = h0 := by rw [← hh, Bd.state]; rfl
 have N0 := Fr.nil n0
 have pre0 : Sq p e below (s₁.setTop (mkF m 0 #[vI p1, vI p2, vI p3] [])) (s₁.setTop (entryFrame m #[(.int p1), (.int p2), (.int p3)] 3)) := fun t k => castTop (ef_rm_rck m p1 p2 p3) k
 have pre00 : Sq p e below (s₁.setTop (mkF m 0 #[vI p1, vI p2, vI p3] [])) (s₁.setTop (mkF m 0 #[vI p1, vI p2, vI p3] [])) := fun _ k => k
 have R159 := fun (tg : State) (kt : Steps p.tables e below (s₁.setTop (mkF m 73 #[vI p1, vI p2, vI p3] [])) tg) => pre00 tg (by
  show Steps _ _ _ (s₁.setTop (mkF m 0 #[vI p1, vI p2, vI p3] [])) _
  refine XS.iloadN X0.here hx rfl (hb hby d12_0) rfl ?_
  refine XS.iloadN X0.here hx rfl (hb hby d12_1) rfl ?_
  show Steps _ _ _ (s₁.setTop (mkF m 2 #[vI p1, vI p2, vI p3] [(.int p3), (.int p2)])) _
  refine XS.icmpYes X0.here hx rfl (pc0 := 2) (pc' := 46) rfl (hb hby d12_2) rfl (flt (h1 : ¬ (p3 < p2))).2.2.2 (by decide) (by decide) ?_
  refine XS.iloadN X0.here hx rfl (hb hby d12_46) rfl ?_
  show Steps _ _ _ (s₁.setTop (mkF m 47 #[vI p1, vI p2, vI p3] [(.int p2)])) _
  refine XS.ifYes X0.here hx rfl (pc0 := 47) (pc' := 59) rfl (hb hby d12_47) rfl ((if0 _ _).trans (flt (h2 : ¬ (p2 < (0 : Int32)))).2.1) (by decide) (by decide) ?_
  refine XS.iloadN X0.here hx rfl (hb hby d12_59) rfl ?_
  refine XS.iloadN X0.here hx rfl (hb hby d12_60) rfl ?_
  show Steps _ _ _ (s₁.setTop (mkF m 61 #[vI p1, vI p2, vI p3] [(.int p1), (.int p3)])) _
  refine XS.icmpYes X0.here hx rfl (pc0 := 61) (pc' := 73) rfl (hb hby d12_61) rfl (flt (h3 : ¬ (p1 < p3))).2.2.2 (by decide) (by decide) ?_
  exact kt)
 obtain ⟨fs, hr, hrun, hended, hW, hsame⟩ := X0.leave (v := none) (fun _ => rfl)
 refine ⟨_, _, pre0 _ (R159 _ ?_), hrun, hended, _, _, rfl, ?_, ⟨_, rfl⟩, hW, hsame.mono (by decide) (by decide)⟩
 ·exact X0.returnOut hx Bd.returns (hb hby d12_73) hr
 ·show Q_rm_rck Z p1 p2 p3 h0 n0 _ s₁.heap _
  rw [e0]
  exact ⟨rfl, N0, rfl⟩
theorem d15_3 : oD k2 3 (.iinc 4 1) 3 := by decide +kernel
theorem d15_6 : oD k2 6 (.iload 4) 2 := by decide +kernel
theorem d15_8 : oD k2 8 (.iload_n 2) 1 := by decide +kernel
theorem d15_9 : oD k2 9 (.if_icmp .ge 60) 3 := by decide +kernel
theorem d15_12 : oD k2 12 (.aload_n 0) 1 := by decide +kernel
theorem d15_13 : oD k2 13 (.iload 4) 2 := by decide +kernel
theorem d15_15 : oD k2 15 .dup 1 := by decide +kernel
theorem d15_16 : oD k2 16 (.istore_n 3) 1 := by decide +kernel
theorem d15_17 : oD k2 17 .laload 1 := by decide +kernel
theorem d15_18 : oD k2 18 (.lstore 5) 2 := by decide +kernel
theorem d15_20 : oD k2 20 (.lload 5) 2 := by decide +kernel
theorem d15_22 : oD k2 22 (.aload_n 0) 1 := by decide +kernel
theorem d15_23 : oD k2 23 (.iload_n 3) 1 := by decide +kernel
theorem d15_24 : oD k2 24 (.iconst 1) 1 := by decide +kernel
theorem d15_25 : oD k2 25 .isub 1 := by decide +kernel
theorem d15_26 : oD k2 26 .laload 1 := by decide +kernel
theorem d15_27 : oD k2 27 .lcmp 1 := by decide +kernel
theorem d15_28 : oD k2 28 (.ifCond .ge 38) 3 := by decide +kernel
theorem d15_66 : oD k2 66 (.goto (-63)) 3 := by decide +kernel
theorem d15_31 : oD k2 31 (.iinc 3 (-1)) 3 := by decide +kernel
theorem d15_34 : oD k2 34 (.iload_n 3) 1 := by decide +kernel
theorem d15_35 : oD k2 35 (.iload_n 1) 1 := by decide +kernel
theorem d15_36 : oD k2 36 (.if_icmp .lt 23) 3 := by decide +kernel
theorem d15_39 : oD k2 39 (.lload 5) 2 := by decide +kernel
theorem d15_41 : oD k2 41 (.aload_n 0) 1 := by decide +kernel
theorem d15_42 : oD k2 42 (.iload_n 3) 1 := by decide +kernel
theorem d15_43 : oD k2 43 .laload 1 := by decide +kernel
theorem d15_44 : oD k2 44 .lcmp 1 := by decide +kernel
theorem d15_45 : oD k2 45 (.ifCond .ge 14) 3 := by decide +kernel
theorem d15_48 : oD k2 48 (.aload_n 0) 1 := by decide +kernel
theorem d15_49 : oD k2 49 (.iload_n 3) 1 := by decide +kernel
theorem d15_50 : oD k2 50 (.iconst 1) 1 := by decide +kernel
theorem d15_51 : oD k2 51 .iadd 1 := by decide +kernel
theorem d15_52 : oD k2 52 (.aload_n 0) 1 := by decide +kernel
theorem d15_53 : oD k2 53 (.iload_n 3) 1 := by decide +kernel
theorem d15_54 : oD k2 54 .laload 1 := by decide +kernel
theorem d15_55 : oD k2 55 .lastore 1 := by decide +kernel
theorem d15_56 : oD k2 56 (.goto (-25)) 3 := by decide +kernel
theorem d15_59 : oD k2 59 (.aload_n 0) 1 := by decide +kernel
theorem d15_60 : oD k2 60 (.iload_n 3) 1 := by decide +kernel
theorem d15_61 : oD k2 61 (.iconst 1) 1 := by decide +kernel
theorem d15_62 : oD k2 62 .iadd 1 := by decide +kernel
theorem d15_63 : oD k2 63 (.lload 5) 2 := by decide +kernel
theorem d15_65 : oD k2 65 .lastore 1 := by decide +kernel
set_option maxRecDepth 65536 in
set_option maxHeartbeats 40000000 in
theorem lp_is1 {p : Program} {l : Launch} {e : Env} {s : State} {m : MethodId} {args : Array Value} {below : List Frame} {meth : Method} {c : Code} {Z : State} {a0 : Array Value} {n0 : Nat} {T0 : State} {locs : List Loc} {h0 : Heap} (φ : Nat → Int64) (a1 : Addr) (nn : Int32) (z3 : Slot) (z5 : Slot) (z6 : Slot) (x0 : Nat) (x1 : Nat) (rr : List Nat) (X0 : Stand p l e rM0 s m args below meth c T0 locs 0 0) (hx : p.tables.exec = Jvm.exec) (hZ : Z.Warmed39 s.vm) (hw : ∀ d ∈ tables_1, d.before a0 Z = true) (hby : c.code = jdk_2529_method_15_code) (hml : c.maxLocals = 7) (hown : s.vm.findClass cQ = some m.cls) (e0 : T0.heap = h0) (N0 : Fr n0 locs) (Z0 : n0 ≤ h0.size) (VV : VG Z h0 a1 .long 1024 (fun r => .long (φ r)) 0 (x0 :: x1 :: rr)) (ga : n0 ≤ a1) (H : own_mono φ) (y0 : x0 < 4) (y1 : x1 < 4) (hkn : (1 : Int32) < nn) (hz : (z3 = .unset ∧ z5 = .unset ∧ z6 = .unset) ∨ (∃ (a : Int32) (b : Int64), z3 = vI a ∧ z5 = vJ b ∧ z6 = .second)) :
  ∃ (T' : State) (h' : Heap) (L' : List Loc) (z3' z5' z6' : Slot), Stand p l e rM0 s m args below meth c T' L' 0 0 ∧ T'.heap = h' ∧ Fr n0 L' ∧ Keep h0 h' [a1] ∧ VG Z h' a1 .long 1024 (fun r => .long (φ r)) 0 (own_in1 (x0 :: x1 :: rr)) ∧ ((z3' = .unset ∧ z5' = .unset ∧ z6' = .unset) ∨ (∃ (a : Int32) (b : Int64), z3' = vI a ∧ z5' = vJ b ∧ z6' = .second)) ∧ Sq p e below (T'.setTop (mkF m 3 #[vR a1, vI (0 : Int32), vI nn, z3', vI (1 : Int32), z5', z6'] [])) (T0.setTop (mkF m 3 #[vR a1, vI (0 : Int32), vI nn, z3, vI (0 : Int32), z5, z6] [])) := by
 have R160 := fun (tg : State) (kt : Steps p.tables e below (T0.setTop (mkF m 6 #[vR a1, vI (0 : Int32), vI nn, z3, vI ((0 : Int32) + (1 : Int32)), z5, z6] [])) tg) => (fun (t : State) (k : Steps p.tables e below (T0.setTop (mkF m 3 #[vR a1, vI (0 : Int32), vI nn, z3, vI (0 : Int32), z5, z6] [])) t) => k) tg (by
  show Steps _ _ _ (T0.setTop (mkF m 3 #[vR a1, vI (0 : Int32), vI nn, z3, vI (0 : Int32), z5, z6] [])) _
  refine XS.iinc X0.here hx rfl (hb hby d15_3) rfl (l' := #[vR a1, vI (0 : Int32), vI nn, z3, vI ((0 : Int32) + (1 : Int32)), z5, z6]) rfl ?_
  exact kt)
 have R161 := fun (tg : State) (kt : Steps p.tables e below (T0.setTop (mkF m 6 #[vR a1, vI (0 : Int32), vI nn, z3, vI (1 : Int32), z5, z6] [])) tg) => R160 tg kt
 clear R160
 have len1 : 1 < (x0 :: x1 :: rr).length := by simp
 have R162 := fun (tg : State) (kt : Steps p.tables e below (T0.setTop (mkF m 17 #[vR a1, vI (0 : Int32), vI nn, vI (1 : Int32), vI (1 : Int32), z5, z6] [(.int (1 : Int32)), (.ref a1)])) tg) => R161 tg (by
  show Steps _ _ _ (T0.setTop (mkF m 6 #[vR a1, vI (0 : Int32), vI nn, z3, vI (1 : Int32), z5, z6] [])) _
  refine XS.iload X0.here hx rfl (hb hby d15_6) rfl ?_
  refine XS.iloadN X0.here hx rfl (hb hby d15_8) rfl ?_
  show Steps _ _ _ (T0.setTop (mkF m 9 #[vR a1, vI (0 : Int32), vI nn, z3, vI (1 : Int32), z5, z6] [(.int nn), (.int (1 : Int32))])) _
  refine XS.icmpNo X0.here hx rfl (hb hby d15_9) rfl (tlt (hkn : (1 : Int32) < nn)).2.1 ?_
  refine XS.aloadN X0.here hx rfl (hb hby d15_12) rfl rfl ?_
  refine XS.iload X0.here hx rfl (hb hby d15_13) rfl ?_
  refine XS.dup X0.here hx rfl (hb hby d15_15) rfl rfl ?_
  show Steps _ _ _ (T0.setTop (mkF m 16 #[vR a1, vI (0 : Int32), vI nn, z3, vI (1 : Int32), z5, z6] [(.int (1 : Int32)), (.int (1 : Int32)), (.ref a1)])) _
  refine XS.istoreN X0.here hx rfl (hb hby d15_16) rfl (l' := #[vR a1, vI (0 : Int32), vI nn, vI (1 : Int32), vI (1 : Int32), z5, z6]) (by rcases hz with ⟨rfl, rfl, rfl⟩ | ⟨_, _, rfl, rfl, rfl⟩ <;> rfl) ?_
  exact kt)
 clear R161
 obtain ⟨cl163, Ar163, hin163, hat163⟩ := VV.at (j := (1 : Int32)) (k := 1) (by decide) rfl len1
 have R164 := fun (tg : State) (kt : Steps p.tables e below (T0.setTop (mkF m 26 #[vR a1, vI (0 : Int32), vI nn, vI (1 : Int32), vI (1 : Int32), vJ (φ x1), .second] [(.int ((1 : Int32) - (1 : Int32))), (.ref a1), (.long (φ x1))])) tg) => R162 tg (by
  show Steps _ _ _ (T0.setTop (mkF m 17 #[vR a1, vI (0 : Int32), vI nn, vI (1 : Int32), vI (1 : Int32), z5, z6] [(.int (1 : Int32)), (.ref a1)])) _
  refine X0.laload hx (j := (1 : Int32)) (v := (.long (φ x1))) (by rw [e0]; exact Ar163.1) (State.isArrayOf_alike hZ.alike Ar163.2.1) Ar163.2.2 hin163 hat163 (g := (mkF m 17 #[vR a1, vI (0 : Int32), vI nn, vI (1 : Int32), vI (1 : Int32), z5, z6] [(.int (1 : Int32)), (.ref a1)])) rfl rfl (hb hby d15_17) _ ?_
  show Steps _ _ _ (T0.setTop (mkF m 18 #[vR a1, vI (0 : Int32), vI nn, vI (1 : Int32), vI (1 : Int32), z5, z6] [(.long (φ x1))])) _
  refine XS.lstore X0.here hx rfl (hb hby d15_18) rfl (l' := #[vR a1, vI (0 : Int32), vI nn, vI (1 : Int32), vI (1 : Int32), vJ (φ x1), .second]) (by rcases hz with ⟨rfl, rfl, rfl⟩ | ⟨_, _, rfl, rfl, rfl⟩ <;> rfl) ?_
  refine XS.lload X0.here hx rfl (hb hby d15_20) rfl ?_
  refine XS.aloadN X0.here hx rfl (hb hby d15_22) rfl rfl ?_
  refine XS.iloadN X0.here hx rfl (hb hby d15_23) rfl ?_
  show Steps _ _ _ (T0.setTop (mkF m 24 #[vR a1, vI (0 : Int32), vI nn, vI (1 : Int32), vI (1 : Int32), vJ (φ x1), .second] [(.int (1 : Int32)), (.ref a1), (.long (φ x1))])) _
  refine XS.iconst X0.here hx rfl (hb hby d15_24) ?_
  show Steps _ _ _ (T0.setTop (mkF m 25 #[vR a1, vI (0 : Int32), vI nn, vI (1 : Int32), vI (1 : Int32), vJ (φ x1), .second] [(.int (1 : Int32)), (.int (1 : Int32)), (.ref a1), (.long (φ x1))])) _
  refine XS.isub X0.here hx rfl (hb hby d15_25) rfl ?_
  exact kt)
 clear R162
 have R165 := fun (tg : State) (kt : Steps p.tables e below (T0.setTop (mkF m 26 #[vR a1, vI (0 : Int32), vI nn, vI (1 : Int32), vI (1 : Int32), vJ (φ x1), .second] [(.int (0 : Int32)), (.ref a1), (.long (φ x1))])) tg) => R164 tg kt
 clear R164
 have len0 : 0 < (x0 :: x1 :: rr).length := by simp
 obtain ⟨cl166, Ar166, hin166, hat166⟩ := VV.at (j := (0 : Int32)) (k := 0) (by decide) rfl len0
 have R167 := fun (tg : State) (kt : Steps p.tables e below (T0.setTop (mkF m 28 #[vR a1, vI (0 : Int32), vI nn, vI (1 : Int32), vI (1 : Int32), vJ (φ x1), .second] [(.int (lcmpW (φ x1) (φ x0)))])) tg) => R165 tg (by
  show Steps _ _ _ (T0.setTop (mkF m 26 #[vR a1, vI (0 : Int32), vI nn, vI (1 : Int32), vI (1 : Int32), vJ (φ x1), .second] [(.int (0 : Int32)), (.ref a1), (.long (φ x1))])) _
  refine X0.laload hx (j := (0 : Int32)) (v := (.long (φ x0))) (by rw [e0]; exact Ar166.1) (State.isArrayOf_alike hZ.alike Ar166.2.1) Ar166.2.2 hin166 hat166 (g := (mkF m 26 #[vR a1, vI (0 : Int32), vI nn, vI (1 : Int32), vI (1 : Int32), vJ (φ x1), .second] [(.int (0 : Int32)), (.ref a1), (.long (φ x1))])) rfl rfl (hb hby d15_26) _ ?_
  show Steps _ _ _ (T0.setTop (mkF m 27 #[vR a1, vI (0 : Int32), vI nn, vI (1 : Int32), vI (1 : Int32), vJ (φ x1), .second] [(.long (φ x0)), (.long (φ x1))])) _
  refine XS.lcmp X0.here hx rfl (hb hby d15_27) rfl ?_
  exact kt)
 clear R165
 by_cases c0 : x1 < x0
 ·have R169 := fun (tg : State) (kt : Steps p.tables e below (T0.setTop (mkF m 34 #[vR a1, vI (0 : Int32), vI nn, vI ((1 : Int32) + (-1 : Int32)), vI (1 : Int32), vJ (φ x1), .second] [])) tg) => R167 tg (by
   show Steps _ _ _ (T0.setTop (mkF m 28 #[vR a1, vI (0 : Int32), vI nn, vI (1 : Int32), vI (1 : Int32), vJ (φ x1), .second] [(.int (lcmpW (φ x1) (φ x0)))])) _
   refine XS.ifNo X0.here hx rfl (hb hby d15_28) rfl ((if0 _ _).trans (tlt ((own_cl H y1 y0).mpr c0 : (lcmpW (φ x1) (φ x0)) < (0 : Int32))).2.1) ?_
   show Steps _ _ _ (T0.setTop (mkF m 31 #[vR a1, vI (0 : Int32), vI nn, vI (1 : Int32), vI (1 : Int32), vJ (φ x1), .second] [])) _
   refine XS.iinc X0.here hx rfl (hb hby d15_31) rfl (l' := #[vR a1, vI (0 : Int32), vI nn, vI ((1 : Int32) + (-1 : Int32)), vI (1 : Int32), vJ (φ x1), .second]) rfl ?_
   exact kt)
  clear R167
  have R170 := fun (tg : State) (kt : Steps p.tables e below (T0.setTop (mkF m 34 #[vR a1, vI (0 : Int32), vI nn, vI (0 : Int32), vI (1 : Int32), vJ (φ x1), .second] [])) tg) => R169 tg kt
  clear R169
  have ln0 : 0 < (x0 :: x1 :: rr).length := by simp
  have R171 := fun (tg : State) (kt : Steps p.tables e below (T0.setTop (mkF m 43 #[vR a1, vI (0 : Int32), vI nn, vI (0 : Int32), vI (1 : Int32), vJ (φ x1), .second] [(.int (0 : Int32)), (.ref a1), (.long (φ x1))])) tg) => R170 tg (by
   show Steps _ _ _ (T0.setTop (mkF m 34 #[vR a1, vI (0 : Int32), vI nn, vI (0 : Int32), vI (1 : Int32), vJ (φ x1), .second] [])) _
   refine XS.iloadN X0.here hx rfl (hb hby d15_34) rfl ?_
   refine XS.iloadN X0.here hx rfl (hb hby d15_35) rfl ?_
   show Steps _ _ _ (T0.setTop (mkF m 36 #[vR a1, vI (0 : Int32), vI nn, vI (0 : Int32), vI (1 : Int32), vJ (φ x1), .second] [(.int (0 : Int32)), (.int (0 : Int32))])) _
   refine XS.icmpNo X0.here hx rfl (hb hby d15_36) rfl (flt (by decide : ¬ ((0 : Int32) < (0 : Int32)))).1 ?_
   refine XS.lload X0.here hx rfl (hb hby d15_39) rfl ?_
   refine XS.aloadN X0.here hx rfl (hb hby d15_41) rfl rfl ?_
   refine XS.iloadN X0.here hx rfl (hb hby d15_42) rfl ?_
   exact kt)
  clear R170
  obtain ⟨cl172, Ar172, hin172, hat172⟩ := VV.at (j := (0 : Int32)) (k := 0) (by decide) rfl ln0
  have R173 := fun (tg : State) (kt : Steps p.tables e below (T0.setTop (mkF m 52 #[vR a1, vI (0 : Int32), vI nn, vI (0 : Int32), vI (1 : Int32), vJ (φ x1), .second] [(.int ((0 : Int32) + (1 : Int32))), (.ref a1)])) tg) => R171 tg (by
   show Steps _ _ _ (T0.setTop (mkF m 43 #[vR a1, vI (0 : Int32), vI nn, vI (0 : Int32), vI (1 : Int32), vJ (φ x1), .second] [(.int (0 : Int32)), (.ref a1), (.long (φ x1))])) _
   refine X0.laload hx (j := (0 : Int32)) (v := (.long (φ x0))) (by rw [e0]; exact Ar172.1) (State.isArrayOf_alike hZ.alike Ar172.2.1) Ar172.2.2 hin172 hat172 (g := (mkF m 43 #[vR a1, vI (0 : Int32), vI nn, vI (0 : Int32), vI (1 : Int32), vJ (φ x1), .second] [(.int (0 : Int32)), (.ref a1), (.long (φ x1))])) rfl rfl (hb hby d15_43) _ ?_
   show Steps _ _ _ (T0.setTop (mkF m 44 #[vR a1, vI (0 : Int32), vI nn, vI (0 : Int32), vI (1 : Int32), vJ (φ x1), .second] [(.long (φ x0)), (.long (φ x1))])) _
   refine XS.lcmp X0.here hx rfl (hb hby d15_44) rfl ?_
   show Steps _ _ _ (T0.setTop (mkF m 45 #[vR a1, vI (0 : Int32), vI nn, vI (0 : Int32), vI (1 : Int32), vJ (φ x1), .second] [(.int (lcmpW (φ x1) (φ x0)))])) _
   refine XS.ifNo X0.here hx rfl (hb hby d15_45) rfl ((if0 _ _).trans (tlt ((own_cl H y1 y0).mpr c0 : (lcmpW (φ x1) (φ x0)) < (0 : Int32))).2.1) ?_
   refine XS.aloadN X0.here hx rfl (hb hby d15_48) rfl rfl ?_
   refine XS.iloadN X0.here hx rfl (hb hby d15_49) rfl ?_
   refine XS.iconst X0.here hx rfl (hb hby d15_50) ?_
   show Steps _ _ _ (T0.setTop (mkF m 51 #[vR a1, vI (0 : Int32), vI nn, vI (0 : Int32), vI (1 : Int32), vJ (φ x1), .second] [(.int (1 : Int32)), (.int (0 : Int32)), (.ref a1)])) _
   refine XS.iadd X0.here hx rfl (hb hby d15_51) rfl ?_
   exact kt)
  clear R171
  have R174 := fun (tg : State) (kt : Steps p.tables e below (T0.setTop (mkF m 52 #[vR a1, vI (0 : Int32), vI nn, vI (0 : Int32), vI (1 : Int32), vJ (φ x1), .second] [(.int (1 : Int32)), (.ref a1)])) tg) => R173 tg kt
  clear R173
  have lm0 : 0 < (x0 :: x1 :: rr).length := by simp
  have R175 := fun (tg : State) (kt : Steps p.tables e below (T0.setTop (mkF m 54 #[vR a1, vI (0 : Int32), vI nn, vI (0 : Int32), vI (1 : Int32), vJ (φ x1), .second] [(.int (0 : Int32)), (.ref a1), (.int (1 : Int32)), (.ref a1)])) tg) => R174 tg (by
   show Steps _ _ _ (T0.setTop (mkF m 52 #[vR a1, vI (0 : Int32), vI nn, vI (0 : Int32), vI (1 : Int32), vJ (φ x1), .second] [(.int (1 : Int32)), (.ref a1)])) _
   refine XS.aloadN X0.here hx rfl (hb hby d15_52) rfl rfl ?_
   refine XS.iloadN X0.here hx rfl (hb hby d15_53) rfl ?_
   exact kt)
  clear R174
  obtain ⟨cl176, Ar176, hin176, hat176⟩ := VV.at (j := (0 : Int32)) (k := 0) (by decide) rfl lm0
  have R177 := fun (tg : State) (kt : Steps p.tables e below (T0.setTop (mkF m 55 #[vR a1, vI (0 : Int32), vI nn, vI (0 : Int32), vI (1 : Int32), vJ (φ x1), .second] [(.long (φ x0)), (.int (1 : Int32)), (.ref a1)])) tg) => R175 tg (by
   show Steps _ _ _ (T0.setTop (mkF m 54 #[vR a1, vI (0 : Int32), vI nn, vI (0 : Int32), vI (1 : Int32), vJ (φ x1), .second] [(.int (0 : Int32)), (.ref a1), (.int (1 : Int32)), (.ref a1)])) _
   refine X0.laload hx (j := (0 : Int32)) (v := (.long (φ x0))) (by rw [e0]; exact Ar176.1) (State.isArrayOf_alike hZ.alike Ar176.2.1) Ar176.2.2 hin176 hat176 (g := (mkF m 54 #[vR a1, vI (0 : Int32), vI nn, vI (0 : Int32), vI (1 : Int32), vJ (φ x1), .second] [(.int (0 : Int32)), (.ref a1), (.int (1 : Int32)), (.ref a1)])) rfl rfl (hb hby d15_54) _ ?_
   exact kt)
  clear R175
  obtain ⟨cl178, Ar178, hin178⟩ := VV.room (j := (1 : Int32)) (k := 1) (by decide) rfl (by decide)
  obtain ⟨T179, h179, X179, e179, W179, st179⟩ := stJ X0 hx hZ e0 Ar178 (j := (1 : Int32)) hin178 (g := (mkF m 55 #[vR a1, vI (0 : Int32), vI nn, vI (0 : Int32), vI (1 : Int32), vJ (φ x1), .second] [(.long (φ x0)), (.int (1 : Int32)), (.ref a1)])) rfl rfl (hb hby d15_55)
  have N179 := Fr.snoc X179 N0 ga
  rw [show ((1 : Int32) : Int32).toNatClampNeg = 1 from rfl] at W179
  have VV_179 : VG Z h179 a1 .long 1024 (fun r => .long (φ r)) 0 (x0 :: x0 :: rr) := VV.set (r := x0) W179 (by simp) rfl
  have Zs179 : n0 ≤ h179.size := Nat.le_trans Z0 (Keep.of_wr W179).1
  have Kw179 : Keep h0 h179 [a1] := Keep.wr (Keep.refl h0 [a1]) W179 (Or.inl (List.mem_of_getElem? (i := 0) rfl))
  have R180 := fun (tg : State) (kt : Steps p.tables e below (T179.setTop (mkF m 34 #[vR a1, vI (0 : Int32), vI nn, vI ((0 : Int32) + (-1 : Int32)), vI (1 : Int32), vJ (φ x1), .second] [])) tg) => R177 tg (by
   refine st179 _ ?_
   show Steps _ _ _ (T179.setTop (mkF m 56 #[vR a1, vI (0 : Int32), vI nn, vI (0 : Int32), vI (1 : Int32), vJ (φ x1), .second] [])) _
   refine XS.goto X179.here hx rfl (pc0 := 56) (pc' := 31) rfl (hb hby d15_56) (by decide) (by decide) ?_
   show Steps _ _ _ (T179.setTop (mkF m 31 #[vR a1, vI (0 : Int32), vI nn, vI (0 : Int32), vI (1 : Int32), vJ (φ x1), .second] [])) _
   refine XS.iinc X179.here hx rfl (hb hby d15_31) rfl (l' := #[vR a1, vI (0 : Int32), vI nn, vI ((0 : Int32) + (-1 : Int32)), vI (1 : Int32), vJ (φ x1), .second]) rfl ?_
   exact kt)
  clear R177 st179
  have R181 := fun (tg : State) (kt : Steps p.tables e below (T179.setTop (mkF m 34 #[vR a1, vI (0 : Int32), vI nn, vI (-1 : Int32), vI (1 : Int32), vJ (φ x1), .second] [])) tg) => R180 tg kt
  clear R180
  have R182 := fun (tg : State) (kt : Steps p.tables e below (T179.setTop (mkF m 63 #[vR a1, vI (0 : Int32), vI nn, vI (-1 : Int32), vI (1 : Int32), vJ (φ x1), .second] [(.int ((-1 : Int32) + (1 : Int32))), (.ref a1)])) tg) => R181 tg (by
   show Steps _ _ _ (T179.setTop (mkF m 34 #[vR a1, vI (0 : Int32), vI nn, vI (-1 : Int32), vI (1 : Int32), vJ (φ x1), .second] [])) _
   refine XS.iloadN X179.here hx rfl (hb hby d15_34) rfl ?_
   refine XS.iloadN X179.here hx rfl (hb hby d15_35) rfl ?_
   show Steps _ _ _ (T179.setTop (mkF m 36 #[vR a1, vI (0 : Int32), vI nn, vI (-1 : Int32), vI (1 : Int32), vJ (φ x1), .second] [(.int (0 : Int32)), (.int (-1 : Int32))])) _
   refine XS.icmpYes X179.here hx rfl (pc0 := 36) (pc' := 59) rfl (hb hby d15_36) rfl (tlt (by decide : (-1 : Int32) < (0 : Int32))).1 (by decide) (by decide) ?_
   refine XS.aloadN X179.here hx rfl (hb hby d15_59) rfl rfl ?_
   refine XS.iloadN X179.here hx rfl (hb hby d15_60) rfl ?_
   refine XS.iconst X179.here hx rfl (hb hby d15_61) ?_
   show Steps _ _ _ (T179.setTop (mkF m 62 #[vR a1, vI (0 : Int32), vI nn, vI (-1 : Int32), vI (1 : Int32), vJ (φ x1), .second] [(.int (1 : Int32)), (.int (-1 : Int32)), (.ref a1)])) _
   refine XS.iadd X179.here hx rfl (hb hby d15_62) rfl ?_
   exact kt)
  clear R181
  have R183 := fun (tg : State) (kt : Steps p.tables e below (T179.setTop (mkF m 63 #[vR a1, vI (0 : Int32), vI nn, vI (-1 : Int32), vI (1 : Int32), vJ (φ x1), .second] [(.int (0 : Int32)), (.ref a1)])) tg) => R182 tg kt
  clear R182
  have R184 := fun (tg : State) (kt : Steps p.tables e below (T179.setTop (mkF m 65 #[vR a1, vI (0 : Int32), vI nn, vI (-1 : Int32), vI (1 : Int32), vJ (φ x1), .second] [(.long (φ x1)), (.int (0 : Int32)), (.ref a1)])) tg) => R183 tg (by
   show Steps _ _ _ (T179.setTop (mkF m 63 #[vR a1, vI (0 : Int32), vI nn, vI (-1 : Int32), vI (1 : Int32), vJ (φ x1), .second] [(.int (0 : Int32)), (.ref a1)])) _
   refine XS.lload X179.here hx rfl (hb hby d15_63) rfl ?_
   exact kt)
  clear R183
  obtain ⟨cl185, Ar185, hin185⟩ := VV_179.room (j := (0 : Int32)) (k := 0) (by decide) rfl (by decide)
  obtain ⟨T186, h186, X186, e186, W186, st186⟩ := stJ X179 hx hZ e179 Ar185 (j := (0 : Int32)) hin185 (g := (mkF m 65 #[vR a1, vI (0 : Int32), vI nn, vI (-1 : Int32), vI (1 : Int32), vJ (φ x1), .second] [(.long (φ x1)), (.int (0 : Int32)), (.ref a1)])) rfl rfl (hb hby d15_65)
  have N186 := Fr.snoc X186 N179 ga
  rw [show ((0 : Int32) : Int32).toNatClampNeg = 0 from rfl] at W186
  have VV_186 : VG Z h186 a1 .long 1024 (fun r => .long (φ r)) 0 (x1 :: x0 :: rr) := VV_179.set (r := x1) W186 (by simp) rfl
  have Zs186 : n0 ≤ h186.size := Nat.le_trans Zs179 (Keep.of_wr W186).1
  have Kw186 : Keep h0 h186 [a1] := Keep.wr Kw179 W186 (Or.inl (List.mem_of_getElem? (i := 0) rfl))
  have R187 := fun (tg : State) (kt : Steps p.tables e below (T186.setTop (mkF m 3 #[vR a1, vI (0 : Int32), vI nn, vI (-1 : Int32), vI (1 : Int32), vJ (φ x1), .second] [])) tg) => R184 tg (by
   refine st186 _ ?_
   show Steps _ _ _ (T186.setTop (mkF m 66 #[vR a1, vI (0 : Int32), vI nn, vI (-1 : Int32), vI (1 : Int32), vJ (φ x1), .second] [])) _
   refine XS.goto X186.here hx rfl (pc0 := 66) (pc' := 3) rfl (hb hby d15_66) (by decide) (by decide) ?_
   exact kt)
  clear R184 st186
  have VVz : VG Z h186 a1 .long 1024 (fun r => .long (φ r)) 0 (own_in1 (x0 :: x1 :: rr)) := by have q := VV_186; rw [show own_in1 (x0 :: x1 :: rr) = (x1 :: x0 :: rr) from by rw [own_in1, if_pos c0]]; exact q
  exact ⟨_, _, _, _, _, _, X186, e186, N186, Kw186, VVz, Or.inr ⟨_, _, rfl, rfl, rfl⟩, R187⟩
 ·have R168 := fun (tg : State) (kt : Steps p.tables e below (T0.setTop (mkF m 3 #[vR a1, vI (0 : Int32), vI nn, vI (1 : Int32), vI (1 : Int32), vJ (φ x1), .second] [])) tg) => R167 tg (by
   show Steps _ _ _ (T0.setTop (mkF m 28 #[vR a1, vI (0 : Int32), vI nn, vI (1 : Int32), vI (1 : Int32), vJ (φ x1), .second] [(.int (lcmpW (φ x1) (φ x0)))])) _
   refine XS.ifYes X0.here hx rfl (pc0 := 28) (pc' := 66) rfl (hb hby d15_28) rfl ((if0 _ _).trans (flt (fun q => c0 ((own_cl H y1 y0).mp q) : ¬ ((lcmpW (φ x1) (φ x0)) < (0 : Int32)))).2.1) (by decide) (by decide) ?_
   show Steps _ _ _ (T0.setTop (mkF m 66 #[vR a1, vI (0 : Int32), vI nn, vI (1 : Int32), vI (1 : Int32), vJ (φ x1), .second] [])) _
   refine XS.goto X0.here hx rfl (pc0 := 66) (pc' := 3) rfl (hb hby d15_66) (by decide) (by decide) ?_
   exact kt)
  clear R167
  have VVz : VG Z h0 a1 .long 1024 (fun r => .long (φ r)) 0 (own_in1 (x0 :: x1 :: rr)) := by have q := VV; rw [show own_in1 (x0 :: x1 :: rr) = (x0 :: x1 :: rr) from by rw [own_in1, if_neg c0]]; exact q
  exact ⟨_, _, _, _, _, _, X0, e0, N0, (Keep.refl h0 [a1]), VVz, Or.inr ⟨_, _, rfl, rfl, rfl⟩, R168⟩
set_option maxRecDepth 65536 in
set_option maxHeartbeats 40000000 in
theorem lp_is2 {p : Program} {l : Launch} {e : Env} {s : State} {m : MethodId} {args : Array Value} {below : List Frame} {meth : Method} {c : Code} {Z : State} {a0 : Array Value} {n0 : Nat} {T0 : State} {locs : List Loc} {h0 : Heap} (φ : Nat → Int64) (a1 : Addr) (nn : Int32) (z3 : Slot) (z5 : Slot) (z6 : Slot) (x0 : Nat) (x1 : Nat) (x2 : Nat) (rr : List Nat) (X0 : Stand p l e rM0 s m args below meth c T0 locs 0 0) (hx : p.tables.exec = Jvm.exec) (hZ : Z.Warmed39 s.vm) (hw : ∀ d ∈ tables_1, d.before a0 Z = true) (hby : c.code = jdk_2529_method_15_code) (hml : c.maxLocals = 7) (hown : s.vm.findClass cQ = some m.cls) (e0 : T0.heap = h0) (N0 : Fr n0 locs) (Z0 : n0 ≤ h0.size) (VV : VG Z h0 a1 .long 1024 (fun r => .long (φ r)) 0 (x0 :: x1 :: x2 :: rr)) (ga : n0 ≤ a1) (H : own_mono φ) (y0 : x0 < 4) (y1 : x1 < 4) (y2 : x2 < 4) (hkn : (2 : Int32) < nn) (hz : (z3 = .unset ∧ z5 = .unset ∧ z6 = .unset) ∨ (∃ (a : Int32) (b : Int64), z3 = vI a ∧ z5 = vJ b ∧ z6 = .second)) :
  ∃ (T' : State) (h' : Heap) (L' : List Loc) (z3' z5' z6' : Slot), Stand p l e rM0 s m args below meth c T' L' 0 0 ∧ T'.heap = h' ∧ Fr n0 L' ∧ Keep h0 h' [a1] ∧ VG Z h' a1 .long 1024 (fun r => .long (φ r)) 0 (own_in2 (x0 :: x1 :: x2 :: rr)) ∧ ((z3' = .unset ∧ z5' = .unset ∧ z6' = .unset) ∨ (∃ (a : Int32) (b : Int64), z3' = vI a ∧ z5' = vJ b ∧ z6' = .second)) ∧ Sq p e below (T'.setTop (mkF m 3 #[vR a1, vI (0 : Int32), vI nn, z3', vI (2 : Int32), z5', z6'] [])) (T0.setTop (mkF m 3 #[vR a1, vI (0 : Int32), vI nn, z3, vI (1 : Int32), z5, z6] [])) := by
 have R188 := fun (tg : State) (kt : Steps p.tables e below (T0.setTop (mkF m 6 #[vR a1, vI (0 : Int32), vI nn, z3, vI ((1 : Int32) + (1 : Int32)), z5, z6] [])) tg) => (fun (t : State) (k : Steps p.tables e below (T0.setTop (mkF m 3 #[vR a1, vI (0 : Int32), vI nn, z3, vI (1 : Int32), z5, z6] [])) t) => k) tg (by
  show Steps _ _ _ (T0.setTop (mkF m 3 #[vR a1, vI (0 : Int32), vI nn, z3, vI (1 : Int32), z5, z6] [])) _
  refine XS.iinc X0.here hx rfl (hb hby d15_3) rfl (l' := #[vR a1, vI (0 : Int32), vI nn, z3, vI ((1 : Int32) + (1 : Int32)), z5, z6]) rfl ?_
  exact kt)
 have R189 := fun (tg : State) (kt : Steps p.tables e below (T0.setTop (mkF m 6 #[vR a1, vI (0 : Int32), vI nn, z3, vI (2 : Int32), z5, z6] [])) tg) => R188 tg kt
 clear R188
 have len2 : 2 < (x0 :: x1 :: x2 :: rr).length := by simp
 have R190 := fun (tg : State) (kt : Steps p.tables e below (T0.setTop (mkF m 17 #[vR a1, vI (0 : Int32), vI nn, vI (2 : Int32), vI (2 : Int32), z5, z6] [(.int (2 : Int32)), (.ref a1)])) tg) => R189 tg (by
  show Steps _ _ _ (T0.setTop (mkF m 6 #[vR a1, vI (0 : Int32), vI nn, z3, vI (2 : Int32), z5, z6] [])) _
  refine XS.iload X0.here hx rfl (hb hby d15_6) rfl ?_
  refine XS.iloadN X0.here hx rfl (hb hby d15_8) rfl ?_
  show Steps _ _ _ (T0.setTop (mkF m 9 #[vR a1, vI (0 : Int32), vI nn, z3, vI (2 : Int32), z5, z6] [(.int nn), (.int (2 : Int32))])) _
  refine XS.icmpNo X0.here hx rfl (hb hby d15_9) rfl (tlt (hkn : (2 : Int32) < nn)).2.1 ?_
  refine XS.aloadN X0.here hx rfl (hb hby d15_12) rfl rfl ?_
  refine XS.iload X0.here hx rfl (hb hby d15_13) rfl ?_
  refine XS.dup X0.here hx rfl (hb hby d15_15) rfl rfl ?_
  show Steps _ _ _ (T0.setTop (mkF m 16 #[vR a1, vI (0 : Int32), vI nn, z3, vI (2 : Int32), z5, z6] [(.int (2 : Int32)), (.int (2 : Int32)), (.ref a1)])) _
  refine XS.istoreN X0.here hx rfl (hb hby d15_16) rfl (l' := #[vR a1, vI (0 : Int32), vI nn, vI (2 : Int32), vI (2 : Int32), z5, z6]) (by rcases hz with ⟨rfl, rfl, rfl⟩ | ⟨_, _, rfl, rfl, rfl⟩ <;> rfl) ?_
  exact kt)
 clear R189
 obtain ⟨cl191, Ar191, hin191, hat191⟩ := VV.at (j := (2 : Int32)) (k := 2) (by decide) rfl len2
 have R192 := fun (tg : State) (kt : Steps p.tables e below (T0.setTop (mkF m 26 #[vR a1, vI (0 : Int32), vI nn, vI (2 : Int32), vI (2 : Int32), vJ (φ x2), .second] [(.int ((2 : Int32) - (1 : Int32))), (.ref a1), (.long (φ x2))])) tg) => R190 tg (by
  show Steps _ _ _ (T0.setTop (mkF m 17 #[vR a1, vI (0 : Int32), vI nn, vI (2 : Int32), vI (2 : Int32), z5, z6] [(.int (2 : Int32)), (.ref a1)])) _
  refine X0.laload hx (j := (2 : Int32)) (v := (.long (φ x2))) (by rw [e0]; exact Ar191.1) (State.isArrayOf_alike hZ.alike Ar191.2.1) Ar191.2.2 hin191 hat191 (g := (mkF m 17 #[vR a1, vI (0 : Int32), vI nn, vI (2 : Int32), vI (2 : Int32), z5, z6] [(.int (2 : Int32)), (.ref a1)])) rfl rfl (hb hby d15_17) _ ?_
  show Steps _ _ _ (T0.setTop (mkF m 18 #[vR a1, vI (0 : Int32), vI nn, vI (2 : Int32), vI (2 : Int32), z5, z6] [(.long (φ x2))])) _
  refine XS.lstore X0.here hx rfl (hb hby d15_18) rfl (l' := #[vR a1, vI (0 : Int32), vI nn, vI (2 : Int32), vI (2 : Int32), vJ (φ x2), .second]) (by rcases hz with ⟨rfl, rfl, rfl⟩ | ⟨_, _, rfl, rfl, rfl⟩ <;> rfl) ?_
  refine XS.lload X0.here hx rfl (hb hby d15_20) rfl ?_
  refine XS.aloadN X0.here hx rfl (hb hby d15_22) rfl rfl ?_
  refine XS.iloadN X0.here hx rfl (hb hby d15_23) rfl ?_
  show Steps _ _ _ (T0.setTop (mkF m 24 #[vR a1, vI (0 : Int32), vI nn, vI (2 : Int32), vI (2 : Int32), vJ (φ x2), .second] [(.int (2 : Int32)), (.ref a1), (.long (φ x2))])) _
  refine XS.iconst X0.here hx rfl (hb hby d15_24) ?_
  show Steps _ _ _ (T0.setTop (mkF m 25 #[vR a1, vI (0 : Int32), vI nn, vI (2 : Int32), vI (2 : Int32), vJ (φ x2), .second] [(.int (1 : Int32)), (.int (2 : Int32)), (.ref a1), (.long (φ x2))])) _
  refine XS.isub X0.here hx rfl (hb hby d15_25) rfl ?_
  exact kt)
 clear R190
 have R193 := fun (tg : State) (kt : Steps p.tables e below (T0.setTop (mkF m 26 #[vR a1, vI (0 : Int32), vI nn, vI (2 : Int32), vI (2 : Int32), vJ (φ x2), .second] [(.int (1 : Int32)), (.ref a1), (.long (φ x2))])) tg) => R192 tg kt
 clear R192
 have len1 : 1 < (x0 :: x1 :: x2 :: rr).length := by simp
 obtain ⟨cl194, Ar194, hin194, hat194⟩ := VV.at (j := (1 : Int32)) (k := 1) (by decide) rfl len1
 have R195 := fun (tg : State) (kt : Steps p.tables e below (T0.setTop (mkF m 28 #[vR a1, vI (0 : Int32), vI nn, vI (2 : Int32), vI (2 : Int32), vJ (φ x2), .second] [(.int (lcmpW (φ x2) (φ x1)))])) tg) => R193 tg (by
  show Steps _ _ _ (T0.setTop (mkF m 26 #[vR a1, vI (0 : Int32), vI nn, vI (2 : Int32), vI (2 : Int32), vJ (φ x2), .second] [(.int (1 : Int32)), (.ref a1), (.long (φ x2))])) _
  refine X0.laload hx (j := (1 : Int32)) (v := (.long (φ x1))) (by rw [e0]; exact Ar194.1) (State.isArrayOf_alike hZ.alike Ar194.2.1) Ar194.2.2 hin194 hat194 (g := (mkF m 26 #[vR a1, vI (0 : Int32), vI nn, vI (2 : Int32), vI (2 : Int32), vJ (φ x2), .second] [(.int (1 : Int32)), (.ref a1), (.long (φ x2))])) rfl rfl (hb hby d15_26) _ ?_
  show Steps _ _ _ (T0.setTop (mkF m 27 #[vR a1, vI (0 : Int32), vI nn, vI (2 : Int32), vI (2 : Int32), vJ (φ x2), .second] [(.long (φ x1)), (.long (φ x2))])) _
  refine XS.lcmp X0.here hx rfl (hb hby d15_27) rfl ?_
  exact kt)
 clear R193
 by_cases c1 : x2 < x1
 ·have R197 := fun (tg : State) (kt : Steps p.tables e below (T0.setTop (mkF m 34 #[vR a1, vI (0 : Int32), vI nn, vI ((2 : Int32) + (-1 : Int32)), vI (2 : Int32), vJ (φ x2), .second] [])) tg) => R195 tg (by
   show Steps _ _ _ (T0.setTop (mkF m 28 #[vR a1, vI (0 : Int32), vI nn, vI (2 : Int32), vI (2 : Int32), vJ (φ x2), .second] [(.int (lcmpW (φ x2) (φ x1)))])) _
   refine XS.ifNo X0.here hx rfl (hb hby d15_28) rfl ((if0 _ _).trans (tlt ((own_cl H y2 y1).mpr c1 : (lcmpW (φ x2) (φ x1)) < (0 : Int32))).2.1) ?_
   show Steps _ _ _ (T0.setTop (mkF m 31 #[vR a1, vI (0 : Int32), vI nn, vI (2 : Int32), vI (2 : Int32), vJ (φ x2), .second] [])) _
   refine XS.iinc X0.here hx rfl (hb hby d15_31) rfl (l' := #[vR a1, vI (0 : Int32), vI nn, vI ((2 : Int32) + (-1 : Int32)), vI (2 : Int32), vJ (φ x2), .second]) rfl ?_
   exact kt)
  clear R195
  have R198 := fun (tg : State) (kt : Steps p.tables e below (T0.setTop (mkF m 34 #[vR a1, vI (0 : Int32), vI nn, vI (1 : Int32), vI (2 : Int32), vJ (φ x2), .second] [])) tg) => R197 tg kt
  clear R197
  have ln1 : 1 < (x0 :: x1 :: x2 :: rr).length := by simp
  have R199 := fun (tg : State) (kt : Steps p.tables e below (T0.setTop (mkF m 43 #[vR a1, vI (0 : Int32), vI nn, vI (1 : Int32), vI (2 : Int32), vJ (φ x2), .second] [(.int (1 : Int32)), (.ref a1), (.long (φ x2))])) tg) => R198 tg (by
   show Steps _ _ _ (T0.setTop (mkF m 34 #[vR a1, vI (0 : Int32), vI nn, vI (1 : Int32), vI (2 : Int32), vJ (φ x2), .second] [])) _
   refine XS.iloadN X0.here hx rfl (hb hby d15_34) rfl ?_
   refine XS.iloadN X0.here hx rfl (hb hby d15_35) rfl ?_
   show Steps _ _ _ (T0.setTop (mkF m 36 #[vR a1, vI (0 : Int32), vI nn, vI (1 : Int32), vI (2 : Int32), vJ (φ x2), .second] [(.int (0 : Int32)), (.int (1 : Int32))])) _
   refine XS.icmpNo X0.here hx rfl (hb hby d15_36) rfl (flt (by decide : ¬ ((1 : Int32) < (0 : Int32)))).1 ?_
   refine XS.lload X0.here hx rfl (hb hby d15_39) rfl ?_
   refine XS.aloadN X0.here hx rfl (hb hby d15_41) rfl rfl ?_
   refine XS.iloadN X0.here hx rfl (hb hby d15_42) rfl ?_
   exact kt)
  clear R198
  obtain ⟨cl200, Ar200, hin200, hat200⟩ := VV.at (j := (1 : Int32)) (k := 1) (by decide) rfl ln1
  have R201 := fun (tg : State) (kt : Steps p.tables e below (T0.setTop (mkF m 52 #[vR a1, vI (0 : Int32), vI nn, vI (1 : Int32), vI (2 : Int32), vJ (φ x2), .second] [(.int ((1 : Int32) + (1 : Int32))), (.ref a1)])) tg) => R199 tg (by
   show Steps _ _ _ (T0.setTop (mkF m 43 #[vR a1, vI (0 : Int32), vI nn, vI (1 : Int32), vI (2 : Int32), vJ (φ x2), .second] [(.int (1 : Int32)), (.ref a1), (.long (φ x2))])) _
   refine X0.laload hx (j := (1 : Int32)) (v := (.long (φ x1))) (by rw [e0]; exact Ar200.1) (State.isArrayOf_alike hZ.alike Ar200.2.1) Ar200.2.2 hin200 hat200 (g := (mkF m 43 #[vR a1, vI (0 : Int32), vI nn, vI (1 : Int32), vI (2 : Int32), vJ (φ x2), .second] [(.int (1 : Int32)), (.ref a1), (.long (φ x2))])) rfl rfl (hb hby d15_43) _ ?_
   show Steps _ _ _ (T0.setTop (mkF m 44 #[vR a1, vI (0 : Int32), vI nn, vI (1 : Int32), vI (2 : Int32), vJ (φ x2), .second] [(.long (φ x1)), (.long (φ x2))])) _
   refine XS.lcmp X0.here hx rfl (hb hby d15_44) rfl ?_
   show Steps _ _ _ (T0.setTop (mkF m 45 #[vR a1, vI (0 : Int32), vI nn, vI (1 : Int32), vI (2 : Int32), vJ (φ x2), .second] [(.int (lcmpW (φ x2) (φ x1)))])) _
   refine XS.ifNo X0.here hx rfl (hb hby d15_45) rfl ((if0 _ _).trans (tlt ((own_cl H y2 y1).mpr c1 : (lcmpW (φ x2) (φ x1)) < (0 : Int32))).2.1) ?_
   refine XS.aloadN X0.here hx rfl (hb hby d15_48) rfl rfl ?_
   refine XS.iloadN X0.here hx rfl (hb hby d15_49) rfl ?_
   refine XS.iconst X0.here hx rfl (hb hby d15_50) ?_
   show Steps _ _ _ (T0.setTop (mkF m 51 #[vR a1, vI (0 : Int32), vI nn, vI (1 : Int32), vI (2 : Int32), vJ (φ x2), .second] [(.int (1 : Int32)), (.int (1 : Int32)), (.ref a1)])) _
   refine XS.iadd X0.here hx rfl (hb hby d15_51) rfl ?_
   exact kt)
  clear R199
  have R202 := fun (tg : State) (kt : Steps p.tables e below (T0.setTop (mkF m 52 #[vR a1, vI (0 : Int32), vI nn, vI (1 : Int32), vI (2 : Int32), vJ (φ x2), .second] [(.int (2 : Int32)), (.ref a1)])) tg) => R201 tg kt
  clear R201
  have lm1 : 1 < (x0 :: x1 :: x2 :: rr).length := by simp
  have R203 := fun (tg : State) (kt : Steps p.tables e below (T0.setTop (mkF m 54 #[vR a1, vI (0 : Int32), vI nn, vI (1 : Int32), vI (2 : Int32), vJ (φ x2), .second] [(.int (1 : Int32)), (.ref a1), (.int (2 : Int32)), (.ref a1)])) tg) => R202 tg (by
   show Steps _ _ _ (T0.setTop (mkF m 52 #[vR a1, vI (0 : Int32), vI nn, vI (1 : Int32), vI (2 : Int32), vJ (φ x2), .second] [(.int (2 : Int32)), (.ref a1)])) _
   refine XS.aloadN X0.here hx rfl (hb hby d15_52) rfl rfl ?_
   refine XS.iloadN X0.here hx rfl (hb hby d15_53) rfl ?_
   exact kt)
  clear R202
  obtain ⟨cl204, Ar204, hin204, hat204⟩ := VV.at (j := (1 : Int32)) (k := 1) (by decide) rfl lm1
  have R205 := fun (tg : State) (kt : Steps p.tables e below (T0.setTop (mkF m 55 #[vR a1, vI (0 : Int32), vI nn, vI (1 : Int32), vI (2 : Int32), vJ (φ x2), .second] [(.long (φ x1)), (.int (2 : Int32)), (.ref a1)])) tg) => R203 tg (by
   show Steps _ _ _ (T0.setTop (mkF m 54 #[vR a1, vI (0 : Int32), vI nn, vI (1 : Int32), vI (2 : Int32), vJ (φ x2), .second] [(.int (1 : Int32)), (.ref a1), (.int (2 : Int32)), (.ref a1)])) _
   refine X0.laload hx (j := (1 : Int32)) (v := (.long (φ x1))) (by rw [e0]; exact Ar204.1) (State.isArrayOf_alike hZ.alike Ar204.2.1) Ar204.2.2 hin204 hat204 (g := (mkF m 54 #[vR a1, vI (0 : Int32), vI nn, vI (1 : Int32), vI (2 : Int32), vJ (φ x2), .second] [(.int (1 : Int32)), (.ref a1), (.int (2 : Int32)), (.ref a1)])) rfl rfl (hb hby d15_54) _ ?_
   exact kt)
  clear R203
  obtain ⟨cl206, Ar206, hin206⟩ := VV.room (j := (2 : Int32)) (k := 2) (by decide) rfl (by decide)
  obtain ⟨T207, h207, X207, e207, W207, st207⟩ := stJ X0 hx hZ e0 Ar206 (j := (2 : Int32)) hin206 (g := (mkF m 55 #[vR a1, vI (0 : Int32), vI nn, vI (1 : Int32), vI (2 : Int32), vJ (φ x2), .second] [(.long (φ x1)), (.int (2 : Int32)), (.ref a1)])) rfl rfl (hb hby d15_55)
  have N207 := Fr.snoc X207 N0 ga
  rw [show ((2 : Int32) : Int32).toNatClampNeg = 2 from rfl] at W207
  have VV_207 : VG Z h207 a1 .long 1024 (fun r => .long (φ r)) 0 (x0 :: x1 :: x1 :: rr) := VV.set (r := x1) W207 (by simp) rfl
  have Zs207 : n0 ≤ h207.size := Nat.le_trans Z0 (Keep.of_wr W207).1
  have Kw207 : Keep h0 h207 [a1] := Keep.wr (Keep.refl h0 [a1]) W207 (Or.inl (List.mem_of_getElem? (i := 0) rfl))
  have R208 := fun (tg : State) (kt : Steps p.tables e below (T207.setTop (mkF m 34 #[vR a1, vI (0 : Int32), vI nn, vI ((1 : Int32) + (-1 : Int32)), vI (2 : Int32), vJ (φ x2), .second] [])) tg) => R205 tg (by
   refine st207 _ ?_
   show Steps _ _ _ (T207.setTop (mkF m 56 #[vR a1, vI (0 : Int32), vI nn, vI (1 : Int32), vI (2 : Int32), vJ (φ x2), .second] [])) _
   refine XS.goto X207.here hx rfl (pc0 := 56) (pc' := 31) rfl (hb hby d15_56) (by decide) (by decide) ?_
   show Steps _ _ _ (T207.setTop (mkF m 31 #[vR a1, vI (0 : Int32), vI nn, vI (1 : Int32), vI (2 : Int32), vJ (φ x2), .second] [])) _
   refine XS.iinc X207.here hx rfl (hb hby d15_31) rfl (l' := #[vR a1, vI (0 : Int32), vI nn, vI ((1 : Int32) + (-1 : Int32)), vI (2 : Int32), vJ (φ x2), .second]) rfl ?_
   exact kt)
  clear R205 st207
  have R209 := fun (tg : State) (kt : Steps p.tables e below (T207.setTop (mkF m 34 #[vR a1, vI (0 : Int32), vI nn, vI (0 : Int32), vI (2 : Int32), vJ (φ x2), .second] [])) tg) => R208 tg kt
  clear R208
  have ln0 : 0 < (x0 :: x1 :: x1 :: rr).length := by simp
  have R210 := fun (tg : State) (kt : Steps p.tables e below (T207.setTop (mkF m 43 #[vR a1, vI (0 : Int32), vI nn, vI (0 : Int32), vI (2 : Int32), vJ (φ x2), .second] [(.int (0 : Int32)), (.ref a1), (.long (φ x2))])) tg) => R209 tg (by
   show Steps _ _ _ (T207.setTop (mkF m 34 #[vR a1, vI (0 : Int32), vI nn, vI (0 : Int32), vI (2 : Int32), vJ (φ x2), .second] [])) _
   refine XS.iloadN X207.here hx rfl (hb hby d15_34) rfl ?_
   refine XS.iloadN X207.here hx rfl (hb hby d15_35) rfl ?_
   show Steps _ _ _ (T207.setTop (mkF m 36 #[vR a1, vI (0 : Int32), vI nn, vI (0 : Int32), vI (2 : Int32), vJ (φ x2), .second] [(.int (0 : Int32)), (.int (0 : Int32))])) _
   refine XS.icmpNo X207.here hx rfl (hb hby d15_36) rfl (flt (by decide : ¬ ((0 : Int32) < (0 : Int32)))).1 ?_
   refine XS.lload X207.here hx rfl (hb hby d15_39) rfl ?_
   refine XS.aloadN X207.here hx rfl (hb hby d15_41) rfl rfl ?_
   refine XS.iloadN X207.here hx rfl (hb hby d15_42) rfl ?_
   exact kt)
  clear R209
  obtain ⟨cl211, Ar211, hin211, hat211⟩ := VV_207.at (j := (0 : Int32)) (k := 0) (by decide) rfl ln0
  have R212 := fun (tg : State) (kt : Steps p.tables e below (T207.setTop (mkF m 45 #[vR a1, vI (0 : Int32), vI nn, vI (0 : Int32), vI (2 : Int32), vJ (φ x2), .second] [(.int (lcmpW (φ x2) (φ x0)))])) tg) => R210 tg (by
   show Steps _ _ _ (T207.setTop (mkF m 43 #[vR a1, vI (0 : Int32), vI nn, vI (0 : Int32), vI (2 : Int32), vJ (φ x2), .second] [(.int (0 : Int32)), (.ref a1), (.long (φ x2))])) _
   refine X207.laload hx (j := (0 : Int32)) (v := (.long (φ x0))) (by rw [e207]; exact Ar211.1) (State.isArrayOf_alike hZ.alike Ar211.2.1) Ar211.2.2 hin211 hat211 (g := (mkF m 43 #[vR a1, vI (0 : Int32), vI nn, vI (0 : Int32), vI (2 : Int32), vJ (φ x2), .second] [(.int (0 : Int32)), (.ref a1), (.long (φ x2))])) rfl rfl (hb hby d15_43) _ ?_
   show Steps _ _ _ (T207.setTop (mkF m 44 #[vR a1, vI (0 : Int32), vI nn, vI (0 : Int32), vI (2 : Int32), vJ (φ x2), .second] [(.long (φ x0)), (.long (φ x2))])) _
   refine XS.lcmp X207.here hx rfl (hb hby d15_44) rfl ?_
   exact kt)
  clear R210
  by_cases c0 : x2 < x0
  ·have R219 := fun (tg : State) (kt : Steps p.tables e below (T207.setTop (mkF m 52 #[vR a1, vI (0 : Int32), vI nn, vI (0 : Int32), vI (2 : Int32), vJ (φ x2), .second] [(.int ((0 : Int32) + (1 : Int32))), (.ref a1)])) tg) => R212 tg (by
    show Steps _ _ _ (T207.setTop (mkF m 45 #[vR a1, vI (0 : Int32), vI nn, vI (0 : Int32), vI (2 : Int32), vJ (φ x2), .second] [(.int (lcmpW (φ x2) (φ x0)))])) _
    refine XS.ifNo X207.here hx rfl (hb hby d15_45) rfl ((if0 _ _).trans (tlt ((own_cl H y2 y0).mpr c0 : (lcmpW (φ x2) (φ x0)) < (0 : Int32))).2.1) ?_
    refine XS.aloadN X207.here hx rfl (hb hby d15_48) rfl rfl ?_
    refine XS.iloadN X207.here hx rfl (hb hby d15_49) rfl ?_
    refine XS.iconst X207.here hx rfl (hb hby d15_50) ?_
    show Steps _ _ _ (T207.setTop (mkF m 51 #[vR a1, vI (0 : Int32), vI nn, vI (0 : Int32), vI (2 : Int32), vJ (φ x2), .second] [(.int (1 : Int32)), (.int (0 : Int32)), (.ref a1)])) _
    refine XS.iadd X207.here hx rfl (hb hby d15_51) rfl ?_
    exact kt)
   clear R212
   have R220 := fun (tg : State) (kt : Steps p.tables e below (T207.setTop (mkF m 52 #[vR a1, vI (0 : Int32), vI nn, vI (0 : Int32), vI (2 : Int32), vJ (φ x2), .second] [(.int (1 : Int32)), (.ref a1)])) tg) => R219 tg kt
   clear R219
   have lm0 : 0 < (x0 :: x1 :: x1 :: rr).length := by simp
   have R221 := fun (tg : State) (kt : Steps p.tables e below (T207.setTop (mkF m 54 #[vR a1, vI (0 : Int32), vI nn, vI (0 : Int32), vI (2 : Int32), vJ (φ x2), .second] [(.int (0 : Int32)), (.ref a1), (.int (1 : Int32)), (.ref a1)])) tg) => R220 tg (by
    show Steps _ _ _ (T207.setTop (mkF m 52 #[vR a1, vI (0 : Int32), vI nn, vI (0 : Int32), vI (2 : Int32), vJ (φ x2), .second] [(.int (1 : Int32)), (.ref a1)])) _
    refine XS.aloadN X207.here hx rfl (hb hby d15_52) rfl rfl ?_
    refine XS.iloadN X207.here hx rfl (hb hby d15_53) rfl ?_
    exact kt)
   clear R220
   obtain ⟨cl222, Ar222, hin222, hat222⟩ := VV_207.at (j := (0 : Int32)) (k := 0) (by decide) rfl lm0
   have R223 := fun (tg : State) (kt : Steps p.tables e below (T207.setTop (mkF m 55 #[vR a1, vI (0 : Int32), vI nn, vI (0 : Int32), vI (2 : Int32), vJ (φ x2), .second] [(.long (φ x0)), (.int (1 : Int32)), (.ref a1)])) tg) => R221 tg (by
    show Steps _ _ _ (T207.setTop (mkF m 54 #[vR a1, vI (0 : Int32), vI nn, vI (0 : Int32), vI (2 : Int32), vJ (φ x2), .second] [(.int (0 : Int32)), (.ref a1), (.int (1 : Int32)), (.ref a1)])) _
    refine X207.laload hx (j := (0 : Int32)) (v := (.long (φ x0))) (by rw [e207]; exact Ar222.1) (State.isArrayOf_alike hZ.alike Ar222.2.1) Ar222.2.2 hin222 hat222 (g := (mkF m 54 #[vR a1, vI (0 : Int32), vI nn, vI (0 : Int32), vI (2 : Int32), vJ (φ x2), .second] [(.int (0 : Int32)), (.ref a1), (.int (1 : Int32)), (.ref a1)])) rfl rfl (hb hby d15_54) _ ?_
    exact kt)
   clear R221
   obtain ⟨cl224, Ar224, hin224⟩ := VV_207.room (j := (1 : Int32)) (k := 1) (by decide) rfl (by decide)
   obtain ⟨T225, h225, X225, e225, W225, st225⟩ := stJ X207 hx hZ e207 Ar224 (j := (1 : Int32)) hin224 (g := (mkF m 55 #[vR a1, vI (0 : Int32), vI nn, vI (0 : Int32), vI (2 : Int32), vJ (φ x2), .second] [(.long (φ x0)), (.int (1 : Int32)), (.ref a1)])) rfl rfl (hb hby d15_55)
   have N225 := Fr.snoc X225 N207 ga
   rw [show ((1 : Int32) : Int32).toNatClampNeg = 1 from rfl] at W225
   have VV_225 : VG Z h225 a1 .long 1024 (fun r => .long (φ r)) 0 (x0 :: x0 :: x1 :: rr) := VV_207.set (r := x0) W225 (by simp) rfl
   have Zs225 : n0 ≤ h225.size := Nat.le_trans Zs207 (Keep.of_wr W225).1
   have Kw225 : Keep h0 h225 [a1] := Keep.wr Kw207 W225 (Or.inl (List.mem_of_getElem? (i := 0) rfl))
   have R226 := fun (tg : State) (kt : Steps p.tables e below (T225.setTop (mkF m 34 #[vR a1, vI (0 : Int32), vI nn, vI ((0 : Int32) + (-1 : Int32)), vI (2 : Int32), vJ (φ x2), .second] [])) tg) => R223 tg (by
    refine st225 _ ?_
    show Steps _ _ _ (T225.setTop (mkF m 56 #[vR a1, vI (0 : Int32), vI nn, vI (0 : Int32), vI (2 : Int32), vJ (φ x2), .second] [])) _
    refine XS.goto X225.here hx rfl (pc0 := 56) (pc' := 31) rfl (hb hby d15_56) (by decide) (by decide) ?_
    show Steps _ _ _ (T225.setTop (mkF m 31 #[vR a1, vI (0 : Int32), vI nn, vI (0 : Int32), vI (2 : Int32), vJ (φ x2), .second] [])) _
    refine XS.iinc X225.here hx rfl (hb hby d15_31) rfl (l' := #[vR a1, vI (0 : Int32), vI nn, vI ((0 : Int32) + (-1 : Int32)), vI (2 : Int32), vJ (φ x2), .second]) rfl ?_
    exact kt)
   clear R223 st225
   have R227 := fun (tg : State) (kt : Steps p.tables e below (T225.setTop (mkF m 34 #[vR a1, vI (0 : Int32), vI nn, vI (-1 : Int32), vI (2 : Int32), vJ (φ x2), .second] [])) tg) => R226 tg kt
   clear R226
   have R228 := fun (tg : State) (kt : Steps p.tables e below (T225.setTop (mkF m 63 #[vR a1, vI (0 : Int32), vI nn, vI (-1 : Int32), vI (2 : Int32), vJ (φ x2), .second] [(.int ((-1 : Int32) + (1 : Int32))), (.ref a1)])) tg) => R227 tg (by
    show Steps _ _ _ (T225.setTop (mkF m 34 #[vR a1, vI (0 : Int32), vI nn, vI (-1 : Int32), vI (2 : Int32), vJ (φ x2), .second] [])) _
    refine XS.iloadN X225.here hx rfl (hb hby d15_34) rfl ?_
    refine XS.iloadN X225.here hx rfl (hb hby d15_35) rfl ?_
    show Steps _ _ _ (T225.setTop (mkF m 36 #[vR a1, vI (0 : Int32), vI nn, vI (-1 : Int32), vI (2 : Int32), vJ (φ x2), .second] [(.int (0 : Int32)), (.int (-1 : Int32))])) _
    refine XS.icmpYes X225.here hx rfl (pc0 := 36) (pc' := 59) rfl (hb hby d15_36) rfl (tlt (by decide : (-1 : Int32) < (0 : Int32))).1 (by decide) (by decide) ?_
    refine XS.aloadN X225.here hx rfl (hb hby d15_59) rfl rfl ?_
    refine XS.iloadN X225.here hx rfl (hb hby d15_60) rfl ?_
    refine XS.iconst X225.here hx rfl (hb hby d15_61) ?_
    show Steps _ _ _ (T225.setTop (mkF m 62 #[vR a1, vI (0 : Int32), vI nn, vI (-1 : Int32), vI (2 : Int32), vJ (φ x2), .second] [(.int (1 : Int32)), (.int (-1 : Int32)), (.ref a1)])) _
    refine XS.iadd X225.here hx rfl (hb hby d15_62) rfl ?_
    exact kt)
   clear R227
   have R229 := fun (tg : State) (kt : Steps p.tables e below (T225.setTop (mkF m 63 #[vR a1, vI (0 : Int32), vI nn, vI (-1 : Int32), vI (2 : Int32), vJ (φ x2), .second] [(.int (0 : Int32)), (.ref a1)])) tg) => R228 tg kt
   clear R228
   have R230 := fun (tg : State) (kt : Steps p.tables e below (T225.setTop (mkF m 65 #[vR a1, vI (0 : Int32), vI nn, vI (-1 : Int32), vI (2 : Int32), vJ (φ x2), .second] [(.long (φ x2)), (.int (0 : Int32)), (.ref a1)])) tg) => R229 tg (by
    show Steps _ _ _ (T225.setTop (mkF m 63 #[vR a1, vI (0 : Int32), vI nn, vI (-1 : Int32), vI (2 : Int32), vJ (φ x2), .second] [(.int (0 : Int32)), (.ref a1)])) _
    refine XS.lload X225.here hx rfl (hb hby d15_63) rfl ?_
    exact kt)
   clear R229
   obtain ⟨cl231, Ar231, hin231⟩ := VV_225.room (j := (0 : Int32)) (k := 0) (by decide) rfl (by decide)
   obtain ⟨T232, h232, X232, e232, W232, st232⟩ := stJ X225 hx hZ e225 Ar231 (j := (0 : Int32)) hin231 (g := (mkF m 65 #[vR a1, vI (0 : Int32), vI nn, vI (-1 : Int32), vI (2 : Int32), vJ (φ x2), .second] [(.long (φ x2)), (.int (0 : Int32)), (.ref a1)])) rfl rfl (hb hby d15_65)
   have N232 := Fr.snoc X232 N225 ga
   rw [show ((0 : Int32) : Int32).toNatClampNeg = 0 from rfl] at W232
   have VV_232 : VG Z h232 a1 .long 1024 (fun r => .long (φ r)) 0 (x2 :: x0 :: x1 :: rr) := VV_225.set (r := x2) W232 (by simp) rfl
   have Zs232 : n0 ≤ h232.size := Nat.le_trans Zs225 (Keep.of_wr W232).1
   have Kw232 : Keep h0 h232 [a1] := Keep.wr Kw225 W232 (Or.inl (List.mem_of_getElem? (i := 0) rfl))
   have R233 := fun (tg : State) (kt : Steps p.tables e below (T232.setTop (mkF m 3 #[vR a1, vI (0 : Int32), vI nn, vI (-1 : Int32), vI (2 : Int32), vJ (φ x2), .second] [])) tg) => R230 tg (by
    refine st232 _ ?_
    show Steps _ _ _ (T232.setTop (mkF m 66 #[vR a1, vI (0 : Int32), vI nn, vI (-1 : Int32), vI (2 : Int32), vJ (φ x2), .second] [])) _
    refine XS.goto X232.here hx rfl (pc0 := 66) (pc' := 3) rfl (hb hby d15_66) (by decide) (by decide) ?_
    exact kt)
   clear R230 st232
   have VVz : VG Z h232 a1 .long 1024 (fun r => .long (φ r)) 0 (own_in2 (x0 :: x1 :: x2 :: rr)) := by have q := VV_232; rw [show own_in2 (x0 :: x1 :: x2 :: rr) = (x2 :: x0 :: x1 :: rr) from by rw [own_in2, if_pos c1, if_pos c0]]; exact q
   exact ⟨_, _, _, _, _, _, X232, e232, N232, Kw232, VVz, Or.inr ⟨_, _, rfl, rfl, rfl⟩, R233⟩
  ·have R213 := fun (tg : State) (kt : Steps p.tables e below (T207.setTop (mkF m 63 #[vR a1, vI (0 : Int32), vI nn, vI (0 : Int32), vI (2 : Int32), vJ (φ x2), .second] [(.int ((0 : Int32) + (1 : Int32))), (.ref a1)])) tg) => R212 tg (by
    show Steps _ _ _ (T207.setTop (mkF m 45 #[vR a1, vI (0 : Int32), vI nn, vI (0 : Int32), vI (2 : Int32), vJ (φ x2), .second] [(.int (lcmpW (φ x2) (φ x0)))])) _
    refine XS.ifYes X207.here hx rfl (pc0 := 45) (pc' := 59) rfl (hb hby d15_45) rfl ((if0 _ _).trans (flt (fun q => c0 ((own_cl H y2 y0).mp q) : ¬ ((lcmpW (φ x2) (φ x0)) < (0 : Int32)))).2.1) (by decide) (by decide) ?_
    refine XS.aloadN X207.here hx rfl (hb hby d15_59) rfl rfl ?_
    refine XS.iloadN X207.here hx rfl (hb hby d15_60) rfl ?_
    refine XS.iconst X207.here hx rfl (hb hby d15_61) ?_
    show Steps _ _ _ (T207.setTop (mkF m 62 #[vR a1, vI (0 : Int32), vI nn, vI (0 : Int32), vI (2 : Int32), vJ (φ x2), .second] [(.int (1 : Int32)), (.int (0 : Int32)), (.ref a1)])) _
    refine XS.iadd X207.here hx rfl (hb hby d15_62) rfl ?_
    exact kt)
   clear R212
   have R214 := fun (tg : State) (kt : Steps p.tables e below (T207.setTop (mkF m 63 #[vR a1, vI (0 : Int32), vI nn, vI (0 : Int32), vI (2 : Int32), vJ (φ x2), .second] [(.int (1 : Int32)), (.ref a1)])) tg) => R213 tg kt
   clear R213
   have R215 := fun (tg : State) (kt : Steps p.tables e below (T207.setTop (mkF m 65 #[vR a1, vI (0 : Int32), vI nn, vI (0 : Int32), vI (2 : Int32), vJ (φ x2), .second] [(.long (φ x2)), (.int (1 : Int32)), (.ref a1)])) tg) => R214 tg (by
    show Steps _ _ _ (T207.setTop (mkF m 63 #[vR a1, vI (0 : Int32), vI nn, vI (0 : Int32), vI (2 : Int32), vJ (φ x2), .second] [(.int (1 : Int32)), (.ref a1)])) _
    refine XS.lload X207.here hx rfl (hb hby d15_63) rfl ?_
    exact kt)
   clear R214
   obtain ⟨cl216, Ar216, hin216⟩ := VV_207.room (j := (1 : Int32)) (k := 1) (by decide) rfl (by decide)
   obtain ⟨T217, h217, X217, e217, W217, st217⟩ := stJ X207 hx hZ e207 Ar216 (j := (1 : Int32)) hin216 (g := (mkF m 65 #[vR a1, vI (0 : Int32), vI nn, vI (0 : Int32), vI (2 : Int32), vJ (φ x2), .second] [(.long (φ x2)), (.int (1 : Int32)), (.ref a1)])) rfl rfl (hb hby d15_65)
   have N217 := Fr.snoc X217 N207 ga
   rw [show ((1 : Int32) : Int32).toNatClampNeg = 1 from rfl] at W217
   have VV_217 : VG Z h217 a1 .long 1024 (fun r => .long (φ r)) 0 (x0 :: x2 :: x1 :: rr) := VV_207.set (r := x2) W217 (by simp) rfl
   have Zs217 : n0 ≤ h217.size := Nat.le_trans Zs207 (Keep.of_wr W217).1
   have Kw217 : Keep h0 h217 [a1] := Keep.wr Kw207 W217 (Or.inl (List.mem_of_getElem? (i := 0) rfl))
   have R218 := fun (tg : State) (kt : Steps p.tables e below (T217.setTop (mkF m 3 #[vR a1, vI (0 : Int32), vI nn, vI (0 : Int32), vI (2 : Int32), vJ (φ x2), .second] [])) tg) => R215 tg (by
    refine st217 _ ?_
    show Steps _ _ _ (T217.setTop (mkF m 66 #[vR a1, vI (0 : Int32), vI nn, vI (0 : Int32), vI (2 : Int32), vJ (φ x2), .second] [])) _
    refine XS.goto X217.here hx rfl (pc0 := 66) (pc' := 3) rfl (hb hby d15_66) (by decide) (by decide) ?_
    exact kt)
   clear R215 st217
   have VVz : VG Z h217 a1 .long 1024 (fun r => .long (φ r)) 0 (own_in2 (x0 :: x1 :: x2 :: rr)) := by have q := VV_217; rw [show own_in2 (x0 :: x1 :: x2 :: rr) = (x0 :: x2 :: x1 :: rr) from by rw [own_in2, if_pos c1, if_neg c0]]; exact q
   exact ⟨_, _, _, _, _, _, X217, e217, N217, Kw217, VVz, Or.inr ⟨_, _, rfl, rfl, rfl⟩, R218⟩
 ·have R196 := fun (tg : State) (kt : Steps p.tables e below (T0.setTop (mkF m 3 #[vR a1, vI (0 : Int32), vI nn, vI (2 : Int32), vI (2 : Int32), vJ (φ x2), .second] [])) tg) => R195 tg (by
   show Steps _ _ _ (T0.setTop (mkF m 28 #[vR a1, vI (0 : Int32), vI nn, vI (2 : Int32), vI (2 : Int32), vJ (φ x2), .second] [(.int (lcmpW (φ x2) (φ x1)))])) _
   refine XS.ifYes X0.here hx rfl (pc0 := 28) (pc' := 66) rfl (hb hby d15_28) rfl ((if0 _ _).trans (flt (fun q => c1 ((own_cl H y2 y1).mp q) : ¬ ((lcmpW (φ x2) (φ x1)) < (0 : Int32)))).2.1) (by decide) (by decide) ?_
   show Steps _ _ _ (T0.setTop (mkF m 66 #[vR a1, vI (0 : Int32), vI nn, vI (2 : Int32), vI (2 : Int32), vJ (φ x2), .second] [])) _
   refine XS.goto X0.here hx rfl (pc0 := 66) (pc' := 3) rfl (hb hby d15_66) (by decide) (by decide) ?_
   exact kt)
  clear R195
  have VVz : VG Z h0 a1 .long 1024 (fun r => .long (φ r)) 0 (own_in2 (x0 :: x1 :: x2 :: rr)) := by have q := VV; rw [show own_in2 (x0 :: x1 :: x2 :: rr) = (x0 :: x1 :: x2 :: rr) from by rw [own_in2, if_neg c1]]; exact q
  exact ⟨_, _, _, _, _, _, X0, e0, N0, (Keep.refl h0 [a1]), VVz, Or.inr ⟨_, _, rfl, rfl, rfl⟩, R196⟩
set_option maxRecDepth 65536 in
set_option maxHeartbeats 40000000 in
theorem lp_is3 {p : Program} {l : Launch} {e : Env} {s : State} {m : MethodId} {args : Array Value} {below : List Frame} {meth : Method} {c : Code} {Z : State} {a0 : Array Value} {n0 : Nat} {T0 : State} {locs : List Loc} {h0 : Heap} (φ : Nat → Int64) (a1 : Addr) (nn : Int32) (z3 : Slot) (z5 : Slot) (z6 : Slot) (x0 : Nat) (x1 : Nat) (x2 : Nat) (x3 : Nat) (rr : List Nat) (X0 : Stand p l e rM0 s m args below meth c T0 locs 0 0) (hx : p.tables.exec = Jvm.exec) (hZ : Z.Warmed39 s.vm) (hw : ∀ d ∈ tables_1, d.before a0 Z = true) (hby : c.code = jdk_2529_method_15_code) (hml : c.maxLocals = 7) (hown : s.vm.findClass cQ = some m.cls) (e0 : T0.heap = h0) (N0 : Fr n0 locs) (Z0 : n0 ≤ h0.size) (VV : VG Z h0 a1 .long 1024 (fun r => .long (φ r)) 0 (x0 :: x1 :: x2 :: x3 :: rr)) (ga : n0 ≤ a1) (H : own_mono φ) (y0 : x0 < 4) (y1 : x1 < 4) (y2 : x2 < 4) (y3 : x3 < 4) (hkn : (3 : Int32) < nn) (hz : (z3 = .unset ∧ z5 = .unset ∧ z6 = .unset) ∨ (∃ (a : Int32) (b : Int64), z3 = vI a ∧ z5 = vJ b ∧ z6 = .second)) :
  ∃ (T' : State) (h' : Heap) (L' : List Loc) (z3' z5' z6' : Slot), Stand p l e rM0 s m args below meth c T' L' 0 0 ∧ T'.heap = h' ∧ Fr n0 L' ∧ Keep h0 h' [a1] ∧ VG Z h' a1 .long 1024 (fun r => .long (φ r)) 0 (own_in3 (x0 :: x1 :: x2 :: x3 :: rr)) ∧ ((z3' = .unset ∧ z5' = .unset ∧ z6' = .unset) ∨ (∃ (a : Int32) (b : Int64), z3' = vI a ∧ z5' = vJ b ∧ z6' = .second)) ∧ Sq p e below (T'.setTop (mkF m 3 #[vR a1, vI (0 : Int32), vI nn, z3', vI (3 : Int32), z5', z6'] [])) (T0.setTop (mkF m 3 #[vR a1, vI (0 : Int32), vI nn, z3, vI (2 : Int32), z5, z6] [])) := by
 have R234 := fun (tg : State) (kt : Steps p.tables e below (T0.setTop (mkF m 6 #[vR a1, vI (0 : Int32), vI nn, z3, vI ((2 : Int32) + (1 : Int32)), z5, z6] [])) tg) => (fun (t : State) (k : Steps p.tables e below (T0.setTop (mkF m 3 #[vR a1, vI (0 : Int32), vI nn, z3, vI (2 : Int32), z5, z6] [])) t) => k) tg (by
  show Steps _ _ _ (T0.setTop (mkF m 3 #[vR a1, vI (0 : Int32), vI nn, z3, vI (2 : Int32), z5, z6] [])) _
  refine XS.iinc X0.here hx rfl (hb hby d15_3) rfl (l' := #[vR a1, vI (0 : Int32), vI nn, z3, vI ((2 : Int32) + (1 : Int32)), z5, z6]) rfl ?_
  exact kt)
 have R235 := fun (tg : State) (kt : Steps p.tables e below (T0.setTop (mkF m 6 #[vR a1, vI (0 : Int32), vI nn, z3, vI (3 : Int32), z5, z6] [])) tg) => R234 tg kt
 clear R234
 have len3 : 3 < (x0 :: x1 :: x2 :: x3 :: rr).length := by simp
 have R236 := fun (tg : State) (kt : Steps p.tables e below (T0.setTop (mkF m 17 #[vR a1, vI (0 : Int32), vI nn, vI (3 : Int32), vI (3 : Int32), z5, z6] [(.int (3 : Int32)), (.ref a1)])) tg) => R235 tg (by
  show Steps _ _ _ (T0.setTop (mkF m 6 #[vR a1, vI (0 : Int32), vI nn, z3, vI (3 : Int32), z5, z6] [])) _
  refine XS.iload X0.here hx rfl (hb hby d15_6) rfl ?_
  refine XS.iloadN X0.here hx rfl (hb hby d15_8) rfl ?_
  show Steps _ _ _ (T0.setTop (mkF m 9 #[vR a1, vI (0 : Int32), vI nn, z3, vI (3 : Int32), z5, z6] [(.int nn), (.int (3 : Int32))])) _
  refine XS.icmpNo X0.here hx rfl (hb hby d15_9) rfl (tlt (hkn : (3 : Int32) < nn)).2.1 ?_
  refine XS.aloadN X0.here hx rfl (hb hby d15_12) rfl rfl ?_
  refine XS.iload X0.here hx rfl (hb hby d15_13) rfl ?_
  refine XS.dup X0.here hx rfl (hb hby d15_15) rfl rfl ?_
  show Steps _ _ _ (T0.setTop (mkF m 16 #[vR a1, vI (0 : Int32), vI nn, z3, vI (3 : Int32), z5, z6] [(.int (3 : Int32)), (.int (3 : Int32)), (.ref a1)])) _
  refine XS.istoreN X0.here hx rfl (hb hby d15_16) rfl (l' := #[vR a1, vI (0 : Int32), vI nn, vI (3 : Int32), vI (3 : Int32), z5, z6]) (by rcases hz with ⟨rfl, rfl, rfl⟩ | ⟨_, _, rfl, rfl, rfl⟩ <;> rfl) ?_
  exact kt)
 clear R235
 obtain ⟨cl237, Ar237, hin237, hat237⟩ := VV.at (j := (3 : Int32)) (k := 3) (by decide) rfl len3
 have R238 := fun (tg : State) (kt : Steps p.tables e below (T0.setTop (mkF m 26 #[vR a1, vI (0 : Int32), vI nn, vI (3 : Int32), vI (3 : Int32), vJ (φ x3), .second] [(.int ((3 : Int32) - (1 : Int32))), (.ref a1), (.long (φ x3))])) tg) => R236 tg (by
  show Steps _ _ _ (T0.setTop (mkF m 17 #[vR a1, vI (0 : Int32), vI nn, vI (3 : Int32), vI (3 : Int32), z5, z6] [(.int (3 : Int32)), (.ref a1)])) _
  refine X0.laload hx (j := (3 : Int32)) (v := (.long (φ x3))) (by rw [e0]; exact Ar237.1) (State.isArrayOf_alike hZ.alike Ar237.2.1) Ar237.2.2 hin237 hat237 (g := (mkF m 17 #[vR a1, vI (0 : Int32), vI nn, vI (3 : Int32), vI (3 : Int32), z5, z6] [(.int (3 : Int32)), (.ref a1)])) rfl rfl (hb hby d15_17) _ ?_
  show Steps _ _ _ (T0.setTop (mkF m 18 #[vR a1, vI (0 : Int32), vI nn, vI (3 : Int32), vI (3 : Int32), z5, z6] [(.long (φ x3))])) _
  refine XS.lstore X0.here hx rfl (hb hby d15_18) rfl (l' := #[vR a1, vI (0 : Int32), vI nn, vI (3 : Int32), vI (3 : Int32), vJ (φ x3), .second]) (by rcases hz with ⟨rfl, rfl, rfl⟩ | ⟨_, _, rfl, rfl, rfl⟩ <;> rfl) ?_
  refine XS.lload X0.here hx rfl (hb hby d15_20) rfl ?_
  refine XS.aloadN X0.here hx rfl (hb hby d15_22) rfl rfl ?_
  refine XS.iloadN X0.here hx rfl (hb hby d15_23) rfl ?_
  show Steps _ _ _ (T0.setTop (mkF m 24 #[vR a1, vI (0 : Int32), vI nn, vI (3 : Int32), vI (3 : Int32), vJ (φ x3), .second] [(.int (3 : Int32)), (.ref a1), (.long (φ x3))])) _
  refine XS.iconst X0.here hx rfl (hb hby d15_24) ?_
  show Steps _ _ _ (T0.setTop (mkF m 25 #[vR a1, vI (0 : Int32), vI nn, vI (3 : Int32), vI (3 : Int32), vJ (φ x3), .second] [(.int (1 : Int32)), (.int (3 : Int32)), (.ref a1), (.long (φ x3))])) _
  refine XS.isub X0.here hx rfl (hb hby d15_25) rfl ?_
  exact kt)
 clear R236
 have R239 := fun (tg : State) (kt : Steps p.tables e below (T0.setTop (mkF m 26 #[vR a1, vI (0 : Int32), vI nn, vI (3 : Int32), vI (3 : Int32), vJ (φ x3), .second] [(.int (2 : Int32)), (.ref a1), (.long (φ x3))])) tg) => R238 tg kt
 clear R238
 have len2 : 2 < (x0 :: x1 :: x2 :: x3 :: rr).length := by simp
 obtain ⟨cl240, Ar240, hin240, hat240⟩ := VV.at (j := (2 : Int32)) (k := 2) (by decide) rfl len2
 have R241 := fun (tg : State) (kt : Steps p.tables e below (T0.setTop (mkF m 28 #[vR a1, vI (0 : Int32), vI nn, vI (3 : Int32), vI (3 : Int32), vJ (φ x3), .second] [(.int (lcmpW (φ x3) (φ x2)))])) tg) => R239 tg (by
  show Steps _ _ _ (T0.setTop (mkF m 26 #[vR a1, vI (0 : Int32), vI nn, vI (3 : Int32), vI (3 : Int32), vJ (φ x3), .second] [(.int (2 : Int32)), (.ref a1), (.long (φ x3))])) _
  refine X0.laload hx (j := (2 : Int32)) (v := (.long (φ x2))) (by rw [e0]; exact Ar240.1) (State.isArrayOf_alike hZ.alike Ar240.2.1) Ar240.2.2 hin240 hat240 (g := (mkF m 26 #[vR a1, vI (0 : Int32), vI nn, vI (3 : Int32), vI (3 : Int32), vJ (φ x3), .second] [(.int (2 : Int32)), (.ref a1), (.long (φ x3))])) rfl rfl (hb hby d15_26) _ ?_
  show Steps _ _ _ (T0.setTop (mkF m 27 #[vR a1, vI (0 : Int32), vI nn, vI (3 : Int32), vI (3 : Int32), vJ (φ x3), .second] [(.long (φ x2)), (.long (φ x3))])) _
  refine XS.lcmp X0.here hx rfl (hb hby d15_27) rfl ?_
  exact kt)
 clear R239
 by_cases c2 : x3 < x2
 ·have R243 := fun (tg : State) (kt : Steps p.tables e below (T0.setTop (mkF m 34 #[vR a1, vI (0 : Int32), vI nn, vI ((3 : Int32) + (-1 : Int32)), vI (3 : Int32), vJ (φ x3), .second] [])) tg) => R241 tg (by
   show Steps _ _ _ (T0.setTop (mkF m 28 #[vR a1, vI (0 : Int32), vI nn, vI (3 : Int32), vI (3 : Int32), vJ (φ x3), .second] [(.int (lcmpW (φ x3) (φ x2)))])) _
   refine XS.ifNo X0.here hx rfl (hb hby d15_28) rfl ((if0 _ _).trans (tlt ((own_cl H y3 y2).mpr c2 : (lcmpW (φ x3) (φ x2)) < (0 : Int32))).2.1) ?_
   show Steps _ _ _ (T0.setTop (mkF m 31 #[vR a1, vI (0 : Int32), vI nn, vI (3 : Int32), vI (3 : Int32), vJ (φ x3), .second] [])) _
   refine XS.iinc X0.here hx rfl (hb hby d15_31) rfl (l' := #[vR a1, vI (0 : Int32), vI nn, vI ((3 : Int32) + (-1 : Int32)), vI (3 : Int32), vJ (φ x3), .second]) rfl ?_
   exact kt)
  clear R241
  have R244 := fun (tg : State) (kt : Steps p.tables e below (T0.setTop (mkF m 34 #[vR a1, vI (0 : Int32), vI nn, vI (2 : Int32), vI (3 : Int32), vJ (φ x3), .second] [])) tg) => R243 tg kt
  clear R243
  have ln2 : 2 < (x0 :: x1 :: x2 :: x3 :: rr).length := by simp
  have R245 := fun (tg : State) (kt : Steps p.tables e below (T0.setTop (mkF m 43 #[vR a1, vI (0 : Int32), vI nn, vI (2 : Int32), vI (3 : Int32), vJ (φ x3), .second] [(.int (2 : Int32)), (.ref a1), (.long (φ x3))])) tg) => R244 tg (by
   show Steps _ _ _ (T0.setTop (mkF m 34 #[vR a1, vI (0 : Int32), vI nn, vI (2 : Int32), vI (3 : Int32), vJ (φ x3), .second] [])) _
   refine XS.iloadN X0.here hx rfl (hb hby d15_34) rfl ?_
   refine XS.iloadN X0.here hx rfl (hb hby d15_35) rfl ?_
   show Steps _ _ _ (T0.setTop (mkF m 36 #[vR a1, vI (0 : Int32), vI nn, vI (2 : Int32), vI (3 : Int32), vJ (φ x3), .second] [(.int (0 : Int32)), (.int (2 : Int32))])) _
   refine XS.icmpNo X0.here hx rfl (hb hby d15_36) rfl (flt (by decide : ¬ ((2 : Int32) < (0 : Int32)))).1 ?_
   refine XS.lload X0.here hx rfl (hb hby d15_39) rfl ?_
   refine XS.aloadN X0.here hx rfl (hb hby d15_41) rfl rfl ?_
   refine XS.iloadN X0.here hx rfl (hb hby d15_42) rfl ?_
   exact kt)
  clear R244
  obtain ⟨cl246, Ar246, hin246, hat246⟩ := VV.at (j := (2 : Int32)) (k := 2) (by decide) rfl ln2
  have R247 := fun (tg : State) (kt : Steps p.tables e below (T0.setTop (mkF m 52 #[vR a1, vI (0 : Int32), vI nn, vI (2 : Int32), vI (3 : Int32), vJ (φ x3), .second] [(.int ((2 : Int32) + (1 : Int32))), (.ref a1)])) tg) => R245 tg (by
   show Steps _ _ _ (T0.setTop (mkF m 43 #[vR a1, vI (0 : Int32), vI nn, vI (2 : Int32), vI (3 : Int32), vJ (φ x3), .second] [(.int (2 : Int32)), (.ref a1), (.long (φ x3))])) _
   refine X0.laload hx (j := (2 : Int32)) (v := (.long (φ x2))) (by rw [e0]; exact Ar246.1) (State.isArrayOf_alike hZ.alike Ar246.2.1) Ar246.2.2 hin246 hat246 (g := (mkF m 43 #[vR a1, vI (0 : Int32), vI nn, vI (2 : Int32), vI (3 : Int32), vJ (φ x3), .second] [(.int (2 : Int32)), (.ref a1), (.long (φ x3))])) rfl rfl (hb hby d15_43) _ ?_
   show Steps _ _ _ (T0.setTop (mkF m 44 #[vR a1, vI (0 : Int32), vI nn, vI (2 : Int32), vI (3 : Int32), vJ (φ x3), .second] [(.long (φ x2)), (.long (φ x3))])) _
   refine XS.lcmp X0.here hx rfl (hb hby d15_44) rfl ?_
   show Steps _ _ _ (T0.setTop (mkF m 45 #[vR a1, vI (0 : Int32), vI nn, vI (2 : Int32), vI (3 : Int32), vJ (φ x3), .second] [(.int (lcmpW (φ x3) (φ x2)))])) _
   refine XS.ifNo X0.here hx rfl (hb hby d15_45) rfl ((if0 _ _).trans (tlt ((own_cl H y3 y2).mpr c2 : (lcmpW (φ x3) (φ x2)) < (0 : Int32))).2.1) ?_
   refine XS.aloadN X0.here hx rfl (hb hby d15_48) rfl rfl ?_
   refine XS.iloadN X0.here hx rfl (hb hby d15_49) rfl ?_
   refine XS.iconst X0.here hx rfl (hb hby d15_50) ?_
   show Steps _ _ _ (T0.setTop (mkF m 51 #[vR a1, vI (0 : Int32), vI nn, vI (2 : Int32), vI (3 : Int32), vJ (φ x3), .second] [(.int (1 : Int32)), (.int (2 : Int32)), (.ref a1)])) _
   refine XS.iadd X0.here hx rfl (hb hby d15_51) rfl ?_
   exact kt)
  clear R245
  have R248 := fun (tg : State) (kt : Steps p.tables e below (T0.setTop (mkF m 52 #[vR a1, vI (0 : Int32), vI nn, vI (2 : Int32), vI (3 : Int32), vJ (φ x3), .second] [(.int (3 : Int32)), (.ref a1)])) tg) => R247 tg kt
  clear R247
  have lm2 : 2 < (x0 :: x1 :: x2 :: x3 :: rr).length := by simp
  have R249 := fun (tg : State) (kt : Steps p.tables e below (T0.setTop (mkF m 54 #[vR a1, vI (0 : Int32), vI nn, vI (2 : Int32), vI (3 : Int32), vJ (φ x3), .second] [(.int (2 : Int32)), (.ref a1), (.int (3 : Int32)), (.ref a1)])) tg) => R248 tg (by
   show Steps _ _ _ (T0.setTop (mkF m 52 #[vR a1, vI (0 : Int32), vI nn, vI (2 : Int32), vI (3 : Int32), vJ (φ x3), .second] [(.int (3 : Int32)), (.ref a1)])) _
   refine XS.aloadN X0.here hx rfl (hb hby d15_52) rfl rfl ?_
   refine XS.iloadN X0.here hx rfl (hb hby d15_53) rfl ?_
   exact kt)
  clear R248
  obtain ⟨cl250, Ar250, hin250, hat250⟩ := VV.at (j := (2 : Int32)) (k := 2) (by decide) rfl lm2
  have R251 := fun (tg : State) (kt : Steps p.tables e below (T0.setTop (mkF m 55 #[vR a1, vI (0 : Int32), vI nn, vI (2 : Int32), vI (3 : Int32), vJ (φ x3), .second] [(.long (φ x2)), (.int (3 : Int32)), (.ref a1)])) tg) => R249 tg (by
   show Steps _ _ _ (T0.setTop (mkF m 54 #[vR a1, vI (0 : Int32), vI nn, vI (2 : Int32), vI (3 : Int32), vJ (φ x3), .second] [(.int (2 : Int32)), (.ref a1), (.int (3 : Int32)), (.ref a1)])) _
   refine X0.laload hx (j := (2 : Int32)) (v := (.long (φ x2))) (by rw [e0]; exact Ar250.1) (State.isArrayOf_alike hZ.alike Ar250.2.1) Ar250.2.2 hin250 hat250 (g := (mkF m 54 #[vR a1, vI (0 : Int32), vI nn, vI (2 : Int32), vI (3 : Int32), vJ (φ x3), .second] [(.int (2 : Int32)), (.ref a1), (.int (3 : Int32)), (.ref a1)])) rfl rfl (hb hby d15_54) _ ?_
   exact kt)
  clear R249
  obtain ⟨cl252, Ar252, hin252⟩ := VV.room (j := (3 : Int32)) (k := 3) (by decide) rfl (by decide)
  obtain ⟨T253, h253, X253, e253, W253, st253⟩ := stJ X0 hx hZ e0 Ar252 (j := (3 : Int32)) hin252 (g := (mkF m 55 #[vR a1, vI (0 : Int32), vI nn, vI (2 : Int32), vI (3 : Int32), vJ (φ x3), .second] [(.long (φ x2)), (.int (3 : Int32)), (.ref a1)])) rfl rfl (hb hby d15_55)
  have N253 := Fr.snoc X253 N0 ga
  rw [show ((3 : Int32) : Int32).toNatClampNeg = 3 from rfl] at W253
  have VV_253 : VG Z h253 a1 .long 1024 (fun r => .long (φ r)) 0 (x0 :: x1 :: x2 :: x2 :: rr) := VV.set (r := x2) W253 (by simp) rfl
  have Zs253 : n0 ≤ h253.size := Nat.le_trans Z0 (Keep.of_wr W253).1
  have Kw253 : Keep h0 h253 [a1] := Keep.wr (Keep.refl h0 [a1]) W253 (Or.inl (List.mem_of_getElem? (i := 0) rfl))
  have R254 := fun (tg : State) (kt : Steps p.tables e below (T253.setTop (mkF m 34 #[vR a1, vI (0 : Int32), vI nn, vI ((2 : Int32) + (-1 : Int32)), vI (3 : Int32), vJ (φ x3), .second] [])) tg) => R251 tg (by
   refine st253 _ ?_
   show Steps _ _ _ (T253.setTop (mkF m 56 #[vR a1, vI (0 : Int32), vI nn, vI (2 : Int32), vI (3 : Int32), vJ (φ x3), .second] [])) _
   refine XS.goto X253.here hx rfl (pc0 := 56) (pc' := 31) rfl (hb hby d15_56) (by decide) (by decide) ?_
   show Steps _ _ _ (T253.setTop (mkF m 31 #[vR a1, vI (0 : Int32), vI nn, vI (2 : Int32), vI (3 : Int32), vJ (φ x3), .second] [])) _
   refine XS.iinc X253.here hx rfl (hb hby d15_31) rfl (l' := #[vR a1, vI (0 : Int32), vI nn, vI ((2 : Int32) + (-1 : Int32)), vI (3 : Int32), vJ (φ x3), .second]) rfl ?_
   exact kt)
  clear R251 st253
  have R255 := fun (tg : State) (kt : Steps p.tables e below (T253.setTop (mkF m 34 #[vR a1, vI (0 : Int32), vI nn, vI (1 : Int32), vI (3 : Int32), vJ (φ x3), .second] [])) tg) => R254 tg kt
  clear R254
  have ln1 : 1 < (x0 :: x1 :: x2 :: x2 :: rr).length := by simp
  have R256 := fun (tg : State) (kt : Steps p.tables e below (T253.setTop (mkF m 43 #[vR a1, vI (0 : Int32), vI nn, vI (1 : Int32), vI (3 : Int32), vJ (φ x3), .second] [(.int (1 : Int32)), (.ref a1), (.long (φ x3))])) tg) => R255 tg (by
   show Steps _ _ _ (T253.setTop (mkF m 34 #[vR a1, vI (0 : Int32), vI nn, vI (1 : Int32), vI (3 : Int32), vJ (φ x3), .second] [])) _
   refine XS.iloadN X253.here hx rfl (hb hby d15_34) rfl ?_
   refine XS.iloadN X253.here hx rfl (hb hby d15_35) rfl ?_
   show Steps _ _ _ (T253.setTop (mkF m 36 #[vR a1, vI (0 : Int32), vI nn, vI (1 : Int32), vI (3 : Int32), vJ (φ x3), .second] [(.int (0 : Int32)), (.int (1 : Int32))])) _
   refine XS.icmpNo X253.here hx rfl (hb hby d15_36) rfl (flt (by decide : ¬ ((1 : Int32) < (0 : Int32)))).1 ?_
   refine XS.lload X253.here hx rfl (hb hby d15_39) rfl ?_
   refine XS.aloadN X253.here hx rfl (hb hby d15_41) rfl rfl ?_
   refine XS.iloadN X253.here hx rfl (hb hby d15_42) rfl ?_
   exact kt)
  clear R255
  obtain ⟨cl257, Ar257, hin257, hat257⟩ := VV_253.at (j := (1 : Int32)) (k := 1) (by decide) rfl ln1
  have R258 := fun (tg : State) (kt : Steps p.tables e below (T253.setTop (mkF m 45 #[vR a1, vI (0 : Int32), vI nn, vI (1 : Int32), vI (3 : Int32), vJ (φ x3), .second] [(.int (lcmpW (φ x3) (φ x1)))])) tg) => R256 tg (by
   show Steps _ _ _ (T253.setTop (mkF m 43 #[vR a1, vI (0 : Int32), vI nn, vI (1 : Int32), vI (3 : Int32), vJ (φ x3), .second] [(.int (1 : Int32)), (.ref a1), (.long (φ x3))])) _
   refine X253.laload hx (j := (1 : Int32)) (v := (.long (φ x1))) (by rw [e253]; exact Ar257.1) (State.isArrayOf_alike hZ.alike Ar257.2.1) Ar257.2.2 hin257 hat257 (g := (mkF m 43 #[vR a1, vI (0 : Int32), vI nn, vI (1 : Int32), vI (3 : Int32), vJ (φ x3), .second] [(.int (1 : Int32)), (.ref a1), (.long (φ x3))])) rfl rfl (hb hby d15_43) _ ?_
   show Steps _ _ _ (T253.setTop (mkF m 44 #[vR a1, vI (0 : Int32), vI nn, vI (1 : Int32), vI (3 : Int32), vJ (φ x3), .second] [(.long (φ x1)), (.long (φ x3))])) _
   refine XS.lcmp X253.here hx rfl (hb hby d15_44) rfl ?_
   exact kt)
  clear R256
  by_cases c1 : x3 < x1
  ·have R265 := fun (tg : State) (kt : Steps p.tables e below (T253.setTop (mkF m 52 #[vR a1, vI (0 : Int32), vI nn, vI (1 : Int32), vI (3 : Int32), vJ (φ x3), .second] [(.int ((1 : Int32) + (1 : Int32))), (.ref a1)])) tg) => R258 tg (by
    show Steps _ _ _ (T253.setTop (mkF m 45 #[vR a1, vI (0 : Int32), vI nn, vI (1 : Int32), vI (3 : Int32), vJ (φ x3), .second] [(.int (lcmpW (φ x3) (φ x1)))])) _
    refine XS.ifNo X253.here hx rfl (hb hby d15_45) rfl ((if0 _ _).trans (tlt ((own_cl H y3 y1).mpr c1 : (lcmpW (φ x3) (φ x1)) < (0 : Int32))).2.1) ?_
    refine XS.aloadN X253.here hx rfl (hb hby d15_48) rfl rfl ?_
    refine XS.iloadN X253.here hx rfl (hb hby d15_49) rfl ?_
    refine XS.iconst X253.here hx rfl (hb hby d15_50) ?_
    show Steps _ _ _ (T253.setTop (mkF m 51 #[vR a1, vI (0 : Int32), vI nn, vI (1 : Int32), vI (3 : Int32), vJ (φ x3), .second] [(.int (1 : Int32)), (.int (1 : Int32)), (.ref a1)])) _
    refine XS.iadd X253.here hx rfl (hb hby d15_51) rfl ?_
    exact kt)
   clear R258
   have R266 := fun (tg : State) (kt : Steps p.tables e below (T253.setTop (mkF m 52 #[vR a1, vI (0 : Int32), vI nn, vI (1 : Int32), vI (3 : Int32), vJ (φ x3), .second] [(.int (2 : Int32)), (.ref a1)])) tg) => R265 tg kt
   clear R265
   have lm1 : 1 < (x0 :: x1 :: x2 :: x2 :: rr).length := by simp
   have R267 := fun (tg : State) (kt : Steps p.tables e below (T253.setTop (mkF m 54 #[vR a1, vI (0 : Int32), vI nn, vI (1 : Int32), vI (3 : Int32), vJ (φ x3), .second] [(.int (1 : Int32)), (.ref a1), (.int (2 : Int32)), (.ref a1)])) tg) => R266 tg (by
    show Steps _ _ _ (T253.setTop (mkF m 52 #[vR a1, vI (0 : Int32), vI nn, vI (1 : Int32), vI (3 : Int32), vJ (φ x3), .second] [(.int (2 : Int32)), (.ref a1)])) _
    refine XS.aloadN X253.here hx rfl (hb hby d15_52) rfl rfl ?_
    refine XS.iloadN X253.here hx rfl (hb hby d15_53) rfl ?_
    exact kt)
   clear R266
   obtain ⟨cl268, Ar268, hin268, hat268⟩ := VV_253.at (j := (1 : Int32)) (k := 1) (by decide) rfl lm1
   have R269 := fun (tg : State) (kt : Steps p.tables e below (T253.setTop (mkF m 55 #[vR a1, vI (0 : Int32), vI nn, vI (1 : Int32), vI (3 : Int32), vJ (φ x3), .second] [(.long (φ x1)), (.int (2 : Int32)), (.ref a1)])) tg) => R267 tg (by
    show Steps _ _ _ (T253.setTop (mkF m 54 #[vR a1, vI (0 : Int32), vI nn, vI (1 : Int32), vI (3 : Int32), vJ (φ x3), .second] [(.int (1 : Int32)), (.ref a1), (.int (2 : Int32)), (.ref a1)])) _
    refine X253.laload hx (j := (1 : Int32)) (v := (.long (φ x1))) (by rw [e253]; exact Ar268.1) (State.isArrayOf_alike hZ.alike Ar268.2.1) Ar268.2.2 hin268 hat268 (g := (mkF m 54 #[vR a1, vI (0 : Int32), vI nn, vI (1 : Int32), vI (3 : Int32), vJ (φ x3), .second] [(.int (1 : Int32)), (.ref a1), (.int (2 : Int32)), (.ref a1)])) rfl rfl (hb hby d15_54) _ ?_
    exact kt)
   clear R267
   obtain ⟨cl270, Ar270, hin270⟩ := VV_253.room (j := (2 : Int32)) (k := 2) (by decide) rfl (by decide)
   obtain ⟨T271, h271, X271, e271, W271, st271⟩ := stJ X253 hx hZ e253 Ar270 (j := (2 : Int32)) hin270 (g := (mkF m 55 #[vR a1, vI (0 : Int32), vI nn, vI (1 : Int32), vI (3 : Int32), vJ (φ x3), .second] [(.long (φ x1)), (.int (2 : Int32)), (.ref a1)])) rfl rfl (hb hby d15_55)
   have N271 := Fr.snoc X271 N253 ga
   rw [show ((2 : Int32) : Int32).toNatClampNeg = 2 from rfl] at W271
   have VV_271 : VG Z h271 a1 .long 1024 (fun r => .long (φ r)) 0 (x0 :: x1 :: x1 :: x2 :: rr) := VV_253.set (r := x1) W271 (by simp) rfl
   have Zs271 : n0 ≤ h271.size := Nat.le_trans Zs253 (Keep.of_wr W271).1
   have Kw271 : Keep h0 h271 [a1] := Keep.wr Kw253 W271 (Or.inl (List.mem_of_getElem? (i := 0) rfl))
   have R272 := fun (tg : State) (kt : Steps p.tables e below (T271.setTop (mkF m 34 #[vR a1, vI (0 : Int32), vI nn, vI ((1 : Int32) + (-1 : Int32)), vI (3 : Int32), vJ (φ x3), .second] [])) tg) => R269 tg (by
    refine st271 _ ?_
    show Steps _ _ _ (T271.setTop (mkF m 56 #[vR a1, vI (0 : Int32), vI nn, vI (1 : Int32), vI (3 : Int32), vJ (φ x3), .second] [])) _
    refine XS.goto X271.here hx rfl (pc0 := 56) (pc' := 31) rfl (hb hby d15_56) (by decide) (by decide) ?_
    show Steps _ _ _ (T271.setTop (mkF m 31 #[vR a1, vI (0 : Int32), vI nn, vI (1 : Int32), vI (3 : Int32), vJ (φ x3), .second] [])) _
    refine XS.iinc X271.here hx rfl (hb hby d15_31) rfl (l' := #[vR a1, vI (0 : Int32), vI nn, vI ((1 : Int32) + (-1 : Int32)), vI (3 : Int32), vJ (φ x3), .second]) rfl ?_
    exact kt)
   clear R269 st271
   have R273 := fun (tg : State) (kt : Steps p.tables e below (T271.setTop (mkF m 34 #[vR a1, vI (0 : Int32), vI nn, vI (0 : Int32), vI (3 : Int32), vJ (φ x3), .second] [])) tg) => R272 tg kt
   clear R272
   have ln0 : 0 < (x0 :: x1 :: x1 :: x2 :: rr).length := by simp
   have R274 := fun (tg : State) (kt : Steps p.tables e below (T271.setTop (mkF m 43 #[vR a1, vI (0 : Int32), vI nn, vI (0 : Int32), vI (3 : Int32), vJ (φ x3), .second] [(.int (0 : Int32)), (.ref a1), (.long (φ x3))])) tg) => R273 tg (by
    show Steps _ _ _ (T271.setTop (mkF m 34 #[vR a1, vI (0 : Int32), vI nn, vI (0 : Int32), vI (3 : Int32), vJ (φ x3), .second] [])) _
    refine XS.iloadN X271.here hx rfl (hb hby d15_34) rfl ?_
    refine XS.iloadN X271.here hx rfl (hb hby d15_35) rfl ?_
    show Steps _ _ _ (T271.setTop (mkF m 36 #[vR a1, vI (0 : Int32), vI nn, vI (0 : Int32), vI (3 : Int32), vJ (φ x3), .second] [(.int (0 : Int32)), (.int (0 : Int32))])) _
    refine XS.icmpNo X271.here hx rfl (hb hby d15_36) rfl (flt (by decide : ¬ ((0 : Int32) < (0 : Int32)))).1 ?_
    refine XS.lload X271.here hx rfl (hb hby d15_39) rfl ?_
    refine XS.aloadN X271.here hx rfl (hb hby d15_41) rfl rfl ?_
    refine XS.iloadN X271.here hx rfl (hb hby d15_42) rfl ?_
    exact kt)
   clear R273
   obtain ⟨cl275, Ar275, hin275, hat275⟩ := VV_271.at (j := (0 : Int32)) (k := 0) (by decide) rfl ln0
   have R276 := fun (tg : State) (kt : Steps p.tables e below (T271.setTop (mkF m 45 #[vR a1, vI (0 : Int32), vI nn, vI (0 : Int32), vI (3 : Int32), vJ (φ x3), .second] [(.int (lcmpW (φ x3) (φ x0)))])) tg) => R274 tg (by
    show Steps _ _ _ (T271.setTop (mkF m 43 #[vR a1, vI (0 : Int32), vI nn, vI (0 : Int32), vI (3 : Int32), vJ (φ x3), .second] [(.int (0 : Int32)), (.ref a1), (.long (φ x3))])) _
    refine X271.laload hx (j := (0 : Int32)) (v := (.long (φ x0))) (by rw [e271]; exact Ar275.1) (State.isArrayOf_alike hZ.alike Ar275.2.1) Ar275.2.2 hin275 hat275 (g := (mkF m 43 #[vR a1, vI (0 : Int32), vI nn, vI (0 : Int32), vI (3 : Int32), vJ (φ x3), .second] [(.int (0 : Int32)), (.ref a1), (.long (φ x3))])) rfl rfl (hb hby d15_43) _ ?_
    show Steps _ _ _ (T271.setTop (mkF m 44 #[vR a1, vI (0 : Int32), vI nn, vI (0 : Int32), vI (3 : Int32), vJ (φ x3), .second] [(.long (φ x0)), (.long (φ x3))])) _
    refine XS.lcmp X271.here hx rfl (hb hby d15_44) rfl ?_
    exact kt)
   clear R274
   by_cases c0 : x3 < x0
   ·have R283 := fun (tg : State) (kt : Steps p.tables e below (T271.setTop (mkF m 52 #[vR a1, vI (0 : Int32), vI nn, vI (0 : Int32), vI (3 : Int32), vJ (φ x3), .second] [(.int ((0 : Int32) + (1 : Int32))), (.ref a1)])) tg) => R276 tg (by
     show Steps _ _ _ (T271.setTop (mkF m 45 #[vR a1, vI (0 : Int32), vI nn, vI (0 : Int32), vI (3 : Int32), vJ (φ x3), .second] [(.int (lcmpW (φ x3) (φ x0)))])) _
     refine XS.ifNo X271.here hx rfl (hb hby d15_45) rfl ((if0 _ _).trans (tlt ((own_cl H y3 y0).mpr c0 : (lcmpW (φ x3) (φ x0)) < (0 : Int32))).2.1) ?_
     refine XS.aloadN X271.here hx rfl (hb hby d15_48) rfl rfl ?_
     refine XS.iloadN X271.here hx rfl (hb hby d15_49) rfl ?_
     refine XS.iconst X271.here hx rfl (hb hby d15_50) ?_
     show Steps _ _ _ (T271.setTop (mkF m 51 #[vR a1, vI (0 : Int32), vI nn, vI (0 : Int32), vI (3 : Int32), vJ (φ x3), .second] [(.int (1 : Int32)), (.int (0 : Int32)), (.ref a1)])) _
     refine XS.iadd X271.here hx rfl (hb hby d15_51) rfl ?_
     exact kt)
    clear R276
    have R284 := fun (tg : State) (kt : Steps p.tables e below (T271.setTop (mkF m 52 #[vR a1, vI (0 : Int32), vI nn, vI (0 : Int32), vI (3 : Int32), vJ (φ x3), .second] [(.int (1 : Int32)), (.ref a1)])) tg) => R283 tg kt
    clear R283
    have lm0 : 0 < (x0 :: x1 :: x1 :: x2 :: rr).length := by simp
    have R285 := fun (tg : State) (kt : Steps p.tables e below (T271.setTop (mkF m 54 #[vR a1, vI (0 : Int32), vI nn, vI (0 : Int32), vI (3 : Int32), vJ (φ x3), .second] [(.int (0 : Int32)), (.ref a1), (.int (1 : Int32)), (.ref a1)])) tg) => R284 tg (by
     show Steps _ _ _ (T271.setTop (mkF m 52 #[vR a1, vI (0 : Int32), vI nn, vI (0 : Int32), vI (3 : Int32), vJ (φ x3), .second] [(.int (1 : Int32)), (.ref a1)])) _
     refine XS.aloadN X271.here hx rfl (hb hby d15_52) rfl rfl ?_
     refine XS.iloadN X271.here hx rfl (hb hby d15_53) rfl ?_
     exact kt)
    clear R284
    obtain ⟨cl286, Ar286, hin286, hat286⟩ := VV_271.at (j := (0 : Int32)) (k := 0) (by decide) rfl lm0
    have R287 := fun (tg : State) (kt : Steps p.tables e below (T271.setTop (mkF m 55 #[vR a1, vI (0 : Int32), vI nn, vI (0 : Int32), vI (3 : Int32), vJ (φ x3), .second] [(.long (φ x0)), (.int (1 : Int32)), (.ref a1)])) tg) => R285 tg (by
     show Steps _ _ _ (T271.setTop (mkF m 54 #[vR a1, vI (0 : Int32), vI nn, vI (0 : Int32), vI (3 : Int32), vJ (φ x3), .second] [(.int (0 : Int32)), (.ref a1), (.int (1 : Int32)), (.ref a1)])) _
     refine X271.laload hx (j := (0 : Int32)) (v := (.long (φ x0))) (by rw [e271]; exact Ar286.1) (State.isArrayOf_alike hZ.alike Ar286.2.1) Ar286.2.2 hin286 hat286 (g := (mkF m 54 #[vR a1, vI (0 : Int32), vI nn, vI (0 : Int32), vI (3 : Int32), vJ (φ x3), .second] [(.int (0 : Int32)), (.ref a1), (.int (1 : Int32)), (.ref a1)])) rfl rfl (hb hby d15_54) _ ?_
     exact kt)
    clear R285
    obtain ⟨cl288, Ar288, hin288⟩ := VV_271.room (j := (1 : Int32)) (k := 1) (by decide) rfl (by decide)
    obtain ⟨T289, h289, X289, e289, W289, st289⟩ := stJ X271 hx hZ e271 Ar288 (j := (1 : Int32)) hin288 (g := (mkF m 55 #[vR a1, vI (0 : Int32), vI nn, vI (0 : Int32), vI (3 : Int32), vJ (φ x3), .second] [(.long (φ x0)), (.int (1 : Int32)), (.ref a1)])) rfl rfl (hb hby d15_55)
    have N289 := Fr.snoc X289 N271 ga
    rw [show ((1 : Int32) : Int32).toNatClampNeg = 1 from rfl] at W289
    have VV_289 : VG Z h289 a1 .long 1024 (fun r => .long (φ r)) 0 (x0 :: x0 :: x1 :: x2 :: rr) := VV_271.set (r := x0) W289 (by simp) rfl
    have Zs289 : n0 ≤ h289.size := Nat.le_trans Zs271 (Keep.of_wr W289).1
    have Kw289 : Keep h0 h289 [a1] := Keep.wr Kw271 W289 (Or.inl (List.mem_of_getElem? (i := 0) rfl))
    have R290 := fun (tg : State) (kt : Steps p.tables e below (T289.setTop (mkF m 34 #[vR a1, vI (0 : Int32), vI nn, vI ((0 : Int32) + (-1 : Int32)), vI (3 : Int32), vJ (φ x3), .second] [])) tg) => R287 tg (by
     refine st289 _ ?_
     show Steps _ _ _ (T289.setTop (mkF m 56 #[vR a1, vI (0 : Int32), vI nn, vI (0 : Int32), vI (3 : Int32), vJ (φ x3), .second] [])) _
     refine XS.goto X289.here hx rfl (pc0 := 56) (pc' := 31) rfl (hb hby d15_56) (by decide) (by decide) ?_
     show Steps _ _ _ (T289.setTop (mkF m 31 #[vR a1, vI (0 : Int32), vI nn, vI (0 : Int32), vI (3 : Int32), vJ (φ x3), .second] [])) _
     refine XS.iinc X289.here hx rfl (hb hby d15_31) rfl (l' := #[vR a1, vI (0 : Int32), vI nn, vI ((0 : Int32) + (-1 : Int32)), vI (3 : Int32), vJ (φ x3), .second]) rfl ?_
     exact kt)
    clear R287 st289
    have R291 := fun (tg : State) (kt : Steps p.tables e below (T289.setTop (mkF m 34 #[vR a1, vI (0 : Int32), vI nn, vI (-1 : Int32), vI (3 : Int32), vJ (φ x3), .second] [])) tg) => R290 tg kt
    clear R290
    have R292 := fun (tg : State) (kt : Steps p.tables e below (T289.setTop (mkF m 63 #[vR a1, vI (0 : Int32), vI nn, vI (-1 : Int32), vI (3 : Int32), vJ (φ x3), .second] [(.int ((-1 : Int32) + (1 : Int32))), (.ref a1)])) tg) => R291 tg (by
     show Steps _ _ _ (T289.setTop (mkF m 34 #[vR a1, vI (0 : Int32), vI nn, vI (-1 : Int32), vI (3 : Int32), vJ (φ x3), .second] [])) _
     refine XS.iloadN X289.here hx rfl (hb hby d15_34) rfl ?_
     refine XS.iloadN X289.here hx rfl (hb hby d15_35) rfl ?_
     show Steps _ _ _ (T289.setTop (mkF m 36 #[vR a1, vI (0 : Int32), vI nn, vI (-1 : Int32), vI (3 : Int32), vJ (φ x3), .second] [(.int (0 : Int32)), (.int (-1 : Int32))])) _
     refine XS.icmpYes X289.here hx rfl (pc0 := 36) (pc' := 59) rfl (hb hby d15_36) rfl (tlt (by decide : (-1 : Int32) < (0 : Int32))).1 (by decide) (by decide) ?_
     refine XS.aloadN X289.here hx rfl (hb hby d15_59) rfl rfl ?_
     refine XS.iloadN X289.here hx rfl (hb hby d15_60) rfl ?_
     refine XS.iconst X289.here hx rfl (hb hby d15_61) ?_
     show Steps _ _ _ (T289.setTop (mkF m 62 #[vR a1, vI (0 : Int32), vI nn, vI (-1 : Int32), vI (3 : Int32), vJ (φ x3), .second] [(.int (1 : Int32)), (.int (-1 : Int32)), (.ref a1)])) _
     refine XS.iadd X289.here hx rfl (hb hby d15_62) rfl ?_
     exact kt)
    clear R291
    have R293 := fun (tg : State) (kt : Steps p.tables e below (T289.setTop (mkF m 63 #[vR a1, vI (0 : Int32), vI nn, vI (-1 : Int32), vI (3 : Int32), vJ (φ x3), .second] [(.int (0 : Int32)), (.ref a1)])) tg) => R292 tg kt
    clear R292
    have R294 := fun (tg : State) (kt : Steps p.tables e below (T289.setTop (mkF m 65 #[vR a1, vI (0 : Int32), vI nn, vI (-1 : Int32), vI (3 : Int32), vJ (φ x3), .second] [(.long (φ x3)), (.int (0 : Int32)), (.ref a1)])) tg) => R293 tg (by
     show Steps _ _ _ (T289.setTop (mkF m 63 #[vR a1, vI (0 : Int32), vI nn, vI (-1 : Int32), vI (3 : Int32), vJ (φ x3), .second] [(.int (0 : Int32)), (.ref a1)])) _
     refine XS.lload X289.here hx rfl (hb hby d15_63) rfl ?_
     exact kt)
    clear R293
    obtain ⟨cl295, Ar295, hin295⟩ := VV_289.room (j := (0 : Int32)) (k := 0) (by decide) rfl (by decide)
    obtain ⟨T296, h296, X296, e296, W296, st296⟩ := stJ X289 hx hZ e289 Ar295 (j := (0 : Int32)) hin295 (g := (mkF m 65 #[vR a1, vI (0 : Int32), vI nn, vI (-1 : Int32), vI (3 : Int32), vJ (φ x3), .second] [(.long (φ x3)), (.int (0 : Int32)), (.ref a1)])) rfl rfl (hb hby d15_65)
    have N296 := Fr.snoc X296 N289 ga
    rw [show ((0 : Int32) : Int32).toNatClampNeg = 0 from rfl] at W296
    have VV_296 : VG Z h296 a1 .long 1024 (fun r => .long (φ r)) 0 (x3 :: x0 :: x1 :: x2 :: rr) := VV_289.set (r := x3) W296 (by simp) rfl
    have Zs296 : n0 ≤ h296.size := Nat.le_trans Zs289 (Keep.of_wr W296).1
    have Kw296 : Keep h0 h296 [a1] := Keep.wr Kw289 W296 (Or.inl (List.mem_of_getElem? (i := 0) rfl))
    have R297 := fun (tg : State) (kt : Steps p.tables e below (T296.setTop (mkF m 3 #[vR a1, vI (0 : Int32), vI nn, vI (-1 : Int32), vI (3 : Int32), vJ (φ x3), .second] [])) tg) => R294 tg (by
     refine st296 _ ?_
     show Steps _ _ _ (T296.setTop (mkF m 66 #[vR a1, vI (0 : Int32), vI nn, vI (-1 : Int32), vI (3 : Int32), vJ (φ x3), .second] [])) _
     refine XS.goto X296.here hx rfl (pc0 := 66) (pc' := 3) rfl (hb hby d15_66) (by decide) (by decide) ?_
     exact kt)
    clear R294 st296
    have VVz : VG Z h296 a1 .long 1024 (fun r => .long (φ r)) 0 (own_in3 (x0 :: x1 :: x2 :: x3 :: rr)) := by have q := VV_296; rw [show own_in3 (x0 :: x1 :: x2 :: x3 :: rr) = (x3 :: x0 :: x1 :: x2 :: rr) from by rw [own_in3, if_pos c2, if_pos c1, if_pos c0]]; exact q
    exact ⟨_, _, _, _, _, _, X296, e296, N296, Kw296, VVz, Or.inr ⟨_, _, rfl, rfl, rfl⟩, R297⟩
   ·have R277 := fun (tg : State) (kt : Steps p.tables e below (T271.setTop (mkF m 63 #[vR a1, vI (0 : Int32), vI nn, vI (0 : Int32), vI (3 : Int32), vJ (φ x3), .second] [(.int ((0 : Int32) + (1 : Int32))), (.ref a1)])) tg) => R276 tg (by
     show Steps _ _ _ (T271.setTop (mkF m 45 #[vR a1, vI (0 : Int32), vI nn, vI (0 : Int32), vI (3 : Int32), vJ (φ x3), .second] [(.int (lcmpW (φ x3) (φ x0)))])) _
     refine XS.ifYes X271.here hx rfl (pc0 := 45) (pc' := 59) rfl (hb hby d15_45) rfl ((if0 _ _).trans (flt (fun q => c0 ((own_cl H y3 y0).mp q) : ¬ ((lcmpW (φ x3) (φ x0)) < (0 : Int32)))).2.1) (by decide) (by decide) ?_
     refine XS.aloadN X271.here hx rfl (hb hby d15_59) rfl rfl ?_
     refine XS.iloadN X271.here hx rfl (hb hby d15_60) rfl ?_
     refine XS.iconst X271.here hx rfl (hb hby d15_61) ?_
     show Steps _ _ _ (T271.setTop (mkF m 62 #[vR a1, vI (0 : Int32), vI nn, vI (0 : Int32), vI (3 : Int32), vJ (φ x3), .second] [(.int (1 : Int32)), (.int (0 : Int32)), (.ref a1)])) _
     refine XS.iadd X271.here hx rfl (hb hby d15_62) rfl ?_
     exact kt)
    clear R276
    have R278 := fun (tg : State) (kt : Steps p.tables e below (T271.setTop (mkF m 63 #[vR a1, vI (0 : Int32), vI nn, vI (0 : Int32), vI (3 : Int32), vJ (φ x3), .second] [(.int (1 : Int32)), (.ref a1)])) tg) => R277 tg kt
    clear R277
    have R279 := fun (tg : State) (kt : Steps p.tables e below (T271.setTop (mkF m 65 #[vR a1, vI (0 : Int32), vI nn, vI (0 : Int32), vI (3 : Int32), vJ (φ x3), .second] [(.long (φ x3)), (.int (1 : Int32)), (.ref a1)])) tg) => R278 tg (by
     show Steps _ _ _ (T271.setTop (mkF m 63 #[vR a1, vI (0 : Int32), vI nn, vI (0 : Int32), vI (3 : Int32), vJ (φ x3), .second] [(.int (1 : Int32)), (.ref a1)])) _
     refine XS.lload X271.here hx rfl (hb hby d15_63) rfl ?_
     exact kt)
    clear R278
    obtain ⟨cl280, Ar280, hin280⟩ := VV_271.room (j := (1 : Int32)) (k := 1) (by decide) rfl (by decide)
    obtain ⟨T281, h281, X281, e281, W281, st281⟩ := stJ X271 hx hZ e271 Ar280 (j := (1 : Int32)) hin280 (g := (mkF m 65 #[vR a1, vI (0 : Int32), vI nn, vI (0 : Int32), vI (3 : Int32), vJ (φ x3), .second] [(.long (φ x3)), (.int (1 : Int32)), (.ref a1)])) rfl rfl (hb hby d15_65)
    have N281 := Fr.snoc X281 N271 ga
    rw [show ((1 : Int32) : Int32).toNatClampNeg = 1 from rfl] at W281
    have VV_281 : VG Z h281 a1 .long 1024 (fun r => .long (φ r)) 0 (x0 :: x3 :: x1 :: x2 :: rr) := VV_271.set (r := x3) W281 (by simp) rfl
    have Zs281 : n0 ≤ h281.size := Nat.le_trans Zs271 (Keep.of_wr W281).1
    have Kw281 : Keep h0 h281 [a1] := Keep.wr Kw271 W281 (Or.inl (List.mem_of_getElem? (i := 0) rfl))
    have R282 := fun (tg : State) (kt : Steps p.tables e below (T281.setTop (mkF m 3 #[vR a1, vI (0 : Int32), vI nn, vI (0 : Int32), vI (3 : Int32), vJ (φ x3), .second] [])) tg) => R279 tg (by
     refine st281 _ ?_
     show Steps _ _ _ (T281.setTop (mkF m 66 #[vR a1, vI (0 : Int32), vI nn, vI (0 : Int32), vI (3 : Int32), vJ (φ x3), .second] [])) _
     refine XS.goto X281.here hx rfl (pc0 := 66) (pc' := 3) rfl (hb hby d15_66) (by decide) (by decide) ?_
     exact kt)
    clear R279 st281
    have VVz : VG Z h281 a1 .long 1024 (fun r => .long (φ r)) 0 (own_in3 (x0 :: x1 :: x2 :: x3 :: rr)) := by have q := VV_281; rw [show own_in3 (x0 :: x1 :: x2 :: x3 :: rr) = (x0 :: x3 :: x1 :: x2 :: rr) from by rw [own_in3, if_pos c2, if_pos c1, if_neg c0]]; exact q
    exact ⟨_, _, _, _, _, _, X281, e281, N281, Kw281, VVz, Or.inr ⟨_, _, rfl, rfl, rfl⟩, R282⟩
  ·have R259 := fun (tg : State) (kt : Steps p.tables e below (T253.setTop (mkF m 63 #[vR a1, vI (0 : Int32), vI nn, vI (1 : Int32), vI (3 : Int32), vJ (φ x3), .second] [(.int ((1 : Int32) + (1 : Int32))), (.ref a1)])) tg) => R258 tg (by
    show Steps _ _ _ (T253.setTop (mkF m 45 #[vR a1, vI (0 : Int32), vI nn, vI (1 : Int32), vI (3 : Int32), vJ (φ x3), .second] [(.int (lcmpW (φ x3) (φ x1)))])) _
    refine XS.ifYes X253.here hx rfl (pc0 := 45) (pc' := 59) rfl (hb hby d15_45) rfl ((if0 _ _).trans (flt (fun q => c1 ((own_cl H y3 y1).mp q) : ¬ ((lcmpW (φ x3) (φ x1)) < (0 : Int32)))).2.1) (by decide) (by decide) ?_
    refine XS.aloadN X253.here hx rfl (hb hby d15_59) rfl rfl ?_
    refine XS.iloadN X253.here hx rfl (hb hby d15_60) rfl ?_
    refine XS.iconst X253.here hx rfl (hb hby d15_61) ?_
    show Steps _ _ _ (T253.setTop (mkF m 62 #[vR a1, vI (0 : Int32), vI nn, vI (1 : Int32), vI (3 : Int32), vJ (φ x3), .second] [(.int (1 : Int32)), (.int (1 : Int32)), (.ref a1)])) _
    refine XS.iadd X253.here hx rfl (hb hby d15_62) rfl ?_
    exact kt)
   clear R258
   have R260 := fun (tg : State) (kt : Steps p.tables e below (T253.setTop (mkF m 63 #[vR a1, vI (0 : Int32), vI nn, vI (1 : Int32), vI (3 : Int32), vJ (φ x3), .second] [(.int (2 : Int32)), (.ref a1)])) tg) => R259 tg kt
   clear R259
   have R261 := fun (tg : State) (kt : Steps p.tables e below (T253.setTop (mkF m 65 #[vR a1, vI (0 : Int32), vI nn, vI (1 : Int32), vI (3 : Int32), vJ (φ x3), .second] [(.long (φ x3)), (.int (2 : Int32)), (.ref a1)])) tg) => R260 tg (by
    show Steps _ _ _ (T253.setTop (mkF m 63 #[vR a1, vI (0 : Int32), vI nn, vI (1 : Int32), vI (3 : Int32), vJ (φ x3), .second] [(.int (2 : Int32)), (.ref a1)])) _
    refine XS.lload X253.here hx rfl (hb hby d15_63) rfl ?_
    exact kt)
   clear R260
   obtain ⟨cl262, Ar262, hin262⟩ := VV_253.room (j := (2 : Int32)) (k := 2) (by decide) rfl (by decide)
   obtain ⟨T263, h263, X263, e263, W263, st263⟩ := stJ X253 hx hZ e253 Ar262 (j := (2 : Int32)) hin262 (g := (mkF m 65 #[vR a1, vI (0 : Int32), vI nn, vI (1 : Int32), vI (3 : Int32), vJ (φ x3), .second] [(.long (φ x3)), (.int (2 : Int32)), (.ref a1)])) rfl rfl (hb hby d15_65)
   have N263 := Fr.snoc X263 N253 ga
   rw [show ((2 : Int32) : Int32).toNatClampNeg = 2 from rfl] at W263
   have VV_263 : VG Z h263 a1 .long 1024 (fun r => .long (φ r)) 0 (x0 :: x1 :: x3 :: x2 :: rr) := VV_253.set (r := x3) W263 (by simp) rfl
   have Zs263 : n0 ≤ h263.size := Nat.le_trans Zs253 (Keep.of_wr W263).1
   have Kw263 : Keep h0 h263 [a1] := Keep.wr Kw253 W263 (Or.inl (List.mem_of_getElem? (i := 0) rfl))
   have R264 := fun (tg : State) (kt : Steps p.tables e below (T263.setTop (mkF m 3 #[vR a1, vI (0 : Int32), vI nn, vI (1 : Int32), vI (3 : Int32), vJ (φ x3), .second] [])) tg) => R261 tg (by
    refine st263 _ ?_
    show Steps _ _ _ (T263.setTop (mkF m 66 #[vR a1, vI (0 : Int32), vI nn, vI (1 : Int32), vI (3 : Int32), vJ (φ x3), .second] [])) _
    refine XS.goto X263.here hx rfl (pc0 := 66) (pc' := 3) rfl (hb hby d15_66) (by decide) (by decide) ?_
    exact kt)
   clear R261 st263
   have VVz : VG Z h263 a1 .long 1024 (fun r => .long (φ r)) 0 (own_in3 (x0 :: x1 :: x2 :: x3 :: rr)) := by have q := VV_263; rw [show own_in3 (x0 :: x1 :: x2 :: x3 :: rr) = (x0 :: x1 :: x3 :: x2 :: rr) from by rw [own_in3, if_pos c2, if_neg c1]]; exact q
   exact ⟨_, _, _, _, _, _, X263, e263, N263, Kw263, VVz, Or.inr ⟨_, _, rfl, rfl, rfl⟩, R264⟩
 ·have R242 := fun (tg : State) (kt : Steps p.tables e below (T0.setTop (mkF m 3 #[vR a1, vI (0 : Int32), vI nn, vI (3 : Int32), vI (3 : Int32), vJ (φ x3), .second] [])) tg) => R241 tg (by
   show Steps _ _ _ (T0.setTop (mkF m 28 #[vR a1, vI (0 : Int32), vI nn, vI (3 : Int32), vI (3 : Int32), vJ (φ x3), .second] [(.int (lcmpW (φ x3) (φ x2)))])) _
   refine XS.ifYes X0.here hx rfl (pc0 := 28) (pc' := 66) rfl (hb hby d15_28) rfl ((if0 _ _).trans (flt (fun q => c2 ((own_cl H y3 y2).mp q) : ¬ ((lcmpW (φ x3) (φ x2)) < (0 : Int32)))).2.1) (by decide) (by decide) ?_
   show Steps _ _ _ (T0.setTop (mkF m 66 #[vR a1, vI (0 : Int32), vI nn, vI (3 : Int32), vI (3 : Int32), vJ (φ x3), .second] [])) _
   refine XS.goto X0.here hx rfl (pc0 := 66) (pc' := 3) rfl (hb hby d15_66) (by decide) (by decide) ?_
   exact kt)
  clear R241
  have VVz : VG Z h0 a1 .long 1024 (fun r => .long (φ r)) 0 (own_in3 (x0 :: x1 :: x2 :: x3 :: rr)) := by have q := VV; rw [show own_in3 (x0 :: x1 :: x2 :: x3 :: rr) = (x0 :: x1 :: x2 :: x3 :: rr) from by rw [own_in3, if_neg c2]]; exact q
  exact ⟨_, _, _, _, _, _, X0, e0, N0, (Keep.refl h0 [a1]), VVz, Or.inr ⟨_, _, rfl, rfl, rfl⟩, R242⟩
theorem pn_4 : plainName "java/util/DualPivotQuicksort" = true := by first | (simp [plainName, overriddenIn]; done) | decide +kernel
theorem d15_0 : oD k2 0 (.iload_n 1) 1 := by decide +kernel
theorem d15_1 : oD k2 1 (.istore 4) 2 := by decide +kernel
theorem d15_69 : oD k2 69 .return_ 1 := by decide +kernel
theorem ef_rm_ins (m : MethodId) (a1 : Addr) (p2 : Int32) (p3 : Int32) : entryFrame m #[(.ref a1), (.int p2), (.int p3)] 7 = mkF m 0 #[vR a1, vI p2, vI p3, .unset, .unset, .unset, .unset] [] := by first | (simp [entryFrame, mkF, argsToLocals, Value.category]; done) | rfl
def Q_rm_ins (Z : State) (a1 : Addr) (p2 : Int32) (p3 : Int32) (φ : Nat → Int64) (ll : List Nat) (h0 : Heap) (n0 : Nat) (v : Option Value) (h : Heap) (L : List Loc) : Prop := v = none ∧ Fr n0 L ∧ Keep h0 h [a1] ∧ VG Z h a1 .long 1024 (fun r => .long (φ r)) 0 (own_sort ll)
set_option maxRecDepth 65536 in
set_option maxHeartbeats 40000000 in
theorem rm_ins (l : Launch) (Z : State) (a0 : Array Value) (hw : ∀ d ∈ tables_1, d.before a0 Z = true) (ws : List Jvm.Cond) (a1 : Addr) (p2 : Int32) (p3 : Int32) (φ : Nat → Int64) (ll : List Nat) (h0 : Heap) (n0 : Nat) (Z0 : n0 ≤ h0.size) (VV : VG Z h0 a1 .long 1024 (fun r => .long (φ r)) 0 ll) (ga : n0 ≤ a1) (H : own_mono φ) (ok : own_ok ll) (hp2 : p2 = (0 : Int32)) (hp3 : p3 = own_i ll.length) :
  MetFree l (⟨cQ, "insertionSort", "([JII)V"⟩ : MethodName) (head1 (Jvm.Cond.code (⟨cQ, "insertionSort", "([JII)V"⟩ : MethodName) jdk_2529_method_15_code 7 none :: ws) rM0) (fun a U => a = #[(.ref a1), (.int p2), (.int p3)] ∧ Z.Warmed39 U.vm ∧ U.heap = h0) (fun _ _ _ _ _ => True) (fun _ U oC U' => ∃ v L, oC = .returned v ∧ Q_rm_ins Z a1 p2 p3 φ ll h0 n0 v U'.heap L ∧ FrameEnd U oC U' L rM0.cells rM0.slots) := by
 refine MetFree.of_bodySF (plainFor_of_name pn_4) hisR ?_
 intro p e s m args below meth c s₁ Bd hml0 hP hK
 obtain ⟨rfl, hZ, hh⟩ := hP
 have hx := Bd.exec
 have hby := Bd.bytes
 have hml : c.maxLocals = 7 := hml0
 have hown : s.vm.findClass cQ = some m.cls := findClass_of_methodNamed Bd.named
 have hnm := (name_of_methodNamed Bd.named Bd.method).1
 have X0 : Stand p l e rM0 s m #[(.ref a1), (.int p2), (.int p3)] below meth c s₁ [] 0 0 := Stand.of_body Bd
 have e0 : s₁.heap = h0 := by rw [← hh, Bd.state]; rfl
 have N0 := Fr.nil n0
 have pre0 : Sq p e below (s₁.setTop (mkF m 0 #[vR a1, vI p2, vI p3, .unset, .unset, .unset, .unset] [])) (s₁.setTop (entryFrame m #[(.ref a1), (.int p2), (.int p3)] 7)) := fun t k => castTop (ef_rm_ins m a1 p2 p3) k
 have pre00 : Sq p e below (s₁.setTop (mkF m 0 #[vR a1, vI p2, vI p3, .unset, .unset, .unset, .unset] [])) (s₁.setTop (mkF m 0 #[vR a1, vI p2, vI p3, .unset, .unset, .unset, .unset] [])) := fun _ k => k
 rcases own_l4 ok with el | ⟨x0, el, y0⟩ | ⟨x0, x1, el, y0, y1⟩ | ⟨x0, x1, x2, el, y0, y1, y2⟩ | ⟨x0, x1, x2, x3, el, y0, y1, y2, y3⟩
 ·rw [el] at VV hp3
  have hp3 : p3 = (0 : Int32) := hp3
  have R298 := fun (tg : State) (kt : Steps p.tables e below (s₁.setTop (mkF m 0 #[vR a1, vI (0 : Int32), vI (0 : Int32), .unset, .unset, .unset, .unset] [])) tg) => pre00 tg (by rw [hp2, hp3]; exact kt)
  have R299 := fun (tg : State) (kt : Steps p.tables e below (s₁.setTop (mkF m 6 #[vR a1, vI (0 : Int32), vI (0 : Int32), .unset, vI ((0 : Int32) + (1 : Int32)), .unset, .unset] [])) tg) => R298 tg (by
   show Steps _ _ _ (s₁.setTop (mkF m 0 #[vR a1, vI (0 : Int32), vI (0 : Int32), .unset, .unset, .unset, .unset] [])) _
   refine XS.iloadN X0.here hx rfl (hb hby d15_0) rfl ?_
   show Steps _ _ _ (s₁.setTop (mkF m 1 #[vR a1, vI (0 : Int32), vI (0 : Int32), .unset, .unset, .unset, .unset] [(.int (0 : Int32))])) _
   refine XS.istore X0.here hx rfl (hb hby d15_1) rfl (l' := #[vR a1, vI (0 : Int32), vI (0 : Int32), .unset, vI (0 : Int32), .unset, .unset]) rfl ?_
   show Steps _ _ _ (s₁.setTop (mkF m 3 #[vR a1, vI (0 : Int32), vI (0 : Int32), .unset, vI (0 : Int32), .unset, .unset] [])) _
   refine XS.iinc X0.here hx rfl (hb hby d15_3) rfl (l' := #[vR a1, vI (0 : Int32), vI (0 : Int32), .unset, vI ((0 : Int32) + (1 : Int32)), .unset, .unset]) rfl ?_
   exact kt)
  clear R298
  have R300 := fun (tg : State) (kt : Steps p.tables e below (s₁.setTop (mkF m 6 #[vR a1, vI (0 : Int32), vI (0 : Int32), .unset, vI (1 : Int32), .unset, .unset] [])) tg) => R299 tg kt
  clear R299
  have R301 := fun (tg : State) (kt : Steps p.tables e below (s₁.setTop (mkF m 69 #[vR a1, vI (0 : Int32), vI (0 : Int32), .unset, vI (1 : Int32), .unset, .unset] [])) tg) => R300 tg (by
   show Steps _ _ _ (s₁.setTop (mkF m 6 #[vR a1, vI (0 : Int32), vI (0 : Int32), .unset, vI (1 : Int32), .unset, .unset] [])) _
   refine XS.iload X0.here hx rfl (hb hby d15_6) rfl ?_
   refine XS.iloadN X0.here hx rfl (hb hby d15_8) rfl ?_
   show Steps _ _ _ (s₁.setTop (mkF m 9 #[vR a1, vI (0 : Int32), vI (0 : Int32), .unset, vI (1 : Int32), .unset, .unset] [(.int (0 : Int32)), (.int (1 : Int32))])) _
   refine XS.icmpYes X0.here hx rfl (pc0 := 9) (pc' := 69) rfl (hb hby d15_9) rfl (flt (by decide : ¬ ((1 : Int32) < (0 : Int32)))).2.1 (by decide) (by decide) ?_
   exact kt)
  clear R300
  have VVz : VG Z h0 a1 .long 1024 (fun r => .long (φ r)) 0 (own_sort ll) := by
   rw [el]
   exact VV
  obtain ⟨fs, hr, hrun, hended, hW, hsame⟩ := X0.leave (v := none) (fun _ => rfl)
  refine ⟨_, _, pre0 _ (R301 _ ?_), hrun, hended, _, _, rfl, ?_, ⟨_, rfl⟩, hW, hsame.mono (by decide) (by decide)⟩
  ·exact X0.returnOut hx Bd.returns (hb hby d15_69) hr
  ·show Q_rm_ins Z a1 p2 p3 φ ll h0 n0 _ s₁.heap _
   rw [e0]
   exact ⟨rfl, N0, (Keep.refl h0 [a1]), VVz⟩
 ·rw [el] at VV hp3
  have hp3 : p3 = (1 : Int32) := hp3
  have R302 := fun (tg : State) (kt : Steps p.tables e below (s₁.setTop (mkF m 0 #[vR a1, vI (0 : Int32), vI (1 : Int32), .unset, .unset, .unset, .unset] [])) tg) => pre00 tg (by rw [hp2, hp3]; exact kt)
  have R303 := fun (tg : State) (kt : Steps p.tables e below (s₁.setTop (mkF m 6 #[vR a1, vI (0 : Int32), vI (1 : Int32), .unset, vI ((0 : Int32) + (1 : Int32)), .unset, .unset] [])) tg) => R302 tg (by
   show Steps _ _ _ (s₁.setTop (mkF m 0 #[vR a1, vI (0 : Int32), vI (1 : Int32), .unset, .unset, .unset, .unset] [])) _
   refine XS.iloadN X0.here hx rfl (hb hby d15_0) rfl ?_
   show Steps _ _ _ (s₁.setTop (mkF m 1 #[vR a1, vI (0 : Int32), vI (1 : Int32), .unset, .unset, .unset, .unset] [(.int (0 : Int32))])) _
   refine XS.istore X0.here hx rfl (hb hby d15_1) rfl (l' := #[vR a1, vI (0 : Int32), vI (1 : Int32), .unset, vI (0 : Int32), .unset, .unset]) rfl ?_
   show Steps _ _ _ (s₁.setTop (mkF m 3 #[vR a1, vI (0 : Int32), vI (1 : Int32), .unset, vI (0 : Int32), .unset, .unset] [])) _
   refine XS.iinc X0.here hx rfl (hb hby d15_3) rfl (l' := #[vR a1, vI (0 : Int32), vI (1 : Int32), .unset, vI ((0 : Int32) + (1 : Int32)), .unset, .unset]) rfl ?_
   exact kt)
  clear R302
  have R304 := fun (tg : State) (kt : Steps p.tables e below (s₁.setTop (mkF m 6 #[vR a1, vI (0 : Int32), vI (1 : Int32), .unset, vI (1 : Int32), .unset, .unset] [])) tg) => R303 tg kt
  clear R303
  have R305 := fun (tg : State) (kt : Steps p.tables e below (s₁.setTop (mkF m 69 #[vR a1, vI (0 : Int32), vI (1 : Int32), .unset, vI (1 : Int32), .unset, .unset] [])) tg) => R304 tg (by
   show Steps _ _ _ (s₁.setTop (mkF m 6 #[vR a1, vI (0 : Int32), vI (1 : Int32), .unset, vI (1 : Int32), .unset, .unset] [])) _
   refine XS.iload X0.here hx rfl (hb hby d15_6) rfl ?_
   refine XS.iloadN X0.here hx rfl (hb hby d15_8) rfl ?_
   show Steps _ _ _ (s₁.setTop (mkF m 9 #[vR a1, vI (0 : Int32), vI (1 : Int32), .unset, vI (1 : Int32), .unset, .unset] [(.int (1 : Int32)), (.int (1 : Int32))])) _
   refine XS.icmpYes X0.here hx rfl (pc0 := 9) (pc' := 69) rfl (hb hby d15_9) rfl (flt (by decide : ¬ ((1 : Int32) < (1 : Int32)))).2.1 (by decide) (by decide) ?_
   exact kt)
  clear R304
  have VVz : VG Z h0 a1 .long 1024 (fun r => .long (φ r)) 0 (own_sort ll) := by
   rw [el]
   exact VV
  obtain ⟨fs, hr, hrun, hended, hW, hsame⟩ := X0.leave (v := none) (fun _ => rfl)
  refine ⟨_, _, pre0 _ (R305 _ ?_), hrun, hended, _, _, rfl, ?_, ⟨_, rfl⟩, hW, hsame.mono (by decide) (by decide)⟩
  ·exact X0.returnOut hx Bd.returns (hb hby d15_69) hr
  ·show Q_rm_ins Z a1 p2 p3 φ ll h0 n0 _ s₁.heap _
   rw [e0]
   exact ⟨rfl, N0, (Keep.refl h0 [a1]), VVz⟩
 ·rw [el] at VV hp3
  have hp3 : p3 = (2 : Int32) := hp3
  have R306 := fun (tg : State) (kt : Steps p.tables e below (s₁.setTop (mkF m 0 #[vR a1, vI (0 : Int32), vI (2 : Int32), .unset, .unset, .unset, .unset] [])) tg) => pre00 tg (by rw [hp2, hp3]; exact kt)
  have R307 := fun (tg : State) (kt : Steps p.tables e below (s₁.setTop (mkF m 3 #[vR a1, vI (0 : Int32), vI (2 : Int32), .unset, vI (0 : Int32), .unset, .unset] [])) tg) => R306 tg (by
   show Steps _ _ _ (s₁.setTop (mkF m 0 #[vR a1, vI (0 : Int32), vI (2 : Int32), .unset, .unset, .unset, .unset] [])) _
   refine XS.iloadN X0.here hx rfl (hb hby d15_0) rfl ?_
   show Steps _ _ _ (s₁.setTop (mkF m 1 #[vR a1, vI (0 : Int32), vI (2 : Int32), .unset, .unset, .unset, .unset] [(.int (0 : Int32))])) _
   refine XS.istore X0.here hx rfl (hb hby d15_1) rfl (l' := #[vR a1, vI (0 : Int32), vI (2 : Int32), .unset, vI (0 : Int32), .unset, .unset]) rfl ?_
   exact kt)
  clear R306
  obtain ⟨T308, h308, L308, za308, zb308, zc308, X308, e308, N308, K308, V308, hz308, st308⟩ := lp_is1 φ a1 (2 : Int32) .unset .unset .unset x0 x1 [] X0 hx hZ hw hby hml hown e0 N0 Z0 VV ga H y0 y1 (by decide) (Or.inl ⟨rfl, rfl, rfl⟩)
  have Zs309 : n0 ≤ h308.size := Nat.le_trans Z0 K308.1
  have Kk309 : Keep h0 h308 [a1] := Keep.trans (Keep.refl h0 [a1]) K308 (own_trans1 (Or.inl (List.mem_of_getElem? (i := 0) rfl)))
  have R310 := fun (tg : State) (kt : Steps p.tables e below (T308.setTop (mkF m 6 #[vR a1, vI (0 : Int32), vI (2 : Int32), za308, vI ((1 : Int32) + (1 : Int32)), zb308, zc308] [])) tg) => R307 tg (by
   refine st308 _ ?_
   show Steps _ _ _ (T308.setTop (mkF m 3 #[vR a1, vI (0 : Int32), vI (2 : Int32), za308, vI (1 : Int32), zb308, zc308] [])) _
   refine XS.iinc X308.here hx rfl (hb hby d15_3) rfl (l' := #[vR a1, vI (0 : Int32), vI (2 : Int32), za308, vI ((1 : Int32) + (1 : Int32)), zb308, zc308]) rfl ?_
   exact kt)
  clear R307 st308
  have R311 := fun (tg : State) (kt : Steps p.tables e below (T308.setTop (mkF m 6 #[vR a1, vI (0 : Int32), vI (2 : Int32), za308, vI (2 : Int32), zb308, zc308] [])) tg) => R310 tg kt
  clear R310
  have R312 := fun (tg : State) (kt : Steps p.tables e below (T308.setTop (mkF m 69 #[vR a1, vI (0 : Int32), vI (2 : Int32), za308, vI (2 : Int32), zb308, zc308] [])) tg) => R311 tg (by
   show Steps _ _ _ (T308.setTop (mkF m 6 #[vR a1, vI (0 : Int32), vI (2 : Int32), za308, vI (2 : Int32), zb308, zc308] [])) _
   refine XS.iload X308.here hx rfl (hb hby d15_6) rfl ?_
   refine XS.iloadN X308.here hx rfl (hb hby d15_8) rfl ?_
   show Steps _ _ _ (T308.setTop (mkF m 9 #[vR a1, vI (0 : Int32), vI (2 : Int32), za308, vI (2 : Int32), zb308, zc308] [(.int (2 : Int32)), (.int (2 : Int32))])) _
   refine XS.icmpYes X308.here hx rfl (pc0 := 9) (pc' := 69) rfl (hb hby d15_9) rfl (flt (by decide : ¬ ((2 : Int32) < (2 : Int32)))).2.1 (by decide) (by decide) ?_
   exact kt)
  clear R311
  have VVz : VG Z h308 a1 .long 1024 (fun r => .long (φ r)) 0 (own_sort ll) := by
   rw [el, own_s2]
   exact V308
  obtain ⟨fs, hr, hrun, hended, hW, hsame⟩ := X308.leave (v := none) (fun _ => rfl)
  refine ⟨_, _, pre0 _ (R312 _ ?_), hrun, hended, _, _, rfl, ?_, ⟨_, rfl⟩, hW, hsame.mono (by decide) (by decide)⟩
  ·exact X308.returnOut hx Bd.returns (hb hby d15_69) hr
  ·show Q_rm_ins Z a1 p2 p3 φ ll h0 n0 _ T308.heap _
   rw [e308]
   exact ⟨rfl, N308, Kk309, VVz⟩
 ·rw [el] at VV hp3
  have hp3 : p3 = (3 : Int32) := hp3
  have R313 := fun (tg : State) (kt : Steps p.tables e below (s₁.setTop (mkF m 0 #[vR a1, vI (0 : Int32), vI (3 : Int32), .unset, .unset, .unset, .unset] [])) tg) => pre00 tg (by rw [hp2, hp3]; exact kt)
  have R314 := fun (tg : State) (kt : Steps p.tables e below (s₁.setTop (mkF m 3 #[vR a1, vI (0 : Int32), vI (3 : Int32), .unset, vI (0 : Int32), .unset, .unset] [])) tg) => R313 tg (by
   show Steps _ _ _ (s₁.setTop (mkF m 0 #[vR a1, vI (0 : Int32), vI (3 : Int32), .unset, .unset, .unset, .unset] [])) _
   refine XS.iloadN X0.here hx rfl (hb hby d15_0) rfl ?_
   show Steps _ _ _ (s₁.setTop (mkF m 1 #[vR a1, vI (0 : Int32), vI (3 : Int32), .unset, .unset, .unset, .unset] [(.int (0 : Int32))])) _
   refine XS.istore X0.here hx rfl (hb hby d15_1) rfl (l' := #[vR a1, vI (0 : Int32), vI (3 : Int32), .unset, vI (0 : Int32), .unset, .unset]) rfl ?_
   exact kt)
  clear R313
  obtain ⟨T315, h315, L315, za315, zb315, zc315, X315, e315, N315, K315, V315, hz315, st315⟩ := lp_is1 φ a1 (3 : Int32) .unset .unset .unset x0 x1 [x2] X0 hx hZ hw hby hml hown e0 N0 Z0 VV ga H y0 y1 (by decide) (Or.inl ⟨rfl, rfl, rfl⟩)
  have Zs316 : n0 ≤ h315.size := Nat.le_trans Z0 K315.1
  have Kk316 : Keep h0 h315 [a1] := Keep.trans (Keep.refl h0 [a1]) K315 (own_trans1 (Or.inl (List.mem_of_getElem? (i := 0) rfl)))
  obtain ⟨u3150, u3151, E315f, bu3150, bu3151⟩ := own_f1 [x2] y0 y1
  rw [E315f] at V315
  have R317 := fun (tg : State) (kt : Steps p.tables e below (T315.setTop (mkF m 3 #[vR a1, vI (0 : Int32), vI (3 : Int32), za315, vI (1 : Int32), zb315, zc315] [])) tg) => R314 tg (by
   refine st315 _ ?_
   exact kt)
  clear R314 st315
  obtain ⟨T318, h318, L318, za318, zb318, zc318, X318, e318, N318, K318, V318, hz318, st318⟩ := lp_is2 φ a1 (3 : Int32) za315 zb315 zc315 u3150 u3151 x2 [] X315 hx hZ hw hby hml hown e315 N315 Zs316 V315 ga H bu3150 bu3151 y2 (by decide) hz315
  have Zs319 : n0 ≤ h318.size := Nat.le_trans Zs316 K318.1
  have Kk319 : Keep h0 h318 [a1] := Keep.trans Kk316 K318 (own_trans1 (Or.inl (List.mem_of_getElem? (i := 0) rfl)))
  have R320 := fun (tg : State) (kt : Steps p.tables e below (T318.setTop (mkF m 6 #[vR a1, vI (0 : Int32), vI (3 : Int32), za318, vI ((2 : Int32) + (1 : Int32)), zb318, zc318] [])) tg) => R317 tg (by
   refine st318 _ ?_
   show Steps _ _ _ (T318.setTop (mkF m 3 #[vR a1, vI (0 : Int32), vI (3 : Int32), za318, vI (2 : Int32), zb318, zc318] [])) _
   refine XS.iinc X318.here hx rfl (hb hby d15_3) rfl (l' := #[vR a1, vI (0 : Int32), vI (3 : Int32), za318, vI ((2 : Int32) + (1 : Int32)), zb318, zc318]) rfl ?_
   exact kt)
  clear R317 st318
  have R321 := fun (tg : State) (kt : Steps p.tables e below (T318.setTop (mkF m 6 #[vR a1, vI (0 : Int32), vI (3 : Int32), za318, vI (3 : Int32), zb318, zc318] [])) tg) => R320 tg kt
  clear R320
  have R322 := fun (tg : State) (kt : Steps p.tables e below (T318.setTop (mkF m 69 #[vR a1, vI (0 : Int32), vI (3 : Int32), za318, vI (3 : Int32), zb318, zc318] [])) tg) => R321 tg (by
   show Steps _ _ _ (T318.setTop (mkF m 6 #[vR a1, vI (0 : Int32), vI (3 : Int32), za318, vI (3 : Int32), zb318, zc318] [])) _
   refine XS.iload X318.here hx rfl (hb hby d15_6) rfl ?_
   refine XS.iloadN X318.here hx rfl (hb hby d15_8) rfl ?_
   show Steps _ _ _ (T318.setTop (mkF m 9 #[vR a1, vI (0 : Int32), vI (3 : Int32), za318, vI (3 : Int32), zb318, zc318] [(.int (3 : Int32)), (.int (3 : Int32))])) _
   refine XS.icmpYes X318.here hx rfl (pc0 := 9) (pc' := 69) rfl (hb hby d15_9) rfl (flt (by decide : ¬ ((3 : Int32) < (3 : Int32)))).2.1 (by decide) (by decide) ?_
   exact kt)
  clear R321
  have VVz : VG Z h318 a1 .long 1024 (fun r => .long (φ r)) 0 (own_sort ll) := by
   rw [el, own_s3]; rw [E315f]
   exact V318
  obtain ⟨fs, hr, hrun, hended, hW, hsame⟩ := X318.leave (v := none) (fun _ => rfl)
  refine ⟨_, _, pre0 _ (R322 _ ?_), hrun, hended, _, _, rfl, ?_, ⟨_, rfl⟩, hW, hsame.mono (by decide) (by decide)⟩
  ·exact X318.returnOut hx Bd.returns (hb hby d15_69) hr
  ·show Q_rm_ins Z a1 p2 p3 φ ll h0 n0 _ T318.heap _
   rw [e318]
   exact ⟨rfl, N318, Kk319, VVz⟩
 ·rw [el] at VV hp3
  have hp3 : p3 = (4 : Int32) := hp3
  have R323 := fun (tg : State) (kt : Steps p.tables e below (s₁.setTop (mkF m 0 #[vR a1, vI (0 : Int32), vI (4 : Int32), .unset, .unset, .unset, .unset] [])) tg) => pre00 tg (by rw [hp2, hp3]; exact kt)
  have R324 := fun (tg : State) (kt : Steps p.tables e below (s₁.setTop (mkF m 3 #[vR a1, vI (0 : Int32), vI (4 : Int32), .unset, vI (0 : Int32), .unset, .unset] [])) tg) => R323 tg (by
   show Steps _ _ _ (s₁.setTop (mkF m 0 #[vR a1, vI (0 : Int32), vI (4 : Int32), .unset, .unset, .unset, .unset] [])) _
   refine XS.iloadN X0.here hx rfl (hb hby d15_0) rfl ?_
   show Steps _ _ _ (s₁.setTop (mkF m 1 #[vR a1, vI (0 : Int32), vI (4 : Int32), .unset, .unset, .unset, .unset] [(.int (0 : Int32))])) _
   refine XS.istore X0.here hx rfl (hb hby d15_1) rfl (l' := #[vR a1, vI (0 : Int32), vI (4 : Int32), .unset, vI (0 : Int32), .unset, .unset]) rfl ?_
   exact kt)
  clear R323
  obtain ⟨T325, h325, L325, za325, zb325, zc325, X325, e325, N325, K325, V325, hz325, st325⟩ := lp_is1 φ a1 (4 : Int32) .unset .unset .unset x0 x1 [x2, x3] X0 hx hZ hw hby hml hown e0 N0 Z0 VV ga H y0 y1 (by decide) (Or.inl ⟨rfl, rfl, rfl⟩)
  have Zs326 : n0 ≤ h325.size := Nat.le_trans Z0 K325.1
  have Kk326 : Keep h0 h325 [a1] := Keep.trans (Keep.refl h0 [a1]) K325 (own_trans1 (Or.inl (List.mem_of_getElem? (i := 0) rfl)))
  obtain ⟨u3250, u3251, E325f, bu3250, bu3251⟩ := own_f1 [x2, x3] y0 y1
  rw [E325f] at V325
  have R327 := fun (tg : State) (kt : Steps p.tables e below (T325.setTop (mkF m 3 #[vR a1, vI (0 : Int32), vI (4 : Int32), za325, vI (1 : Int32), zb325, zc325] [])) tg) => R324 tg (by
   refine st325 _ ?_
   exact kt)
  clear R324 st325
  obtain ⟨T328, h328, L328, za328, zb328, zc328, X328, e328, N328, K328, V328, hz328, st328⟩ := lp_is2 φ a1 (4 : Int32) za325 zb325 zc325 u3250 u3251 x2 [x3] X325 hx hZ hw hby hml hown e325 N325 Zs326 V325 ga H bu3250 bu3251 y2 (by decide) hz325
  have Zs329 : n0 ≤ h328.size := Nat.le_trans Zs326 K328.1
  have Kk329 : Keep h0 h328 [a1] := Keep.trans Kk326 K328 (own_trans1 (Or.inl (List.mem_of_getElem? (i := 0) rfl)))
  obtain ⟨u3280, u3281, u3282, E328f, bu3280, bu3281, bu3282⟩ := own_f2 [x3] bu3250 bu3251 y2
  rw [E328f] at V328
  have R330 := fun (tg : State) (kt : Steps p.tables e below (T328.setTop (mkF m 3 #[vR a1, vI (0 : Int32), vI (4 : Int32), za328, vI (2 : Int32), zb328, zc328] [])) tg) => R327 tg (by
   refine st328 _ ?_
   exact kt)
  clear R327 st328
  obtain ⟨T331, h331, L331, za331, zb331, zc331, X331, e331, N331, K331, V331, hz331, st331⟩ := lp_is3 φ a1 (4 : Int32) za328 zb328 zc328 u3280 u3281 u3282 x3 [] X328 hx hZ hw hby hml hown e328 N328 Zs329 V328 ga H bu3280 bu3281 bu3282 y3 (by decide) hz328
  have Zs332 : n0 ≤ h331.size := Nat.le_trans Zs329 K331.1
  have Kk332 : Keep h0 h331 [a1] := Keep.trans Kk329 K331 (own_trans1 (Or.inl (List.mem_of_getElem? (i := 0) rfl)))
  have R333 := fun (tg : State) (kt : Steps p.tables e below (T331.setTop (mkF m 6 #[vR a1, vI (0 : Int32), vI (4 : Int32), za331, vI ((3 : Int32) + (1 : Int32)), zb331, zc331] [])) tg) => R330 tg (by
   refine st331 _ ?_
   show Steps _ _ _ (T331.setTop (mkF m 3 #[vR a1, vI (0 : Int32), vI (4 : Int32), za331, vI (3 : Int32), zb331, zc331] [])) _
   refine XS.iinc X331.here hx rfl (hb hby d15_3) rfl (l' := #[vR a1, vI (0 : Int32), vI (4 : Int32), za331, vI ((3 : Int32) + (1 : Int32)), zb331, zc331]) rfl ?_
   exact kt)
  clear R330 st331
  have R334 := fun (tg : State) (kt : Steps p.tables e below (T331.setTop (mkF m 6 #[vR a1, vI (0 : Int32), vI (4 : Int32), za331, vI (4 : Int32), zb331, zc331] [])) tg) => R333 tg kt
  clear R333
  have R335 := fun (tg : State) (kt : Steps p.tables e below (T331.setTop (mkF m 69 #[vR a1, vI (0 : Int32), vI (4 : Int32), za331, vI (4 : Int32), zb331, zc331] [])) tg) => R334 tg (by
   show Steps _ _ _ (T331.setTop (mkF m 6 #[vR a1, vI (0 : Int32), vI (4 : Int32), za331, vI (4 : Int32), zb331, zc331] [])) _
   refine XS.iload X331.here hx rfl (hb hby d15_6) rfl ?_
   refine XS.iloadN X331.here hx rfl (hb hby d15_8) rfl ?_
   show Steps _ _ _ (T331.setTop (mkF m 9 #[vR a1, vI (0 : Int32), vI (4 : Int32), za331, vI (4 : Int32), zb331, zc331] [(.int (4 : Int32)), (.int (4 : Int32))])) _
   refine XS.icmpYes X331.here hx rfl (pc0 := 9) (pc' := 69) rfl (hb hby d15_9) rfl (flt (by decide : ¬ ((4 : Int32) < (4 : Int32)))).2.1 (by decide) (by decide) ?_
   exact kt)
  clear R334
  have VVz : VG Z h331 a1 .long 1024 (fun r => .long (φ r)) 0 (own_sort ll) := by
   rw [el, own_sort]; rw [E325f]; rw [E328f]
   exact V331
  obtain ⟨fs, hr, hrun, hended, hW, hsame⟩ := X331.leave (v := none) (fun _ => rfl)
  refine ⟨_, _, pre0 _ (R335 _ ?_), hrun, hended, _, _, rfl, ?_, ⟨_, rfl⟩, hW, hsame.mono (by decide) (by decide)⟩
  ·exact X331.returnOut hx Bd.returns (hb hby d15_69) hr
  ·show Q_rm_ins Z a1 p2 p3 φ ll h0 n0 _ T331.heap _
   rw [e331]
   exact ⟨rfl, N331, Kk332, VVz⟩
theorem d14_0 : oD k1 0 (.iload 4) 2 := by decide +kernel
theorem d14_2 : oD k1 2 (.iconst 1) 1 := by decide +kernel
theorem d14_3 : oD k1 3 .isub 1 := by decide +kernel
theorem d14_4 : oD k1 4 (.istore 5) 2 := by decide +kernel
theorem d14_6 : oD k1 6 (.iload 4) 2 := by decide +kernel
theorem d14_8 : oD k1 8 (.iload_n 3) 1 := by decide +kernel
theorem d14_9 : oD k1 9 .isub 1 := by decide +kernel
theorem d14_10 : oD k1 10 (.istore 6) 2 := by decide +kernel
theorem d14_12 : oD k1 12 (.iload 6) 2 := by decide +kernel
theorem d14_14 : oD k1 14 (.bipush 65) 2 := by decide +kernel
theorem d14_16 : oD k1 16 (.iload_n 2) 1 := by decide +kernel
theorem d14_17 : oD k1 17 .iadd 1 := by decide +kernel
theorem d14_18 : oD k1 18 (.if_icmp .ge 28) 3 := by decide +kernel
theorem d14_21 : oD k1 21 (.iload_n 2) 1 := by decide +kernel
theorem d14_22 : oD k1 22 (.iconst 1) 1 := by decide +kernel
theorem d14_23 : oD k1 23 .iand 1 := by decide +kernel
theorem d14_24 : oD k1 24 (.ifCond .le 22) 3 := by decide +kernel
theorem d14_46 : oD k1 46 (.iload 6) 2 := by decide +kernel
theorem d14_48 : oD k1 48 (.bipush 44) 2 := by decide +kernel
theorem d14_50 : oD k1 50 (.if_icmp .ge 11) 3 := by decide +kernel
theorem d14_53 : oD k1 53 (.aload_n 1) 1 := by decide +kernel
theorem d14_54 : oD k1 54 (.iload_n 3) 1 := by decide +kernel
theorem d14_55 : oD k1 55 (.iload 4) 2 := by decide +kernel
theorem pd_4 : parseMethodDescriptor "([JII)V" = some ⟨[(.array .long), .int, .int], none⟩ := by decide +kernel
theorem d14_57 : oD k1 57 (.invokestatic 105) 3 := by decide +kernel
theorem d14_60 : oD k1 60 .return_ 1 := by decide +kernel
theorem ef_rm_dq4 (m : MethodId) (a1 : Addr) (p3 : Int32) (p4 : Int32) (p5 : Int32) : entryFrame m #[.null, (.ref a1), (.int p3), (.int p4), (.int p5)] 25 = mkF m 0 #[.val .null, vR a1, vI p3, vI p4, vI p5, .unset, .unset, .unset, .unset, .unset, .unset, .unset, .unset, .unset, .unset, .unset, .unset, .unset, .unset, .unset, .unset, .unset, .unset, .unset, .unset] [] := by first | (simp [entryFrame, mkF, argsToLocals, Value.category]; done) | rfl
def Q_rm_dq4 (Z : State) (a1 : Addr) (p3 : Int32) (p4 : Int32) (p5 : Int32) (φ : Nat → Int64) (ll : List Nat) (h0 : Heap) (n0 : Nat) (v : Option Value) (h : Heap) (L : List Loc) : Prop := v = none ∧ Fr n0 L ∧ Keep h0 h [a1] ∧ VG Z h a1 .long 1024 (fun r => .long (φ r)) 0 (own_sort ll)
set_option maxRecDepth 65536 in
set_option maxHeartbeats 40000000 in
theorem rm_dq4 (l : Launch) (Z : State) (a0 : Array Value) (hw : ∀ d ∈ tables_1, d.before a0 Z = true) (ws : List Jvm.Cond) (a1 : Addr) (p3 : Int32) (p4 : Int32) (p5 : Int32) (φ : Nat → Int64) (ll : List Nat) (h0 : Heap) (n0 : Nat) (Z0 : n0 ≤ h0.size) (VV : VG Z h0 a1 .long 1024 (fun r => .long (φ r)) 0 ll) (ga : n0 ≤ a1) (H : own_mono φ) (ok : own_ok ll) (hp3 : p3 = (0 : Int32)) (hp4 : p4 = (0 : Int32)) (hp5 : p5 = (own_i ll.length)) :
  MetFree l (⟨cQ, "sort", "(Ljava/util/DualPivotQuicksort$Sorter;[JIII)V"⟩ : MethodName) (head1 (Jvm.Cond.code (⟨cQ, "sort", "(Ljava/util/DualPivotQuicksort$Sorter;[JIII)V"⟩ : MethodName) jdk_2529_method_13_code 25 none :: ws) rM2) (fun a U => a = #[.null, (.ref a1), (.int p3), (.int p4), (.int p5)] ∧ Z.Warmed39 U.vm ∧ U.heap = h0) (fun _ _ _ _ _ => True) (fun _ U oC U' => ∃ v L, oC = .returned v ∧ Q_rm_dq4 Z a1 p3 p4 p5 φ ll h0 n0 v U'.heap L ∧ FrameEnd U oC U' L rM2.cells rM2.slots) := by
 refine MetFree.of_bodySF (plainFor_of_name pn_4) hisR ?_
 intro p e s m args below meth c s₁ Bd hml0 hP hK
 obtain ⟨rfl, hZ, hh⟩ := hP
 have hx := Bd.exec
 have hby := Bd.bytes
 have hml : c.maxLocals = 25 := hml0
 have hown : s.vm.findClass cQ = some m.cls := findClass_of_methodNamed Bd.named
 have hnm := (name_of_methodNamed Bd.named Bd.method).1
 have X0 : Stand p l e rM2 s m #[.null, (.ref a1), (.int p3), (.int p4), (.int p5)] below meth c s₁ [] 0 0 := Stand.of_body Bd
 have e0 : s₁.heap = h0 := by rw [← hh, Bd.state]; rfl
 have N0 := Fr.nil n0
 have pre0 : Sq p e below (s₁.setTop (mkF m 0 #[.val .null, vR a1, vI p3, vI p4, vI p5, .unset, .unset, .unset, .unset, .unset, .unset, .unset, .unset, .unset, .unset, .unset, .unset, .unset, .unset, .unset, .unset, .unset, .unset, .unset, .unset] [])) (s₁.setTop (entryFrame m #[.null, (.ref a1), (.int p3), (.int p4), (.int p5)] 25)) := fun t k => castTop (ef_rm_dq4 m a1 p3 p4 p5) k
 have pre00 : Sq p e below (s₁.setTop (mkF m 0 #[.val .null, vR a1, vI p3, vI p4, vI p5, .unset, .unset, .unset, .unset, .unset, .unset, .unset, .unset, .unset, .unset, .unset, .unset, .unset, .unset, .unset, .unset, .unset, .unset, .unset, .unset] [])) (s₁.setTop (mkF m 0 #[.val .null, vR a1, vI p3, vI p4, vI p5, .unset, .unset, .unset, .unset, .unset, .unset, .unset, .unset, .unset, .unset, .unset, .unset, .unset, .unset, .unset, .unset, .unset, .unset, .unset, .unset] [])) := fun _ k => k
 have R336 := fun (tg : State) (kt : Steps p.tables e below (s₁.setTop (mkF m 0 #[.val .null, vR a1, vI (0 : Int32), vI (0 : Int32), vI (own_i ll.length), .unset, .unset, .unset, .unset, .unset, .unset, .unset, .unset, .unset, .unset, .unset, .unset, .unset, .unset, .unset, .unset, .unset, .unset, .unset, .unset] [])) tg) => pre00 tg (by rw [hp3, hp4, hp5]; exact kt)
 have R337 := fun (tg : State) (kt : Steps p.tables e below (s₁.setTop (mkF m 12 #[.val .null, vR a1, vI (0 : Int32), vI (0 : Int32), vI (own_i ll.length), vI ((own_i ll.length) - (1 : Int32)), vI ((own_i ll.length) - (0 : Int32)), .unset, .unset, .unset, .unset, .unset, .unset, .unset, .unset, .unset, .unset, .unset, .unset, .unset, .unset, .unset, .unset, .unset, .unset] [])) tg) => R336 tg (by
  show Steps _ _ _ (s₁.setTop (mkF m 0 #[.val .null, vR a1, vI (0 : Int32), vI (0 : Int32), vI (own_i ll.length), .unset, .unset, .unset, .unset, .unset, .unset, .unset, .unset, .unset, .unset, .unset, .unset, .unset, .unset, .unset, .unset, .unset, .unset, .unset, .unset] [])) _
  refine XS.iload X0.here hx rfl (hb hby d14_0) rfl ?_
  refine XS.iconst X0.here hx rfl (hb hby d14_2) ?_
  show Steps _ _ _ (s₁.setTop (mkF m 3 #[.val .null, vR a1, vI (0 : Int32), vI (0 : Int32), vI (own_i ll.length), .unset, .unset, .unset, .unset, .unset, .unset, .unset, .unset, .unset, .unset, .unset, .unset, .unset, .unset, .unset, .unset, .unset, .unset, .unset, .unset] [(.int (1 : Int32)), (.int (own_i ll.length))])) _
  refine XS.isub X0.here hx rfl (hb hby d14_3) rfl ?_
  show Steps _ _ _ (s₁.setTop (mkF m 4 #[.val .null, vR a1, vI (0 : Int32), vI (0 : Int32), vI (own_i ll.length), .unset, .unset, .unset, .unset, .unset, .unset, .unset, .unset, .unset, .unset, .unset, .unset, .unset, .unset, .unset, .unset, .unset, .unset, .unset, .unset] [(.int ((own_i ll.length) - (1 : Int32)))])) _
  refine XS.istore X0.here hx rfl (hb hby d14_4) rfl (l' := #[.val .null, vR a1, vI (0 : Int32), vI (0 : Int32), vI (own_i ll.length), vI ((own_i ll.length) - (1 : Int32)), .unset, .unset, .unset, .unset, .unset, .unset, .unset, .unset, .unset, .unset, .unset, .unset, .unset, .unset, .unset, .unset, .unset, .unset, .unset]) rfl ?_
  refine XS.iload X0.here hx rfl (hb hby d14_6) rfl ?_
  refine XS.iloadN X0.here hx rfl (hb hby d14_8) rfl ?_
  show Steps _ _ _ (s₁.setTop (mkF m 9 #[.val .null, vR a1, vI (0 : Int32), vI (0 : Int32), vI (own_i ll.length), vI ((own_i ll.length) - (1 : Int32)), .unset, .unset, .unset, .unset, .unset, .unset, .unset, .unset, .unset, .unset, .unset, .unset, .unset, .unset, .unset, .unset, .unset, .unset, .unset] [(.int (0 : Int32)), (.int (own_i ll.length))])) _
  refine XS.isub X0.here hx rfl (hb hby d14_9) rfl ?_
  show Steps _ _ _ (s₁.setTop (mkF m 10 #[.val .null, vR a1, vI (0 : Int32), vI (0 : Int32), vI (own_i ll.length), vI ((own_i ll.length) - (1 : Int32)), .unset, .unset, .unset, .unset, .unset, .unset, .unset, .unset, .unset, .unset, .unset, .unset, .unset, .unset, .unset, .unset, .unset, .unset, .unset] [(.int ((own_i ll.length) - (0 : Int32)))])) _
  refine XS.istore X0.here hx rfl (hb hby d14_10) rfl (l' := #[.val .null, vR a1, vI (0 : Int32), vI (0 : Int32), vI (own_i ll.length), vI ((own_i ll.length) - (1 : Int32)), vI ((own_i ll.length) - (0 : Int32)), .unset, .unset, .unset, .unset, .unset, .unset, .unset, .unset, .unset, .unset, .unset, .unset, .unset, .unset, .unset, .unset, .unset, .unset]) rfl ?_
  exact kt)
 clear R336
 have R338 := fun (tg : State) (kt : Steps p.tables e below (s₁.setTop (mkF m 12 #[.val .null, vR a1, vI (0 : Int32), vI (0 : Int32), vI (own_i ll.length), vI ((own_i ll.length) - (1 : Int32)), vI (own_i ll.length), .unset, .unset, .unset, .unset, .unset, .unset, .unset, .unset, .unset, .unset, .unset, .unset, .unset, .unset, .unset, .unset, .unset, .unset] [])) tg) => R337 tg (by rw [own_sb0]; exact kt)
 clear R337
 have R339 := fun (tg : State) (kt : Steps p.tables e below (s₁.setTop (mkF m 57 #[.val .null, vR a1, vI (0 : Int32), vI (0 : Int32), vI (own_i ll.length), vI ((own_i ll.length) - (1 : Int32)), vI (own_i ll.length), .unset, .unset, .unset, .unset, .unset, .unset, .unset, .unset, .unset, .unset, .unset, .unset, .unset, .unset, .unset, .unset, .unset, .unset] [(.int (own_i ll.length)), (.int (0 : Int32)), (.ref a1)])) tg) => R338 tg (by
  show Steps _ _ _ (s₁.setTop (mkF m 12 #[.val .null, vR a1, vI (0 : Int32), vI (0 : Int32), vI (own_i ll.length), vI ((own_i ll.length) - (1 : Int32)), vI (own_i ll.length), .unset, .unset, .unset, .unset, .unset, .unset, .unset, .unset, .unset, .unset, .unset, .unset, .unset, .unset, .unset, .unset, .unset, .unset] [])) _
  refine XS.iload X0.here hx rfl (hb hby d14_12) rfl ?_
  refine XS.bipush X0.here hx rfl (hb hby d14_14) ?_
  refine XS.iloadN X0.here hx rfl (hb hby d14_16) rfl ?_
  show Steps _ _ _ (s₁.setTop (mkF m 17 #[.val .null, vR a1, vI (0 : Int32), vI (0 : Int32), vI (own_i ll.length), vI ((own_i ll.length) - (1 : Int32)), vI (own_i ll.length), .unset, .unset, .unset, .unset, .unset, .unset, .unset, .unset, .unset, .unset, .unset, .unset, .unset, .unset, .unset, .unset, .unset, .unset] [(.int (0 : Int32)), (.int (65 : Int32)), (.int (own_i ll.length))])) _
  refine XS.iadd X0.here hx rfl (hb hby d14_17) rfl ?_
  show Steps _ _ _ (s₁.setTop (mkF m 18 #[.val .null, vR a1, vI (0 : Int32), vI (0 : Int32), vI (own_i ll.length), vI ((own_i ll.length) - (1 : Int32)), vI (own_i ll.length), .unset, .unset, .unset, .unset, .unset, .unset, .unset, .unset, .unset, .unset, .unset, .unset, .unset, .unset, .unset, .unset, .unset, .unset] [(.int ((65 : Int32) + (0 : Int32))), (.int (own_i ll.length))])) _
  refine XS.icmpNo X0.here hx rfl (hb hby d14_18) rfl (tlt (own_lt65 ok.1 : (own_i ll.length) < ((65 : Int32) + (0 : Int32)))).2.1 ?_
  refine XS.iloadN X0.here hx rfl (hb hby d14_21) rfl ?_
  refine XS.iconst X0.here hx rfl (hb hby d14_22) ?_
  show Steps _ _ _ (s₁.setTop (mkF m 23 #[.val .null, vR a1, vI (0 : Int32), vI (0 : Int32), vI (own_i ll.length), vI ((own_i ll.length) - (1 : Int32)), vI (own_i ll.length), .unset, .unset, .unset, .unset, .unset, .unset, .unset, .unset, .unset, .unset, .unset, .unset, .unset, .unset, .unset, .unset, .unset, .unset] [(.int (1 : Int32)), (.int (0 : Int32))])) _
  refine XS.iand X0.here hx rfl (hb hby d14_23) rfl ?_
  show Steps _ _ _ (s₁.setTop (mkF m 24 #[.val .null, vR a1, vI (0 : Int32), vI (0 : Int32), vI (own_i ll.length), vI ((own_i ll.length) - (1 : Int32)), vI (own_i ll.length), .unset, .unset, .unset, .unset, .unset, .unset, .unset, .unset, .unset, .unset, .unset, .unset, .unset, .unset, .unset, .unset, .unset, .unset] [(.int ((0 : Int32) &&& (1 : Int32)))])) _
  refine XS.ifYes X0.here hx rfl (pc0 := 24) (pc' := 46) rfl (hb hby d14_24) rfl ((if0 _ _).trans (flt (by decide : ¬ ((0 : Int32) < ((0 : Int32) &&& (1 : Int32))))).2.2.2) (by decide) (by decide) ?_
  refine XS.iload X0.here hx rfl (hb hby d14_46) rfl ?_
  refine XS.bipush X0.here hx rfl (hb hby d14_48) ?_
  show Steps _ _ _ (s₁.setTop (mkF m 50 #[.val .null, vR a1, vI (0 : Int32), vI (0 : Int32), vI (own_i ll.length), vI ((own_i ll.length) - (1 : Int32)), vI (own_i ll.length), .unset, .unset, .unset, .unset, .unset, .unset, .unset, .unset, .unset, .unset, .unset, .unset, .unset, .unset, .unset, .unset, .unset, .unset] [(.int (44 : Int32)), (.int (own_i ll.length))])) _
  refine XS.icmpNo X0.here hx rfl (hb hby d14_50) rfl (tlt (own_lt44 ok.1 : (own_i ll.length) < (44 : Int32))).2.1 ?_
  refine XS.aloadN X0.here hx rfl (hb hby d14_53) rfl rfl ?_
  refine XS.iloadN X0.here hx rfl (hb hby d14_54) rfl ?_
  refine XS.iload X0.here hx rfl (hb hby d14_55) rfl ?_
  exact kt)
 clear R338
 obtain ⟨_, _, ⟨T340, L340, k340, n340⟩, -, X340, ⟨Lc340, hQ340, l340, y340, z340⟩, st340⟩ := Jvm.LawKit.callS X0 hx (y := (⟨cQ, "insertionSort", "([JII)V"⟩ : MethodName)) hown (mvT hZ (oW hw 78 rfl)) (mvT hZ (oW hw 79 rfl)) (mvT hZ (oW hw 73 rfl)) (mvT hZ (oW hw 80 rfl)) (by decide) (backOf (W := 0) (rm_ins l Z a0 hw [] a1 (0 : Int32) (own_i ll.length) φ ll h0 n0 Z0 VV ga H ok rfl rfl) hZ (oW hw 80 rfl) (oW hw 73 rfl) (by decide) (by decide)) (g := (mkF m 57 #[.val .null, vR a1, vI (0 : Int32), vI (0 : Int32), vI (own_i ll.length), vI ((own_i ll.length) - (1 : Int32)), vI (own_i ll.length), .unset, .unset, .unset, .unset, .unset, .unset, .unset, .unset, .unset, .unset, .unset, .unset, .unset, .unset, .unset, .unset, .unset, .unset] [(.int (own_i ll.length)), (.int (0 : Int32)), (.ref a1)])) rfl (by rw [hml]; rfl) (argsL := [(.ref a1), (.int (0 : Int32)), (.int (own_i ll.length))]) (rest := []) (lenOf pd_4 rfl) rfl (by show 2 * 0 + _ ≤ _; exact Nat.le_of_eq rfl) (hb hby d14_57) (fun _ _ => ⟨rfl, e0, (by decide : 0 + 0 ≤ _), (by decide : 0 + 0 ≤ _)⟩)
 dsimp only [Pt.U, Pt.locs, Pt.cells, Pt.slots] at X340 l340 y340 z340 st340 hQ340
 rw [l340, y340, z340] at X340
 obtain ⟨rfl, N340q, K340, V340⟩ := hQ340
 have N340 := Fr.app N0 N340q
 have R341 := fun (tg : State) (kt : Steps p.tables e below (T340.setTop (mkF m 60 #[.val .null, vR a1, vI (0 : Int32), vI (0 : Int32), vI (own_i ll.length), vI ((own_i ll.length) - (1 : Int32)), vI (own_i ll.length), .unset, .unset, .unset, .unset, .unset, .unset, .unset, .unset, .unset, .unset, .unset, .unset, .unset, .unset, .unset, .unset, .unset, .unset] [])) tg) => R339 tg (by
  refine st340 _ ?_
  exact kt)
 clear R339 st340
 obtain ⟨fs, hr, hrun, hended, hW, hsame⟩ := X340.leave (v := none) (fun _ => rfl)
 refine ⟨_, _, pre0 _ (R341 _ ?_), hrun, hended, _, _, rfl, ?_, ⟨_, rfl⟩, hW, hsame.mono (by decide) (by decide)⟩
 ·exact X340.returnOut hx Bd.returns (hb hby d14_60) hr
 ·show Q_rm_dq4 Z a1 p3 p4 p5 φ ll h0 n0 _ T340.heap _
  exact ⟨rfl, N340, K340, V340⟩
theorem d13_0 : oD k0 0 (.iload_n 3) 1 := by decide +kernel
theorem d13_1 : oD k0 1 (.iload_n 2) 1 := by decide +kernel
theorem d13_2 : oD k0 2 .isub 1 := by decide +kernel
theorem d13_3 : oD k0 3 (.istore 4) 2 := by decide +kernel
theorem d13_5 : oD k0 5 (.iload_n 1) 1 := by decide +kernel
theorem d13_6 : oD k0 6 (.iconst 1) 1 := by decide +kernel
theorem d13_7 : oD k0 7 (.if_icmp .le 61) 3 := by decide +kernel
theorem d13_68 : oD k0 68 .aconst_null 1 := by decide +kernel
theorem d13_69 : oD k0 69 (.aload_n 0) 1 := by decide +kernel
theorem d13_70 : oD k0 70 (.iconst 0) 1 := by decide +kernel
theorem d13_71 : oD k0 71 (.iload_n 2) 1 := by decide +kernel
theorem d13_72 : oD k0 72 (.iload_n 3) 1 := by decide +kernel
theorem pd_5 : parseMethodDescriptor "(Ljava/util/DualPivotQuicksort$Sorter;[JIII)V" = some ⟨[(.object "java/util/DualPivotQuicksort$Sorter"), (.array .long), .int, .int, .int], none⟩ := by decide +kernel
theorem d13_73 : oD k0 73 (.invokestatic 99) 3 := by decide +kernel
theorem d13_76 : oD k0 76 .return_ 1 := by decide +kernel
theorem ef_rm_dq3 (m : MethodId) (a1 : Addr) (p2 : Int32) (p3 : Int32) (p4 : Int32) : entryFrame m #[(.ref a1), (.int p2), (.int p3), (.int p4)] 7 = mkF m 0 #[vR a1, vI p2, vI p3, vI p4, .unset, .unset, .unset] [] := by first | (simp [entryFrame, mkF, argsToLocals, Value.category]; done) | rfl
def Q_rm_dq3 (Z : State) (a1 : Addr) (p2 : Int32) (p3 : Int32) (p4 : Int32) (φ : Nat → Int64) (ll : List Nat) (h0 : Heap) (n0 : Nat) (v : Option Value) (h : Heap) (L : List Loc) : Prop := v = none ∧ Fr n0 L ∧ Keep h0 h [a1] ∧ VG Z h a1 .long 1024 (fun r => .long (φ r)) 0 (own_sort ll)
set_option maxRecDepth 65536 in
set_option maxHeartbeats 40000000 in
theorem rm_dq3 (l : Launch) (Z : State) (a0 : Array Value) (hw : ∀ d ∈ tables_1, d.before a0 Z = true) (ws : List Jvm.Cond) (a1 : Addr) (p2 : Int32) (p3 : Int32) (p4 : Int32) (φ : Nat → Int64) (ll : List Nat) (h0 : Heap) (n0 : Nat) (Z0 : n0 ≤ h0.size) (VV : VG Z h0 a1 .long 1024 (fun r => .long (φ r)) 0 ll) (ga : n0 ≤ a1) (H : own_mono φ) (ok : own_ok ll) (hp2 : p2 = (0 : Int32)) (hp3 : p3 = (0 : Int32)) (hp4 : p4 = (own_i ll.length)) :
  MetFree l (⟨cQ, "sort", "([JIII)V"⟩ : MethodName) (head1 (Jvm.Cond.code (⟨cQ, "sort", "([JIII)V"⟩ : MethodName) jdk_2529_method_12_code 7 none :: ws) rM9) (fun a U => a = #[(.ref a1), (.int p2), (.int p3), (.int p4)] ∧ Z.Warmed39 U.vm ∧ U.heap = h0) (fun _ _ _ _ _ => True) (fun _ U oC U' => ∃ v L, oC = .returned v ∧ Q_rm_dq3 Z a1 p2 p3 p4 φ ll h0 n0 v U'.heap L ∧ FrameEnd U oC U' L rM9.cells rM9.slots) := by
 refine MetFree.of_bodySF (plainFor_of_name pn_4) hisR ?_
 intro p e s m args below meth c s₁ Bd hml0 hP hK
 obtain ⟨rfl, hZ, hh⟩ := hP
 have hx := Bd.exec
 have hby := Bd.bytes
 have hml : c.maxLocals = 7 := hml0
 have hown : s.vm.findClass cQ = some m.cls := findClass_of_methodNamed Bd.named
 have hnm := (name_of_methodNamed Bd.named Bd.method).1
 have X0 : Stand p l e rM9 s m #[(.ref a1), (.int p2), (.int p3), (.int p4)] below meth c s₁ [] 0 0 := Stand.of_body Bd
 have e0 : s₁.heap = h0 := by rw [← hh, Bd.state]; rfl
 have N0 := Fr.nil n0
 have pre0 : Sq p e below (s₁.setTop (mkF m 0 #[vR a1, vI p2, vI p3, vI p4, .unset, .unset, .unset] [])) (s₁.setTop (entryFrame m #[(.ref a1), (.int p2), (.int p3), (.int p4)] 7)) := fun t k => castTop (ef_rm_dq3 m a1 p2 p3 p4) k
 have pre00 : Sq p e below (s₁.setTop (mkF m 0 #[vR a1, vI p2, vI p3, vI p4, .unset, .unset, .unset] [])) (s₁.setTop (mkF m 0 #[vR a1, vI p2, vI p3, vI p4, .unset, .unset, .unset] [])) := fun _ k => k
 have R342 := fun (tg : State) (kt : Steps p.tables e below (s₁.setTop (mkF m 0 #[vR a1, vI (0 : Int32), vI (0 : Int32), vI (own_i ll.length), .unset, .unset, .unset] [])) tg) => pre00 tg (by rw [hp2, hp3, hp4]; exact kt)
 have R343 := fun (tg : State) (kt : Steps p.tables e below (s₁.setTop (mkF m 73 #[vR a1, vI (0 : Int32), vI (0 : Int32), vI (own_i ll.length), vI ((own_i ll.length) - (0 : Int32)), .unset, .unset] [(.int (own_i ll.length)), (.int (0 : Int32)), (.int (0 : Int32)), (.ref a1), .null])) tg) => R342 tg (by
  show Steps _ _ _ (s₁.setTop (mkF m 0 #[vR a1, vI (0 : Int32), vI (0 : Int32), vI (own_i ll.length), .unset, .unset, .unset] [])) _
  refine XS.iloadN X0.here hx rfl (hb hby d13_0) rfl ?_
  refine XS.iloadN X0.here hx rfl (hb hby d13_1) rfl ?_
  show Steps _ _ _ (s₁.setTop (mkF m 2 #[vR a1, vI (0 : Int32), vI (0 : Int32), vI (own_i ll.length), .unset, .unset, .unset] [(.int (0 : Int32)), (.int (own_i ll.length))])) _
  refine XS.isub X0.here hx rfl (hb hby d13_2) rfl ?_
  show Steps _ _ _ (s₁.setTop (mkF m 3 #[vR a1, vI (0 : Int32), vI (0 : Int32), vI (own_i ll.length), .unset, .unset, .unset] [(.int ((own_i ll.length) - (0 : Int32)))])) _
  refine XS.istore X0.here hx rfl (hb hby d13_3) rfl (l' := #[vR a1, vI (0 : Int32), vI (0 : Int32), vI (own_i ll.length), vI ((own_i ll.length) - (0 : Int32)), .unset, .unset]) rfl ?_
  refine XS.iloadN X0.here hx rfl (hb hby d13_5) rfl ?_
  refine XS.iconst X0.here hx rfl (hb hby d13_6) ?_
  show Steps _ _ _ (s₁.setTop (mkF m 7 #[vR a1, vI (0 : Int32), vI (0 : Int32), vI (own_i ll.length), vI ((own_i ll.length) - (0 : Int32)), .unset, .unset] [(.int (1 : Int32)), (.int (0 : Int32))])) _
  refine XS.icmpYes X0.here hx rfl (pc0 := 7) (pc' := 68) rfl (hb hby d13_7) rfl (flt (by decide : ¬ ((1 : Int32) < (0 : Int32)))).2.2.2 (by decide) (by decide) ?_
  show Steps _ _ _ (s₁.setTop (mkF m 68 #[vR a1, vI (0 : Int32), vI (0 : Int32), vI (own_i ll.length), vI ((own_i ll.length) - (0 : Int32)), .unset, .unset] [])) _
  refine XS.aconstNull X0.here hx rfl (hb hby d13_68) ?_
  refine XS.aloadN X0.here hx rfl (hb hby d13_69) rfl rfl ?_
  refine XS.iconst X0.here hx rfl (hb hby d13_70) ?_
  refine XS.iloadN X0.here hx rfl (hb hby d13_71) rfl ?_
  show Steps _ _ _ (s₁.setTop (mkF m 72 #[vR a1, vI (0 : Int32), vI (0 : Int32), vI (own_i ll.length), vI ((own_i ll.length) - (0 : Int32)), .unset, .unset] [(.int (0 : Int32)), (.int (0 : Int32)), (.ref a1), .null])) _
  refine XS.iloadN X0.here hx rfl (hb hby d13_72) rfl ?_
  exact kt)
 clear R342
 obtain ⟨_, _, ⟨T344, L344, k344, n344⟩, -, X344, ⟨Lc344, hQ344, l344, y344, z344⟩, st344⟩ := Jvm.LawKit.callS X0 hx (y := (⟨cQ, "sort", "(Ljava/util/DualPivotQuicksort$Sorter;[JIII)V"⟩ : MethodName)) hown (mvT hZ (oW hw 75 rfl)) (mvT hZ (oW hw 76 rfl)) (mvT hZ (oW hw 73 rfl)) (mvT hZ (oW hw 77 rfl)) (by decide) (backOf (W := 0) (rm_dq4 l Z a0 hw [] a1 (0 : Int32) (0 : Int32) (own_i ll.length) φ ll h0 n0 Z0 VV ga H ok rfl rfl rfl) hZ (oW hw 77 rfl) (oW hw 73 rfl) (by decide) (by decide)) (g := (mkF m 73 #[vR a1, vI (0 : Int32), vI (0 : Int32), vI (own_i ll.length), vI ((own_i ll.length) - (0 : Int32)), .unset, .unset] [(.int (own_i ll.length)), (.int (0 : Int32)), (.int (0 : Int32)), (.ref a1), .null])) rfl (by rw [hml]; rfl) (argsL := [.null, (.ref a1), (.int (0 : Int32)), (.int (0 : Int32)), (.int (own_i ll.length))]) (rest := []) (lenOf pd_5 rfl) rfl (by show 2 * 0 + _ ≤ _; exact Nat.le_of_eq rfl) (hb hby d13_73) (fun _ _ => ⟨rfl, e0, (by decide : 0 + 0 ≤ _), (by decide : 0 + 0 ≤ _)⟩)
 dsimp only [Pt.U, Pt.locs, Pt.cells, Pt.slots] at X344 l344 y344 z344 st344 hQ344
 rw [l344, y344, z344] at X344
 obtain ⟨rfl, N344q, K344, V344⟩ := hQ344
 have N344 := Fr.app N0 N344q
 have R345 := fun (tg : State) (kt : Steps p.tables e below (T344.setTop (mkF m 76 #[vR a1, vI (0 : Int32), vI (0 : Int32), vI (own_i ll.length), vI ((own_i ll.length) - (0 : Int32)), .unset, .unset] [])) tg) => R343 tg (by
  refine st344 _ ?_
  exact kt)
 clear R343 st344
 obtain ⟨fs, hr, hrun, hended, hW, hsame⟩ := X344.leave (v := none) (fun _ => rfl)
 refine ⟨_, _, pre0 _ (R345 _ ?_), hrun, hended, _, _, rfl, ?_, ⟨_, rfl⟩, hW, hsame.mono (by decide) (by decide)⟩
 ·exact X344.returnOut hx Bd.returns (hb hby d13_76) hr
 ·show Q_rm_dq3 Z a1 p2 p3 p4 φ ll h0 n0 _ T344.heap _
  exact ⟨rfl, N344, K344, V344⟩
theorem d11_0 : oD k7 0 (.aload_n 0) 1 := by decide +kernel
theorem d11_1 : oD k7 1 .arraylength 1 := by decide +kernel
theorem d11_2 : oD k7 2 (.iload_n 1) 1 := by decide +kernel
theorem d11_3 : oD k7 3 (.iload_n 2) 1 := by decide +kernel
theorem pd_6 : parseMethodDescriptor "(III)V" = some ⟨[.int, .int, .int], none⟩ := by decide +kernel
theorem d11_4 : oD k7 4 (.invokestatic 13) 3 := by decide +kernel
theorem d11_7 : oD k7 7 (.aload_n 0) 1 := by decide +kernel
theorem d11_8 : oD k7 8 (.iconst 0) 1 := by decide +kernel
theorem d11_9 : oD k7 9 (.iload_n 1) 1 := by decide +kernel
theorem d11_10 : oD k7 10 (.iload_n 2) 1 := by decide +kernel
theorem pd_7 : parseMethodDescriptor "([JIII)V" = some ⟨[(.array .long), .int, .int, .int], none⟩ := by decide +kernel
theorem d11_11 : oD k7 11 (.invokestatic 19) 3 := by decide +kernel
theorem d11_14 : oD k7 14 .return_ 1 := by decide +kernel
theorem ef_rm_asr (m : MethodId) (a1 : Addr) (p2 : Int32) (p3 : Int32) : entryFrame m #[(.ref a1), (.int p2), (.int p3)] 3 = mkF m 0 #[vR a1, vI p2, vI p3] [] := by first | (simp [entryFrame, mkF, argsToLocals, Value.category]; done) | rfl
def Q_rm_asr (Z : State) (a1 : Addr) (p2 : Int32) (p3 : Int32) (φ : Nat → Int64) (ll : List Nat) (h0 : Heap) (n0 : Nat) (v : Option Value) (h : Heap) (L : List Loc) : Prop := v = none ∧ Fr n0 L ∧ Keep h0 h [a1] ∧ VG Z h a1 .long 1024 (fun r => .long (φ r)) 0 (own_sort ll)
set_option maxRecDepth 65536 in
set_option maxHeartbeats 40000000 in
theorem rm_asr (l : Launch) (Z : State) (a0 : Array Value) (hw : ∀ d ∈ tables_1, d.before a0 Z = true) (ws : List Jvm.Cond) (a1 : Addr) (p2 : Int32) (p3 : Int32) (φ : Nat → Int64) (ll : List Nat) (h0 : Heap) (n0 : Nat) (Z0 : n0 ≤ h0.size) (VV : VG Z h0 a1 .long 1024 (fun r => .long (φ r)) 0 ll) (ga : n0 ≤ a1) (H : own_mono φ) (ok : own_ok ll) (hp2 : p2 = (0 : Int32)) (hp3 : p3 = (own_i ll.length)) :
  MetFree l (⟨"java/util/Arrays", "sort", "([JII)V"⟩ : MethodName) (head1 (Jvm.Cond.code (⟨"java/util/Arrays", "sort", "([JII)V"⟩ : MethodName) jdk_65_method_5_code 3 none :: ws) rM12) (fun a U => a = #[(.ref a1), (.int p2), (.int p3)] ∧ Z.Warmed39 U.vm ∧ U.heap = h0) (fun _ _ _ _ _ => True) (fun _ U oC U' => ∃ v L, oC = .returned v ∧ Q_rm_asr Z a1 p2 p3 φ ll h0 n0 v U'.heap L ∧ FrameEnd U oC U' L rM12.cells rM12.slots) := by
 refine MetFree.of_bodySF (plainFor_of_name pn_3) hisR ?_
 intro p e s m args below meth c s₁ Bd hml0 hP hK
 obtain ⟨rfl, hZ, hh⟩ := hP
 have hx := Bd.exec
 have hby := Bd.bytes
 have hml : c.maxLocals = 3 := hml0
 have hown : s.vm.findClass "java/util/Arrays" = some m.cls := findClass_of_methodNamed Bd.named
 have hnm := (name_of_methodNamed Bd.named Bd.method).1
 have X0 : Stand p l e rM12 s m #[(.ref a1), (.int p2), (.int p3)] below meth c s₁ [] 0 0 := Stand.of_body Bd
 have e0 : s₁.heap = h0 := by rw [← hh, Bd.state]; rfl
 have N0 := Fr.nil n0
 have pre0 : Sq p e below (s₁.setTop (mkF m 0 #[vR a1, vI p2, vI p3] [])) (s₁.setTop (entryFrame m #[(.ref a1), (.int p2), (.int p3)] 3)) := fun t k => castTop (ef_rm_asr m a1 p2 p3) k
 have pre00 : Sq p e below (s₁.setTop (mkF m 0 #[vR a1, vI p2, vI p3] [])) (s₁.setTop (mkF m 0 #[vR a1, vI p2, vI p3] [])) := fun _ k => k
 have R346 := fun (tg : State) (kt : Steps p.tables e below (s₁.setTop (mkF m 0 #[vR a1, vI (0 : Int32), vI (own_i ll.length)] [])) tg) => pre00 tg (by rw [hp2, hp3]; exact kt)
 obtain ⟨i0, ik⟩ := own_ic (own_4i ok.1)
 have R347 := fun (tg : State) (kt : Steps p.tables e below (s₁.setTop (mkF m 1 #[vR a1, vI (0 : Int32), vI (own_i ll.length)] [(.ref a1)])) tg) => R346 tg (by
  show Steps _ _ _ (s₁.setTop (mkF m 0 #[vR a1, vI (0 : Int32), vI (own_i ll.length)] [])) _
  refine XS.aloadN X0.here hx rfl (hb hby d11_0) rfl rfl ?_
  exact kt)
 clear R346
 obtain ⟨cl348, Ar348, ln348⟩ := VV.len
 have R349 := fun (tg : State) (kt : Steps p.tables e below (s₁.setTop (mkF m 4 #[vR a1, vI (0 : Int32), vI (own_i ll.length)] [(.int (own_i ll.length)), (.int (0 : Int32)), (.int (own_i 1024))])) tg) => R347 tg (by
  show Steps _ _ _ (s₁.setTop (mkF m 1 #[vR a1, vI (0 : Int32), vI (own_i ll.length)] [(.ref a1)])) _
  refine X0.arraylength hx (by rw [e0]; exact Ar348.1) (State.isArrayOf_alike hZ.alike Ar348.2.1) (g := (mkF m 1 #[vR a1, vI (0 : Int32), vI (own_i ll.length)] [(.ref a1)])) rfl rfl (hb hby d11_1) _ ?_
  rw [ln348]
  show Steps _ _ _ (s₁.setTop (mkF m 2 #[vR a1, vI (0 : Int32), vI (own_i ll.length)] [(.int (own_i 1024))])) _
  refine XS.iloadN X0.here hx rfl (hb hby d11_2) rfl ?_
  refine XS.iloadN X0.here hx rfl (hb hby d11_3) rfl ?_
  exact kt)
 clear R347
 obtain ⟨_, _, ⟨T350, L350, k350, n350⟩, -, X350, ⟨Lc350, hQ350, l350, y350, z350⟩, st350⟩ := Jvm.LawKit.callS X0 hx (y := (⟨"java/util/Arrays", "rangeCheck", "(III)V"⟩ : MethodName)) hown (mvT hZ (oW hw 68 rfl)) (mvT hZ (oW hw 69 rfl)) (mvT hZ (oW hw 66 rfl)) (mvT hZ (oW hw 70 rfl)) (by decide) (backOf (W := 0) (rm_rck l Z a0 hw [] (own_i 1024) (0 : Int32) (own_i ll.length) h0 n0 Z0 i0 (by decide) (own_nl (Nat.le_trans ok.1 (by decide)) (by decide))) hZ (oW hw 70 rfl) (oW hw 66 rfl) (by decide) (by decide)) (g := (mkF m 4 #[vR a1, vI (0 : Int32), vI (own_i ll.length)] [(.int (own_i ll.length)), (.int (0 : Int32)), (.int (own_i 1024))])) rfl (by rw [hml]; rfl) (argsL := [(.int (own_i 1024)), (.int (0 : Int32)), (.int (own_i ll.length))]) (rest := []) (lenOf pd_6 rfl) rfl (by show 2 * 0 + _ ≤ _; exact Nat.le_of_eq rfl) (hb hby d11_4) (fun _ _ => ⟨rfl, e0, (by decide : 0 + 0 ≤ _), (by decide : 0 + 0 ≤ _)⟩)
 dsimp only [Pt.U, Pt.locs, Pt.cells, Pt.slots] at X350 l350 y350 z350 st350 hQ350
 rw [l350, y350, z350] at X350
 obtain ⟨rfl, N350q, hh350⟩ := hQ350
 have N350 := Fr.app N0 N350q
 have R351 := fun (tg : State) (kt : Steps p.tables e below (T350.setTop (mkF m 11 #[vR a1, vI (0 : Int32), vI (own_i ll.length)] [(.int (own_i ll.length)), (.int (0 : Int32)), (.int (0 : Int32)), (.ref a1)])) tg) => R349 tg (by
  refine st350 _ ?_
  refine XS.aloadN X350.here hx rfl (hb hby d11_7) rfl rfl ?_
  refine XS.iconst X350.here hx rfl (hb hby d11_8) ?_
  show Steps _ _ _ (T350.setTop (mkF m 9 #[vR a1, vI (0 : Int32), vI (own_i ll.length)] [(.int (0 : Int32)), (.ref a1)])) _
  refine XS.iloadN X350.here hx rfl (hb hby d11_9) rfl ?_
  refine XS.iloadN X350.here hx rfl (hb hby d11_10) rfl ?_
  exact kt)
 clear R349 st350
 obtain ⟨_, _, ⟨T352, L352, k352, n352⟩, -, X352, ⟨Lc352, hQ352, l352, y352, z352⟩, st352⟩ := Jvm.LawKit.callS X350 hx (y := (⟨cQ, "sort", "([JIII)V"⟩ : MethodName)) hown (mvT hZ (oW hw 71 rfl)) (mvT hZ (oW hw 72 rfl)) (mvT hZ (oW hw 73 rfl)) (mvT hZ (oW hw 74 rfl)) (by decide) (backOf (W := 0) (rm_dq3 l Z a0 hw [] a1 (0 : Int32) (0 : Int32) (own_i ll.length) φ ll h0 n0 Z0 VV ga H ok rfl rfl rfl) hZ (oW hw 74 rfl) (oW hw 73 rfl) (by decide) (by decide)) (g := (mkF m 11 #[vR a1, vI (0 : Int32), vI (own_i ll.length)] [(.int (own_i ll.length)), (.int (0 : Int32)), (.int (0 : Int32)), (.ref a1)])) rfl (by rw [hml]; rfl) (argsL := [(.ref a1), (.int (0 : Int32)), (.int (0 : Int32)), (.int (own_i ll.length))]) (rest := []) (lenOf pd_7 rfl) rfl (by show 2 * 0 + _ ≤ _; exact Nat.le_of_eq rfl) (hb hby d11_11) (fun _ _ => ⟨rfl, hh350, (by decide : 0 + 0 ≤ _), (by decide : 0 + 0 ≤ _)⟩)
 dsimp only [Pt.U, Pt.locs, Pt.cells, Pt.slots] at X352 l352 y352 z352 st352 hQ352
 rw [l352, y352, z352] at X352
 obtain ⟨rfl, N352q, K352, V352⟩ := hQ352
 have N352 := Fr.app N350 N352q
 have R353 := fun (tg : State) (kt : Steps p.tables e below (T352.setTop (mkF m 14 #[vR a1, vI (0 : Int32), vI (own_i ll.length)] [])) tg) => R351 tg (by
  refine st352 _ ?_
  exact kt)
 clear R351 st352
 obtain ⟨fs, hr, hrun, hended, hW, hsame⟩ := X352.leave (v := none) (fun _ => rfl)
 refine ⟨_, _, pre0 _ (R353 _ ?_), hrun, hended, _, _, rfl, ?_, ⟨_, rfl⟩, hW, hsame.mono (by decide) (by decide)⟩
 ·exact X352.returnOut hx Bd.returns (hb hby d11_14) hr
 ·show Q_rm_asr Z a1 p2 p3 φ ll h0 n0 _ T352.heap _
  exact ⟨rfl, N352, K352, V352⟩
theorem d10_0 : oD k20 0 (.aload_n 0) 1 := by decide +kernel
theorem d10_1 : oD k20 1 (.getfield 7) 3 := by decide +kernel
theorem d10_4 : oD k20 4 (.iconst 0) 1 := by decide +kernel
theorem d10_5 : oD k20 5 (.aload_n 0) 1 := by decide +kernel
theorem d10_6 : oD k20 6 (.getfield 13) 3 := by decide +kernel
theorem d10_9 : oD k20 9 (.invokestatic 23) 3 := by decide +kernel
theorem d10_12 : oD k20 12 .return_ 1 := by decide +kernel
theorem ef_rm_fso (m : MethodId) (a1 : Addr) : entryFrame m #[(.ref a1)] 1 = mkF m 0 #[vR a1] [] := by first | (simp [entryFrame, mkF, argsToLocals, Value.category]; done) | rfl
def Q_rm_fso (Z : State) (a1 : Addr) (φ : Nat → Int64) (t : Addr) (ll : List Nat) (h0 : Heap) (n0 : Nat) (v : Option Value) (h : Heap) (L : List Loc) : Prop := v = none ∧ Fr n0 L ∧ Keep h0 h [t] ∧ VG Z h t .long 1024 (fun r => .long (φ r)) 0 (own_sort ll)
set_option maxRecDepth 65536 in
set_option maxHeartbeats 40000000 in
theorem rm_fso (l : Launch) (Z : State) (a0 : Array Value) (hw : ∀ d ∈ tables_1, d.before a0 Z = true) (ws : List Jvm.Cond) (a1 : Addr) (φ : Nat → Int64) (t : Addr) (ll : List Nat) (h0 : Heap) (n0 : Nat) (Z0 : n0 ≤ h0.size) (E1 : Exa Z h0 a1 cF) (Fv : Fld Z h0 a1 cF "values" "[J" (.ref t)) (Fs : Fld Z h0 a1 cF "size" "I" (.int (own_i (ll).length))) (VV : VG Z h0 t .long 1024 (fun r => .long (φ r)) 0 ll) (gt : n0 ≤ t) (H : own_mono φ) (ok : own_ok ll) :
  MetFree l (⟨cF, "sort", "()V"⟩ : MethodName) (head1 (Jvm.Cond.code (⟨cF, "sort", "()V"⟩ : MethodName) prog_42_method_5_code 1 none :: ws) rM13) (fun a U => a = #[(.ref a1)] ∧ Z.Warmed39 U.vm ∧ U.heap = h0) (fun _ _ _ _ _ => True) (fun _ U oC U' => ∃ v L, oC = .returned v ∧ Q_rm_fso Z a1 φ t ll h0 n0 v U'.heap L ∧ FrameEnd U oC U' L rM13.cells rM13.slots) := by
 refine MetFree.of_bodySF (plainFor_of_name pn_0) hisR ?_
 intro p e s m args below meth c s₁ Bd hml0 hP hK
 obtain ⟨rfl, hZ, hh⟩ := hP
 have hx := Bd.exec
 have hby := Bd.bytes
 have hml : c.maxLocals = 1 := hml0
 have hown : s.vm.findClass cF = some m.cls := findClass_of_methodNamed Bd.named
 have hnm := (name_of_methodNamed Bd.named Bd.method).1
 have X0 : Stand p l e rM13 s m #[(.ref a1)] below meth c s₁ [] 0 0 := Stand.of_body Bd
 have e0 : s₁.heap = h0 := by rw [← hh, Bd.state]; rfl
 have N0 := Fr.nil n0
 have pre0 : Sq p e below (s₁.setTop (mkF m 0 #[vR a1] [])) (s₁.setTop (entryFrame m #[(.ref a1)] 1)) := fun t k => castTop (ef_rm_fso m a1) k
 have pre00 : Sq p e below (s₁.setTop (mkF m 0 #[vR a1] [])) (s₁.setTop (mkF m 0 #[vR a1] [])) := fun _ k => k
 have R354 := fun (tg : State) (kt : Steps p.tables e below (s₁.setTop (mkF m 1 #[vR a1] [(.ref a1)])) tg) => pre00 tg (by
  show Steps _ _ _ (s₁.setTop (mkF m 0 #[vR a1] [])) _
  refine XS.aloadN X0.here hx rfl (hb hby d10_0) rfl rfl ?_
  exact kt)
 obtain ⟨T355, X355, e355, st355⟩ := getF X0 hx hZ hown (host := "") (Or.inl (oW hw 22 rfl)) Via.refl e0 Fv (g := (mkF m 1 #[vR a1] [(.ref a1)])) rfl rfl (hb hby d10_1)
 have R356 := fun (tg : State) (kt : Steps p.tables e below (T355.setTop (mkF m 6 #[vR a1] [(.ref a1), (.int (0 : Int32)), (.ref t)])) tg) => R354 tg (by
  refine st355 _ ?_
  refine XS.iconst X355.here hx rfl (hb hby d10_4) ?_
  refine XS.aloadN X355.here hx rfl (hb hby d10_5) rfl rfl ?_
  exact kt)
 clear R354 st355
 obtain ⟨T357, X357, e357, st357⟩ := getF X355 hx hZ hown (host := "") (Or.inl (oW hw 42 rfl)) Via.refl e355 Fs (g := (mkF m 6 #[vR a1] [(.ref a1), (.int (0 : Int32)), (.ref t)])) rfl rfl (hb hby d10_6)
 have R358 := fun (tg : State) (kt : Steps p.tables e below (T357.setTop (mkF m 9 #[vR a1] [(.int (own_i ll.length)), (.int (0 : Int32)), (.ref t)])) tg) => R356 tg (by
  refine st357 _ ?_
  exact kt)
 clear R356 st357
 obtain ⟨_, _, ⟨T359, L359, k359, n359⟩, -, X359, ⟨Lc359, hQ359, l359, y359, z359⟩, st359⟩ := Jvm.LawKit.callS X357 hx (y := (⟨"java/util/Arrays", "sort", "([JII)V"⟩ : MethodName)) hown (mvT hZ (oW hw 64 rfl)) (mvT hZ (oW hw 65 rfl)) (mvT hZ (oW hw 66 rfl)) (mvT hZ (oW hw 67 rfl)) (by decide) (backOf (W := 0) (rm_asr l Z a0 hw [] t (0 : Int32) (own_i ll.length) φ ll h0 n0 Z0 VV gt H ok rfl rfl) hZ (oW hw 67 rfl) (oW hw 66 rfl) (by decide) (by decide)) (g := (mkF m 9 #[vR a1] [(.int (own_i ll.length)), (.int (0 : Int32)), (.ref t)])) rfl (by rw [hml]; rfl) (argsL := [(.ref t), (.int (0 : Int32)), (.int (own_i ll.length))]) (rest := []) (lenOf pd_4 rfl) rfl (by show 2 * 0 + _ ≤ _; exact Nat.le_of_eq rfl) (hb hby d10_9) (fun _ _ => ⟨rfl, e357, (by decide : 0 + 0 ≤ _), (by decide : 0 + 0 ≤ _)⟩)
 dsimp only [Pt.U, Pt.locs, Pt.cells, Pt.slots] at X359 l359 y359 z359 st359 hQ359
 rw [l359, y359, z359] at X359
 obtain ⟨rfl, N359q, K359, V359⟩ := hQ359
 have N359 := Fr.app N0 N359q
 have R360 := fun (tg : State) (kt : Steps p.tables e below (T359.setTop (mkF m 12 #[vR a1] [])) tg) => R358 tg (by
  refine st359 _ ?_
  exact kt)
 clear R358 st359
 obtain ⟨fs, hr, hrun, hended, hW, hsame⟩ := X359.leave (v := none) (fun _ => rfl)
 refine ⟨_, _, pre0 _ (R360 _ ?_), hrun, hended, _, _, rfl, ?_, ⟨_, rfl⟩, hW, hsame.mono (by decide) (by decide)⟩
 ·exact X359.returnOut hx Bd.returns (hb hby d10_12) hr
 ·show Q_rm_fso Z a1 φ t ll h0 n0 _ T359.heap _
  exact ⟨rfl, N359, K359, V359⟩
theorem d16_0 : oD k19 0 (.aload_n 0) 1 := by decide +kernel
theorem d16_1 : oD k19 1 (.getfield 13) 3 := by decide +kernel
theorem d16_4 : oD k19 4 .ireturn 1 := by decide +kernel
theorem ef_rm_siz (m : MethodId) (a1 : Addr) : entryFrame m #[(.ref a1)] 1 = mkF m 0 #[vR a1] [] := by first | (simp [entryFrame, mkF, argsToLocals, Value.category]; done) | rfl
def Q_rm_siz (Z : State) (a1 : Addr) (nv : Int32) (h0 : Heap) (n0 : Nat) (v : Option Value) (h : Heap) (L : List Loc) : Prop := v = some (.int nv) ∧ Fr n0 L ∧ h = h0
set_option maxRecDepth 65536 in
set_option maxHeartbeats 40000000 in
theorem rm_siz (l : Launch) (Z : State) (a0 : Array Value) (hw : ∀ d ∈ tables_1, d.before a0 Z = true) (ws : List Jvm.Cond) (a1 : Addr) (nv : Int32) (h0 : Heap) (n0 : Nat) (Z0 : n0 ≤ h0.size) (Fs : Fld Z h0 a1 cF "size" "I" (.int nv)) :
  MetFree l (⟨cF, "size", "()I"⟩ : MethodName) (head1 (Jvm.Cond.code (⟨cF, "size", "()I"⟩ : MethodName) prog_42_method_4_code 1 (some .int) :: ws) rM0) (fun a U => a = #[(.ref a1)] ∧ Z.Warmed39 U.vm ∧ U.heap = h0) (fun _ _ _ _ _ => True) (fun _ U oC U' => ∃ v L, oC = .returned v ∧ Q_rm_siz Z a1 nv h0 n0 v U'.heap L ∧ FrameEnd U oC U' L rM0.cells rM0.slots) := by
 refine MetFree.of_bodySF (plainFor_of_name pn_0) hisR ?_
 intro p e s m args below meth c s₁ Bd hml0 hP hK
 obtain ⟨rfl, hZ, hh⟩ := hP
 have hx := Bd.exec
 have hby := Bd.bytes
 have hml : c.maxLocals = 1 := hml0
 have hown : s.vm.findClass cF = some m.cls := findClass_of_methodNamed Bd.named
 have hnm := (name_of_methodNamed Bd.named Bd.method).1
 have X0 : Stand p l e rM0 s m #[(.ref a1)] below meth c s₁ [] 0 0 := Stand.of_body Bd
 have e0 : s₁.heap = h0 := by rw [← hh, Bd.state]; rfl
 have N0 := Fr.nil n0
 have pre0 : Sq p e below (s₁.setTop (mkF m 0 #[vR a1] [])) (s₁.setTop (entryFrame m #[(.ref a1)] 1)) := fun t k => castTop (ef_rm_siz m a1) k
 have pre00 : Sq p e below (s₁.setTop (mkF m 0 #[vR a1] [])) (s₁.setTop (mkF m 0 #[vR a1] [])) := fun _ k => k
 have R361 := fun (tg : State) (kt : Steps p.tables e below (s₁.setTop (mkF m 1 #[vR a1] [(.ref a1)])) tg) => pre00 tg (by
  show Steps _ _ _ (s₁.setTop (mkF m 0 #[vR a1] [])) _
  refine XS.aloadN X0.here hx rfl (hb hby d16_0) rfl rfl ?_
  exact kt)
 obtain ⟨T362, X362, e362, st362⟩ := getF X0 hx hZ hown (host := "") (Or.inl (oW hw 42 rfl)) Via.refl e0 Fs (g := (mkF m 1 #[vR a1] [(.ref a1)])) rfl rfl (hb hby d16_1)
 have R363 := fun (tg : State) (kt : Steps p.tables e below (T362.setTop (mkF m 4 #[vR a1] [(.int nv)])) tg) => R361 tg (by
  refine st362 _ ?_
  exact kt)
 clear R361 st362
 obtain ⟨fs, hr, hrun, hended, hW, hsame⟩ := X362.leave (v := some (.int nv)) (fun h => by rw [Bd.returns] at h; cases h)
 refine ⟨_, _, pre0 _ (R363 _ ?_), hrun, hended, _, _, rfl, ?_, ⟨_, rfl⟩, hW, hsame.mono (by decide) (by decide)⟩
 ·exact retI X362 hx Bd.returns (hb hby d16_4) hr
 ·show Q_rm_siz Z a1 nv h0 n0 _ T362.heap _
  rw [e362]
  exact ⟨rfl, N0, rfl⟩
theorem d19_0 : oD k18 0 (.aload_n 0) 1 := by decide +kernel
theorem d19_1 : oD k18 1 (.getfield 7) 3 := by decide +kernel
theorem d19_4 : oD k18 4 (.iload_n 1) 1 := by decide +kernel
theorem d19_5 : oD k18 5 .laload 1 := by decide +kernel
theorem d19_6 : oD k18 6 .lreturn 1 := by decide +kernel
theorem ef_rm_get (m : MethodId) (a1 : Addr) (p2 : Int32) : entryFrame m #[(.ref a1), (.int p2)] 2 = mkF m 0 #[vR a1, vI p2] [] := by first | (simp [entryFrame, mkF, argsToLocals, Value.category]; done) | rfl
def Q_rm_get (Z : State) (a1 : Addr) (p2 : Int32) (φ : Nat → Int64) (t : Addr) (ll : List Nat) (i : Nat) (h0 : Heap) (n0 : Nat) (v : Option Value) (h : Heap) (L : List Loc) : Prop := v = some (.long (φ (ll.getD i 0))) ∧ Fr n0 L ∧ h = h0
set_option maxRecDepth 65536 in
set_option maxHeartbeats 40000000 in
theorem rm_get (l : Launch) (Z : State) (a0 : Array Value) (hw : ∀ d ∈ tables_1, d.before a0 Z = true) (ws : List Jvm.Cond) (a1 : Addr) (p2 : Int32) (φ : Nat → Int64) (t : Addr) (ll : List Nat) (i : Nat) (h0 : Heap) (n0 : Nat) (Z0 : n0 ≤ h0.size) (E1 : Exa Z h0 a1 cF) (Fv : Fld Z h0 a1 cF "values" "[J" (.ref t)) (Fs : Fld Z h0 a1 cF "size" "I" (.int (own_i (ll).length))) (VV : VG Z h0 t .long 1024 (fun r => .long (φ r)) 0 ll) (hp : p2 = own_i i) (hi : i < ll.length) (ok : own_ok ll) :
  MetFree l (⟨cF, "get", "(I)J"⟩ : MethodName) (head1 (Jvm.Cond.code (⟨cF, "get", "(I)J"⟩ : MethodName) prog_42_method_3_code 2 (some .long) :: ws) rM0) (fun a U => a = #[(.ref a1), (.int p2)] ∧ Z.Warmed39 U.vm ∧ U.heap = h0) (fun _ _ _ _ _ => True) (fun _ U oC U' => ∃ v L, oC = .returned v ∧ Q_rm_get Z a1 p2 φ t ll i h0 n0 v U'.heap L ∧ FrameEnd U oC U' L rM0.cells rM0.slots) := by
 refine MetFree.of_bodySF (plainFor_of_name pn_0) hisR ?_
 intro p e s m args below meth c s₁ Bd hml0 hP hK
 obtain ⟨rfl, hZ, hh⟩ := hP
 have hx := Bd.exec
 have hby := Bd.bytes
 have hml : c.maxLocals = 2 := hml0
 have hown : s.vm.findClass cF = some m.cls := findClass_of_methodNamed Bd.named
 have hnm := (name_of_methodNamed Bd.named Bd.method).1
 have X0 : Stand p l e rM0 s m #[(.ref a1), (.int p2)] below meth c s₁ [] 0 0 := Stand.of_body Bd
 have e0 : s₁.heap = h0 := by rw [← hh, Bd.state]; rfl
 have N0 := Fr.nil n0
 have pre0 : Sq p e below (s₁.setTop (mkF m 0 #[vR a1, vI p2] [])) (s₁.setTop (entryFrame m #[(.ref a1), (.int p2)] 2)) := fun t k => castTop (ef_rm_get m a1 p2) k
 have pre00 : Sq p e below (s₁.setTop (mkF m 0 #[vR a1, vI p2] [])) (s₁.setTop (mkF m 0 #[vR a1, vI p2] [])) := fun _ k => k
 obtain ⟨i0, ik⟩ := own_ic (own_4i (Nat.le_of_lt (Nat.lt_of_lt_of_le hi ok.1)))
 have R364 := fun (tg : State) (kt : Steps p.tables e below (s₁.setTop (mkF m 0 #[vR a1, vI (own_i i)] [])) tg) => pre00 tg (by rw [hp]; exact kt)
 have R365 := fun (tg : State) (kt : Steps p.tables e below (s₁.setTop (mkF m 1 #[vR a1, vI (own_i i)] [(.ref a1)])) tg) => R364 tg (by
  show Steps _ _ _ (s₁.setTop (mkF m 0 #[vR a1, vI (own_i i)] [])) _
  refine XS.aloadN X0.here hx rfl (hb hby d19_0) rfl rfl ?_
  exact kt)
 clear R364
 obtain ⟨T366, X366, e366, st366⟩ := getF X0 hx hZ hown (host := "") (Or.inl (oW hw 22 rfl)) Via.refl e0 Fv (g := (mkF m 1 #[vR a1, vI (own_i i)] [(.ref a1)])) rfl rfl (hb hby d19_1)
 have R367 := fun (tg : State) (kt : Steps p.tables e below (T366.setTop (mkF m 5 #[vR a1, vI (own_i i)] [(.int (own_i i)), (.ref t)])) tg) => R365 tg (by
  refine st366 _ ?_
  refine XS.iloadN X366.here hx rfl (hb hby d19_4) rfl ?_
  exact kt)
 clear R365 st366
 obtain ⟨cl368, Ar368, hin368, hat368⟩ := VV.at (j := (own_i i)) (k := i) i0 ik hi
 have R369 := fun (tg : State) (kt : Steps p.tables e below (T366.setTop (mkF m 6 #[vR a1, vI (own_i i)] [(.long (φ (ll.getD i 0)))])) tg) => R367 tg (by
  show Steps _ _ _ (T366.setTop (mkF m 5 #[vR a1, vI (own_i i)] [(.int (own_i i)), (.ref t)])) _
  refine X366.laload hx (j := (own_i i)) (v := (.long (φ (ll.getD i 0)))) (by rw [e366]; exact Ar368.1) (State.isArrayOf_alike hZ.alike Ar368.2.1) Ar368.2.2 hin368 hat368 (g := (mkF m 5 #[vR a1, vI (own_i i)] [(.int (own_i i)), (.ref t)])) rfl rfl (hb hby d19_5) _ ?_
  exact kt)
 clear R367
 obtain ⟨fs, hr, hrun, hended, hW, hsame⟩ := X366.leave (v := some (.long (φ (ll.getD i 0)))) (fun h => by rw [Bd.returns] at h; cases h)
 refine ⟨_, _, pre0 _ (R369 _ ?_), hrun, hended, _, _, rfl, ?_, ⟨_, rfl⟩, hW, hsame.mono (by decide) (by decide)⟩
 ·exact X366.lreturnOut hx Bd.returns (hb hby d19_6) hr
 ·show Q_rm_get Z a1 p2 φ t ll i h0 n0 _ T366.heap _
  rw [e366]
  exact ⟨rfl, N0, rfl⟩
theorem d17_4 : oD k21 4 (.iload_n 2) 1 := by decide +kernel
theorem d17_5 : oD k21 5 (.aload_n 0) 1 := by decide +kernel
theorem d17_6 : oD k21 6 (.getfield 13) 3 := by decide +kernel
theorem d17_9 : oD k21 9 (.if_icmp .ge 25) 3 := by decide +kernel
theorem d17_12 : oD k21 12 (.aload_n 0) 1 := by decide +kernel
theorem d17_13 : oD k21 13 (.getfield 7) 3 := by decide +kernel
theorem d17_16 : oD k21 16 (.iload_n 2) 1 := by decide +kernel
theorem d17_17 : oD k21 17 .laload 1 := by decide +kernel
theorem d17_18 : oD k21 18 (.aload_n 0) 1 := by decide +kernel
theorem d17_19 : oD k21 19 (.getfield 7) 3 := by decide +kernel
theorem d17_22 : oD k21 22 (.iload_n 1) 1 := by decide +kernel
theorem d17_23 : oD k21 23 .laload 1 := by decide +kernel
theorem d17_24 : oD k21 24 .lcmp 1 := by decide +kernel
theorem d17_25 : oD k21 25 (.ifCond .ne 9) 3 := by decide +kernel
theorem d17_28 : oD k21 28 (.iinc 2 1) 3 := by decide +kernel
theorem d17_31 : oD k21 31 (.goto (-27)) 3 := by decide +kernel
set_option maxRecDepth 65536 in
set_option maxHeartbeats 40000000 in
theorem lp_reT {p : Program} {l : Launch} {e : Env} {s : State} {m : MethodId} {args : Array Value} {below : List Frame} {meth : Method} {c : Code} {Z : State} {a0 : Array Value} {n0 : Nat} {T0 : State} {locs : List Loc} {h0 : Heap} (φ : Nat → Int64) (a1 : Addr) (t : Addr) (ll : List Nat) (i : Nat) (j : Nat) (X0 : Stand p l e rM0 s m args below meth c T0 locs 0 0) (hx : p.tables.exec = Jvm.exec) (hZ : Z.Warmed39 s.vm) (hw : ∀ d ∈ tables_1, d.before a0 Z = true) (hby : c.code = prog_42_method_6_code) (hml : c.maxLocals = 3) (hown : s.vm.findClass cF = some m.cls) (e0 : T0.heap = h0) (N0 : Fr n0 locs) (Z0 : n0 ≤ h0.size) (E1 : Exa Z h0 a1 cF) (Fv : Fld Z h0 a1 cF "values" "[J" (.ref t)) (Fs : Fld Z h0 a1 cF "size" "I" (.int (own_i (ll).length))) (VV : VG Z h0 t .long 1024 (fun r => .long (φ r)) 0 ll) (H : own_mono φ) (ok : own_ok ll) (hi : i < ll.length) (hj : j < ll.length) :
  ∃ (T' : State) (L' : List Loc), Stand p l e rM0 s m args below meth c T' L' 0 0 ∧ T'.heap = h0 ∧ Fr n0 L' ∧ ((ll.getD j 0 = ll.getD i 0 ∧ (Sq p e below (T'.setTop (mkF m 4 #[vR a1, vI (own_i i), vI (own_i (j + 1))] [])) (T0.setTop (mkF m 4 #[vR a1, vI (own_i i), vI (own_i j)] [])))) ∨ (¬ ll.getD j 0 = ll.getD i 0 ∧ (Sq p e below (T'.setTop (mkF m 34 #[vR a1, vI (own_i i), vI (own_i j)] [])) (T0.setTop (mkF m 4 #[vR a1, vI (own_i i), vI (own_i j)] []))))) := by
 have R370 := fun (tg : State) (kt : Steps p.tables e below (T0.setTop (mkF m 6 #[vR a1, vI (own_i i), vI (own_i j)] [(.ref a1), (.int (own_i j))])) tg) => (fun (t : State) (k : Steps p.tables e below (T0.setTop (mkF m 4 #[vR a1, vI (own_i i), vI (own_i j)] [])) t) => k) tg (by
  show Steps _ _ _ (T0.setTop (mkF m 4 #[vR a1, vI (own_i i), vI (own_i j)] [])) _
  refine XS.iloadN X0.here hx rfl (hb hby d17_4) rfl ?_
  refine XS.aloadN X0.here hx rfl (hb hby d17_5) rfl rfl ?_
  exact kt)
 obtain ⟨T371, X371, e371, st371⟩ := getF X0 hx hZ hown (host := "") (Or.inl (oW hw 42 rfl)) Via.refl e0 Fs (g := (mkF m 6 #[vR a1, vI (own_i i), vI (own_i j)] [(.ref a1), (.int (own_i j))])) rfl rfl (hb hby d17_6)
 obtain ⟨j0, jk⟩ := own_ic (own_4i (Nat.le_of_lt (Nat.lt_of_lt_of_le hj ok.1)))
 obtain ⟨i0, ik⟩ := own_ic (own_4i (Nat.le_of_lt (Nat.lt_of_lt_of_le hi ok.1)))
 have R372 := fun (tg : State) (kt : Steps p.tables e below (T371.setTop (mkF m 13 #[vR a1, vI (own_i i), vI (own_i j)] [(.ref a1)])) tg) => R370 tg (by
  refine st371 _ ?_
  show Steps _ _ _ (T371.setTop (mkF m 9 #[vR a1, vI (own_i i), vI (own_i j)] [(.int (own_i ll.length)), (.int (own_i j))])) _
  refine XS.icmpNo X371.here hx rfl (hb hby d17_9) rfl (tlt (own_it3 hj ok.1 : (own_i j) < (own_i ll.length))).2.1 ?_
  refine XS.aloadN X371.here hx rfl (hb hby d17_12) rfl rfl ?_
  exact kt)
 clear R370 st371
 obtain ⟨T373, X373, e373, st373⟩ := getF X371 hx hZ hown (host := "") (Or.inl (oW hw 22 rfl)) Via.refl e371 Fv (g := (mkF m 13 #[vR a1, vI (own_i i), vI (own_i j)] [(.ref a1)])) rfl rfl (hb hby d17_13)
 have R374 := fun (tg : State) (kt : Steps p.tables e below (T373.setTop (mkF m 17 #[vR a1, vI (own_i i), vI (own_i j)] [(.int (own_i j)), (.ref t)])) tg) => R372 tg (by
  refine st373 _ ?_
  refine XS.iloadN X373.here hx rfl (hb hby d17_16) rfl ?_
  exact kt)
 clear R372 st373
 obtain ⟨cl375, Ar375, hin375, hat375⟩ := VV.at (j := (own_i j)) (k := j) j0 jk hj
 have R376 := fun (tg : State) (kt : Steps p.tables e below (T373.setTop (mkF m 19 #[vR a1, vI (own_i i), vI (own_i j)] [(.ref a1), (.long (φ (ll.getD j 0)))])) tg) => R374 tg (by
  show Steps _ _ _ (T373.setTop (mkF m 17 #[vR a1, vI (own_i i), vI (own_i j)] [(.int (own_i j)), (.ref t)])) _
  refine X373.laload hx (j := (own_i j)) (v := (.long (φ (ll.getD j 0)))) (by rw [e373]; exact Ar375.1) (State.isArrayOf_alike hZ.alike Ar375.2.1) Ar375.2.2 hin375 hat375 (g := (mkF m 17 #[vR a1, vI (own_i i), vI (own_i j)] [(.int (own_i j)), (.ref t)])) rfl rfl (hb hby d17_17) _ ?_
  refine XS.aloadN X373.here hx rfl (hb hby d17_18) rfl rfl ?_
  exact kt)
 clear R374
 obtain ⟨T377, X377, e377, st377⟩ := getF X373 hx hZ hown (host := "") (Or.inl (oW hw 22 rfl)) Via.refl e373 Fv (g := (mkF m 19 #[vR a1, vI (own_i i), vI (own_i j)] [(.ref a1), (.long (φ (ll.getD j 0)))])) rfl rfl (hb hby d17_19)
 have R378 := fun (tg : State) (kt : Steps p.tables e below (T377.setTop (mkF m 23 #[vR a1, vI (own_i i), vI (own_i j)] [(.int (own_i i)), (.ref t), (.long (φ (ll.getD j 0)))])) tg) => R376 tg (by
  refine st377 _ ?_
  refine XS.iloadN X377.here hx rfl (hb hby d17_22) rfl ?_
  exact kt)
 clear R376 st377
 obtain ⟨cl379, Ar379, hin379, hat379⟩ := VV.at (j := (own_i i)) (k := i) i0 ik hi
 have R380 := fun (tg : State) (kt : Steps p.tables e below (T377.setTop (mkF m 25 #[vR a1, vI (own_i i), vI (own_i j)] [(.int (lcmpW (φ (ll.getD j 0)) (φ (ll.getD i 0))))])) tg) => R378 tg (by
  show Steps _ _ _ (T377.setTop (mkF m 23 #[vR a1, vI (own_i i), vI (own_i j)] [(.int (own_i i)), (.ref t), (.long (φ (ll.getD j 0)))])) _
  refine X377.laload hx (j := (own_i i)) (v := (.long (φ (ll.getD i 0)))) (by rw [e377]; exact Ar379.1) (State.isArrayOf_alike hZ.alike Ar379.2.1) Ar379.2.2 hin379 hat379 (g := (mkF m 23 #[vR a1, vI (own_i i), vI (own_i j)] [(.int (own_i i)), (.ref t), (.long (φ (ll.getD j 0)))])) rfl rfl (hb hby d17_23) _ ?_
  show Steps _ _ _ (T377.setTop (mkF m 24 #[vR a1, vI (own_i i), vI (own_i j)] [(.long (φ (ll.getD i 0))), (.long (φ (ll.getD j 0)))])) _
  refine XS.lcmp X377.here hx rfl (hb hby d17_24) rfl ?_
  exact kt)
 clear R378
 by_cases he : ll.getD j 0 = ll.getD i 0
 ·have R381 := fun (tg : State) (kt : Steps p.tables e below (T377.setTop (mkF m 4 #[vR a1, vI (own_i i), vI ((own_i j) + (1 : Int32))] [])) tg) => R380 tg (by
   show Steps _ _ _ (T377.setTop (mkF m 25 #[vR a1, vI (own_i i), vI (own_i j)] [(.int (lcmpW (φ (ll.getD j 0)) (φ (ll.getD i 0))))])) _
   refine XS.ifNo X377.here hx rfl (hb hby d17_25) rfl ((if0 _ _).trans (teq ((own_ce H (ok.at hj) (ok.at hi)).mpr he : (lcmpW (φ (ll.getD j 0)) (φ (ll.getD i 0))) = (0 : Int32))).2) ?_
   show Steps _ _ _ (T377.setTop (mkF m 28 #[vR a1, vI (own_i i), vI (own_i j)] [])) _
   refine XS.iinc X377.here hx rfl (hb hby d17_28) rfl (l' := #[vR a1, vI (own_i i), vI ((own_i j) + (1 : Int32))]) rfl ?_
   show Steps _ _ _ (T377.setTop (mkF m 31 #[vR a1, vI (own_i i), vI ((own_i j) + (1 : Int32))] [])) _
   refine XS.goto X377.here hx rfl (pc0 := 31) (pc' := 4) rfl (hb hby d17_31) (by decide) (by decide) ?_
   exact kt)
  clear R380
  have eI : own_i j + (1 : Int32) = own_i (j + 1) := own_i1 (Nat.lt_of_le_of_lt (Nat.le_trans hj ok.1) (by decide))
  have R382 := fun (tg : State) (kt : Steps p.tables e below (T377.setTop (mkF m 4 #[vR a1, vI (own_i i), vI (own_i (j + 1))] [])) tg) => R381 tg (by rw [← eI] at kt; exact kt)
  clear R381
  exact ⟨_, _, X377, e377, N0, Or.inl ⟨he, R382⟩⟩
 ·have R383 := fun (tg : State) (kt : Steps p.tables e below (T377.setTop (mkF m 34 #[vR a1, vI (own_i i), vI (own_i j)] [])) tg) => R380 tg (by
   show Steps _ _ _ (T377.setTop (mkF m 25 #[vR a1, vI (own_i i), vI (own_i j)] [(.int (lcmpW (φ (ll.getD j 0)) (φ (ll.getD i 0))))])) _
   refine XS.ifYes X377.here hx rfl (pc0 := 25) (pc' := 34) rfl (hb hby d17_25) rfl ((if0 _ _).trans (feq (fun q => he ((own_ce H (ok.at hj) (ok.at hi)).mp q) : ¬ ((lcmpW (φ (ll.getD j 0)) (φ (ll.getD i 0))) = (0 : Int32)))).2) (by decide) (by decide) ?_
   exact kt)
  clear R380
  exact ⟨_, _, X377, e377, N0, Or.inr ⟨he, R383⟩⟩
set_option maxRecDepth 65536 in
set_option maxHeartbeats 40000000 in
theorem lp_reE {p : Program} {l : Launch} {e : Env} {s : State} {m : MethodId} {args : Array Value} {below : List Frame} {meth : Method} {c : Code} {Z : State} {a0 : Array Value} {n0 : Nat} {T0 : State} {locs : List Loc} {h0 : Heap} (φ : Nat → Int64) (a1 : Addr) (t : Addr) (ll : List Nat) (i : Nat) (j : Nat) (X0 : Stand p l e rM0 s m args below meth c T0 locs 0 0) (hx : p.tables.exec = Jvm.exec) (hZ : Z.Warmed39 s.vm) (hw : ∀ d ∈ tables_1, d.before a0 Z = true) (hby : c.code = prog_42_method_6_code) (hml : c.maxLocals = 3) (hown : s.vm.findClass cF = some m.cls) (e0 : T0.heap = h0) (N0 : Fr n0 locs) (Z0 : n0 ≤ h0.size) (E1 : Exa Z h0 a1 cF) (Fv : Fld Z h0 a1 cF "values" "[J" (.ref t)) (Fs : Fld Z h0 a1 cF "size" "I" (.int (own_i (ll).length))) (VV : VG Z h0 t .long 1024 (fun r => .long (φ r)) 0 ll) (H : own_mono φ) (ok : own_ok ll) (hi : i < ll.length) :
  ∃ (T' : State) (L' : List Loc), Stand p l e rM0 s m args below meth c T' L' 0 0 ∧ T'.heap = h0 ∧ Fr n0 L' ∧ (Sq p e below (T'.setTop (mkF m 34 #[vR a1, vI (own_i i), vI (own_i ll.length)] [])) (T0.setTop (mkF m 4 #[vR a1, vI (own_i i), vI (own_i ll.length)] []))) := by
 have R384 := fun (tg : State) (kt : Steps p.tables e below (T0.setTop (mkF m 6 #[vR a1, vI (own_i i), vI (own_i ll.length)] [(.ref a1), (.int (own_i ll.length))])) tg) => (fun (t : State) (k : Steps p.tables e below (T0.setTop (mkF m 4 #[vR a1, vI (own_i i), vI (own_i ll.length)] [])) t) => k) tg (by
  show Steps _ _ _ (T0.setTop (mkF m 4 #[vR a1, vI (own_i i), vI (own_i ll.length)] [])) _
  refine XS.iloadN X0.here hx rfl (hb hby d17_4) rfl ?_
  refine XS.aloadN X0.here hx rfl (hb hby d17_5) rfl rfl ?_
  exact kt)
 obtain ⟨T385, X385, e385, st385⟩ := getF X0 hx hZ hown (host := "") (Or.inl (oW hw 42 rfl)) Via.refl e0 Fs (g := (mkF m 6 #[vR a1, vI (own_i i), vI (own_i ll.length)] [(.ref a1), (.int (own_i ll.length))])) rfl rfl (hb hby d17_6)
 have R386 := fun (tg : State) (kt : Steps p.tables e below (T385.setTop (mkF m 34 #[vR a1, vI (own_i i), vI (own_i ll.length)] [])) tg) => R384 tg (by
  refine st385 _ ?_
  show Steps _ _ _ (T385.setTop (mkF m 9 #[vR a1, vI (own_i i), vI (own_i ll.length)] [(.int (own_i ll.length)), (.int (own_i ll.length))])) _
  refine XS.icmpYes X385.here hx rfl (pc0 := 9) (pc' := 34) rfl (hb hby d17_9) rfl (flt (own_irr : ¬ ((own_i ll.length) < (own_i ll.length)))).2.1 (by decide) (by decide) ?_
  exact kt)
 clear R384 st385
 exact ⟨_, _, X385, e385, N0, R386⟩
set_option maxHeartbeats 4000000 in
theorem lp_reL {p : Program} {l : Launch} {e : Env} {s : State} {m : MethodId} {args : Array Value} {below : List Frame} {meth : Method} {c : Code} {Z : State} {a0 : Array Value} {n0 : Nat} (φ : Nat → Int64) (a1 t : Addr) (ll : List Nat) (i : Nat) (hx : p.tables.exec = Jvm.exec) (hZ : Z.Warmed39 s.vm) (hw : ∀ d ∈ tables_1, d.before a0 Z = true) (hby : c.code = prog_42_method_6_code) (hml : c.maxLocals = 3) (hown : s.vm.findClass cF = some m.cls) {h0 : Heap} (Z0 : n0 ≤ h0.size) (E1 : Exa Z h0 a1 cF) (Fv : Fld Z h0 a1 cF "values" "[J" (.ref t)) (Fs : Fld Z h0 a1 cF "size" "I" (.int (own_i (ll).length))) (VV : VG Z h0 t .long 1024 (fun r => .long (φ r)) 0 ll) (H : own_mono φ) (ok : own_ok ll) (hi : i < ll.length) :
  ∀ (d j : Nat) {T0 : State} {locs : List Loc} (X0 : Stand p l e rM0 s m args below meth c T0 locs 0 0) (e0 : T0.heap = h0) (N0 : Fr n0 locs), j + d = ll.length → ∃ (T' : State) (L' : List Loc), Stand p l e rM0 s m args below meth c T' L' 0 0 ∧ T'.heap = h0 ∧ Fr n0 L' ∧ (Sq p e below (T'.setTop (mkF m 34 #[vR a1, vI (own_i i), vI (own_i (own_rl ll (ll.getD i 0) d j))] [])) (T0.setTop (mkF m 4 #[vR a1, vI (own_i i), vI (own_i j)] []))) := by
 intro d
 induction d with
 | zero =>
  intro j T0 locs X0 e0 N0 hd
  cases (show j = ll.length from hd)
  obtain ⟨T1, L1, X1, e1, N1, st1⟩ := lp_reE φ a1 t ll i 0 X0 hx hZ hw hby hml hown e0 N0 Z0 E1 Fv Fs VV H ok hi
  exact ⟨T1, L1, X1, e1, N1, st1⟩
 | succ d ih =>
  intro j T0 locs X0 e0 N0 hd
  obtain ⟨T1, L1, X1, e1, N1, ⟨he, st1⟩ | ⟨he, st1⟩⟩ := lp_reT φ a1 t ll i j X0 hx hZ hw hby hml hown e0 N0 Z0 E1 Fv Fs VV H ok hi (by omega)
  ·obtain ⟨T2, L2, X2, e2, N2, st2⟩ := ih (j + 1) X1 e1 N1 (by omega)
   refine ⟨T2, L2, X2, e2, N2, ?_⟩
   rw [own_rl, if_pos he]
   exact fun tg kt => st1 tg (st2 tg kt)
  ·refine ⟨T1, L1, X1, e1, N1, ?_⟩
   rw [own_rl, if_neg he]
   exact st1
theorem d17_0 : oD k21 0 (.iload_n 1) 1 := by decide +kernel
theorem d17_1 : oD k21 1 (.iconst 1) 1 := by decide +kernel
theorem d17_2 : oD k21 2 .iadd 1 := by decide +kernel
theorem d17_3 : oD k21 3 (.istore_n 2) 1 := by decide +kernel
theorem d17_34 : oD k21 34 (.iload_n 2) 1 := by decide +kernel
theorem d17_35 : oD k21 35 .ireturn 1 := by decide +kernel
theorem ef_rm_run (m : MethodId) (a1 : Addr) (p2 : Int32) : entryFrame m #[(.ref a1), (.int p2)] 3 = mkF m 0 #[vR a1, vI p2, .unset] [] := by first | (simp [entryFrame, mkF, argsToLocals, Value.category]; done) | rfl
def Q_rm_run (Z : State) (a1 : Addr) (p2 : Int32) (φ : Nat → Int64) (t : Addr) (ll : List Nat) (i : Nat) (h0 : Heap) (n0 : Nat) (v : Option Value) (h : Heap) (L : List Loc) : Prop := v = some (.int (own_i (own_re ll i))) ∧ Fr n0 L ∧ h = h0
set_option maxRecDepth 65536 in
set_option maxHeartbeats 40000000 in
theorem rm_run (l : Launch) (Z : State) (a0 : Array Value) (hw : ∀ d ∈ tables_1, d.before a0 Z = true) (ws : List Jvm.Cond) (a1 : Addr) (p2 : Int32) (φ : Nat → Int64) (t : Addr) (ll : List Nat) (i : Nat) (h0 : Heap) (n0 : Nat) (Z0 : n0 ≤ h0.size) (E1 : Exa Z h0 a1 cF) (Fv : Fld Z h0 a1 cF "values" "[J" (.ref t)) (Fs : Fld Z h0 a1 cF "size" "I" (.int (own_i (ll).length))) (VV : VG Z h0 t .long 1024 (fun r => .long (φ r)) 0 ll) (H : own_mono φ) (ok : own_ok ll) (hp : p2 = own_i i) (hi : i < ll.length) :
  MetFree l (⟨cF, "runEnd", "(I)I"⟩ : MethodName) (head1 (Jvm.Cond.code (⟨cF, "runEnd", "(I)I"⟩ : MethodName) prog_42_method_6_code 3 (some .int) :: ws) rM0) (fun a U => a = #[(.ref a1), (.int p2)] ∧ Z.Warmed39 U.vm ∧ U.heap = h0) (fun _ _ _ _ _ => True) (fun _ U oC U' => ∃ v L, oC = .returned v ∧ Q_rm_run Z a1 p2 φ t ll i h0 n0 v U'.heap L ∧ FrameEnd U oC U' L rM0.cells rM0.slots) := by
 refine MetFree.of_bodySF (plainFor_of_name pn_0) hisR ?_
 intro p e s m args below meth c s₁ Bd hml0 hP hK
 obtain ⟨rfl, hZ, hh⟩ := hP
 have hx := Bd.exec
 have hby := Bd.bytes
 have hml : c.maxLocals = 3 := hml0
 have hown : s.vm.findClass cF = some m.cls := findClass_of_methodNamed Bd.named
 have hnm := (name_of_methodNamed Bd.named Bd.method).1
 have X0 : Stand p l e rM0 s m #[(.ref a1), (.int p2)] below meth c s₁ [] 0 0 := Stand.of_body Bd
 have e0 : s₁.heap = h0 := by rw [← hh, Bd.state]; rfl
 have N0 := Fr.nil n0
 have pre0 : Sq p e below (s₁.setTop (mkF m 0 #[vR a1, vI p2, .unset] [])) (s₁.setTop (entryFrame m #[(.ref a1), (.int p2)] 3)) := fun t k => castTop (ef_rm_run m a1 p2) k
 have pre00 : Sq p e below (s₁.setTop (mkF m 0 #[vR a1, vI p2, .unset] [])) (s₁.setTop (mkF m 0 #[vR a1, vI p2, .unset] [])) := fun _ k => k
 have R387 := fun (tg : State) (kt : Steps p.tables e below (s₁.setTop (mkF m 0 #[vR a1, vI (own_i i), .unset] [])) tg) => pre00 tg (by rw [hp]; exact kt)
 have R388 := fun (tg : State) (kt : Steps p.tables e below (s₁.setTop (mkF m 4 #[vR a1, vI (own_i i), vI ((own_i i) + (1 : Int32))] [])) tg) => R387 tg (by
  show Steps _ _ _ (s₁.setTop (mkF m 0 #[vR a1, vI (own_i i), .unset] [])) _
  refine XS.iloadN X0.here hx rfl (hb hby d17_0) rfl ?_
  refine XS.iconst X0.here hx rfl (hb hby d17_1) ?_
  show Steps _ _ _ (s₁.setTop (mkF m 2 #[vR a1, vI (own_i i), .unset] [(.int (1 : Int32)), (.int (own_i i))])) _
  refine XS.iadd X0.here hx rfl (hb hby d17_2) rfl ?_
  show Steps _ _ _ (s₁.setTop (mkF m 3 #[vR a1, vI (own_i i), .unset] [(.int ((own_i i) + (1 : Int32)))])) _
  refine XS.istoreN X0.here hx rfl (hb hby d17_3) rfl (l' := #[vR a1, vI (own_i i), vI ((own_i i) + (1 : Int32))]) rfl ?_
  exact kt)
 clear R387
 have eI : own_i i + (1 : Int32) = own_i (i + 1) := own_i1 (Nat.lt_of_le_of_lt (Nat.le_trans hi ok.1) (by decide))
 have R389 := fun (tg : State) (kt : Steps p.tables e below (s₁.setTop (mkF m 4 #[vR a1, vI (own_i i), vI (own_i (i + 1))] [])) tg) => R388 tg (by rw [eI]; exact kt)
 clear R388
 obtain ⟨T390, L390, X390, e390, N390, st390⟩ := lp_reL φ a1 t ll i hx hZ hw hby hml hown Z0 E1 Fv Fs VV H ok hi (ll.length - (i + 1)) (i + 1) X0 e0 N0 (by omega)
 have R391 := fun (tg : State) (kt : Steps p.tables e below (T390.setTop (mkF m 35 #[vR a1, vI (own_i i), vI (own_i (own_re ll i))] [(.int (own_i (own_re ll i)))])) tg) => R389 tg (by
  refine st390 _ ?_
  refine XS.iloadN X390.here hx rfl (hb hby d17_34) rfl ?_
  exact kt)
 clear R389 st390
 obtain ⟨fs, hr, hrun, hended, hW, hsame⟩ := X390.leave (v := some (.int (own_i (own_re ll i)))) (fun h => by rw [Bd.returns] at h; cases h)
 refine ⟨_, _, pre0 _ (R391 _ ?_), hrun, hended, _, _, rfl, ?_, ⟨_, rfl⟩, hW, hsame.mono (by decide) (by decide)⟩
 ·exact retI X390 hx Bd.returns (hb hby d17_35) hr
 ·show Q_rm_run Z a1 p2 φ t ll i h0 n0 _ T390.heap _
  rw [e390]
  exact ⟨rfl, N390, rfl⟩
theorem pn_5 : plainName "com/example/workaday_tariff/workadaytariff/engine/PeriodCensus$Repeats" = true := by first | (simp [plainName, overriddenIn]; done) | decide +kernel
theorem d18_0 : oD k22 0 (.aload_n 0) 1 := by decide +kernel
theorem d18_1 : oD k22 1 (.invokespecial 1) 3 := by decide +kernel
theorem d18_4 : oD k22 4 (.aload_n 0) 1 := by decide +kernel
theorem d18_5 : oD k22 5 (.iload_n 1) 1 := by decide +kernel
theorem d18_6 : oD k22 6 (.newarray .long) 2 := by decide +kernel
theorem d18_8 : oD k22 8 (.putfield 7) 3 := by decide +kernel
theorem d18_11 : oD k22 11 (.aload_n 0) 1 := by decide +kernel
theorem d18_12 : oD k22 12 (.iload_n 1) 1 := by decide +kernel
theorem d18_13 : oD k22 13 (.newarray .int) 2 := by decide +kernel
theorem d18_15 : oD k22 15 (.putfield 13) 3 := by decide +kernel
theorem d18_18 : oD k22 18 (.aload_n 0) 1 := by decide +kernel
theorem d18_19 : oD k22 19 (.iload_n 1) 1 := by decide +kernel
theorem d18_20 : oD k22 20 (.newarray .boolean) 2 := by decide +kernel
theorem d18_22 : oD k22 22 (.putfield 17) 3 := by decide +kernel
theorem d18_25 : oD k22 25 .return_ 1 := by decide +kernel
theorem ef_rm_rpi (m : MethodId) (rp : Addr) (p2 : Int32) : entryFrame m #[(.ref rp), (.int p2)] 2 = mkF m 0 #[vR rp, vI p2] [] := by first | (simp [entryFrame, mkF, argsToLocals, Value.category]; done) | rfl
def Q_rm_rpi (Z : State) (rp : Addr) (p2 : Int32) (φ : Nat → Int64) (cap : Nat) (h0 : Heap) (n0 : Nat) (v : Option Value) (h : Heap) (L : List Loc) : Prop := ∃ f1 f2 f3 : Addr, v = none ∧ Fr n0 L ∧ Keep h0 h [rp] ∧ h0.size ≤ f1 ∧ h0.size ≤ f2 ∧ h0.size ≤ f3 ∧ own_rd n0 rp f1 f2 f3 ∧ Exa Z h rp cR ∧ Fld Z h rp cR "fingerprints" "[J" (.ref f1) ∧ Fld Z h rp cR "rows" "[I" (.ref f2) ∧ Fld Z h rp cR "near" "[Z" (.ref f3) ∧ Fld Z h rp cR "size" "I" (.int (own_i (([] : List Nat)).length)) ∧ Fld Z h rp cR "anyFar" "Z" (.int (own_b2 false)) ∧ VG Z h f1 .long cap (fun r => .long (φ r)) 0 ([] : List Nat) ∧ VG Z h f2 .int cap (fun r => .int (own_i r)) 0 ([] : List Nat) ∧ VG Z h f3 .boolean cap (fun b => .int (own_b2 b)) false ([] : List Bool)
set_option maxRecDepth 65536 in
set_option maxHeartbeats 40000000 in
theorem rm_rpi (l : Launch) (Z : State) (a0 : Array Value) (hw : ∀ d ∈ tables_1, d.before a0 Z = true) (ws : List Jvm.Cond) (rp : Addr) (p2 : Int32) (φ : Nat → Int64) (cap : Nat) (h0 : Heap) (n0 : Nat) (Z0 : n0 ≤ h0.size) (Er : Exa Z h0 rp cR) (Gf : Fld Z h0 rp cR "fingerprints" "[J" .null) (Gr : Fld Z h0 rp cR "rows" "[I" .null) (Gn : Fld Z h0 rp cR "near" "[Z" .null) (Gs : Fld Z h0 rp cR "size" "I" (.int (0 : Int32))) (Gy : Fld Z h0 rp cR "anyFar" "Z" (.int (0 : Int32))) (ga : n0 ≤ rp) (hp : p2 = own_i cap) (hc : cap ≤ 4) :
  MetFree l (⟨cR, "<init>", "(I)V"⟩ : MethodName) (head1 (Jvm.Cond.code (⟨cR, "<init>", "(I)V"⟩ : MethodName) prog_43_method_1_code 2 none :: ws) rM6) (fun a U => a = #[(.ref rp), (.int p2)] ∧ Z.Warmed39 U.vm ∧ U.heap = h0) (fun _ _ _ _ _ => True) (fun _ U oC U' => ∃ v L, oC = .returned v ∧ Q_rm_rpi Z rp p2 φ cap h0 n0 v U'.heap L ∧ FrameEnd U oC U' L rM6.cells rM6.slots) := by
 refine MetFree.of_bodySF (plainFor_of_name pn_5) hisR ?_
 intro p e s m args below meth c s₁ Bd hml0 hP hK
 obtain ⟨rfl, hZ, hh⟩ := hP
 have hx := Bd.exec
 have hby := Bd.bytes
 have hml : c.maxLocals = 2 := hml0
 have hown : s.vm.findClass cR = some m.cls := findClass_of_methodNamed Bd.named
 have hnm := (name_of_methodNamed Bd.named Bd.method).1
 have X0 : Stand p l e rM6 s m #[(.ref rp), (.int p2)] below meth c s₁ [] 0 0 := Stand.of_body Bd
 have e0 : s₁.heap = h0 := by rw [← hh, Bd.state]; rfl
 have N0 := Fr.nil n0
 have pre0 : Sq p e below (s₁.setTop (mkF m 0 #[vR rp, vI p2] [])) (s₁.setTop (entryFrame m #[(.ref rp), (.int p2)] 2)) := fun t k => castTop (ef_rm_rpi m rp p2) k
 have pre00 : Sq p e below (s₁.setTop (mkF m 0 #[vR rp, vI p2] [])) (s₁.setTop (mkF m 0 #[vR rp, vI p2] [])) := fun _ k => k
 obtain ⟨c0, ck⟩ := own_ic (own_4i hc)
 have R392 := fun (tg : State) (kt : Steps p.tables e below (s₁.setTop (mkF m 0 #[vR rp, vI (own_i cap)] [])) tg) => pre00 tg (by rw [hp]; exact kt)
 have R393 := fun (tg : State) (kt : Steps p.tables e below (s₁.setTop (mkF m 1 #[vR rp, vI (own_i cap)] [(.ref rp)])) tg) => R392 tg (by
  show Steps _ _ _ (s₁.setTop (mkF m 0 #[vR rp, vI (own_i cap)] [])) _
  refine XS.aloadN X0.here hx rfl (hb hby d18_0) rfl rfl ?_
  exact kt)
 clear R392
 obtain ⟨T394, X394, e394, st394⟩ := initO X0 hx hZ hown (oW hw 97 rfl) (oW hw 7 rfl) (oW hw 8 rfl) e0 (g := (mkF m 1 #[vR rp, vI (own_i cap)] [(.ref rp)])) rfl (by rw [hml]; rfl) rfl (hb hby d18_1) (by decide) (W := 0) (by show 2 * 0 + _ ≤ _; exact Nat.le_of_eq rfl) (by decide)
 have R395 := fun (tg : State) (kt : Steps p.tables e below (T394.setTop (mkF m 6 #[vR rp, vI (own_i cap)] [(.int (own_i cap)), (.ref rp)])) tg) => R393 tg (by
  refine st394 _ ?_
  refine XS.aloadN X394.here hx rfl (hb hby d18_4) rfl rfl ?_
  refine XS.iloadN X394.here hx rfl (hb hby d18_5) rfl ?_
  exact kt)
 clear R393 st394
 obtain ⟨T396, h396, k396, X396, e396, E396, A396, st396⟩ := newP X394 hx hZ (oW hw 9 rfl) e394 (g := (mkF m 6 #[vR rp, vI (own_i cap)] [(.int (own_i cap)), (.ref rp)])) rfl (hb hby d18_6) rfl c0 (cap := 4) (by rw [ck]; exact hc) (by decide) (by decide) (by decide)
 obtain ⟨f1, g396⟩ : ∃ z, z = h0.size := ⟨_, rfl⟩
 rw [← g396] at A396 st396
 have g_f1 : n0 ≤ f1 := Nat.le_trans Z0 (Nat.le_of_eq g396.symm)
 have sz_f1 : h0.size ≤ f1 := Nat.le_trans (Keep.refl h0 [rp]).1 (Nat.le_of_eq g396.symm)
 have ne_rp_f1 : rp ≠ f1 := Nat.ne_of_lt (Nat.lt_of_lt_of_le Er.lt (Nat.le_of_eq g396.symm))
 have E_rp_396 := Er.ext E396
 have Gf_396 := Gf.ext E396
 have Gr_396 := Gr.ext E396
 have Gn_396 := Gn.ext E396
 have Gs_396 := Gs.ext E396
 have Gy_396 := Gy.ext E396
 have Zs396 : n0 ≤ h396.size := Nat.le_trans Z0 E396.1
 have Ke396 : Keep h0 h396 [rp] := Keep.ext (Keep.refl h0 [rp]) E396
 have A1 : AV Z h396 f1 .long cap (fun _ => defaultValue .long) := AV.new A396 ck rfl
 have R397 := fun (tg : State) (kt : Steps p.tables e below (T396.setTop (mkF m 8 #[vR rp, vI (own_i cap)] [(.ref f1), (.ref rp)])) tg) => R395 tg (by
  refine st396 _ ?_
  exact kt)
 clear R395 st396
 obtain ⟨T398, h398, X398, e398, W398, st398⟩ := putF X396 hx hZ hown (host := "") (Or.inl (oW hw 98 rfl)) Via.refl e396 Gf_396 E_rp_396 (Or.inr ⟨(oW hw 99 rfl), rfl, hnm⟩) (oW hw 92 rfl) (ty := (.array .long)) (by decide) rfl rfl (g := (mkF m 8 #[vR rp, vI (own_i cap)] [(.ref f1), (.ref rp)])) rfl rfl (hb hby d18_8)
 have N398 := Fr.snoc X398 N0 ga
 have Gf_398 := Gf_396.same W398
 have E_rp_398 := E_rp_396.wr W398
 have Gr_398 := Gr_396.other W398 (Or.inr (slot_ne (Or.inr (oW hw 102 rfl)) (Or.inr (oW hw 99 rfl)) (by decide) (t := (.array .int)) (t' := (.array .long)) (by decide) (by decide)))
 have Gn_398 := Gn_396.other W398 (Or.inr (slot_ne (Or.inr (oW hw 104 rfl)) (Or.inr (oW hw 99 rfl)) (by decide) (t := (.array .boolean)) (t' := (.array .long)) (by decide) (by decide)))
 have Gs_398 := Gs_396.other W398 (Or.inr (slot_ne (Or.inl (oW hw 127 rfl)) (Or.inr (oW hw 99 rfl)) (by decide) (t := .int) (t' := (.array .long)) (by decide) (by decide)))
 have Gy_398 := Gy_396.other W398 (Or.inr (slot_ne (Or.inl (oW hw 150 rfl)) (Or.inr (oW hw 99 rfl)) (by decide) (t := .boolean) (t' := (.array .long)) (by decide) (by decide)))
 have A1_398 := A1.other W398 (Ne.symm ne_rp_f1)
 clear E_rp_396 Gr_396 Gn_396 Gs_396 Gy_396
 have Zs398 : n0 ≤ h398.size := Nat.le_trans Zs396 (Keep.of_wr W398).1
 have Kw398 : Keep h0 h398 [rp] := Keep.wr Ke396 W398 (Or.inl (List.mem_of_getElem? (i := 0) rfl))
 have R399 := fun (tg : State) (kt : Steps p.tables e below (T398.setTop (mkF m 13 #[vR rp, vI (own_i cap)] [(.int (own_i cap)), (.ref rp)])) tg) => R397 tg (by
  refine st398 _ ?_
  refine XS.aloadN X398.here hx rfl (hb hby d18_11) rfl rfl ?_
  show Steps _ _ _ (T398.setTop (mkF m 12 #[vR rp, vI (own_i cap)] [(.ref rp)])) _
  refine XS.iloadN X398.here hx rfl (hb hby d18_12) rfl ?_
  exact kt)
 clear R397 st398
 obtain ⟨T400, h400, k400, X400, e400, E400, A400, st400⟩ := newP X398 hx hZ (oW hw 100 rfl) e398 (g := (mkF m 13 #[vR rp, vI (own_i cap)] [(.int (own_i cap)), (.ref rp)])) rfl (hb hby d18_13) rfl c0 (cap := 4) (by rw [ck]; exact hc) (by decide) (by decide) (by decide)
 obtain ⟨f2, g400⟩ : ∃ z, z = h398.size := ⟨_, rfl⟩
 rw [← g400] at A400 st400
 have g_f2 : n0 ≤ f2 := Nat.le_trans Zs398 (Nat.le_of_eq g400.symm)
 have sz_f2 : h0.size ≤ f2 := Nat.le_trans Kw398.1 (Nat.le_of_eq g400.symm)
 have ne_rp_f2 : rp ≠ f2 := Nat.ne_of_lt (Nat.lt_of_lt_of_le E_rp_398.lt (Nat.le_of_eq g400.symm))
 have ne_f1_f2 : f1 ≠ f2 := Nat.ne_of_lt (Nat.lt_of_lt_of_le A1_398.lt (Nat.le_of_eq g400.symm))
 have E_rp_400 := E_rp_398.ext E400
 have Gf_400 := Gf_398.ext E400
 have Gr_400 := Gr_398.ext E400
 have Gn_400 := Gn_398.ext E400
 have Gs_400 := Gs_398.ext E400
 have Gy_400 := Gy_398.ext E400
 have A1_400 := A1_398.ext E400
 clear E_rp_398 Gf_398 Gr_398 Gn_398 Gs_398 Gy_398 A1_398
 have Zs400 : n0 ≤ h400.size := Nat.le_trans Zs398 E400.1
 have Ke400 : Keep h0 h400 [rp] := Keep.ext Kw398 E400
 have A2 : AV Z h400 f2 .int cap (fun _ => defaultValue .int) := AV.new A400 ck rfl
 have R401 := fun (tg : State) (kt : Steps p.tables e below (T400.setTop (mkF m 15 #[vR rp, vI (own_i cap)] [(.ref f2), (.ref rp)])) tg) => R399 tg (by
  refine st400 _ ?_
  exact kt)
 clear R399 st400
 obtain ⟨T402, h402, X402, e402, W402, st402⟩ := putF X400 hx hZ hown (host := "") (Or.inl (oW hw 101 rfl)) Via.refl e400 Gr_400 E_rp_400 (Or.inr ⟨(oW hw 102 rfl), rfl, hnm⟩) (oW hw 92 rfl) (ty := (.array .int)) (by decide) rfl rfl (g := (mkF m 15 #[vR rp, vI (own_i cap)] [(.ref f2), (.ref rp)])) rfl rfl (hb hby d18_15)
 have N402 := Fr.snoc X402 N398 ga
 have Gr_402 := Gr_400.same W402
 have E_rp_402 := E_rp_400.wr W402
 have Gf_402 := Gf_400.other W402 (Or.inr (slot_ne (Or.inr (oW hw 99 rfl)) (Or.inr (oW hw 102 rfl)) (by decide) (t := (.array .long)) (t' := (.array .int)) (by decide) (by decide)))
 have Gn_402 := Gn_400.other W402 (Or.inr (slot_ne (Or.inr (oW hw 104 rfl)) (Or.inr (oW hw 102 rfl)) (by decide) (t := (.array .boolean)) (t' := (.array .int)) (by decide) (by decide)))
 have Gs_402 := Gs_400.other W402 (Or.inr (slot_ne (Or.inl (oW hw 127 rfl)) (Or.inr (oW hw 102 rfl)) (by decide) (t := .int) (t' := (.array .int)) (by decide) (by decide)))
 have Gy_402 := Gy_400.other W402 (Or.inr (slot_ne (Or.inl (oW hw 150 rfl)) (Or.inr (oW hw 102 rfl)) (by decide) (t := .boolean) (t' := (.array .int)) (by decide) (by decide)))
 have A1_402 := A1_400.other W402 (Ne.symm ne_rp_f1)
 have A2_402 := A2.other W402 (Ne.symm ne_rp_f2)
 clear E_rp_400 Gf_400 Gn_400 Gs_400 Gy_400 A1_400
 have Zs402 : n0 ≤ h402.size := Nat.le_trans Zs400 (Keep.of_wr W402).1
 have Kw402 : Keep h0 h402 [rp] := Keep.wr Ke400 W402 (Or.inl (List.mem_of_getElem? (i := 0) rfl))
 have R403 := fun (tg : State) (kt : Steps p.tables e below (T402.setTop (mkF m 20 #[vR rp, vI (own_i cap)] [(.int (own_i cap)), (.ref rp)])) tg) => R401 tg (by
  refine st402 _ ?_
  refine XS.aloadN X402.here hx rfl (hb hby d18_18) rfl rfl ?_
  refine XS.iloadN X402.here hx rfl (hb hby d18_19) rfl ?_
  exact kt)
 clear R401 st402
 obtain ⟨T404, h404, k404, X404, e404, E404, A404, st404⟩ := newP X402 hx hZ (oW hw 12 rfl) e402 (g := (mkF m 20 #[vR rp, vI (own_i cap)] [(.int (own_i cap)), (.ref rp)])) rfl (hb hby d18_20) rfl c0 (cap := 4) (by rw [ck]; exact hc) (by decide) (by decide) (by decide)
 obtain ⟨f3, g404⟩ : ∃ z, z = h402.size := ⟨_, rfl⟩
 rw [← g404] at A404 st404
 have g_f3 : n0 ≤ f3 := Nat.le_trans Zs402 (Nat.le_of_eq g404.symm)
 have sz_f3 : h0.size ≤ f3 := Nat.le_trans Kw402.1 (Nat.le_of_eq g404.symm)
 have ne_rp_f3 : rp ≠ f3 := Nat.ne_of_lt (Nat.lt_of_lt_of_le E_rp_402.lt (Nat.le_of_eq g404.symm))
 have ne_f1_f3 : f1 ≠ f3 := Nat.ne_of_lt (Nat.lt_of_lt_of_le A1_402.lt (Nat.le_of_eq g404.symm))
 have ne_f2_f3 : f2 ≠ f3 := Nat.ne_of_lt (Nat.lt_of_lt_of_le A2_402.lt (Nat.le_of_eq g404.symm))
 have E_rp_404 := E_rp_402.ext E404
 have Gf_404 := Gf_402.ext E404
 have Gr_404 := Gr_402.ext E404
 have Gn_404 := Gn_402.ext E404
 have Gs_404 := Gs_402.ext E404
 have Gy_404 := Gy_402.ext E404
 have A1_404 := A1_402.ext E404
 have A2_404 := A2_402.ext E404
 clear E_rp_402 Gf_402 Gr_402 Gn_402 Gs_402 Gy_402 A1_402 A2_402
 have Zs404 : n0 ≤ h404.size := Nat.le_trans Zs402 E404.1
 have Ke404 : Keep h0 h404 [rp] := Keep.ext Kw402 E404
 have A3 : AV Z h404 f3 .boolean cap (fun _ => defaultValue .boolean) := AV.new A404 ck rfl
 have R405 := fun (tg : State) (kt : Steps p.tables e below (T404.setTop (mkF m 22 #[vR rp, vI (own_i cap)] [(.ref f3), (.ref rp)])) tg) => R403 tg (by
  refine st404 _ ?_
  exact kt)
 clear R403 st404
 obtain ⟨T406, h406, X406, e406, W406, st406⟩ := putF X404 hx hZ hown (host := "") (Or.inl (oW hw 103 rfl)) Via.refl e404 Gn_404 E_rp_404 (Or.inr ⟨(oW hw 104 rfl), rfl, hnm⟩) (oW hw 92 rfl) (ty := (.array .boolean)) (by decide) rfl rfl (g := (mkF m 22 #[vR rp, vI (own_i cap)] [(.ref f3), (.ref rp)])) rfl rfl (hb hby d18_22)
 have N406 := Fr.snoc X406 N402 ga
 have Gn_406 := Gn_404.same W406
 have E_rp_406 := E_rp_404.wr W406
 have Gf_406 := Gf_404.other W406 (Or.inr (slot_ne (Or.inr (oW hw 99 rfl)) (Or.inr (oW hw 104 rfl)) (by decide) (t := (.array .long)) (t' := (.array .boolean)) (by decide) (by decide)))
 have Gr_406 := Gr_404.other W406 (Or.inr (slot_ne (Or.inr (oW hw 102 rfl)) (Or.inr (oW hw 104 rfl)) (by decide) (t := (.array .int)) (t' := (.array .boolean)) (by decide) (by decide)))
 have Gs_406 := Gs_404.other W406 (Or.inr (slot_ne (Or.inl (oW hw 127 rfl)) (Or.inr (oW hw 104 rfl)) (by decide) (t := .int) (t' := (.array .boolean)) (by decide) (by decide)))
 have Gy_406 := Gy_404.other W406 (Or.inr (slot_ne (Or.inl (oW hw 150 rfl)) (Or.inr (oW hw 104 rfl)) (by decide) (t := .boolean) (t' := (.array .boolean)) (by decide) (by decide)))
 have A1_406 := A1_404.other W406 (Ne.symm ne_rp_f1)
 have A2_406 := A2_404.other W406 (Ne.symm ne_rp_f2)
 have A3_406 := A3.other W406 (Ne.symm ne_rp_f3)
 clear E_rp_404 Gf_404 Gr_404 Gs_404 Gy_404 A1_404 A2_404
 have Zs406 : n0 ≤ h406.size := Nat.le_trans Zs404 (Keep.of_wr W406).1
 have Kw406 : Keep h0 h406 [rp] := Keep.wr Ke404 W406 (Or.inl (List.mem_of_getElem? (i := 0) rfl))
 have R407 := fun (tg : State) (kt : Steps p.tables e below (T406.setTop (mkF m 25 #[vR rp, vI (own_i cap)] [])) tg) => R405 tg (by
  refine st406 _ ?_
  exact kt)
 clear R405 st406
 obtain ⟨fs, hr, hrun, hended, hW, hsame⟩ := X406.leave (v := none) (fun _ => rfl)
 refine ⟨_, _, pre0 _ (R407 _ ?_), hrun, hended, _, _, rfl, ?_, ⟨_, rfl⟩, hW, hsame.mono (by decide) (by decide)⟩
 ·exact X406.returnOut hx Bd.returns (hb hby d18_25) hr
 ·show Q_rm_rpi Z rp p2 φ cap h0 n0 _ T406.heap _
  rw [e406]
  exact ⟨f1, f2, f3, rfl, N406, Kw406, sz_f1, sz_f2, sz_f3, ⟨ne_rp_f1, ne_rp_f2, ne_rp_f3, ne_f1_f2, ne_f1_f3, ne_f2_f3, ga, g_f1, g_f2, g_f3⟩, E_rp_406, Gf_406, Gr_406, Gn_406, Gs_406, Gy_406, VG.new A1_406, VG.new A2_406, VG.new A3_406⟩
theorem d30_0 : oD k27 0 (.aload_n 0) 1 := by decide +kernel
theorem d30_1 : oD k27 1 (.getfield 7) 3 := by decide +kernel
theorem d30_4 : oD k27 4 (.aload_n 0) 1 := by decide +kernel
theorem d30_5 : oD k27 5 (.getfield 29) 3 := by decide +kernel
theorem d30_8 : oD k27 8 (.lload_n 1) 1 := by decide +kernel
theorem d30_9 : oD k27 9 .lastore 1 := by decide +kernel
theorem d30_10 : oD k27 10 (.aload_n 0) 1 := by decide +kernel
theorem d30_11 : oD k27 11 (.getfield 13) 3 := by decide +kernel
theorem d30_14 : oD k27 14 (.aload_n 0) 1 := by decide +kernel
theorem d30_15 : oD k27 15 (.getfield 29) 3 := by decide +kernel
theorem d30_18 : oD k27 18 (.iload_n 3) 1 := by decide +kernel
theorem d30_19 : oD k27 19 .iastore 1 := by decide +kernel
theorem d30_20 : oD k27 20 (.aload_n 0) 1 := by decide +kernel
theorem d30_21 : oD k27 21 (.getfield 17) 3 := by decide +kernel
theorem d30_24 : oD k27 24 (.aload_n 0) 1 := by decide +kernel
theorem d30_25 : oD k27 25 (.getfield 29) 3 := by decide +kernel
theorem d30_28 : oD k27 28 (.iload 4) 2 := by decide +kernel
theorem d30_30 : oD k27 30 .bastore 1 := by decide +kernel
theorem d30_31 : oD k27 31 (.aload_n 0) 1 := by decide +kernel
theorem d30_32 : oD k27 32 (.aload_n 0) 1 := by decide +kernel
theorem d30_33 : oD k27 33 (.getfield 25) 3 := by decide +kernel
theorem d30_36 : oD k27 36 (.ifCond .ne 8) 3 := by decide +kernel
theorem d30_44 : oD k27 44 (.iconst 1) 1 := by decide +kernel
theorem d30_45 : oD k27 45 (.goto 4) 3 := by decide +kernel
theorem d30_49 : oD k27 49 (.putfield 25) 3 := by decide +kernel
theorem d30_52 : oD k27 52 (.aload_n 0) 1 := by decide +kernel
theorem d30_53 : oD k27 53 .dup 1 := by decide +kernel
theorem d30_54 : oD k27 54 (.getfield 29) 3 := by decide +kernel
theorem d30_57 : oD k27 57 (.iconst 1) 1 := by decide +kernel
theorem d30_58 : oD k27 58 .iadd 1 := by decide +kernel
theorem d30_59 : oD k27 59 (.putfield 29) 3 := by decide +kernel
theorem d30_62 : oD k27 62 .return_ 1 := by decide +kernel
theorem d30_39 : oD k27 39 (.iload 4) 2 := by decide +kernel
theorem d30_41 : oD k27 41 (.ifCond .ne 7) 3 := by decide +kernel
theorem d30_48 : oD k27 48 (.iconst 0) 1 := by decide +kernel
theorem ef_rm_rpa (m : MethodId) (rp : Addr) (q2 : Int64) (p3 : Int32) (p4 : Int32) : entryFrame m #[(.ref rp), (.long q2), (.int p3), (.int p4)] 5 = mkF m 0 #[vR rp, vJ q2, .second, vI p3, vI p4] [] := by first | (simp [entryFrame, mkF, argsToLocals, Value.category]; done) | rfl
def Q_rm_rpa (Z : State) (rp : Addr) (q2 : Int64) (p3 : Int32) (p4 : Int32) (φ : Nat → Int64) (cap : Nat) (f1 : Addr) (f2 : Addr) (f3 : Addr) (fp : List Nat) (rw : List Nat) (nr : List Bool) (far : Bool) (r : Nat) (k : Nat) (nb : Bool) (h0 : Heap) (n0 : Nat) (v : Option Value) (h : Heap) (L : List Loc) : Prop := v = none ∧ Fr n0 L ∧ Keep h0 h [rp, f1, f2, f3] ∧ Exa Z h rp cR ∧ Fld Z h rp cR "fingerprints" "[J" (.ref f1) ∧ Fld Z h rp cR "rows" "[I" (.ref f2) ∧ Fld Z h rp cR "near" "[Z" (.ref f3) ∧ Fld Z h rp cR "size" "I" (.int (own_i ((fp ++ [r])).length)) ∧ Fld Z h rp cR "anyFar" "Z" (.int (own_b2 (far || !nb))) ∧ VG Z h f1 .long cap (fun r => .long (φ r)) 0 (fp ++ [r]) ∧ VG Z h f2 .int cap (fun r => .int (own_i r)) 0 (rw ++ [k]) ∧ VG Z h f3 .boolean cap (fun b => .int (own_b2 b)) false (nr ++ [nb])
set_option maxRecDepth 65536 in
set_option maxHeartbeats 40000000 in
theorem rm_rpa (l : Launch) (Z : State) (a0 : Array Value) (hw : ∀ d ∈ tables_1, d.before a0 Z = true) (ws : List Jvm.Cond) (rp : Addr) (q2 : Int64) (p3 : Int32) (p4 : Int32) (φ : Nat → Int64) (cap : Nat) (f1 : Addr) (f2 : Addr) (f3 : Addr) (fp : List Nat) (rw : List Nat) (nr : List Bool) (far : Bool) (r : Nat) (k : Nat) (nb : Bool) (h0 : Heap) (n0 : Nat) (Z0 : n0 ≤ h0.size) (Er : Exa Z h0 rp cR) (Gf : Fld Z h0 rp cR "fingerprints" "[J" (.ref f1)) (Gr : Fld Z h0 rp cR "rows" "[I" (.ref f2)) (Gn : Fld Z h0 rp cR "near" "[Z" (.ref f3)) (Gs : Fld Z h0 rp cR "size" "I" (.int (own_i (fp).length))) (Gy : Fld Z h0 rp cR "anyFar" "Z" (.int (own_b2 far))) (WF : VG Z h0 f1 .long cap (fun r => .long (φ r)) 0 fp) (WR : VG Z h0 f2 .int cap (fun r => .int (own_i r)) 0 rw) (WN : VG Z h0 f3 .boolean cap (fun b => .int (own_b2 b)) false nr) (RD : own_rd n0 rp f1 f2 f3) (hq : q2 = φ r) (hp3 : p3 = own_i k) (hp4 : p4 = own_b2 nb) (hl : fp.length < cap) (hc : cap ≤ 4) (h1 : rw.length = fp.length) (h2 : nr.length = fp.length) :
  MetFree l (⟨cR, "add", "(JIZ)V"⟩ : MethodName) (head1 (Jvm.Cond.code (⟨cR, "add", "(JIZ)V"⟩ : MethodName) prog_43_method_6_code 5 none :: ws) rM0) (fun a U => a = #[(.ref rp), (.long q2), (.int p3), (.int p4)] ∧ Z.Warmed39 U.vm ∧ U.heap = h0) (fun _ _ _ _ _ => True) (fun _ U oC U' => ∃ v L, oC = .returned v ∧ Q_rm_rpa Z rp q2 p3 p4 φ cap f1 f2 f3 fp rw nr far r k nb h0 n0 v U'.heap L ∧ FrameEnd U oC U' L rM0.cells rM0.slots) := by
 refine MetFree.of_bodySF (plainFor_of_name pn_5) hisR ?_
 intro p e s m args below meth c s₁ Bd hml0 hP hK
 obtain ⟨rfl, hZ, hh⟩ := hP
 have hx := Bd.exec
 have hby := Bd.bytes
 have hml : c.maxLocals = 5 := hml0
 have hown : s.vm.findClass cR = some m.cls := findClass_of_methodNamed Bd.named
 have hnm := (name_of_methodNamed Bd.named Bd.method).1
 have X0 : Stand p l e rM0 s m #[(.ref rp), (.long q2), (.int p3), (.int p4)] below meth c s₁ [] 0 0 := Stand.of_body Bd
 have e0 : s₁.heap = h0 := by rw [← hh, Bd.state]; rfl
 have N0 := Fr.nil n0
 have pre0 : Sq p e below (s₁.setTop (mkF m 0 #[vR rp, vJ q2, .second, vI p3, vI p4] [])) (s₁.setTop (entryFrame m #[(.ref rp), (.long q2), (.int p3), (.int p4)] 5)) := fun t k => castTop (ef_rm_rpa m rp q2 p3 p4) k
 have pre00 : Sq p e below (s₁.setTop (mkF m 0 #[vR rp, vJ q2, .second, vI p3, vI p4] [])) (s₁.setTop (mkF m 0 #[vR rp, vJ q2, .second, vI p3, vI p4] [])) := fun _ k => k
 obtain ⟨ne_rp_f1, ne_rp_f2, ne_rp_f3, ne_f1_f2, ne_f1_f3, ne_f2_f3, g_rp, g_f1, g_f2, g_f3⟩ := id RD
 have hf4 : fp.length ≤ 4 := Nat.le_of_lt (Nat.lt_of_lt_of_le hl hc)
 obtain ⟨i0, ik⟩ := own_ic (own_4i hf4)
 have ik1 : (own_i fp.length).toNatClampNeg = rw.length := ik.trans h1.symm
 have ik2 : (own_i fp.length).toNatClampNeg = nr.length := ik.trans h2.symm
 have hl1 : rw.length < cap := by rw [h1]; exact hl
 have hl2 : nr.length < cap := by rw [h2]; exact hl
 have R408 := fun (tg : State) (kt : Steps p.tables e below (s₁.setTop (mkF m 0 #[vR rp, vJ (φ r), .second, vI (own_i k), vI (own_b2 nb)] [])) tg) => pre00 tg (by rw [hq, hp3, hp4]; exact kt)
 have R409 := fun (tg : State) (kt : Steps p.tables e below (s₁.setTop (mkF m 1 #[vR rp, vJ (φ r), .second, vI (own_i k), vI (own_b2 nb)] [(.ref rp)])) tg) => R408 tg (by
  show Steps _ _ _ (s₁.setTop (mkF m 0 #[vR rp, vJ (φ r), .second, vI (own_i k), vI (own_b2 nb)] [])) _
  refine XS.aloadN X0.here hx rfl (hb hby d30_0) rfl rfl ?_
  exact kt)
 clear R408
 obtain ⟨T410, X410, e410, st410⟩ := getF X0 hx hZ hown (host := "") (Or.inl (oW hw 98 rfl)) Via.refl e0 Gf (g := (mkF m 1 #[vR rp, vJ (φ r), .second, vI (own_i k), vI (own_b2 nb)] [(.ref rp)])) rfl rfl (hb hby d30_1)
 have R411 := fun (tg : State) (kt : Steps p.tables e below (T410.setTop (mkF m 5 #[vR rp, vJ (φ r), .second, vI (own_i k), vI (own_b2 nb)] [(.ref rp), (.ref f1)])) tg) => R409 tg (by
  refine st410 _ ?_
  refine XS.aloadN X410.here hx rfl (hb hby d30_4) rfl rfl ?_
  exact kt)
 clear R409 st410
 obtain ⟨T412, X412, e412, st412⟩ := getF X410 hx hZ hown (host := "") (Or.inl (oW hw 126 rfl)) Via.refl e410 Gs (g := (mkF m 5 #[vR rp, vJ (φ r), .second, vI (own_i k), vI (own_b2 nb)] [(.ref rp), (.ref f1)])) rfl rfl (hb hby d30_5)
 have R413 := fun (tg : State) (kt : Steps p.tables e below (T412.setTop (mkF m 9 #[vR rp, vJ (φ r), .second, vI (own_i k), vI (own_b2 nb)] [(.long (φ r)), (.int (own_i fp.length)), (.ref f1)])) tg) => R411 tg (by
  refine st412 _ ?_
  refine XS.lloadN X412.here hx rfl (hb hby d30_8) rfl ?_
  exact kt)
 clear R411 st412
 obtain ⟨cl414, Ar414, hin414⟩ := WF.room (j := (own_i fp.length)) (k := fp.length) i0 ik hl
 obtain ⟨T415, h415, X415, e415, W415, st415⟩ := stJ X412 hx hZ e412 Ar414 (j := (own_i fp.length)) hin414 (g := (mkF m 9 #[vR rp, vJ (φ r), .second, vI (own_i k), vI (own_b2 nb)] [(.long (φ r)), (.int (own_i fp.length)), (.ref f1)])) rfl rfl (hb hby d30_9)
 have N415 := Fr.snoc X415 N0 g_f1
 rw [show ((own_i fp.length) : Int32).toNatClampNeg = fp.length from ik] at W415
 have WF_415 : VG Z h415 f1 .long cap (fun r => .long (φ r)) 0 (fp ++ [r]) := WF.push (r := r) W415 hl rfl
 have E_rp_415 := Er.wr W415
 have Gf_415 := Gf.other W415 (Or.inl ne_rp_f1)
 have Gr_415 := Gr.other W415 (Or.inl ne_rp_f1)
 have Gn_415 := Gn.other W415 (Or.inl ne_rp_f1)
 have Gs_415 := Gs.other W415 (Or.inl ne_rp_f1)
 have Gy_415 := Gy.other W415 (Or.inl ne_rp_f1)
 have WR_415 := WR.other W415 (Ne.symm ne_f1_f2)
 have WN_415 := WN.other W415 (Ne.symm ne_f1_f3)
 have Zs415 : n0 ≤ h415.size := Nat.le_trans Z0 (Keep.of_wr W415).1
 have Kw415 : Keep h0 h415 [rp, f1, f2, f3] := Keep.wr (Keep.refl h0 [rp, f1, f2, f3]) W415 (Or.inl (List.mem_of_getElem? (i := 1) rfl))
 have R416 := fun (tg : State) (kt : Steps p.tables e below (T415.setTop (mkF m 11 #[vR rp, vJ (φ r), .second, vI (own_i k), vI (own_b2 nb)] [(.ref rp)])) tg) => R413 tg (by
  refine st415 _ ?_
  refine XS.aloadN X415.here hx rfl (hb hby d30_10) rfl rfl ?_
  exact kt)
 clear R413 st415
 obtain ⟨T417, X417, e417, st417⟩ := getF X415 hx hZ hown (host := "") (Or.inl (oW hw 101 rfl)) Via.refl e415 Gr_415 (g := (mkF m 11 #[vR rp, vJ (φ r), .second, vI (own_i k), vI (own_b2 nb)] [(.ref rp)])) rfl rfl (hb hby d30_11)
 have R418 := fun (tg : State) (kt : Steps p.tables e below (T417.setTop (mkF m 15 #[vR rp, vJ (φ r), .second, vI (own_i k), vI (own_b2 nb)] [(.ref rp), (.ref f2)])) tg) => R416 tg (by
  refine st417 _ ?_
  show Steps _ _ _ (T417.setTop (mkF m 14 #[vR rp, vJ (φ r), .second, vI (own_i k), vI (own_b2 nb)] [(.ref f2)])) _
  refine XS.aloadN X417.here hx rfl (hb hby d30_14) rfl rfl ?_
  exact kt)
 clear R416 st417
 obtain ⟨T419, X419, e419, st419⟩ := getF X417 hx hZ hown (host := "") (Or.inl (oW hw 126 rfl)) Via.refl e417 Gs_415 (g := (mkF m 15 #[vR rp, vJ (φ r), .second, vI (own_i k), vI (own_b2 nb)] [(.ref rp), (.ref f2)])) rfl rfl (hb hby d30_15)
 have R420 := fun (tg : State) (kt : Steps p.tables e below (T419.setTop (mkF m 19 #[vR rp, vJ (φ r), .second, vI (own_i k), vI (own_b2 nb)] [(.int (own_i k)), (.int (own_i fp.length)), (.ref f2)])) tg) => R418 tg (by
  refine st419 _ ?_
  refine XS.iloadN X419.here hx rfl (hb hby d30_18) rfl ?_
  exact kt)
 clear R418 st419
 obtain ⟨cl421, Ar421, hin421⟩ := WR_415.room (j := (own_i fp.length)) (k := rw.length) i0 ik1 hl1
 obtain ⟨T422, h422, X422, e422, W422, st422⟩ := stI X419 hx hZ e419 Ar421 (j := (own_i fp.length)) hin421 (g := (mkF m 19 #[vR rp, vJ (φ r), .second, vI (own_i k), vI (own_b2 nb)] [(.int (own_i k)), (.int (own_i fp.length)), (.ref f2)])) rfl rfl (hb hby d30_19)
 have N422 := Fr.snoc X422 N415 g_f2
 rw [show ((own_i fp.length) : Int32).toNatClampNeg = rw.length from ik1] at W422
 have WR_422 : VG Z h422 f2 .int cap (fun r => .int (own_i r)) 0 (rw ++ [k]) := WR_415.push (r := k) W422 hl1 rfl
 have E_rp_422 := E_rp_415.wr W422
 have Gf_422 := Gf_415.other W422 (Or.inl ne_rp_f2)
 have Gr_422 := Gr_415.other W422 (Or.inl ne_rp_f2)
 have Gn_422 := Gn_415.other W422 (Or.inl ne_rp_f2)
 have Gs_422 := Gs_415.other W422 (Or.inl ne_rp_f2)
 have Gy_422 := Gy_415.other W422 (Or.inl ne_rp_f2)
 have WF_422 := WF_415.other W422 ne_f1_f2
 have WN_422 := WN_415.other W422 (Ne.symm ne_f2_f3)
 clear E_rp_415 Gf_415 Gr_415 Gn_415 Gs_415 Gy_415 WF_415 WN_415
 have Zs422 : n0 ≤ h422.size := Nat.le_trans Zs415 (Keep.of_wr W422).1
 have Kw422 : Keep h0 h422 [rp, f1, f2, f3] := Keep.wr Kw415 W422 (Or.inl (List.mem_of_getElem? (i := 2) rfl))
 have R423 := fun (tg : State) (kt : Steps p.tables e below (T422.setTop (mkF m 21 #[vR rp, vJ (φ r), .second, vI (own_i k), vI (own_b2 nb)] [(.ref rp)])) tg) => R420 tg (by
  refine st422 _ ?_
  refine XS.aloadN X422.here hx rfl (hb hby d30_20) rfl rfl ?_
  exact kt)
 clear R420 st422
 obtain ⟨T424, X424, e424, st424⟩ := getF X422 hx hZ hown (host := "") (Or.inl (oW hw 103 rfl)) Via.refl e422 Gn_422 (g := (mkF m 21 #[vR rp, vJ (φ r), .second, vI (own_i k), vI (own_b2 nb)] [(.ref rp)])) rfl rfl (hb hby d30_21)
 have R425 := fun (tg : State) (kt : Steps p.tables e below (T424.setTop (mkF m 25 #[vR rp, vJ (φ r), .second, vI (own_i k), vI (own_b2 nb)] [(.ref rp), (.ref f3)])) tg) => R423 tg (by
  refine st424 _ ?_
  refine XS.aloadN X424.here hx rfl (hb hby d30_24) rfl rfl ?_
  exact kt)
 clear R423 st424
 obtain ⟨T426, X426, e426, st426⟩ := getF X424 hx hZ hown (host := "") (Or.inl (oW hw 126 rfl)) Via.refl e424 Gs_422 (g := (mkF m 25 #[vR rp, vJ (φ r), .second, vI (own_i k), vI (own_b2 nb)] [(.ref rp), (.ref f3)])) rfl rfl (hb hby d30_25)
 have R427 := fun (tg : State) (kt : Steps p.tables e below (T426.setTop (mkF m 30 #[vR rp, vJ (φ r), .second, vI (own_i k), vI (own_b2 nb)] [(.int (own_b2 nb)), (.int (own_i fp.length)), (.ref f3)])) tg) => R425 tg (by
  refine st426 _ ?_
  show Steps _ _ _ (T426.setTop (mkF m 28 #[vR rp, vJ (φ r), .second, vI (own_i k), vI (own_b2 nb)] [(.int (own_i fp.length)), (.ref f3)])) _
  refine XS.iload X426.here hx rfl (hb hby d30_28) rfl ?_
  exact kt)
 clear R425 st426
 obtain ⟨cl428, Ar428, hin428⟩ := WN_422.room (j := (own_i fp.length)) (k := nr.length) i0 ik2 hl2
 obtain ⟨T429, h429, X429, e429, W429, st429⟩ := stZ X426 hx hZ e426 Ar428 (j := (own_i fp.length)) hin428 (g := (mkF m 30 #[vR rp, vJ (φ r), .second, vI (own_i k), vI (own_b2 nb)] [(.int (own_b2 nb)), (.int (own_i fp.length)), (.ref f3)])) rfl rfl (hb hby d30_30)
 have N429 := Fr.snoc X429 N422 g_f3
 rw [show ((own_i fp.length) : Int32).toNatClampNeg = nr.length from ik2] at W429
 rw [(own_b2n nb).1] at W429
 have WN_429 : VG Z h429 f3 .boolean cap (fun b => .int (own_b2 b)) false (nr ++ [nb]) := WN_422.push (r := nb) W429 hl2 (own_b2n nb).2
 have E_rp_429 := E_rp_422.wr W429
 have Gf_429 := Gf_422.other W429 (Or.inl ne_rp_f3)
 have Gr_429 := Gr_422.other W429 (Or.inl ne_rp_f3)
 have Gn_429 := Gn_422.other W429 (Or.inl ne_rp_f3)
 have Gs_429 := Gs_422.other W429 (Or.inl ne_rp_f3)
 have Gy_429 := Gy_422.other W429 (Or.inl ne_rp_f3)
 have WF_429 := WF_422.other W429 ne_f1_f3
 have WR_429 := WR_422.other W429 ne_f2_f3
 clear E_rp_422 Gf_422 Gr_422 Gn_422 Gs_422 Gy_422 WF_422 WR_422
 have Zs429 : n0 ≤ h429.size := Nat.le_trans Zs422 (Keep.of_wr W429).1
 have Kw429 : Keep h0 h429 [rp, f1, f2, f3] := Keep.wr Kw422 W429 (Or.inl (List.mem_of_getElem? (i := 3) rfl))
 have R430 := fun (tg : State) (kt : Steps p.tables e below (T429.setTop (mkF m 33 #[vR rp, vJ (φ r), .second, vI (own_i k), vI (own_b2 nb)] [(.ref rp), (.ref rp)])) tg) => R427 tg (by
  refine st429 _ ?_
  refine XS.aloadN X429.here hx rfl (hb hby d30_31) rfl rfl ?_
  refine XS.aloadN X429.here hx rfl (hb hby d30_32) rfl rfl ?_
  exact kt)
 clear R427 st429
 obtain ⟨T431, X431, e431, st431⟩ := getF X429 hx hZ hown (host := "") (Or.inl (oW hw 149 rfl)) Via.refl e429 Gy_429 (g := (mkF m 33 #[vR rp, vJ (φ r), .second, vI (own_i k), vI (own_b2 nb)] [(.ref rp), (.ref rp)])) rfl rfl (hb hby d30_33)
 have R432 := fun (tg : State) (kt : Steps p.tables e below (T431.setTop (mkF m 36 #[vR rp, vJ (φ r), .second, vI (own_i k), vI (own_b2 nb)] [(.int (own_b2 far)), (.ref rp)])) tg) => R430 tg (by
  refine st431 _ ?_
  exact kt)
 clear R430 st431
 by_cases hy : (own_b2 far) = (0 : Int32)
 ·have R441 := fun (tg : State) (kt : Steps p.tables e below (T431.setTop (mkF m 41 #[vR rp, vJ (φ r), .second, vI (own_i k), vI (own_b2 nb)] [(.int (own_b2 nb)), (.ref rp)])) tg) => R432 tg (by
   show Steps _ _ _ (T431.setTop (mkF m 36 #[vR rp, vJ (φ r), .second, vI (own_i k), vI (own_b2 nb)] [(.int (own_b2 far)), (.ref rp)])) _
   refine XS.ifNo X431.here hx rfl (hb hby d30_36) rfl ((if0 _ _).trans (teq (hy : (own_b2 far) = (0 : Int32))).2) ?_
   refine XS.iload X431.here hx rfl (hb hby d30_39) rfl ?_
   exact kt)
  clear R432
  by_cases hn : (own_b2 nb) = (0 : Int32)
  ·have R442 := fun (tg : State) (kt : Steps p.tables e below (T431.setTop (mkF m 49 #[vR rp, vJ (φ r), .second, vI (own_i k), vI (own_b2 nb)] [(.int (1 : Int32)), (.ref rp)])) tg) => R441 tg (by
    show Steps _ _ _ (T431.setTop (mkF m 41 #[vR rp, vJ (φ r), .second, vI (own_i k), vI (own_b2 nb)] [(.int (own_b2 nb)), (.ref rp)])) _
    refine XS.ifNo X431.here hx rfl (hb hby d30_41) rfl ((if0 _ _).trans (teq (hn : (own_b2 nb) = (0 : Int32))).2) ?_
    refine XS.iconst X431.here hx rfl (hb hby d30_44) ?_
    show Steps _ _ _ (T431.setTop (mkF m 45 #[vR rp, vJ (φ r), .second, vI (own_i k), vI (own_b2 nb)] [(.int (1 : Int32)), (.ref rp)])) _
    refine XS.goto X431.here hx rfl (pc0 := 45) (pc' := 49) rfl (hb hby d30_45) (by decide) (by decide) ?_
    exact kt)
   clear R441
   have eY : own_b2 (far || !nb) = (1 : Int32) := by rw [(own_b2z _).mp hy, (own_b2z _).mp hn]; rfl
   have R443 := fun (tg : State) (kt : Steps p.tables e below (T431.setTop (mkF m 49 #[vR rp, vJ (φ r), .second, vI (own_i k), vI (own_b2 nb)] [(.int (own_b2 (far || !nb))), (.ref rp)])) tg) => R442 tg (by rw [eY] at kt; exact kt)
   clear R442
   obtain ⟨T444, h444, X444, e444, W444, st444⟩ := putF X431 hx hZ hown (host := "") (Or.inl (oW hw 149 rfl)) Via.refl e431 Gy_429 E_rp_429 (Or.inl (oW hw 150 rfl)) (oW hw 92 rfl) (ty := .boolean) (by decide) (own_b2nr _) (own_b2n _).2 (g := (mkF m 49 #[vR rp, vJ (φ r), .second, vI (own_i k), vI (own_b2 nb)] [(.int (own_b2 (far || !nb))), (.ref rp)])) rfl rfl (hb hby d30_49)
   have N444 := Fr.snoc X444 N429 g_rp
   have Gy_444 := Gy_429.same W444
   have E_rp_444 := E_rp_429.wr W444
   have Gf_444 := Gf_429.other W444 (Or.inr (slot_ne (Or.inr (oW hw 99 rfl)) (Or.inl (oW hw 150 rfl)) (by decide) (t := (.array .long)) (t' := .boolean) (by decide) (by decide)))
   have Gr_444 := Gr_429.other W444 (Or.inr (slot_ne (Or.inr (oW hw 102 rfl)) (Or.inl (oW hw 150 rfl)) (by decide) (t := (.array .int)) (t' := .boolean) (by decide) (by decide)))
   have Gn_444 := Gn_429.other W444 (Or.inr (slot_ne (Or.inr (oW hw 104 rfl)) (Or.inl (oW hw 150 rfl)) (by decide) (t := (.array .boolean)) (t' := .boolean) (by decide) (by decide)))
   have Gs_444 := Gs_429.other W444 (Or.inr (slot_ne (Or.inl (oW hw 127 rfl)) (Or.inl (oW hw 150 rfl)) (by decide) (t := .int) (t' := .boolean) (by decide) (by decide)))
   have WF_444 := WF_429.other W444 (Ne.symm ne_rp_f1)
   have WR_444 := WR_429.other W444 (Ne.symm ne_rp_f2)
   have WN_444 := WN_429.other W444 (Ne.symm ne_rp_f3)
   clear E_rp_429 Gf_429 Gr_429 Gn_429 Gs_429 WF_429 WR_429 WN_429
   have Zs444 : n0 ≤ h444.size := Nat.le_trans Zs429 (Keep.of_wr W444).1
   have Kw444 : Keep h0 h444 [rp, f1, f2, f3] := Keep.wr Kw429 W444 (Or.inl (List.mem_of_getElem? (i := 0) rfl))
   have R445 := fun (tg : State) (kt : Steps p.tables e below (T444.setTop (mkF m 54 #[vR rp, vJ (φ r), .second, vI (own_i k), vI (own_b2 nb)] [(.ref rp), (.ref rp)])) tg) => R443 tg (by
    refine st444 _ ?_
    refine XS.aloadN X444.here hx rfl (hb hby d30_52) rfl rfl ?_
    refine XS.dup X444.here hx rfl (hb hby d30_53) rfl rfl ?_
    exact kt)
   clear R443 st444
   obtain ⟨T446, X446, e446, st446⟩ := getF X444 hx hZ hown (host := "") (Or.inl (oW hw 126 rfl)) Via.refl e444 Gs_444 (g := (mkF m 54 #[vR rp, vJ (φ r), .second, vI (own_i k), vI (own_b2 nb)] [(.ref rp), (.ref rp)])) rfl rfl (hb hby d30_54)
   have R447 := fun (tg : State) (kt : Steps p.tables e below (T446.setTop (mkF m 59 #[vR rp, vJ (φ r), .second, vI (own_i k), vI (own_b2 nb)] [(.int ((own_i fp.length) + (1 : Int32))), (.ref rp)])) tg) => R445 tg (by
    refine st446 _ ?_
    refine XS.iconst X446.here hx rfl (hb hby d30_57) ?_
    show Steps _ _ _ (T446.setTop (mkF m 58 #[vR rp, vJ (φ r), .second, vI (own_i k), vI (own_b2 nb)] [(.int (1 : Int32)), (.int (own_i fp.length)), (.ref rp)])) _
    refine XS.iadd X446.here hx rfl (hb hby d30_58) rfl ?_
    exact kt)
   clear R445 st446
   obtain ⟨T448, h448, X448, e448, W448, st448⟩ := putF X446 hx hZ hown (host := "") (Or.inl (oW hw 126 rfl)) Via.refl e446 Gs_444 E_rp_444 (Or.inl (oW hw 127 rfl)) (oW hw 92 rfl) (ty := .int) (by decide) rfl rfl (g := (mkF m 59 #[vR rp, vJ (φ r), .second, vI (own_i k), vI (own_b2 nb)] [(.int ((own_i fp.length) + (1 : Int32))), (.ref rp)])) rfl rfl (hb hby d30_59)
   have N448 := Fr.snoc X448 N444 g_rp
   have Gs_448 := Gs_444.same W448
   have E_rp_448 := E_rp_444.wr W448
   have Gf_448 := Gf_444.other W448 (Or.inr (slot_ne (Or.inr (oW hw 99 rfl)) (Or.inl (oW hw 127 rfl)) (by decide) (t := (.array .long)) (t' := .int) (by decide) (by decide)))
   have Gr_448 := Gr_444.other W448 (Or.inr (slot_ne (Or.inr (oW hw 102 rfl)) (Or.inl (oW hw 127 rfl)) (by decide) (t := (.array .int)) (t' := .int) (by decide) (by decide)))
   have Gn_448 := Gn_444.other W448 (Or.inr (slot_ne (Or.inr (oW hw 104 rfl)) (Or.inl (oW hw 127 rfl)) (by decide) (t := (.array .boolean)) (t' := .int) (by decide) (by decide)))
   have Gy_448 := Gy_444.other W448 (Or.inr (slot_ne (Or.inl (oW hw 150 rfl)) (Or.inl (oW hw 127 rfl)) (by decide) (t := .boolean) (t' := .int) (by decide) (by decide)))
   have WF_448 := WF_444.other W448 (Ne.symm ne_rp_f1)
   have WR_448 := WR_444.other W448 (Ne.symm ne_rp_f2)
   have WN_448 := WN_444.other W448 (Ne.symm ne_rp_f3)
   clear E_rp_444 Gf_444 Gr_444 Gn_444 Gy_444 WF_444 WR_444 WN_444
   have Zs448 : n0 ≤ h448.size := Nat.le_trans Zs444 (Keep.of_wr W448).1
   have Kw448 : Keep h0 h448 [rp, f1, f2, f3] := Keep.wr Kw444 W448 (Or.inl (List.mem_of_getElem? (i := 0) rfl))
   have R449 := fun (tg : State) (kt : Steps p.tables e below (T448.setTop (mkF m 62 #[vR rp, vJ (φ r), .second, vI (own_i k), vI (own_b2 nb)] [])) tg) => R447 tg (by
    refine st448 _ ?_
    exact kt)
   clear R447 st448
   have Gsz : Fld Z h448 rp cR "size" "I" (.int (own_i ((fp ++ [r])).length)) := by have q := Gs_448; rw [own_lenr (r := r) hf4] at q; exact q
   obtain ⟨fs, hr, hrun, hended, hW, hsame⟩ := X448.leave (v := none) (fun _ => rfl)
   refine ⟨_, _, pre0 _ (R449 _ ?_), hrun, hended, _, _, rfl, ?_, ⟨_, rfl⟩, hW, hsame.mono (by decide) (by decide)⟩
   ·exact X448.returnOut hx Bd.returns (hb hby d30_62) hr
   ·show Q_rm_rpa Z rp q2 p3 p4 φ cap f1 f2 f3 fp rw nr far r k nb h0 n0 _ T448.heap _
    rw [e448]
    exact ⟨rfl, N448, Kw448, E_rp_448, Gf_448, Gr_448, Gn_448, Gsz, Gy_448, WF_448, WR_448, WN_448⟩
  ·have R450 := fun (tg : State) (kt : Steps p.tables e below (T431.setTop (mkF m 49 #[vR rp, vJ (φ r), .second, vI (own_i k), vI (own_b2 nb)] [(.int (0 : Int32)), (.ref rp)])) tg) => R441 tg (by
    show Steps _ _ _ (T431.setTop (mkF m 41 #[vR rp, vJ (φ r), .second, vI (own_i k), vI (own_b2 nb)] [(.int (own_b2 nb)), (.ref rp)])) _
    refine XS.ifYes X431.here hx rfl (pc0 := 41) (pc' := 48) rfl (hb hby d30_41) rfl ((if0 _ _).trans (feq (hn : ¬ ((own_b2 nb) = (0 : Int32)))).2) (by decide) (by decide) ?_
    refine XS.iconst X431.here hx rfl (hb hby d30_48) ?_
    exact kt)
   clear R441
   have eY : own_b2 (far || !nb) = (0 : Int32) := by rw [(own_b2z _).mp hy, own_b2t hn]; rfl
   have R451 := fun (tg : State) (kt : Steps p.tables e below (T431.setTop (mkF m 49 #[vR rp, vJ (φ r), .second, vI (own_i k), vI (own_b2 nb)] [(.int (own_b2 (far || !nb))), (.ref rp)])) tg) => R450 tg (by rw [eY] at kt; exact kt)
   clear R450
   obtain ⟨T452, h452, X452, e452, W452, st452⟩ := putF X431 hx hZ hown (host := "") (Or.inl (oW hw 149 rfl)) Via.refl e431 Gy_429 E_rp_429 (Or.inl (oW hw 150 rfl)) (oW hw 92 rfl) (ty := .boolean) (by decide) (own_b2nr _) (own_b2n _).2 (g := (mkF m 49 #[vR rp, vJ (φ r), .second, vI (own_i k), vI (own_b2 nb)] [(.int (own_b2 (far || !nb))), (.ref rp)])) rfl rfl (hb hby d30_49)
   have N452 := Fr.snoc X452 N429 g_rp
   have Gy_452 := Gy_429.same W452
   have E_rp_452 := E_rp_429.wr W452
   have Gf_452 := Gf_429.other W452 (Or.inr (slot_ne (Or.inr (oW hw 99 rfl)) (Or.inl (oW hw 150 rfl)) (by decide) (t := (.array .long)) (t' := .boolean) (by decide) (by decide)))
   have Gr_452 := Gr_429.other W452 (Or.inr (slot_ne (Or.inr (oW hw 102 rfl)) (Or.inl (oW hw 150 rfl)) (by decide) (t := (.array .int)) (t' := .boolean) (by decide) (by decide)))
   have Gn_452 := Gn_429.other W452 (Or.inr (slot_ne (Or.inr (oW hw 104 rfl)) (Or.inl (oW hw 150 rfl)) (by decide) (t := (.array .boolean)) (t' := .boolean) (by decide) (by decide)))
   have Gs_452 := Gs_429.other W452 (Or.inr (slot_ne (Or.inl (oW hw 127 rfl)) (Or.inl (oW hw 150 rfl)) (by decide) (t := .int) (t' := .boolean) (by decide) (by decide)))
   have WF_452 := WF_429.other W452 (Ne.symm ne_rp_f1)
   have WR_452 := WR_429.other W452 (Ne.symm ne_rp_f2)
   have WN_452 := WN_429.other W452 (Ne.symm ne_rp_f3)
   clear E_rp_429 Gf_429 Gr_429 Gn_429 Gs_429 WF_429 WR_429 WN_429
   have Zs452 : n0 ≤ h452.size := Nat.le_trans Zs429 (Keep.of_wr W452).1
   have Kw452 : Keep h0 h452 [rp, f1, f2, f3] := Keep.wr Kw429 W452 (Or.inl (List.mem_of_getElem? (i := 0) rfl))
   have R453 := fun (tg : State) (kt : Steps p.tables e below (T452.setTop (mkF m 54 #[vR rp, vJ (φ r), .second, vI (own_i k), vI (own_b2 nb)] [(.ref rp), (.ref rp)])) tg) => R451 tg (by
    refine st452 _ ?_
    refine XS.aloadN X452.here hx rfl (hb hby d30_52) rfl rfl ?_
    refine XS.dup X452.here hx rfl (hb hby d30_53) rfl rfl ?_
    exact kt)
   clear R451 st452
   obtain ⟨T454, X454, e454, st454⟩ := getF X452 hx hZ hown (host := "") (Or.inl (oW hw 126 rfl)) Via.refl e452 Gs_452 (g := (mkF m 54 #[vR rp, vJ (φ r), .second, vI (own_i k), vI (own_b2 nb)] [(.ref rp), (.ref rp)])) rfl rfl (hb hby d30_54)
   have R455 := fun (tg : State) (kt : Steps p.tables e below (T454.setTop (mkF m 59 #[vR rp, vJ (φ r), .second, vI (own_i k), vI (own_b2 nb)] [(.int ((own_i fp.length) + (1 : Int32))), (.ref rp)])) tg) => R453 tg (by
    refine st454 _ ?_
    show Steps _ _ _ (T454.setTop (mkF m 57 #[vR rp, vJ (φ r), .second, vI (own_i k), vI (own_b2 nb)] [(.int (own_i fp.length)), (.ref rp)])) _
    refine XS.iconst X454.here hx rfl (hb hby d30_57) ?_
    show Steps _ _ _ (T454.setTop (mkF m 58 #[vR rp, vJ (φ r), .second, vI (own_i k), vI (own_b2 nb)] [(.int (1 : Int32)), (.int (own_i fp.length)), (.ref rp)])) _
    refine XS.iadd X454.here hx rfl (hb hby d30_58) rfl ?_
    exact kt)
   clear R453 st454
   obtain ⟨T456, h456, X456, e456, W456, st456⟩ := putF X454 hx hZ hown (host := "") (Or.inl (oW hw 126 rfl)) Via.refl e454 Gs_452 E_rp_452 (Or.inl (oW hw 127 rfl)) (oW hw 92 rfl) (ty := .int) (by decide) rfl rfl (g := (mkF m 59 #[vR rp, vJ (φ r), .second, vI (own_i k), vI (own_b2 nb)] [(.int ((own_i fp.length) + (1 : Int32))), (.ref rp)])) rfl rfl (hb hby d30_59)
   have N456 := Fr.snoc X456 N452 g_rp
   have Gs_456 := Gs_452.same W456
   have E_rp_456 := E_rp_452.wr W456
   have Gf_456 := Gf_452.other W456 (Or.inr (slot_ne (Or.inr (oW hw 99 rfl)) (Or.inl (oW hw 127 rfl)) (by decide) (t := (.array .long)) (t' := .int) (by decide) (by decide)))
   have Gr_456 := Gr_452.other W456 (Or.inr (slot_ne (Or.inr (oW hw 102 rfl)) (Or.inl (oW hw 127 rfl)) (by decide) (t := (.array .int)) (t' := .int) (by decide) (by decide)))
   have Gn_456 := Gn_452.other W456 (Or.inr (slot_ne (Or.inr (oW hw 104 rfl)) (Or.inl (oW hw 127 rfl)) (by decide) (t := (.array .boolean)) (t' := .int) (by decide) (by decide)))
   have Gy_456 := Gy_452.other W456 (Or.inr (slot_ne (Or.inl (oW hw 150 rfl)) (Or.inl (oW hw 127 rfl)) (by decide) (t := .boolean) (t' := .int) (by decide) (by decide)))
   have WF_456 := WF_452.other W456 (Ne.symm ne_rp_f1)
   have WR_456 := WR_452.other W456 (Ne.symm ne_rp_f2)
   have WN_456 := WN_452.other W456 (Ne.symm ne_rp_f3)
   clear E_rp_452 Gf_452 Gr_452 Gn_452 Gy_452 WF_452 WR_452 WN_452
   have Zs456 : n0 ≤ h456.size := Nat.le_trans Zs452 (Keep.of_wr W456).1
   have Kw456 : Keep h0 h456 [rp, f1, f2, f3] := Keep.wr Kw452 W456 (Or.inl (List.mem_of_getElem? (i := 0) rfl))
   have R457 := fun (tg : State) (kt : Steps p.tables e below (T456.setTop (mkF m 62 #[vR rp, vJ (φ r), .second, vI (own_i k), vI (own_b2 nb)] [])) tg) => R455 tg (by
    refine st456 _ ?_
    exact kt)
   clear R455 st456
   have Gsz : Fld Z h456 rp cR "size" "I" (.int (own_i ((fp ++ [r])).length)) := by have q := Gs_456; rw [own_lenr (r := r) hf4] at q; exact q
   obtain ⟨fs, hr, hrun, hended, hW, hsame⟩ := X456.leave (v := none) (fun _ => rfl)
   refine ⟨_, _, pre0 _ (R457 _ ?_), hrun, hended, _, _, rfl, ?_, ⟨_, rfl⟩, hW, hsame.mono (by decide) (by decide)⟩
   ·exact X456.returnOut hx Bd.returns (hb hby d30_62) hr
   ·show Q_rm_rpa Z rp q2 p3 p4 φ cap f1 f2 f3 fp rw nr far r k nb h0 n0 _ T456.heap _
    rw [e456]
    exact ⟨rfl, N456, Kw456, E_rp_456, Gf_456, Gr_456, Gn_456, Gsz, Gy_456, WF_456, WR_456, WN_456⟩
 ·have R433 := fun (tg : State) (kt : Steps p.tables e below (T431.setTop (mkF m 49 #[vR rp, vJ (φ r), .second, vI (own_i k), vI (own_b2 nb)] [(.int (1 : Int32)), (.ref rp)])) tg) => R432 tg (by
   show Steps _ _ _ (T431.setTop (mkF m 36 #[vR rp, vJ (φ r), .second, vI (own_i k), vI (own_b2 nb)] [(.int (own_b2 far)), (.ref rp)])) _
   refine XS.ifYes X431.here hx rfl (pc0 := 36) (pc' := 44) rfl (hb hby d30_36) rfl ((if0 _ _).trans (feq (hy : ¬ ((own_b2 far) = (0 : Int32)))).2) (by decide) (by decide) ?_
   refine XS.iconst X431.here hx rfl (hb hby d30_44) ?_
   show Steps _ _ _ (T431.setTop (mkF m 45 #[vR rp, vJ (φ r), .second, vI (own_i k), vI (own_b2 nb)] [(.int (1 : Int32)), (.ref rp)])) _
   refine XS.goto X431.here hx rfl (pc0 := 45) (pc' := 49) rfl (hb hby d30_45) (by decide) (by decide) ?_
   exact kt)
  clear R432
  have eY : own_b2 (far || !nb) = (1 : Int32) := by rw [own_b2t hy]; rfl
  have R434 := fun (tg : State) (kt : Steps p.tables e below (T431.setTop (mkF m 49 #[vR rp, vJ (φ r), .second, vI (own_i k), vI (own_b2 nb)] [(.int (own_b2 (far || !nb))), (.ref rp)])) tg) => R433 tg (by rw [eY] at kt; exact kt)
  clear R433
  obtain ⟨T435, h435, X435, e435, W435, st435⟩ := putF X431 hx hZ hown (host := "") (Or.inl (oW hw 149 rfl)) Via.refl e431 Gy_429 E_rp_429 (Or.inl (oW hw 150 rfl)) (oW hw 92 rfl) (ty := .boolean) (by decide) (own_b2nr _) (own_b2n _).2 (g := (mkF m 49 #[vR rp, vJ (φ r), .second, vI (own_i k), vI (own_b2 nb)] [(.int (own_b2 (far || !nb))), (.ref rp)])) rfl rfl (hb hby d30_49)
  have N435 := Fr.snoc X435 N429 g_rp
  have Gy_435 := Gy_429.same W435
  have E_rp_435 := E_rp_429.wr W435
  have Gf_435 := Gf_429.other W435 (Or.inr (slot_ne (Or.inr (oW hw 99 rfl)) (Or.inl (oW hw 150 rfl)) (by decide) (t := (.array .long)) (t' := .boolean) (by decide) (by decide)))
  have Gr_435 := Gr_429.other W435 (Or.inr (slot_ne (Or.inr (oW hw 102 rfl)) (Or.inl (oW hw 150 rfl)) (by decide) (t := (.array .int)) (t' := .boolean) (by decide) (by decide)))
  have Gn_435 := Gn_429.other W435 (Or.inr (slot_ne (Or.inr (oW hw 104 rfl)) (Or.inl (oW hw 150 rfl)) (by decide) (t := (.array .boolean)) (t' := .boolean) (by decide) (by decide)))
  have Gs_435 := Gs_429.other W435 (Or.inr (slot_ne (Or.inl (oW hw 127 rfl)) (Or.inl (oW hw 150 rfl)) (by decide) (t := .int) (t' := .boolean) (by decide) (by decide)))
  have WF_435 := WF_429.other W435 (Ne.symm ne_rp_f1)
  have WR_435 := WR_429.other W435 (Ne.symm ne_rp_f2)
  have WN_435 := WN_429.other W435 (Ne.symm ne_rp_f3)
  clear E_rp_429 Gf_429 Gr_429 Gn_429 Gs_429 WF_429 WR_429 WN_429
  have Zs435 : n0 ≤ h435.size := Nat.le_trans Zs429 (Keep.of_wr W435).1
  have Kw435 : Keep h0 h435 [rp, f1, f2, f3] := Keep.wr Kw429 W435 (Or.inl (List.mem_of_getElem? (i := 0) rfl))
  have R436 := fun (tg : State) (kt : Steps p.tables e below (T435.setTop (mkF m 54 #[vR rp, vJ (φ r), .second, vI (own_i k), vI (own_b2 nb)] [(.ref rp), (.ref rp)])) tg) => R434 tg (by
   refine st435 _ ?_
   refine XS.aloadN X435.here hx rfl (hb hby d30_52) rfl rfl ?_
   refine XS.dup X435.here hx rfl (hb hby d30_53) rfl rfl ?_
   exact kt)
  clear R434 st435
  obtain ⟨T437, X437, e437, st437⟩ := getF X435 hx hZ hown (host := "") (Or.inl (oW hw 126 rfl)) Via.refl e435 Gs_435 (g := (mkF m 54 #[vR rp, vJ (φ r), .second, vI (own_i k), vI (own_b2 nb)] [(.ref rp), (.ref rp)])) rfl rfl (hb hby d30_54)
  have R438 := fun (tg : State) (kt : Steps p.tables e below (T437.setTop (mkF m 59 #[vR rp, vJ (φ r), .second, vI (own_i k), vI (own_b2 nb)] [(.int ((own_i fp.length) + (1 : Int32))), (.ref rp)])) tg) => R436 tg (by
   refine st437 _ ?_
   refine XS.iconst X437.here hx rfl (hb hby d30_57) ?_
   show Steps _ _ _ (T437.setTop (mkF m 58 #[vR rp, vJ (φ r), .second, vI (own_i k), vI (own_b2 nb)] [(.int (1 : Int32)), (.int (own_i fp.length)), (.ref rp)])) _
   refine XS.iadd X437.here hx rfl (hb hby d30_58) rfl ?_
   exact kt)
  clear R436 st437
  obtain ⟨T439, h439, X439, e439, W439, st439⟩ := putF X437 hx hZ hown (host := "") (Or.inl (oW hw 126 rfl)) Via.refl e437 Gs_435 E_rp_435 (Or.inl (oW hw 127 rfl)) (oW hw 92 rfl) (ty := .int) (by decide) rfl rfl (g := (mkF m 59 #[vR rp, vJ (φ r), .second, vI (own_i k), vI (own_b2 nb)] [(.int ((own_i fp.length) + (1 : Int32))), (.ref rp)])) rfl rfl (hb hby d30_59)
  have N439 := Fr.snoc X439 N435 g_rp
  have Gs_439 := Gs_435.same W439
  have E_rp_439 := E_rp_435.wr W439
  have Gf_439 := Gf_435.other W439 (Or.inr (slot_ne (Or.inr (oW hw 99 rfl)) (Or.inl (oW hw 127 rfl)) (by decide) (t := (.array .long)) (t' := .int) (by decide) (by decide)))
  have Gr_439 := Gr_435.other W439 (Or.inr (slot_ne (Or.inr (oW hw 102 rfl)) (Or.inl (oW hw 127 rfl)) (by decide) (t := (.array .int)) (t' := .int) (by decide) (by decide)))
  have Gn_439 := Gn_435.other W439 (Or.inr (slot_ne (Or.inr (oW hw 104 rfl)) (Or.inl (oW hw 127 rfl)) (by decide) (t := (.array .boolean)) (t' := .int) (by decide) (by decide)))
  have Gy_439 := Gy_435.other W439 (Or.inr (slot_ne (Or.inl (oW hw 150 rfl)) (Or.inl (oW hw 127 rfl)) (by decide) (t := .boolean) (t' := .int) (by decide) (by decide)))
  have WF_439 := WF_435.other W439 (Ne.symm ne_rp_f1)
  have WR_439 := WR_435.other W439 (Ne.symm ne_rp_f2)
  have WN_439 := WN_435.other W439 (Ne.symm ne_rp_f3)
  clear E_rp_435 Gf_435 Gr_435 Gn_435 Gy_435 WF_435 WR_435 WN_435
  have Zs439 : n0 ≤ h439.size := Nat.le_trans Zs435 (Keep.of_wr W439).1
  have Kw439 : Keep h0 h439 [rp, f1, f2, f3] := Keep.wr Kw435 W439 (Or.inl (List.mem_of_getElem? (i := 0) rfl))
  have R440 := fun (tg : State) (kt : Steps p.tables e below (T439.setTop (mkF m 62 #[vR rp, vJ (φ r), .second, vI (own_i k), vI (own_b2 nb)] [])) tg) => R438 tg (by
   refine st439 _ ?_
   exact kt)
  clear R438 st439
  have Gsz : Fld Z h439 rp cR "size" "I" (.int (own_i ((fp ++ [r])).length)) := by have q := Gs_439; rw [own_lenr (r := r) hf4] at q; exact q
  obtain ⟨fs, hr, hrun, hended, hW, hsame⟩ := X439.leave (v := none) (fun _ => rfl)
  refine ⟨_, _, pre0 _ (R440 _ ?_), hrun, hended, _, _, rfl, ?_, ⟨_, rfl⟩, hW, hsame.mono (by decide) (by decide)⟩
  ·exact X439.returnOut hx Bd.returns (hb hby d30_62) hr
  ·show Q_rm_rpa Z rp q2 p3 p4 φ cap f1 f2 f3 fp rw nr far r k nb h0 n0 _ T439.heap _
   rw [e439]
   exact ⟨rfl, N439, Kw439, E_rp_439, Gf_439, Gr_439, Gn_439, Gsz, Gy_439, WF_439, WR_439, WN_439⟩
theorem d25_0 : oD k6 0 (.iload_n 1) 1 := by decide +kernel
theorem d25_1 : oD k6 1 (.istore 5) 2 := by decide +kernel
theorem d25_3 : oD k6 3 (.iload_n 2) 1 := by decide +kernel
theorem d25_4 : oD k6 4 (.iconst 1) 1 := by decide +kernel
theorem d25_5 : oD k6 5 .isub 1 := by decide +kernel
theorem d25_6 : oD k6 6 (.istore 6) 2 := by decide +kernel
theorem d25_8 : oD k6 8 (.iload 5) 2 := by decide +kernel
theorem d25_10 : oD k6 10 (.iload 6) 2 := by decide +kernel
theorem d25_12 : oD k6 12 (.if_icmp .gt 56) 3 := by decide +kernel
theorem d25_68 : oD k6 68 (.iload 5) 2 := by decide +kernel
theorem d25_70 : oD k6 70 (.iconst 1) 1 := by decide +kernel
theorem d25_71 : oD k6 71 .iadd 1 := by decide +kernel
theorem d25_72 : oD k6 72 .ineg 1 := by decide +kernel
theorem d25_73 : oD k6 73 .ireturn 1 := by decide +kernel
theorem d25_15 : oD k6 15 (.iload 5) 2 := by decide +kernel
theorem d25_17 : oD k6 17 (.iload 6) 2 := by decide +kernel
theorem d25_19 : oD k6 19 .iadd 1 := by decide +kernel
theorem d25_20 : oD k6 20 (.iconst 1) 1 := by decide +kernel
theorem d25_21 : oD k6 21 .iushr 1 := by decide +kernel
theorem d25_22 : oD k6 22 (.istore 7) 2 := by decide +kernel
theorem d25_24 : oD k6 24 (.aload_n 0) 1 := by decide +kernel
theorem d25_25 : oD k6 25 (.iload 7) 2 := by decide +kernel
theorem d25_27 : oD k6 27 .laload 1 := by decide +kernel
theorem d25_28 : oD k6 28 (.lstore 8) 2 := by decide +kernel
theorem d25_30 : oD k6 30 (.lload 8) 2 := by decide +kernel
theorem d25_32 : oD k6 32 (.lload_n 3) 1 := by decide +kernel
theorem d25_33 : oD k6 33 .lcmp 1 := by decide +kernel
theorem d25_34 : oD k6 34 (.ifCond .ge 12) 3 := by decide +kernel
theorem d25_37 : oD k6 37 (.iload 7) 2 := by decide +kernel
theorem d25_39 : oD k6 39 (.iconst 1) 1 := by decide +kernel
theorem d25_40 : oD k6 40 .iadd 1 := by decide +kernel
theorem d25_41 : oD k6 41 (.istore 5) 2 := by decide +kernel
theorem d25_43 : oD k6 43 (.goto 22) 3 := by decide +kernel
theorem d25_65 : oD k6 65 (.goto (-57)) 3 := by decide +kernel
theorem d25_46 : oD k6 46 (.lload 8) 2 := by decide +kernel
theorem d25_48 : oD k6 48 (.lload_n 3) 1 := by decide +kernel
theorem d25_49 : oD k6 49 .lcmp 1 := by decide +kernel
theorem d25_50 : oD k6 50 (.ifCond .le 12) 3 := by decide +kernel
theorem d25_53 : oD k6 53 (.iload 7) 2 := by decide +kernel
theorem d25_55 : oD k6 55 (.iconst 1) 1 := by decide +kernel
theorem d25_56 : oD k6 56 .isub 1 := by decide +kernel
theorem d25_57 : oD k6 57 (.istore 6) 2 := by decide +kernel
theorem d25_59 : oD k6 59 (.goto 6) 3 := by decide +kernel
theorem d25_62 : oD k6 62 (.iload 7) 2 := by decide +kernel
theorem d25_64 : oD k6 64 .ireturn 1 := by decide +kernel
theorem ef_rm_bs0 (m : MethodId) (a1 : Addr) (p2 : Int32) (p3 : Int32) (q4 : Int64) : entryFrame m #[(.ref a1), (.int p2), (.int p3), (.long q4)] 10 = mkF m 0 #[vR a1, vI p2, vI p3, vJ q4, .second, .unset, .unset, .unset, .unset, .unset] [] := by first | (simp [entryFrame, mkF, argsToLocals, Value.category]; done) | rfl
def Q_rm_bs0 (Z : State) (a1 : Addr) (p2 : Int32) (p3 : Int32) (q4 : Int64) (φ : Nat → Int64) (cap : Nat) (fp : List Nat) (r : Nat) (h0 : Heap) (n0 : Nat) (v : Option Value) (h : Heap) (L : List Loc) : Prop := v = some (.int (own_bs fp r)) ∧ Fr n0 L ∧ h = h0
set_option maxRecDepth 65536 in
set_option maxHeartbeats 40000000 in
theorem rm_bs0 (l : Launch) (Z : State) (a0 : Array Value) (hw : ∀ d ∈ tables_1, d.before a0 Z = true) (ws : List Jvm.Cond) (a1 : Addr) (p2 : Int32) (p3 : Int32) (q4 : Int64) (φ : Nat → Int64) (cap : Nat) (fp : List Nat) (r : Nat) (h0 : Heap) (n0 : Nat) (Z0 : n0 ≤ h0.size) (WF : VG Z h0 a1 .long cap (fun r => .long (φ r)) 0 fp) (H : own_mono φ) (ok : own_ok2 fp) (hr : r < 4) (hp2 : p2 = (0 : Int32)) (hp3 : p3 = (own_i fp.length)) (hq : q4 = φ r) :
  MetFree l (⟨"java/util/Arrays", "binarySearch0", "([JIIJ)I"⟩ : MethodName) (head1 (Jvm.Cond.code (⟨"java/util/Arrays", "binarySearch0", "([JIIJ)I"⟩ : MethodName) jdk_65_method_56_code 10 (some .int) :: ws) rM0) (fun a U => a = #[(.ref a1), (.int p2), (.int p3), (.long q4)] ∧ Z.Warmed39 U.vm ∧ U.heap = h0) (fun _ _ _ _ _ => True) (fun _ U oC U' => ∃ v L, oC = .returned v ∧ Q_rm_bs0 Z a1 p2 p3 q4 φ cap fp r h0 n0 v U'.heap L ∧ FrameEnd U oC U' L rM0.cells rM0.slots) := by
 refine MetFree.of_bodySF (plainFor_of_name pn_3) hisR ?_
 intro p e s m args below meth c s₁ Bd hml0 hP hK
 obtain ⟨rfl, hZ, hh⟩ := hP
 have hx := Bd.exec
 have hby := Bd.bytes
 have hml : c.maxLocals = 10 := hml0
 have hown : s.vm.findClass "java/util/Arrays" = some m.cls := findClass_of_methodNamed Bd.named
 have hnm := (name_of_methodNamed Bd.named Bd.method).1
 have X0 : Stand p l e rM0 s m #[(.ref a1), (.int p2), (.int p3), (.long q4)] below meth c s₁ [] 0 0 := Stand.of_body Bd
 have e0 : s₁.heap = h0 := by rw [← hh, Bd.state]; rfl
 have N0 := Fr.nil n0
 have pre0 : Sq p e below (s₁.setTop (mkF m 0 #[vR a1, vI p2, vI p3, vJ q4, .second, .unset, .unset, .unset, .unset, .unset] [])) (s₁.setTop (entryFrame m #[(.ref a1), (.int p2), (.int p3), (.long q4)] 10)) := fun t k => castTop (ef_rm_bs0 m a1 p2 p3 q4) k
 have pre00 : Sq p e below (s₁.setTop (mkF m 0 #[vR a1, vI p2, vI p3, vJ q4, .second, .unset, .unset, .unset, .unset, .unset] [])) (s₁.setTop (mkF m 0 #[vR a1, vI p2, vI p3, vJ q4, .second, .unset, .unset, .unset, .unset, .unset] [])) := fun _ k => k
 rcases own_l2 ok with el | ⟨x0, el, y0⟩ | ⟨x0, x1, el, y0, y1⟩
 ·rw [el] at WF hp3
  have hp3 : p3 = (0 : Int32) := hp3
  have R458 := fun (tg : State) (kt : Steps p.tables e below (s₁.setTop (mkF m 0 #[vR a1, vI (0 : Int32), vI (0 : Int32), vJ (φ r), .second, .unset, .unset, .unset, .unset, .unset] [])) tg) => pre00 tg (by rw [hp2, hp3, hq]; exact kt)
  have R459 := fun (tg : State) (kt : Steps p.tables e below (s₁.setTop (mkF m 8 #[vR a1, vI (0 : Int32), vI (0 : Int32), vJ (φ r), .second, vI (0 : Int32), vI ((0 : Int32) - (1 : Int32)), .unset, .unset, .unset] [])) tg) => R458 tg (by
   show Steps _ _ _ (s₁.setTop (mkF m 0 #[vR a1, vI (0 : Int32), vI (0 : Int32), vJ (φ r), .second, .unset, .unset, .unset, .unset, .unset] [])) _
   refine XS.iloadN X0.here hx rfl (hb hby d25_0) rfl ?_
   show Steps _ _ _ (s₁.setTop (mkF m 1 #[vR a1, vI (0 : Int32), vI (0 : Int32), vJ (φ r), .second, .unset, .unset, .unset, .unset, .unset] [(.int (0 : Int32))])) _
   refine XS.istore X0.here hx rfl (hb hby d25_1) rfl (l' := #[vR a1, vI (0 : Int32), vI (0 : Int32), vJ (φ r), .second, vI (0 : Int32), .unset, .unset, .unset, .unset]) rfl ?_
   refine XS.iloadN X0.here hx rfl (hb hby d25_3) rfl ?_
   refine XS.iconst X0.here hx rfl (hb hby d25_4) ?_
   show Steps _ _ _ (s₁.setTop (mkF m 5 #[vR a1, vI (0 : Int32), vI (0 : Int32), vJ (φ r), .second, vI (0 : Int32), .unset, .unset, .unset, .unset] [(.int (1 : Int32)), (.int (0 : Int32))])) _
   refine XS.isub X0.here hx rfl (hb hby d25_5) rfl ?_
   show Steps _ _ _ (s₁.setTop (mkF m 6 #[vR a1, vI (0 : Int32), vI (0 : Int32), vJ (φ r), .second, vI (0 : Int32), .unset, .unset, .unset, .unset] [(.int ((0 : Int32) - (1 : Int32)))])) _
   refine XS.istore X0.here hx rfl (hb hby d25_6) rfl (l' := #[vR a1, vI (0 : Int32), vI (0 : Int32), vJ (φ r), .second, vI (0 : Int32), vI ((0 : Int32) - (1 : Int32)), .unset, .unset, .unset]) rfl ?_
   exact kt)
  clear R458
  have R460 := fun (tg : State) (kt : Steps p.tables e below (s₁.setTop (mkF m 8 #[vR a1, vI (0 : Int32), vI (0 : Int32), vJ (φ r), .second, vI (0 : Int32), vI (-1 : Int32), .unset, .unset, .unset] [])) tg) => R459 tg kt
  clear R459
  have R461 := fun (tg : State) (kt : Steps p.tables e below (s₁.setTop (mkF m 73 #[vR a1, vI (0 : Int32), vI (0 : Int32), vJ (φ r), .second, vI (0 : Int32), vI (-1 : Int32), .unset, .unset, .unset] [(.int (-((0 : Int32) + (1 : Int32))))])) tg) => R460 tg (by
   show Steps _ _ _ (s₁.setTop (mkF m 8 #[vR a1, vI (0 : Int32), vI (0 : Int32), vJ (φ r), .second, vI (0 : Int32), vI (-1 : Int32), .unset, .unset, .unset] [])) _
   refine XS.iload X0.here hx rfl (hb hby d25_8) rfl ?_
   refine XS.iload X0.here hx rfl (hb hby d25_10) rfl ?_
   show Steps _ _ _ (s₁.setTop (mkF m 12 #[vR a1, vI (0 : Int32), vI (0 : Int32), vJ (φ r), .second, vI (0 : Int32), vI (-1 : Int32), .unset, .unset, .unset] [(.int (-1 : Int32)), (.int (0 : Int32))])) _
   refine XS.icmpYes X0.here hx rfl (pc0 := 12) (pc' := 68) rfl (hb hby d25_12) rfl (tlt (by decide : (-1 : Int32) < (0 : Int32))).2.2.1 (by decide) (by decide) ?_
   refine XS.iload X0.here hx rfl (hb hby d25_68) rfl ?_
   refine XS.iconst X0.here hx rfl (hb hby d25_70) ?_
   show Steps _ _ _ (s₁.setTop (mkF m 71 #[vR a1, vI (0 : Int32), vI (0 : Int32), vJ (φ r), .second, vI (0 : Int32), vI (-1 : Int32), .unset, .unset, .unset] [(.int (1 : Int32)), (.int (0 : Int32))])) _
   refine XS.iadd X0.here hx rfl (hb hby d25_71) rfl ?_
   show Steps _ _ _ (s₁.setTop (mkF m 72 #[vR a1, vI (0 : Int32), vI (0 : Int32), vJ (φ r), .second, vI (0 : Int32), vI (-1 : Int32), .unset, .unset, .unset] [(.int ((0 : Int32) + (1 : Int32)))])) _
   refine XS.ineg X0.here hx rfl (hb hby d25_72) rfl ?_
   exact kt)
  clear R460
  have R462 := fun (tg : State) (kt : Steps p.tables e below (s₁.setTop (mkF m 73 #[vR a1, vI (0 : Int32), vI (0 : Int32), vJ (φ r), .second, vI (0 : Int32), vI (-1 : Int32), .unset, .unset, .unset] [(.int (-1 : Int32))])) tg) => R461 tg kt
  clear R461
  obtain ⟨fs, hr, hrun, hended, hW, hsame⟩ := X0.leave (v := some (.int (-1 : Int32))) (fun h => by rw [Bd.returns] at h; cases h)
  refine ⟨_, _, pre0 _ (R462 _ ?_), hrun, hended, _, _, rfl, ?_, ⟨_, rfl⟩, hW, hsame.mono (by decide) (by decide)⟩
  ·exact retI X0 hx Bd.returns (hb hby d25_73) hr
  ·show Q_rm_bs0 Z a1 p2 p3 q4 φ cap fp r h0 n0 _ s₁.heap _
   rw [e0]
   exact ⟨by rw [el, own_bs], N0, rfl⟩
 ·rw [el] at WF hp3
  have hp3 : p3 = (1 : Int32) := hp3
  have R463 := fun (tg : State) (kt : Steps p.tables e below (s₁.setTop (mkF m 0 #[vR a1, vI (0 : Int32), vI (1 : Int32), vJ (φ r), .second, .unset, .unset, .unset, .unset, .unset] [])) tg) => pre00 tg (by rw [hp2, hp3, hq]; exact kt)
  have R464 := fun (tg : State) (kt : Steps p.tables e below (s₁.setTop (mkF m 8 #[vR a1, vI (0 : Int32), vI (1 : Int32), vJ (φ r), .second, vI (0 : Int32), vI ((1 : Int32) - (1 : Int32)), .unset, .unset, .unset] [])) tg) => R463 tg (by
   show Steps _ _ _ (s₁.setTop (mkF m 0 #[vR a1, vI (0 : Int32), vI (1 : Int32), vJ (φ r), .second, .unset, .unset, .unset, .unset, .unset] [])) _
   refine XS.iloadN X0.here hx rfl (hb hby d25_0) rfl ?_
   show Steps _ _ _ (s₁.setTop (mkF m 1 #[vR a1, vI (0 : Int32), vI (1 : Int32), vJ (φ r), .second, .unset, .unset, .unset, .unset, .unset] [(.int (0 : Int32))])) _
   refine XS.istore X0.here hx rfl (hb hby d25_1) rfl (l' := #[vR a1, vI (0 : Int32), vI (1 : Int32), vJ (φ r), .second, vI (0 : Int32), .unset, .unset, .unset, .unset]) rfl ?_
   refine XS.iloadN X0.here hx rfl (hb hby d25_3) rfl ?_
   refine XS.iconst X0.here hx rfl (hb hby d25_4) ?_
   show Steps _ _ _ (s₁.setTop (mkF m 5 #[vR a1, vI (0 : Int32), vI (1 : Int32), vJ (φ r), .second, vI (0 : Int32), .unset, .unset, .unset, .unset] [(.int (1 : Int32)), (.int (1 : Int32))])) _
   refine XS.isub X0.here hx rfl (hb hby d25_5) rfl ?_
   show Steps _ _ _ (s₁.setTop (mkF m 6 #[vR a1, vI (0 : Int32), vI (1 : Int32), vJ (φ r), .second, vI (0 : Int32), .unset, .unset, .unset, .unset] [(.int ((1 : Int32) - (1 : Int32)))])) _
   refine XS.istore X0.here hx rfl (hb hby d25_6) rfl (l' := #[vR a1, vI (0 : Int32), vI (1 : Int32), vJ (φ r), .second, vI (0 : Int32), vI ((1 : Int32) - (1 : Int32)), .unset, .unset, .unset]) rfl ?_
   exact kt)
  clear R463
  have R465 := fun (tg : State) (kt : Steps p.tables e below (s₁.setTop (mkF m 8 #[vR a1, vI (0 : Int32), vI (1 : Int32), vJ (φ r), .second, vI (0 : Int32), vI (0 : Int32), .unset, .unset, .unset] [])) tg) => R464 tg kt
  clear R464
  have R466 := fun (tg : State) (kt : Steps p.tables e below (s₁.setTop (mkF m 22 #[vR a1, vI (0 : Int32), vI (1 : Int32), vJ (φ r), .second, vI (0 : Int32), vI (0 : Int32), .unset, .unset, .unset] [(.int ((((0 : Int32) + (0 : Int32)).toUInt32 >>> ((1 : Int32) &&& 31).toUInt32).toInt32))])) tg) => R465 tg (by
   show Steps _ _ _ (s₁.setTop (mkF m 8 #[vR a1, vI (0 : Int32), vI (1 : Int32), vJ (φ r), .second, vI (0 : Int32), vI (0 : Int32), .unset, .unset, .unset] [])) _
   refine XS.iload X0.here hx rfl (hb hby d25_8) rfl ?_
   refine XS.iload X0.here hx rfl (hb hby d25_10) rfl ?_
   show Steps _ _ _ (s₁.setTop (mkF m 12 #[vR a1, vI (0 : Int32), vI (1 : Int32), vJ (φ r), .second, vI (0 : Int32), vI (0 : Int32), .unset, .unset, .unset] [(.int (0 : Int32)), (.int (0 : Int32))])) _
   refine XS.icmpNo X0.here hx rfl (hb hby d25_12) rfl (flt (by decide : ¬ ((0 : Int32) < (0 : Int32)))).2.2.1 ?_
   refine XS.iload X0.here hx rfl (hb hby d25_15) rfl ?_
   refine XS.iload X0.here hx rfl (hb hby d25_17) rfl ?_
   show Steps _ _ _ (s₁.setTop (mkF m 19 #[vR a1, vI (0 : Int32), vI (1 : Int32), vJ (φ r), .second, vI (0 : Int32), vI (0 : Int32), .unset, .unset, .unset] [(.int (0 : Int32)), (.int (0 : Int32))])) _
   refine XS.iadd X0.here hx rfl (hb hby d25_19) rfl ?_
   refine XS.iconst X0.here hx rfl (hb hby d25_20) ?_
   show Steps _ _ _ (s₁.setTop (mkF m 21 #[vR a1, vI (0 : Int32), vI (1 : Int32), vJ (φ r), .second, vI (0 : Int32), vI (0 : Int32), .unset, .unset, .unset] [(.int (1 : Int32)), (.int ((0 : Int32) + (0 : Int32)))])) _
   refine XS.iushr X0.here hx rfl (hb hby d25_21) rfl ?_
   exact kt)
  clear R465
  have R467 := fun (tg : State) (kt : Steps p.tables e below (s₁.setTop (mkF m 22 #[vR a1, vI (0 : Int32), vI (1 : Int32), vJ (φ r), .second, vI (0 : Int32), vI (0 : Int32), .unset, .unset, .unset] [(.int (0 : Int32))])) tg) => R466 tg kt
  clear R466
  have ln0 : 0 < ([x0] : List Nat).length := by simp
  have R468 := fun (tg : State) (kt : Steps p.tables e below (s₁.setTop (mkF m 27 #[vR a1, vI (0 : Int32), vI (1 : Int32), vJ (φ r), .second, vI (0 : Int32), vI (0 : Int32), vI (0 : Int32), .unset, .unset] [(.int (0 : Int32)), (.ref a1)])) tg) => R467 tg (by
   show Steps _ _ _ (s₁.setTop (mkF m 22 #[vR a1, vI (0 : Int32), vI (1 : Int32), vJ (φ r), .second, vI (0 : Int32), vI (0 : Int32), .unset, .unset, .unset] [(.int (0 : Int32))])) _
   refine XS.istore X0.here hx rfl (hb hby d25_22) rfl (l' := #[vR a1, vI (0 : Int32), vI (1 : Int32), vJ (φ r), .second, vI (0 : Int32), vI (0 : Int32), vI (0 : Int32), .unset, .unset]) rfl ?_
   refine XS.aloadN X0.here hx rfl (hb hby d25_24) rfl rfl ?_
   refine XS.iload X0.here hx rfl (hb hby d25_25) rfl ?_
   exact kt)
  clear R467
  obtain ⟨cl469, Ar469, hin469, hat469⟩ := WF.at (j := (0 : Int32)) (k := 0) (by decide) rfl ln0
  have R470 := fun (tg : State) (kt : Steps p.tables e below (s₁.setTop (mkF m 34 #[vR a1, vI (0 : Int32), vI (1 : Int32), vJ (φ r), .second, vI (0 : Int32), vI (0 : Int32), vI (0 : Int32), vJ (φ x0), .second] [(.int (lcmpW (φ x0) (φ r)))])) tg) => R468 tg (by
   show Steps _ _ _ (s₁.setTop (mkF m 27 #[vR a1, vI (0 : Int32), vI (1 : Int32), vJ (φ r), .second, vI (0 : Int32), vI (0 : Int32), vI (0 : Int32), .unset, .unset] [(.int (0 : Int32)), (.ref a1)])) _
   refine X0.laload hx (j := (0 : Int32)) (v := (.long (φ x0))) (by rw [e0]; exact Ar469.1) (State.isArrayOf_alike hZ.alike Ar469.2.1) Ar469.2.2 hin469 hat469 (g := (mkF m 27 #[vR a1, vI (0 : Int32), vI (1 : Int32), vJ (φ r), .second, vI (0 : Int32), vI (0 : Int32), vI (0 : Int32), .unset, .unset] [(.int (0 : Int32)), (.ref a1)])) rfl rfl (hb hby d25_27) _ ?_
   show Steps _ _ _ (s₁.setTop (mkF m 28 #[vR a1, vI (0 : Int32), vI (1 : Int32), vJ (φ r), .second, vI (0 : Int32), vI (0 : Int32), vI (0 : Int32), .unset, .unset] [(.long (φ x0))])) _
   refine XS.lstore X0.here hx rfl (hb hby d25_28) rfl (l' := #[vR a1, vI (0 : Int32), vI (1 : Int32), vJ (φ r), .second, vI (0 : Int32), vI (0 : Int32), vI (0 : Int32), vJ (φ x0), .second]) rfl ?_
   refine XS.lload X0.here hx rfl (hb hby d25_30) rfl ?_
   refine XS.lloadN X0.here hx rfl (hb hby d25_32) rfl ?_
   show Steps _ _ _ (s₁.setTop (mkF m 33 #[vR a1, vI (0 : Int32), vI (1 : Int32), vJ (φ r), .second, vI (0 : Int32), vI (0 : Int32), vI (0 : Int32), vJ (φ x0), .second] [(.long (φ r)), (.long (φ x0))])) _
   refine XS.lcmp X0.here hx rfl (hb hby d25_33) rfl ?_
   exact kt)
  clear R468
  by_cases ca0 : x0 < r
  ·have R471 := fun (tg : State) (kt : Steps p.tables e below (s₁.setTop (mkF m 8 #[vR a1, vI (0 : Int32), vI (1 : Int32), vJ (φ r), .second, vI ((0 : Int32) + (1 : Int32)), vI (0 : Int32), vI (0 : Int32), vJ (φ x0), .second] [])) tg) => R470 tg (by
    show Steps _ _ _ (s₁.setTop (mkF m 34 #[vR a1, vI (0 : Int32), vI (1 : Int32), vJ (φ r), .second, vI (0 : Int32), vI (0 : Int32), vI (0 : Int32), vJ (φ x0), .second] [(.int (lcmpW (φ x0) (φ r)))])) _
    refine XS.ifNo X0.here hx rfl (hb hby d25_34) rfl ((if0 _ _).trans (tlt ((own_cl H y0 hr).mpr ca0 : (lcmpW (φ x0) (φ r)) < (0 : Int32))).2.1) ?_
    refine XS.iload X0.here hx rfl (hb hby d25_37) rfl ?_
    refine XS.iconst X0.here hx rfl (hb hby d25_39) ?_
    show Steps _ _ _ (s₁.setTop (mkF m 40 #[vR a1, vI (0 : Int32), vI (1 : Int32), vJ (φ r), .second, vI (0 : Int32), vI (0 : Int32), vI (0 : Int32), vJ (φ x0), .second] [(.int (1 : Int32)), (.int (0 : Int32))])) _
    refine XS.iadd X0.here hx rfl (hb hby d25_40) rfl ?_
    show Steps _ _ _ (s₁.setTop (mkF m 41 #[vR a1, vI (0 : Int32), vI (1 : Int32), vJ (φ r), .second, vI (0 : Int32), vI (0 : Int32), vI (0 : Int32), vJ (φ x0), .second] [(.int ((0 : Int32) + (1 : Int32)))])) _
    refine XS.istore X0.here hx rfl (hb hby d25_41) rfl (l' := #[vR a1, vI (0 : Int32), vI (1 : Int32), vJ (φ r), .second, vI ((0 : Int32) + (1 : Int32)), vI (0 : Int32), vI (0 : Int32), vJ (φ x0), .second]) rfl ?_
    show Steps _ _ _ (s₁.setTop (mkF m 43 #[vR a1, vI (0 : Int32), vI (1 : Int32), vJ (φ r), .second, vI ((0 : Int32) + (1 : Int32)), vI (0 : Int32), vI (0 : Int32), vJ (φ x0), .second] [])) _
    refine XS.goto X0.here hx rfl (pc0 := 43) (pc' := 65) rfl (hb hby d25_43) (by decide) (by decide) ?_
    show Steps _ _ _ (s₁.setTop (mkF m 65 #[vR a1, vI (0 : Int32), vI (1 : Int32), vJ (φ r), .second, vI ((0 : Int32) + (1 : Int32)), vI (0 : Int32), vI (0 : Int32), vJ (φ x0), .second] [])) _
    refine XS.goto X0.here hx rfl (pc0 := 65) (pc' := 8) rfl (hb hby d25_65) (by decide) (by decide) ?_
    exact kt)
   clear R470
   have R472 := fun (tg : State) (kt : Steps p.tables e below (s₁.setTop (mkF m 8 #[vR a1, vI (0 : Int32), vI (1 : Int32), vJ (φ r), .second, vI (1 : Int32), vI (0 : Int32), vI (0 : Int32), vJ (φ x0), .second] [])) tg) => R471 tg kt
   clear R471
   have R473 := fun (tg : State) (kt : Steps p.tables e below (s₁.setTop (mkF m 73 #[vR a1, vI (0 : Int32), vI (1 : Int32), vJ (φ r), .second, vI (1 : Int32), vI (0 : Int32), vI (0 : Int32), vJ (φ x0), .second] [(.int (-((1 : Int32) + (1 : Int32))))])) tg) => R472 tg (by
    show Steps _ _ _ (s₁.setTop (mkF m 8 #[vR a1, vI (0 : Int32), vI (1 : Int32), vJ (φ r), .second, vI (1 : Int32), vI (0 : Int32), vI (0 : Int32), vJ (φ x0), .second] [])) _
    refine XS.iload X0.here hx rfl (hb hby d25_8) rfl ?_
    refine XS.iload X0.here hx rfl (hb hby d25_10) rfl ?_
    show Steps _ _ _ (s₁.setTop (mkF m 12 #[vR a1, vI (0 : Int32), vI (1 : Int32), vJ (φ r), .second, vI (1 : Int32), vI (0 : Int32), vI (0 : Int32), vJ (φ x0), .second] [(.int (0 : Int32)), (.int (1 : Int32))])) _
    refine XS.icmpYes X0.here hx rfl (pc0 := 12) (pc' := 68) rfl (hb hby d25_12) rfl (tlt (by decide : (0 : Int32) < (1 : Int32))).2.2.1 (by decide) (by decide) ?_
    refine XS.iload X0.here hx rfl (hb hby d25_68) rfl ?_
    refine XS.iconst X0.here hx rfl (hb hby d25_70) ?_
    show Steps _ _ _ (s₁.setTop (mkF m 71 #[vR a1, vI (0 : Int32), vI (1 : Int32), vJ (φ r), .second, vI (1 : Int32), vI (0 : Int32), vI (0 : Int32), vJ (φ x0), .second] [(.int (1 : Int32)), (.int (1 : Int32))])) _
    refine XS.iadd X0.here hx rfl (hb hby d25_71) rfl ?_
    show Steps _ _ _ (s₁.setTop (mkF m 72 #[vR a1, vI (0 : Int32), vI (1 : Int32), vJ (φ r), .second, vI (1 : Int32), vI (0 : Int32), vI (0 : Int32), vJ (φ x0), .second] [(.int ((1 : Int32) + (1 : Int32)))])) _
    refine XS.ineg X0.here hx rfl (hb hby d25_72) rfl ?_
    exact kt)
   clear R472
   have R474 := fun (tg : State) (kt : Steps p.tables e below (s₁.setTop (mkF m 73 #[vR a1, vI (0 : Int32), vI (1 : Int32), vJ (φ r), .second, vI (1 : Int32), vI (0 : Int32), vI (0 : Int32), vJ (φ x0), .second] [(.int (-2 : Int32))])) tg) => R473 tg kt
   clear R473
   obtain ⟨fs, hr, hrun, hended, hW, hsame⟩ := X0.leave (v := some (.int (-2 : Int32))) (fun h => by rw [Bd.returns] at h; cases h)
   refine ⟨_, _, pre0 _ (R474 _ ?_), hrun, hended, _, _, rfl, ?_, ⟨_, rfl⟩, hW, hsame.mono (by decide) (by decide)⟩
   ·exact retI X0 hx Bd.returns (hb hby d25_73) hr
   ·show Q_rm_bs0 Z a1 p2 p3 q4 φ cap fp r h0 n0 _ s₁.heap _
    rw [e0]
    exact ⟨by rw [el, own_bs, if_pos ca0], N0, rfl⟩
  ·have R475 := fun (tg : State) (kt : Steps p.tables e below (s₁.setTop (mkF m 50 #[vR a1, vI (0 : Int32), vI (1 : Int32), vJ (φ r), .second, vI (0 : Int32), vI (0 : Int32), vI (0 : Int32), vJ (φ x0), .second] [(.int (lcmpW (φ x0) (φ r)))])) tg) => R470 tg (by
    show Steps _ _ _ (s₁.setTop (mkF m 34 #[vR a1, vI (0 : Int32), vI (1 : Int32), vJ (φ r), .second, vI (0 : Int32), vI (0 : Int32), vI (0 : Int32), vJ (φ x0), .second] [(.int (lcmpW (φ x0) (φ r)))])) _
    refine XS.ifYes X0.here hx rfl (pc0 := 34) (pc' := 46) rfl (hb hby d25_34) rfl ((if0 _ _).trans (flt (fun q => ca0 ((own_cl H y0 hr).mp q) : ¬ ((lcmpW (φ x0) (φ r)) < (0 : Int32)))).2.1) (by decide) (by decide) ?_
    refine XS.lload X0.here hx rfl (hb hby d25_46) rfl ?_
    refine XS.lloadN X0.here hx rfl (hb hby d25_48) rfl ?_
    show Steps _ _ _ (s₁.setTop (mkF m 49 #[vR a1, vI (0 : Int32), vI (1 : Int32), vJ (φ r), .second, vI (0 : Int32), vI (0 : Int32), vI (0 : Int32), vJ (φ x0), .second] [(.long (φ r)), (.long (φ x0))])) _
    refine XS.lcmp X0.here hx rfl (hb hby d25_49) rfl ?_
    exact kt)
   clear R470
   by_cases cb0 : r < x0
   ·have R476 := fun (tg : State) (kt : Steps p.tables e below (s₁.setTop (mkF m 8 #[vR a1, vI (0 : Int32), vI (1 : Int32), vJ (φ r), .second, vI (0 : Int32), vI ((0 : Int32) - (1 : Int32)), vI (0 : Int32), vJ (φ x0), .second] [])) tg) => R475 tg (by
     show Steps _ _ _ (s₁.setTop (mkF m 50 #[vR a1, vI (0 : Int32), vI (1 : Int32), vJ (φ r), .second, vI (0 : Int32), vI (0 : Int32), vI (0 : Int32), vJ (φ x0), .second] [(.int (lcmpW (φ x0) (φ r)))])) _
     refine XS.ifNo X0.here hx rfl (hb hby d25_50) rfl ((if0 _ _).trans (tlt ((own_cg H y0 hr).mpr cb0 : (0 : Int32) < (lcmpW (φ x0) (φ r)))).2.2.2) ?_
     refine XS.iload X0.here hx rfl (hb hby d25_53) rfl ?_
     refine XS.iconst X0.here hx rfl (hb hby d25_55) ?_
     show Steps _ _ _ (s₁.setTop (mkF m 56 #[vR a1, vI (0 : Int32), vI (1 : Int32), vJ (φ r), .second, vI (0 : Int32), vI (0 : Int32), vI (0 : Int32), vJ (φ x0), .second] [(.int (1 : Int32)), (.int (0 : Int32))])) _
     refine XS.isub X0.here hx rfl (hb hby d25_56) rfl ?_
     show Steps _ _ _ (s₁.setTop (mkF m 57 #[vR a1, vI (0 : Int32), vI (1 : Int32), vJ (φ r), .second, vI (0 : Int32), vI (0 : Int32), vI (0 : Int32), vJ (φ x0), .second] [(.int ((0 : Int32) - (1 : Int32)))])) _
     refine XS.istore X0.here hx rfl (hb hby d25_57) rfl (l' := #[vR a1, vI (0 : Int32), vI (1 : Int32), vJ (φ r), .second, vI (0 : Int32), vI ((0 : Int32) - (1 : Int32)), vI (0 : Int32), vJ (φ x0), .second]) rfl ?_
     show Steps _ _ _ (s₁.setTop (mkF m 59 #[vR a1, vI (0 : Int32), vI (1 : Int32), vJ (φ r), .second, vI (0 : Int32), vI ((0 : Int32) - (1 : Int32)), vI (0 : Int32), vJ (φ x0), .second] [])) _
     refine XS.goto X0.here hx rfl (pc0 := 59) (pc' := 65) rfl (hb hby d25_59) (by decide) (by decide) ?_
     show Steps _ _ _ (s₁.setTop (mkF m 65 #[vR a1, vI (0 : Int32), vI (1 : Int32), vJ (φ r), .second, vI (0 : Int32), vI ((0 : Int32) - (1 : Int32)), vI (0 : Int32), vJ (φ x0), .second] [])) _
     refine XS.goto X0.here hx rfl (pc0 := 65) (pc' := 8) rfl (hb hby d25_65) (by decide) (by decide) ?_
     exact kt)
    clear R475
    have R477 := fun (tg : State) (kt : Steps p.tables e below (s₁.setTop (mkF m 8 #[vR a1, vI (0 : Int32), vI (1 : Int32), vJ (φ r), .second, vI (0 : Int32), vI (-1 : Int32), vI (0 : Int32), vJ (φ x0), .second] [])) tg) => R476 tg kt
    clear R476
    have R478 := fun (tg : State) (kt : Steps p.tables e below (s₁.setTop (mkF m 73 #[vR a1, vI (0 : Int32), vI (1 : Int32), vJ (φ r), .second, vI (0 : Int32), vI (-1 : Int32), vI (0 : Int32), vJ (φ x0), .second] [(.int (-((0 : Int32) + (1 : Int32))))])) tg) => R477 tg (by
     show Steps _ _ _ (s₁.setTop (mkF m 8 #[vR a1, vI (0 : Int32), vI (1 : Int32), vJ (φ r), .second, vI (0 : Int32), vI (-1 : Int32), vI (0 : Int32), vJ (φ x0), .second] [])) _
     refine XS.iload X0.here hx rfl (hb hby d25_8) rfl ?_
     refine XS.iload X0.here hx rfl (hb hby d25_10) rfl ?_
     show Steps _ _ _ (s₁.setTop (mkF m 12 #[vR a1, vI (0 : Int32), vI (1 : Int32), vJ (φ r), .second, vI (0 : Int32), vI (-1 : Int32), vI (0 : Int32), vJ (φ x0), .second] [(.int (-1 : Int32)), (.int (0 : Int32))])) _
     refine XS.icmpYes X0.here hx rfl (pc0 := 12) (pc' := 68) rfl (hb hby d25_12) rfl (tlt (by decide : (-1 : Int32) < (0 : Int32))).2.2.1 (by decide) (by decide) ?_
     refine XS.iload X0.here hx rfl (hb hby d25_68) rfl ?_
     refine XS.iconst X0.here hx rfl (hb hby d25_70) ?_
     show Steps _ _ _ (s₁.setTop (mkF m 71 #[vR a1, vI (0 : Int32), vI (1 : Int32), vJ (φ r), .second, vI (0 : Int32), vI (-1 : Int32), vI (0 : Int32), vJ (φ x0), .second] [(.int (1 : Int32)), (.int (0 : Int32))])) _
     refine XS.iadd X0.here hx rfl (hb hby d25_71) rfl ?_
     show Steps _ _ _ (s₁.setTop (mkF m 72 #[vR a1, vI (0 : Int32), vI (1 : Int32), vJ (φ r), .second, vI (0 : Int32), vI (-1 : Int32), vI (0 : Int32), vJ (φ x0), .second] [(.int ((0 : Int32) + (1 : Int32)))])) _
     refine XS.ineg X0.here hx rfl (hb hby d25_72) rfl ?_
     exact kt)
    clear R477
    have R479 := fun (tg : State) (kt : Steps p.tables e below (s₁.setTop (mkF m 73 #[vR a1, vI (0 : Int32), vI (1 : Int32), vJ (φ r), .second, vI (0 : Int32), vI (-1 : Int32), vI (0 : Int32), vJ (φ x0), .second] [(.int (-1 : Int32))])) tg) => R478 tg kt
    clear R478
    obtain ⟨fs, hr, hrun, hended, hW, hsame⟩ := X0.leave (v := some (.int (-1 : Int32))) (fun h => by rw [Bd.returns] at h; cases h)
    refine ⟨_, _, pre0 _ (R479 _ ?_), hrun, hended, _, _, rfl, ?_, ⟨_, rfl⟩, hW, hsame.mono (by decide) (by decide)⟩
    ·exact retI X0 hx Bd.returns (hb hby d25_73) hr
    ·show Q_rm_bs0 Z a1 p2 p3 q4 φ cap fp r h0 n0 _ s₁.heap _
     rw [e0]
     exact ⟨by rw [el, own_bs, if_neg ca0, if_pos cb0], N0, rfl⟩
   ·have R480 := fun (tg : State) (kt : Steps p.tables e below (s₁.setTop (mkF m 64 #[vR a1, vI (0 : Int32), vI (1 : Int32), vJ (φ r), .second, vI (0 : Int32), vI (0 : Int32), vI (0 : Int32), vJ (φ x0), .second] [(.int (0 : Int32))])) tg) => R475 tg (by
     show Steps _ _ _ (s₁.setTop (mkF m 50 #[vR a1, vI (0 : Int32), vI (1 : Int32), vJ (φ r), .second, vI (0 : Int32), vI (0 : Int32), vI (0 : Int32), vJ (φ x0), .second] [(.int (lcmpW (φ x0) (φ r)))])) _
     refine XS.ifYes X0.here hx rfl (pc0 := 50) (pc' := 62) rfl (hb hby d25_50) rfl ((if0 _ _).trans (flt (fun q => cb0 ((own_cg H y0 hr).mp q) : ¬ ((0 : Int32) < (lcmpW (φ x0) (φ r))))).2.2.2) (by decide) (by decide) ?_
     refine XS.iload X0.here hx rfl (hb hby d25_62) rfl ?_
     exact kt)
    clear R475
    obtain ⟨fs, hr, hrun, hended, hW, hsame⟩ := X0.leave (v := some (.int (0 : Int32))) (fun h => by rw [Bd.returns] at h; cases h)
    refine ⟨_, _, pre0 _ (R480 _ ?_), hrun, hended, _, _, rfl, ?_, ⟨_, rfl⟩, hW, hsame.mono (by decide) (by decide)⟩
    ·exact retI X0 hx Bd.returns (hb hby d25_64) hr
    ·show Q_rm_bs0 Z a1 p2 p3 q4 φ cap fp r h0 n0 _ s₁.heap _
     rw [e0]
     exact ⟨by rw [el, own_bs, if_neg ca0, if_neg cb0], N0, rfl⟩
 ·rw [el] at WF hp3
  have hp3 : p3 = (2 : Int32) := hp3
  have R481 := fun (tg : State) (kt : Steps p.tables e below (s₁.setTop (mkF m 0 #[vR a1, vI (0 : Int32), vI (2 : Int32), vJ (φ r), .second, .unset, .unset, .unset, .unset, .unset] [])) tg) => pre00 tg (by rw [hp2, hp3, hq]; exact kt)
  have R482 := fun (tg : State) (kt : Steps p.tables e below (s₁.setTop (mkF m 8 #[vR a1, vI (0 : Int32), vI (2 : Int32), vJ (φ r), .second, vI (0 : Int32), vI ((2 : Int32) - (1 : Int32)), .unset, .unset, .unset] [])) tg) => R481 tg (by
   show Steps _ _ _ (s₁.setTop (mkF m 0 #[vR a1, vI (0 : Int32), vI (2 : Int32), vJ (φ r), .second, .unset, .unset, .unset, .unset, .unset] [])) _
   refine XS.iloadN X0.here hx rfl (hb hby d25_0) rfl ?_
   show Steps _ _ _ (s₁.setTop (mkF m 1 #[vR a1, vI (0 : Int32), vI (2 : Int32), vJ (φ r), .second, .unset, .unset, .unset, .unset, .unset] [(.int (0 : Int32))])) _
   refine XS.istore X0.here hx rfl (hb hby d25_1) rfl (l' := #[vR a1, vI (0 : Int32), vI (2 : Int32), vJ (φ r), .second, vI (0 : Int32), .unset, .unset, .unset, .unset]) rfl ?_
   refine XS.iloadN X0.here hx rfl (hb hby d25_3) rfl ?_
   refine XS.iconst X0.here hx rfl (hb hby d25_4) ?_
   show Steps _ _ _ (s₁.setTop (mkF m 5 #[vR a1, vI (0 : Int32), vI (2 : Int32), vJ (φ r), .second, vI (0 : Int32), .unset, .unset, .unset, .unset] [(.int (1 : Int32)), (.int (2 : Int32))])) _
   refine XS.isub X0.here hx rfl (hb hby d25_5) rfl ?_
   show Steps _ _ _ (s₁.setTop (mkF m 6 #[vR a1, vI (0 : Int32), vI (2 : Int32), vJ (φ r), .second, vI (0 : Int32), .unset, .unset, .unset, .unset] [(.int ((2 : Int32) - (1 : Int32)))])) _
   refine XS.istore X0.here hx rfl (hb hby d25_6) rfl (l' := #[vR a1, vI (0 : Int32), vI (2 : Int32), vJ (φ r), .second, vI (0 : Int32), vI ((2 : Int32) - (1 : Int32)), .unset, .unset, .unset]) rfl ?_
   exact kt)
  clear R481
  have R483 := fun (tg : State) (kt : Steps p.tables e below (s₁.setTop (mkF m 8 #[vR a1, vI (0 : Int32), vI (2 : Int32), vJ (φ r), .second, vI (0 : Int32), vI (1 : Int32), .unset, .unset, .unset] [])) tg) => R482 tg kt
  clear R482
  have R484 := fun (tg : State) (kt : Steps p.tables e below (s₁.setTop (mkF m 22 #[vR a1, vI (0 : Int32), vI (2 : Int32), vJ (φ r), .second, vI (0 : Int32), vI (1 : Int32), .unset, .unset, .unset] [(.int ((((0 : Int32) + (1 : Int32)).toUInt32 >>> ((1 : Int32) &&& 31).toUInt32).toInt32))])) tg) => R483 tg (by
   show Steps _ _ _ (s₁.setTop (mkF m 8 #[vR a1, vI (0 : Int32), vI (2 : Int32), vJ (φ r), .second, vI (0 : Int32), vI (1 : Int32), .unset, .unset, .unset] [])) _
   refine XS.iload X0.here hx rfl (hb hby d25_8) rfl ?_
   refine XS.iload X0.here hx rfl (hb hby d25_10) rfl ?_
   show Steps _ _ _ (s₁.setTop (mkF m 12 #[vR a1, vI (0 : Int32), vI (2 : Int32), vJ (φ r), .second, vI (0 : Int32), vI (1 : Int32), .unset, .unset, .unset] [(.int (1 : Int32)), (.int (0 : Int32))])) _
   refine XS.icmpNo X0.here hx rfl (hb hby d25_12) rfl (flt (by decide : ¬ ((1 : Int32) < (0 : Int32)))).2.2.1 ?_
   refine XS.iload X0.here hx rfl (hb hby d25_15) rfl ?_
   refine XS.iload X0.here hx rfl (hb hby d25_17) rfl ?_
   show Steps _ _ _ (s₁.setTop (mkF m 19 #[vR a1, vI (0 : Int32), vI (2 : Int32), vJ (φ r), .second, vI (0 : Int32), vI (1 : Int32), .unset, .unset, .unset] [(.int (1 : Int32)), (.int (0 : Int32))])) _
   refine XS.iadd X0.here hx rfl (hb hby d25_19) rfl ?_
   refine XS.iconst X0.here hx rfl (hb hby d25_20) ?_
   show Steps _ _ _ (s₁.setTop (mkF m 21 #[vR a1, vI (0 : Int32), vI (2 : Int32), vJ (φ r), .second, vI (0 : Int32), vI (1 : Int32), .unset, .unset, .unset] [(.int (1 : Int32)), (.int ((0 : Int32) + (1 : Int32)))])) _
   refine XS.iushr X0.here hx rfl (hb hby d25_21) rfl ?_
   exact kt)
  clear R483
  have R485 := fun (tg : State) (kt : Steps p.tables e below (s₁.setTop (mkF m 22 #[vR a1, vI (0 : Int32), vI (2 : Int32), vJ (φ r), .second, vI (0 : Int32), vI (1 : Int32), .unset, .unset, .unset] [(.int (0 : Int32))])) tg) => R484 tg kt
  clear R484
  have ln0 : 0 < ([x0, x1] : List Nat).length := by simp
  have R486 := fun (tg : State) (kt : Steps p.tables e below (s₁.setTop (mkF m 27 #[vR a1, vI (0 : Int32), vI (2 : Int32), vJ (φ r), .second, vI (0 : Int32), vI (1 : Int32), vI (0 : Int32), .unset, .unset] [(.int (0 : Int32)), (.ref a1)])) tg) => R485 tg (by
   show Steps _ _ _ (s₁.setTop (mkF m 22 #[vR a1, vI (0 : Int32), vI (2 : Int32), vJ (φ r), .second, vI (0 : Int32), vI (1 : Int32), .unset, .unset, .unset] [(.int (0 : Int32))])) _
   refine XS.istore X0.here hx rfl (hb hby d25_22) rfl (l' := #[vR a1, vI (0 : Int32), vI (2 : Int32), vJ (φ r), .second, vI (0 : Int32), vI (1 : Int32), vI (0 : Int32), .unset, .unset]) rfl ?_
   refine XS.aloadN X0.here hx rfl (hb hby d25_24) rfl rfl ?_
   refine XS.iload X0.here hx rfl (hb hby d25_25) rfl ?_
   exact kt)
  clear R485
  obtain ⟨cl487, Ar487, hin487, hat487⟩ := WF.at (j := (0 : Int32)) (k := 0) (by decide) rfl ln0
  have R488 := fun (tg : State) (kt : Steps p.tables e below (s₁.setTop (mkF m 34 #[vR a1, vI (0 : Int32), vI (2 : Int32), vJ (φ r), .second, vI (0 : Int32), vI (1 : Int32), vI (0 : Int32), vJ (φ x0), .second] [(.int (lcmpW (φ x0) (φ r)))])) tg) => R486 tg (by
   show Steps _ _ _ (s₁.setTop (mkF m 27 #[vR a1, vI (0 : Int32), vI (2 : Int32), vJ (φ r), .second, vI (0 : Int32), vI (1 : Int32), vI (0 : Int32), .unset, .unset] [(.int (0 : Int32)), (.ref a1)])) _
   refine X0.laload hx (j := (0 : Int32)) (v := (.long (φ x0))) (by rw [e0]; exact Ar487.1) (State.isArrayOf_alike hZ.alike Ar487.2.1) Ar487.2.2 hin487 hat487 (g := (mkF m 27 #[vR a1, vI (0 : Int32), vI (2 : Int32), vJ (φ r), .second, vI (0 : Int32), vI (1 : Int32), vI (0 : Int32), .unset, .unset] [(.int (0 : Int32)), (.ref a1)])) rfl rfl (hb hby d25_27) _ ?_
   show Steps _ _ _ (s₁.setTop (mkF m 28 #[vR a1, vI (0 : Int32), vI (2 : Int32), vJ (φ r), .second, vI (0 : Int32), vI (1 : Int32), vI (0 : Int32), .unset, .unset] [(.long (φ x0))])) _
   refine XS.lstore X0.here hx rfl (hb hby d25_28) rfl (l' := #[vR a1, vI (0 : Int32), vI (2 : Int32), vJ (φ r), .second, vI (0 : Int32), vI (1 : Int32), vI (0 : Int32), vJ (φ x0), .second]) rfl ?_
   refine XS.lload X0.here hx rfl (hb hby d25_30) rfl ?_
   refine XS.lloadN X0.here hx rfl (hb hby d25_32) rfl ?_
   show Steps _ _ _ (s₁.setTop (mkF m 33 #[vR a1, vI (0 : Int32), vI (2 : Int32), vJ (φ r), .second, vI (0 : Int32), vI (1 : Int32), vI (0 : Int32), vJ (φ x0), .second] [(.long (φ r)), (.long (φ x0))])) _
   refine XS.lcmp X0.here hx rfl (hb hby d25_33) rfl ?_
   exact kt)
  clear R486
  by_cases ca0 : x0 < r
  ·have R489 := fun (tg : State) (kt : Steps p.tables e below (s₁.setTop (mkF m 8 #[vR a1, vI (0 : Int32), vI (2 : Int32), vJ (φ r), .second, vI ((0 : Int32) + (1 : Int32)), vI (1 : Int32), vI (0 : Int32), vJ (φ x0), .second] [])) tg) => R488 tg (by
    show Steps _ _ _ (s₁.setTop (mkF m 34 #[vR a1, vI (0 : Int32), vI (2 : Int32), vJ (φ r), .second, vI (0 : Int32), vI (1 : Int32), vI (0 : Int32), vJ (φ x0), .second] [(.int (lcmpW (φ x0) (φ r)))])) _
    refine XS.ifNo X0.here hx rfl (hb hby d25_34) rfl ((if0 _ _).trans (tlt ((own_cl H y0 hr).mpr ca0 : (lcmpW (φ x0) (φ r)) < (0 : Int32))).2.1) ?_
    refine XS.iload X0.here hx rfl (hb hby d25_37) rfl ?_
    refine XS.iconst X0.here hx rfl (hb hby d25_39) ?_
    show Steps _ _ _ (s₁.setTop (mkF m 40 #[vR a1, vI (0 : Int32), vI (2 : Int32), vJ (φ r), .second, vI (0 : Int32), vI (1 : Int32), vI (0 : Int32), vJ (φ x0), .second] [(.int (1 : Int32)), (.int (0 : Int32))])) _
    refine XS.iadd X0.here hx rfl (hb hby d25_40) rfl ?_
    show Steps _ _ _ (s₁.setTop (mkF m 41 #[vR a1, vI (0 : Int32), vI (2 : Int32), vJ (φ r), .second, vI (0 : Int32), vI (1 : Int32), vI (0 : Int32), vJ (φ x0), .second] [(.int ((0 : Int32) + (1 : Int32)))])) _
    refine XS.istore X0.here hx rfl (hb hby d25_41) rfl (l' := #[vR a1, vI (0 : Int32), vI (2 : Int32), vJ (φ r), .second, vI ((0 : Int32) + (1 : Int32)), vI (1 : Int32), vI (0 : Int32), vJ (φ x0), .second]) rfl ?_
    show Steps _ _ _ (s₁.setTop (mkF m 43 #[vR a1, vI (0 : Int32), vI (2 : Int32), vJ (φ r), .second, vI ((0 : Int32) + (1 : Int32)), vI (1 : Int32), vI (0 : Int32), vJ (φ x0), .second] [])) _
    refine XS.goto X0.here hx rfl (pc0 := 43) (pc' := 65) rfl (hb hby d25_43) (by decide) (by decide) ?_
    show Steps _ _ _ (s₁.setTop (mkF m 65 #[vR a1, vI (0 : Int32), vI (2 : Int32), vJ (φ r), .second, vI ((0 : Int32) + (1 : Int32)), vI (1 : Int32), vI (0 : Int32), vJ (φ x0), .second] [])) _
    refine XS.goto X0.here hx rfl (pc0 := 65) (pc' := 8) rfl (hb hby d25_65) (by decide) (by decide) ?_
    exact kt)
   clear R488
   have R490 := fun (tg : State) (kt : Steps p.tables e below (s₁.setTop (mkF m 8 #[vR a1, vI (0 : Int32), vI (2 : Int32), vJ (φ r), .second, vI (1 : Int32), vI (1 : Int32), vI (0 : Int32), vJ (φ x0), .second] [])) tg) => R489 tg kt
   clear R489
   have R491 := fun (tg : State) (kt : Steps p.tables e below (s₁.setTop (mkF m 22 #[vR a1, vI (0 : Int32), vI (2 : Int32), vJ (φ r), .second, vI (1 : Int32), vI (1 : Int32), vI (0 : Int32), vJ (φ x0), .second] [(.int ((((1 : Int32) + (1 : Int32)).toUInt32 >>> ((1 : Int32) &&& 31).toUInt32).toInt32))])) tg) => R490 tg (by
    show Steps _ _ _ (s₁.setTop (mkF m 8 #[vR a1, vI (0 : Int32), vI (2 : Int32), vJ (φ r), .second, vI (1 : Int32), vI (1 : Int32), vI (0 : Int32), vJ (φ x0), .second] [])) _
    refine XS.iload X0.here hx rfl (hb hby d25_8) rfl ?_
    refine XS.iload X0.here hx rfl (hb hby d25_10) rfl ?_
    show Steps _ _ _ (s₁.setTop (mkF m 12 #[vR a1, vI (0 : Int32), vI (2 : Int32), vJ (φ r), .second, vI (1 : Int32), vI (1 : Int32), vI (0 : Int32), vJ (φ x0), .second] [(.int (1 : Int32)), (.int (1 : Int32))])) _
    refine XS.icmpNo X0.here hx rfl (hb hby d25_12) rfl (flt (by decide : ¬ ((1 : Int32) < (1 : Int32)))).2.2.1 ?_
    refine XS.iload X0.here hx rfl (hb hby d25_15) rfl ?_
    refine XS.iload X0.here hx rfl (hb hby d25_17) rfl ?_
    show Steps _ _ _ (s₁.setTop (mkF m 19 #[vR a1, vI (0 : Int32), vI (2 : Int32), vJ (φ r), .second, vI (1 : Int32), vI (1 : Int32), vI (0 : Int32), vJ (φ x0), .second] [(.int (1 : Int32)), (.int (1 : Int32))])) _
    refine XS.iadd X0.here hx rfl (hb hby d25_19) rfl ?_
    refine XS.iconst X0.here hx rfl (hb hby d25_20) ?_
    show Steps _ _ _ (s₁.setTop (mkF m 21 #[vR a1, vI (0 : Int32), vI (2 : Int32), vJ (φ r), .second, vI (1 : Int32), vI (1 : Int32), vI (0 : Int32), vJ (φ x0), .second] [(.int (1 : Int32)), (.int ((1 : Int32) + (1 : Int32)))])) _
    refine XS.iushr X0.here hx rfl (hb hby d25_21) rfl ?_
    exact kt)
   clear R490
   have R492 := fun (tg : State) (kt : Steps p.tables e below (s₁.setTop (mkF m 22 #[vR a1, vI (0 : Int32), vI (2 : Int32), vJ (φ r), .second, vI (1 : Int32), vI (1 : Int32), vI (0 : Int32), vJ (φ x0), .second] [(.int (1 : Int32))])) tg) => R491 tg kt
   clear R491
   have ln1 : 1 < ([x0, x1] : List Nat).length := by simp
   have R493 := fun (tg : State) (kt : Steps p.tables e below (s₁.setTop (mkF m 27 #[vR a1, vI (0 : Int32), vI (2 : Int32), vJ (φ r), .second, vI (1 : Int32), vI (1 : Int32), vI (1 : Int32), vJ (φ x0), .second] [(.int (1 : Int32)), (.ref a1)])) tg) => R492 tg (by
    show Steps _ _ _ (s₁.setTop (mkF m 22 #[vR a1, vI (0 : Int32), vI (2 : Int32), vJ (φ r), .second, vI (1 : Int32), vI (1 : Int32), vI (0 : Int32), vJ (φ x0), .second] [(.int (1 : Int32))])) _
    refine XS.istore X0.here hx rfl (hb hby d25_22) rfl (l' := #[vR a1, vI (0 : Int32), vI (2 : Int32), vJ (φ r), .second, vI (1 : Int32), vI (1 : Int32), vI (1 : Int32), vJ (φ x0), .second]) rfl ?_
    refine XS.aloadN X0.here hx rfl (hb hby d25_24) rfl rfl ?_
    refine XS.iload X0.here hx rfl (hb hby d25_25) rfl ?_
    exact kt)
   clear R492
   obtain ⟨cl494, Ar494, hin494, hat494⟩ := WF.at (j := (1 : Int32)) (k := 1) (by decide) rfl ln1
   have R495 := fun (tg : State) (kt : Steps p.tables e below (s₁.setTop (mkF m 34 #[vR a1, vI (0 : Int32), vI (2 : Int32), vJ (φ r), .second, vI (1 : Int32), vI (1 : Int32), vI (1 : Int32), vJ (φ x1), .second] [(.int (lcmpW (φ x1) (φ r)))])) tg) => R493 tg (by
    show Steps _ _ _ (s₁.setTop (mkF m 27 #[vR a1, vI (0 : Int32), vI (2 : Int32), vJ (φ r), .second, vI (1 : Int32), vI (1 : Int32), vI (1 : Int32), vJ (φ x0), .second] [(.int (1 : Int32)), (.ref a1)])) _
    refine X0.laload hx (j := (1 : Int32)) (v := (.long (φ x1))) (by rw [e0]; exact Ar494.1) (State.isArrayOf_alike hZ.alike Ar494.2.1) Ar494.2.2 hin494 hat494 (g := (mkF m 27 #[vR a1, vI (0 : Int32), vI (2 : Int32), vJ (φ r), .second, vI (1 : Int32), vI (1 : Int32), vI (1 : Int32), vJ (φ x0), .second] [(.int (1 : Int32)), (.ref a1)])) rfl rfl (hb hby d25_27) _ ?_
    show Steps _ _ _ (s₁.setTop (mkF m 28 #[vR a1, vI (0 : Int32), vI (2 : Int32), vJ (φ r), .second, vI (1 : Int32), vI (1 : Int32), vI (1 : Int32), vJ (φ x0), .second] [(.long (φ x1))])) _
    refine XS.lstore X0.here hx rfl (hb hby d25_28) rfl (l' := #[vR a1, vI (0 : Int32), vI (2 : Int32), vJ (φ r), .second, vI (1 : Int32), vI (1 : Int32), vI (1 : Int32), vJ (φ x1), .second]) rfl ?_
    refine XS.lload X0.here hx rfl (hb hby d25_30) rfl ?_
    refine XS.lloadN X0.here hx rfl (hb hby d25_32) rfl ?_
    show Steps _ _ _ (s₁.setTop (mkF m 33 #[vR a1, vI (0 : Int32), vI (2 : Int32), vJ (φ r), .second, vI (1 : Int32), vI (1 : Int32), vI (1 : Int32), vJ (φ x1), .second] [(.long (φ r)), (.long (φ x1))])) _
    refine XS.lcmp X0.here hx rfl (hb hby d25_33) rfl ?_
    exact kt)
   clear R493
   by_cases ca1 : x1 < r
   ·have R496 := fun (tg : State) (kt : Steps p.tables e below (s₁.setTop (mkF m 8 #[vR a1, vI (0 : Int32), vI (2 : Int32), vJ (φ r), .second, vI ((1 : Int32) + (1 : Int32)), vI (1 : Int32), vI (1 : Int32), vJ (φ x1), .second] [])) tg) => R495 tg (by
     show Steps _ _ _ (s₁.setTop (mkF m 34 #[vR a1, vI (0 : Int32), vI (2 : Int32), vJ (φ r), .second, vI (1 : Int32), vI (1 : Int32), vI (1 : Int32), vJ (φ x1), .second] [(.int (lcmpW (φ x1) (φ r)))])) _
     refine XS.ifNo X0.here hx rfl (hb hby d25_34) rfl ((if0 _ _).trans (tlt ((own_cl H y1 hr).mpr ca1 : (lcmpW (φ x1) (φ r)) < (0 : Int32))).2.1) ?_
     refine XS.iload X0.here hx rfl (hb hby d25_37) rfl ?_
     refine XS.iconst X0.here hx rfl (hb hby d25_39) ?_
     show Steps _ _ _ (s₁.setTop (mkF m 40 #[vR a1, vI (0 : Int32), vI (2 : Int32), vJ (φ r), .second, vI (1 : Int32), vI (1 : Int32), vI (1 : Int32), vJ (φ x1), .second] [(.int (1 : Int32)), (.int (1 : Int32))])) _
     refine XS.iadd X0.here hx rfl (hb hby d25_40) rfl ?_
     show Steps _ _ _ (s₁.setTop (mkF m 41 #[vR a1, vI (0 : Int32), vI (2 : Int32), vJ (φ r), .second, vI (1 : Int32), vI (1 : Int32), vI (1 : Int32), vJ (φ x1), .second] [(.int ((1 : Int32) + (1 : Int32)))])) _
     refine XS.istore X0.here hx rfl (hb hby d25_41) rfl (l' := #[vR a1, vI (0 : Int32), vI (2 : Int32), vJ (φ r), .second, vI ((1 : Int32) + (1 : Int32)), vI (1 : Int32), vI (1 : Int32), vJ (φ x1), .second]) rfl ?_
     show Steps _ _ _ (s₁.setTop (mkF m 43 #[vR a1, vI (0 : Int32), vI (2 : Int32), vJ (φ r), .second, vI ((1 : Int32) + (1 : Int32)), vI (1 : Int32), vI (1 : Int32), vJ (φ x1), .second] [])) _
     refine XS.goto X0.here hx rfl (pc0 := 43) (pc' := 65) rfl (hb hby d25_43) (by decide) (by decide) ?_
     show Steps _ _ _ (s₁.setTop (mkF m 65 #[vR a1, vI (0 : Int32), vI (2 : Int32), vJ (φ r), .second, vI ((1 : Int32) + (1 : Int32)), vI (1 : Int32), vI (1 : Int32), vJ (φ x1), .second] [])) _
     refine XS.goto X0.here hx rfl (pc0 := 65) (pc' := 8) rfl (hb hby d25_65) (by decide) (by decide) ?_
     exact kt)
    clear R495
    have R497 := fun (tg : State) (kt : Steps p.tables e below (s₁.setTop (mkF m 8 #[vR a1, vI (0 : Int32), vI (2 : Int32), vJ (φ r), .second, vI (2 : Int32), vI (1 : Int32), vI (1 : Int32), vJ (φ x1), .second] [])) tg) => R496 tg kt
    clear R496
    have R498 := fun (tg : State) (kt : Steps p.tables e below (s₁.setTop (mkF m 73 #[vR a1, vI (0 : Int32), vI (2 : Int32), vJ (φ r), .second, vI (2 : Int32), vI (1 : Int32), vI (1 : Int32), vJ (φ x1), .second] [(.int (-((2 : Int32) + (1 : Int32))))])) tg) => R497 tg (by
     show Steps _ _ _ (s₁.setTop (mkF m 8 #[vR a1, vI (0 : Int32), vI (2 : Int32), vJ (φ r), .second, vI (2 : Int32), vI (1 : Int32), vI (1 : Int32), vJ (φ x1), .second] [])) _
     refine XS.iload X0.here hx rfl (hb hby d25_8) rfl ?_
     refine XS.iload X0.here hx rfl (hb hby d25_10) rfl ?_
     show Steps _ _ _ (s₁.setTop (mkF m 12 #[vR a1, vI (0 : Int32), vI (2 : Int32), vJ (φ r), .second, vI (2 : Int32), vI (1 : Int32), vI (1 : Int32), vJ (φ x1), .second] [(.int (1 : Int32)), (.int (2 : Int32))])) _
     refine XS.icmpYes X0.here hx rfl (pc0 := 12) (pc' := 68) rfl (hb hby d25_12) rfl (tlt (by decide : (1 : Int32) < (2 : Int32))).2.2.1 (by decide) (by decide) ?_
     refine XS.iload X0.here hx rfl (hb hby d25_68) rfl ?_
     refine XS.iconst X0.here hx rfl (hb hby d25_70) ?_
     show Steps _ _ _ (s₁.setTop (mkF m 71 #[vR a1, vI (0 : Int32), vI (2 : Int32), vJ (φ r), .second, vI (2 : Int32), vI (1 : Int32), vI (1 : Int32), vJ (φ x1), .second] [(.int (1 : Int32)), (.int (2 : Int32))])) _
     refine XS.iadd X0.here hx rfl (hb hby d25_71) rfl ?_
     show Steps _ _ _ (s₁.setTop (mkF m 72 #[vR a1, vI (0 : Int32), vI (2 : Int32), vJ (φ r), .second, vI (2 : Int32), vI (1 : Int32), vI (1 : Int32), vJ (φ x1), .second] [(.int ((2 : Int32) + (1 : Int32)))])) _
     refine XS.ineg X0.here hx rfl (hb hby d25_72) rfl ?_
     exact kt)
    clear R497
    have R499 := fun (tg : State) (kt : Steps p.tables e below (s₁.setTop (mkF m 73 #[vR a1, vI (0 : Int32), vI (2 : Int32), vJ (φ r), .second, vI (2 : Int32), vI (1 : Int32), vI (1 : Int32), vJ (φ x1), .second] [(.int (-3 : Int32))])) tg) => R498 tg kt
    clear R498
    obtain ⟨fs, hr, hrun, hended, hW, hsame⟩ := X0.leave (v := some (.int (-3 : Int32))) (fun h => by rw [Bd.returns] at h; cases h)
    refine ⟨_, _, pre0 _ (R499 _ ?_), hrun, hended, _, _, rfl, ?_, ⟨_, rfl⟩, hW, hsame.mono (by decide) (by decide)⟩
    ·exact retI X0 hx Bd.returns (hb hby d25_73) hr
    ·show Q_rm_bs0 Z a1 p2 p3 q4 φ cap fp r h0 n0 _ s₁.heap _
     rw [e0]
     exact ⟨by rw [el, own_bs, if_pos ca0, if_pos ca1], N0, rfl⟩
   ·have R500 := fun (tg : State) (kt : Steps p.tables e below (s₁.setTop (mkF m 50 #[vR a1, vI (0 : Int32), vI (2 : Int32), vJ (φ r), .second, vI (1 : Int32), vI (1 : Int32), vI (1 : Int32), vJ (φ x1), .second] [(.int (lcmpW (φ x1) (φ r)))])) tg) => R495 tg (by
     show Steps _ _ _ (s₁.setTop (mkF m 34 #[vR a1, vI (0 : Int32), vI (2 : Int32), vJ (φ r), .second, vI (1 : Int32), vI (1 : Int32), vI (1 : Int32), vJ (φ x1), .second] [(.int (lcmpW (φ x1) (φ r)))])) _
     refine XS.ifYes X0.here hx rfl (pc0 := 34) (pc' := 46) rfl (hb hby d25_34) rfl ((if0 _ _).trans (flt (fun q => ca1 ((own_cl H y1 hr).mp q) : ¬ ((lcmpW (φ x1) (φ r)) < (0 : Int32)))).2.1) (by decide) (by decide) ?_
     refine XS.lload X0.here hx rfl (hb hby d25_46) rfl ?_
     refine XS.lloadN X0.here hx rfl (hb hby d25_48) rfl ?_
     show Steps _ _ _ (s₁.setTop (mkF m 49 #[vR a1, vI (0 : Int32), vI (2 : Int32), vJ (φ r), .second, vI (1 : Int32), vI (1 : Int32), vI (1 : Int32), vJ (φ x1), .second] [(.long (φ r)), (.long (φ x1))])) _
     refine XS.lcmp X0.here hx rfl (hb hby d25_49) rfl ?_
     exact kt)
    clear R495
    by_cases cb1 : r < x1
    ·have R501 := fun (tg : State) (kt : Steps p.tables e below (s₁.setTop (mkF m 8 #[vR a1, vI (0 : Int32), vI (2 : Int32), vJ (φ r), .second, vI (1 : Int32), vI ((1 : Int32) - (1 : Int32)), vI (1 : Int32), vJ (φ x1), .second] [])) tg) => R500 tg (by
      show Steps _ _ _ (s₁.setTop (mkF m 50 #[vR a1, vI (0 : Int32), vI (2 : Int32), vJ (φ r), .second, vI (1 : Int32), vI (1 : Int32), vI (1 : Int32), vJ (φ x1), .second] [(.int (lcmpW (φ x1) (φ r)))])) _
      refine XS.ifNo X0.here hx rfl (hb hby d25_50) rfl ((if0 _ _).trans (tlt ((own_cg H y1 hr).mpr cb1 : (0 : Int32) < (lcmpW (φ x1) (φ r)))).2.2.2) ?_
      refine XS.iload X0.here hx rfl (hb hby d25_53) rfl ?_
      refine XS.iconst X0.here hx rfl (hb hby d25_55) ?_
      show Steps _ _ _ (s₁.setTop (mkF m 56 #[vR a1, vI (0 : Int32), vI (2 : Int32), vJ (φ r), .second, vI (1 : Int32), vI (1 : Int32), vI (1 : Int32), vJ (φ x1), .second] [(.int (1 : Int32)), (.int (1 : Int32))])) _
      refine XS.isub X0.here hx rfl (hb hby d25_56) rfl ?_
      show Steps _ _ _ (s₁.setTop (mkF m 57 #[vR a1, vI (0 : Int32), vI (2 : Int32), vJ (φ r), .second, vI (1 : Int32), vI (1 : Int32), vI (1 : Int32), vJ (φ x1), .second] [(.int ((1 : Int32) - (1 : Int32)))])) _
      refine XS.istore X0.here hx rfl (hb hby d25_57) rfl (l' := #[vR a1, vI (0 : Int32), vI (2 : Int32), vJ (φ r), .second, vI (1 : Int32), vI ((1 : Int32) - (1 : Int32)), vI (1 : Int32), vJ (φ x1), .second]) rfl ?_
      show Steps _ _ _ (s₁.setTop (mkF m 59 #[vR a1, vI (0 : Int32), vI (2 : Int32), vJ (φ r), .second, vI (1 : Int32), vI ((1 : Int32) - (1 : Int32)), vI (1 : Int32), vJ (φ x1), .second] [])) _
      refine XS.goto X0.here hx rfl (pc0 := 59) (pc' := 65) rfl (hb hby d25_59) (by decide) (by decide) ?_
      show Steps _ _ _ (s₁.setTop (mkF m 65 #[vR a1, vI (0 : Int32), vI (2 : Int32), vJ (φ r), .second, vI (1 : Int32), vI ((1 : Int32) - (1 : Int32)), vI (1 : Int32), vJ (φ x1), .second] [])) _
      refine XS.goto X0.here hx rfl (pc0 := 65) (pc' := 8) rfl (hb hby d25_65) (by decide) (by decide) ?_
      exact kt)
     clear R500
     have R502 := fun (tg : State) (kt : Steps p.tables e below (s₁.setTop (mkF m 8 #[vR a1, vI (0 : Int32), vI (2 : Int32), vJ (φ r), .second, vI (1 : Int32), vI (0 : Int32), vI (1 : Int32), vJ (φ x1), .second] [])) tg) => R501 tg kt
     clear R501
     have R503 := fun (tg : State) (kt : Steps p.tables e below (s₁.setTop (mkF m 73 #[vR a1, vI (0 : Int32), vI (2 : Int32), vJ (φ r), .second, vI (1 : Int32), vI (0 : Int32), vI (1 : Int32), vJ (φ x1), .second] [(.int (-((1 : Int32) + (1 : Int32))))])) tg) => R502 tg (by
      show Steps _ _ _ (s₁.setTop (mkF m 8 #[vR a1, vI (0 : Int32), vI (2 : Int32), vJ (φ r), .second, vI (1 : Int32), vI (0 : Int32), vI (1 : Int32), vJ (φ x1), .second] [])) _
      refine XS.iload X0.here hx rfl (hb hby d25_8) rfl ?_
      refine XS.iload X0.here hx rfl (hb hby d25_10) rfl ?_
      show Steps _ _ _ (s₁.setTop (mkF m 12 #[vR a1, vI (0 : Int32), vI (2 : Int32), vJ (φ r), .second, vI (1 : Int32), vI (0 : Int32), vI (1 : Int32), vJ (φ x1), .second] [(.int (0 : Int32)), (.int (1 : Int32))])) _
      refine XS.icmpYes X0.here hx rfl (pc0 := 12) (pc' := 68) rfl (hb hby d25_12) rfl (tlt (by decide : (0 : Int32) < (1 : Int32))).2.2.1 (by decide) (by decide) ?_
      refine XS.iload X0.here hx rfl (hb hby d25_68) rfl ?_
      refine XS.iconst X0.here hx rfl (hb hby d25_70) ?_
      show Steps _ _ _ (s₁.setTop (mkF m 71 #[vR a1, vI (0 : Int32), vI (2 : Int32), vJ (φ r), .second, vI (1 : Int32), vI (0 : Int32), vI (1 : Int32), vJ (φ x1), .second] [(.int (1 : Int32)), (.int (1 : Int32))])) _
      refine XS.iadd X0.here hx rfl (hb hby d25_71) rfl ?_
      show Steps _ _ _ (s₁.setTop (mkF m 72 #[vR a1, vI (0 : Int32), vI (2 : Int32), vJ (φ r), .second, vI (1 : Int32), vI (0 : Int32), vI (1 : Int32), vJ (φ x1), .second] [(.int ((1 : Int32) + (1 : Int32)))])) _
      refine XS.ineg X0.here hx rfl (hb hby d25_72) rfl ?_
      exact kt)
     clear R502
     have R504 := fun (tg : State) (kt : Steps p.tables e below (s₁.setTop (mkF m 73 #[vR a1, vI (0 : Int32), vI (2 : Int32), vJ (φ r), .second, vI (1 : Int32), vI (0 : Int32), vI (1 : Int32), vJ (φ x1), .second] [(.int (-2 : Int32))])) tg) => R503 tg kt
     clear R503
     obtain ⟨fs, hr, hrun, hended, hW, hsame⟩ := X0.leave (v := some (.int (-2 : Int32))) (fun h => by rw [Bd.returns] at h; cases h)
     refine ⟨_, _, pre0 _ (R504 _ ?_), hrun, hended, _, _, rfl, ?_, ⟨_, rfl⟩, hW, hsame.mono (by decide) (by decide)⟩
     ·exact retI X0 hx Bd.returns (hb hby d25_73) hr
     ·show Q_rm_bs0 Z a1 p2 p3 q4 φ cap fp r h0 n0 _ s₁.heap _
      rw [e0]
      exact ⟨by rw [el, own_bs, if_pos ca0, if_neg ca1, if_pos cb1], N0, rfl⟩
    ·have R505 := fun (tg : State) (kt : Steps p.tables e below (s₁.setTop (mkF m 64 #[vR a1, vI (0 : Int32), vI (2 : Int32), vJ (φ r), .second, vI (1 : Int32), vI (1 : Int32), vI (1 : Int32), vJ (φ x1), .second] [(.int (1 : Int32))])) tg) => R500 tg (by
      show Steps _ _ _ (s₁.setTop (mkF m 50 #[vR a1, vI (0 : Int32), vI (2 : Int32), vJ (φ r), .second, vI (1 : Int32), vI (1 : Int32), vI (1 : Int32), vJ (φ x1), .second] [(.int (lcmpW (φ x1) (φ r)))])) _
      refine XS.ifYes X0.here hx rfl (pc0 := 50) (pc' := 62) rfl (hb hby d25_50) rfl ((if0 _ _).trans (flt (fun q => cb1 ((own_cg H y1 hr).mp q) : ¬ ((0 : Int32) < (lcmpW (φ x1) (φ r))))).2.2.2) (by decide) (by decide) ?_
      refine XS.iload X0.here hx rfl (hb hby d25_62) rfl ?_
      exact kt)
     clear R500
     obtain ⟨fs, hr, hrun, hended, hW, hsame⟩ := X0.leave (v := some (.int (1 : Int32))) (fun h => by rw [Bd.returns] at h; cases h)
     refine ⟨_, _, pre0 _ (R505 _ ?_), hrun, hended, _, _, rfl, ?_, ⟨_, rfl⟩, hW, hsame.mono (by decide) (by decide)⟩
     ·exact retI X0 hx Bd.returns (hb hby d25_64) hr
     ·show Q_rm_bs0 Z a1 p2 p3 q4 φ cap fp r h0 n0 _ s₁.heap _
      rw [e0]
      exact ⟨by rw [el, own_bs, if_pos ca0, if_neg ca1, if_neg cb1], N0, rfl⟩
  ·have R506 := fun (tg : State) (kt : Steps p.tables e below (s₁.setTop (mkF m 50 #[vR a1, vI (0 : Int32), vI (2 : Int32), vJ (φ r), .second, vI (0 : Int32), vI (1 : Int32), vI (0 : Int32), vJ (φ x0), .second] [(.int (lcmpW (φ x0) (φ r)))])) tg) => R488 tg (by
    show Steps _ _ _ (s₁.setTop (mkF m 34 #[vR a1, vI (0 : Int32), vI (2 : Int32), vJ (φ r), .second, vI (0 : Int32), vI (1 : Int32), vI (0 : Int32), vJ (φ x0), .second] [(.int (lcmpW (φ x0) (φ r)))])) _
    refine XS.ifYes X0.here hx rfl (pc0 := 34) (pc' := 46) rfl (hb hby d25_34) rfl ((if0 _ _).trans (flt (fun q => ca0 ((own_cl H y0 hr).mp q) : ¬ ((lcmpW (φ x0) (φ r)) < (0 : Int32)))).2.1) (by decide) (by decide) ?_
    refine XS.lload X0.here hx rfl (hb hby d25_46) rfl ?_
    refine XS.lloadN X0.here hx rfl (hb hby d25_48) rfl ?_
    show Steps _ _ _ (s₁.setTop (mkF m 49 #[vR a1, vI (0 : Int32), vI (2 : Int32), vJ (φ r), .second, vI (0 : Int32), vI (1 : Int32), vI (0 : Int32), vJ (φ x0), .second] [(.long (φ r)), (.long (φ x0))])) _
    refine XS.lcmp X0.here hx rfl (hb hby d25_49) rfl ?_
    exact kt)
   clear R488
   by_cases cb0 : r < x0
   ·have R507 := fun (tg : State) (kt : Steps p.tables e below (s₁.setTop (mkF m 8 #[vR a1, vI (0 : Int32), vI (2 : Int32), vJ (φ r), .second, vI (0 : Int32), vI ((0 : Int32) - (1 : Int32)), vI (0 : Int32), vJ (φ x0), .second] [])) tg) => R506 tg (by
     show Steps _ _ _ (s₁.setTop (mkF m 50 #[vR a1, vI (0 : Int32), vI (2 : Int32), vJ (φ r), .second, vI (0 : Int32), vI (1 : Int32), vI (0 : Int32), vJ (φ x0), .second] [(.int (lcmpW (φ x0) (φ r)))])) _
     refine XS.ifNo X0.here hx rfl (hb hby d25_50) rfl ((if0 _ _).trans (tlt ((own_cg H y0 hr).mpr cb0 : (0 : Int32) < (lcmpW (φ x0) (φ r)))).2.2.2) ?_
     refine XS.iload X0.here hx rfl (hb hby d25_53) rfl ?_
     refine XS.iconst X0.here hx rfl (hb hby d25_55) ?_
     show Steps _ _ _ (s₁.setTop (mkF m 56 #[vR a1, vI (0 : Int32), vI (2 : Int32), vJ (φ r), .second, vI (0 : Int32), vI (1 : Int32), vI (0 : Int32), vJ (φ x0), .second] [(.int (1 : Int32)), (.int (0 : Int32))])) _
     refine XS.isub X0.here hx rfl (hb hby d25_56) rfl ?_
     show Steps _ _ _ (s₁.setTop (mkF m 57 #[vR a1, vI (0 : Int32), vI (2 : Int32), vJ (φ r), .second, vI (0 : Int32), vI (1 : Int32), vI (0 : Int32), vJ (φ x0), .second] [(.int ((0 : Int32) - (1 : Int32)))])) _
     refine XS.istore X0.here hx rfl (hb hby d25_57) rfl (l' := #[vR a1, vI (0 : Int32), vI (2 : Int32), vJ (φ r), .second, vI (0 : Int32), vI ((0 : Int32) - (1 : Int32)), vI (0 : Int32), vJ (φ x0), .second]) rfl ?_
     show Steps _ _ _ (s₁.setTop (mkF m 59 #[vR a1, vI (0 : Int32), vI (2 : Int32), vJ (φ r), .second, vI (0 : Int32), vI ((0 : Int32) - (1 : Int32)), vI (0 : Int32), vJ (φ x0), .second] [])) _
     refine XS.goto X0.here hx rfl (pc0 := 59) (pc' := 65) rfl (hb hby d25_59) (by decide) (by decide) ?_
     show Steps _ _ _ (s₁.setTop (mkF m 65 #[vR a1, vI (0 : Int32), vI (2 : Int32), vJ (φ r), .second, vI (0 : Int32), vI ((0 : Int32) - (1 : Int32)), vI (0 : Int32), vJ (φ x0), .second] [])) _
     refine XS.goto X0.here hx rfl (pc0 := 65) (pc' := 8) rfl (hb hby d25_65) (by decide) (by decide) ?_
     exact kt)
    clear R506
    have R508 := fun (tg : State) (kt : Steps p.tables e below (s₁.setTop (mkF m 8 #[vR a1, vI (0 : Int32), vI (2 : Int32), vJ (φ r), .second, vI (0 : Int32), vI (-1 : Int32), vI (0 : Int32), vJ (φ x0), .second] [])) tg) => R507 tg kt
    clear R507
    have R509 := fun (tg : State) (kt : Steps p.tables e below (s₁.setTop (mkF m 73 #[vR a1, vI (0 : Int32), vI (2 : Int32), vJ (φ r), .second, vI (0 : Int32), vI (-1 : Int32), vI (0 : Int32), vJ (φ x0), .second] [(.int (-((0 : Int32) + (1 : Int32))))])) tg) => R508 tg (by
     show Steps _ _ _ (s₁.setTop (mkF m 8 #[vR a1, vI (0 : Int32), vI (2 : Int32), vJ (φ r), .second, vI (0 : Int32), vI (-1 : Int32), vI (0 : Int32), vJ (φ x0), .second] [])) _
     refine XS.iload X0.here hx rfl (hb hby d25_8) rfl ?_
     refine XS.iload X0.here hx rfl (hb hby d25_10) rfl ?_
     show Steps _ _ _ (s₁.setTop (mkF m 12 #[vR a1, vI (0 : Int32), vI (2 : Int32), vJ (φ r), .second, vI (0 : Int32), vI (-1 : Int32), vI (0 : Int32), vJ (φ x0), .second] [(.int (-1 : Int32)), (.int (0 : Int32))])) _
     refine XS.icmpYes X0.here hx rfl (pc0 := 12) (pc' := 68) rfl (hb hby d25_12) rfl (tlt (by decide : (-1 : Int32) < (0 : Int32))).2.2.1 (by decide) (by decide) ?_
     refine XS.iload X0.here hx rfl (hb hby d25_68) rfl ?_
     refine XS.iconst X0.here hx rfl (hb hby d25_70) ?_
     show Steps _ _ _ (s₁.setTop (mkF m 71 #[vR a1, vI (0 : Int32), vI (2 : Int32), vJ (φ r), .second, vI (0 : Int32), vI (-1 : Int32), vI (0 : Int32), vJ (φ x0), .second] [(.int (1 : Int32)), (.int (0 : Int32))])) _
     refine XS.iadd X0.here hx rfl (hb hby d25_71) rfl ?_
     show Steps _ _ _ (s₁.setTop (mkF m 72 #[vR a1, vI (0 : Int32), vI (2 : Int32), vJ (φ r), .second, vI (0 : Int32), vI (-1 : Int32), vI (0 : Int32), vJ (φ x0), .second] [(.int ((0 : Int32) + (1 : Int32)))])) _
     refine XS.ineg X0.here hx rfl (hb hby d25_72) rfl ?_
     exact kt)
    clear R508
    have R510 := fun (tg : State) (kt : Steps p.tables e below (s₁.setTop (mkF m 73 #[vR a1, vI (0 : Int32), vI (2 : Int32), vJ (φ r), .second, vI (0 : Int32), vI (-1 : Int32), vI (0 : Int32), vJ (φ x0), .second] [(.int (-1 : Int32))])) tg) => R509 tg kt
    clear R509
    obtain ⟨fs, hr, hrun, hended, hW, hsame⟩ := X0.leave (v := some (.int (-1 : Int32))) (fun h => by rw [Bd.returns] at h; cases h)
    refine ⟨_, _, pre0 _ (R510 _ ?_), hrun, hended, _, _, rfl, ?_, ⟨_, rfl⟩, hW, hsame.mono (by decide) (by decide)⟩
    ·exact retI X0 hx Bd.returns (hb hby d25_73) hr
    ·show Q_rm_bs0 Z a1 p2 p3 q4 φ cap fp r h0 n0 _ s₁.heap _
     rw [e0]
     exact ⟨by rw [el, own_bs, if_neg ca0, if_pos cb0], N0, rfl⟩
   ·have R511 := fun (tg : State) (kt : Steps p.tables e below (s₁.setTop (mkF m 64 #[vR a1, vI (0 : Int32), vI (2 : Int32), vJ (φ r), .second, vI (0 : Int32), vI (1 : Int32), vI (0 : Int32), vJ (φ x0), .second] [(.int (0 : Int32))])) tg) => R506 tg (by
     show Steps _ _ _ (s₁.setTop (mkF m 50 #[vR a1, vI (0 : Int32), vI (2 : Int32), vJ (φ r), .second, vI (0 : Int32), vI (1 : Int32), vI (0 : Int32), vJ (φ x0), .second] [(.int (lcmpW (φ x0) (φ r)))])) _
     refine XS.ifYes X0.here hx rfl (pc0 := 50) (pc' := 62) rfl (hb hby d25_50) rfl ((if0 _ _).trans (flt (fun q => cb0 ((own_cg H y0 hr).mp q) : ¬ ((0 : Int32) < (lcmpW (φ x0) (φ r))))).2.2.2) (by decide) (by decide) ?_
     refine XS.iload X0.here hx rfl (hb hby d25_62) rfl ?_
     exact kt)
    clear R506
    obtain ⟨fs, hr, hrun, hended, hW, hsame⟩ := X0.leave (v := some (.int (0 : Int32))) (fun h => by rw [Bd.returns] at h; cases h)
    refine ⟨_, _, pre0 _ (R511 _ ?_), hrun, hended, _, _, rfl, ?_, ⟨_, rfl⟩, hW, hsame.mono (by decide) (by decide)⟩
    ·exact retI X0 hx Bd.returns (hb hby d25_64) hr
    ·show Q_rm_bs0 Z a1 p2 p3 q4 φ cap fp r h0 n0 _ s₁.heap _
     rw [e0]
     exact ⟨by rw [el, own_bs, if_neg ca0, if_neg cb0], N0, rfl⟩
theorem d24_0 : oD k5 0 (.aload_n 0) 1 := by decide +kernel
theorem d24_1 : oD k5 1 .arraylength 1 := by decide +kernel
theorem d24_2 : oD k5 2 (.iload_n 1) 1 := by decide +kernel
theorem d24_3 : oD k5 3 (.iload_n 2) 1 := by decide +kernel
theorem d24_4 : oD k5 4 (.invokestatic 13) 3 := by decide +kernel
theorem d24_7 : oD k5 7 (.aload_n 0) 1 := by decide +kernel
theorem d24_8 : oD k5 8 (.iload_n 1) 1 := by decide +kernel
theorem d24_9 : oD k5 9 (.iload_n 2) 1 := by decide +kernel
theorem d24_10 : oD k5 10 (.lload_n 3) 1 := by decide +kernel
theorem pd_8 : parseMethodDescriptor "([JIIJ)I" = some ⟨[(.array .long), .int, .int, .long], some .int⟩ := by decide +kernel
theorem d24_11 : oD k5 11 (.invokestatic 205) 3 := by decide +kernel
theorem d24_14 : oD k5 14 .ireturn 1 := by decide +kernel
theorem ef_rm_bse (m : MethodId) (a1 : Addr) (p2 : Int32) (p3 : Int32) (q4 : Int64) : entryFrame m #[(.ref a1), (.int p2), (.int p3), (.long q4)] 5 = mkF m 0 #[vR a1, vI p2, vI p3, vJ q4, .second] [] := by first | (simp [entryFrame, mkF, argsToLocals, Value.category]; done) | rfl
def Q_rm_bse (Z : State) (a1 : Addr) (p2 : Int32) (p3 : Int32) (q4 : Int64) (φ : Nat → Int64) (cap : Nat) (fp : List Nat) (r : Nat) (h0 : Heap) (n0 : Nat) (v : Option Value) (h : Heap) (L : List Loc) : Prop := v = some (.int (own_bs fp r)) ∧ Fr n0 L ∧ h = h0
set_option maxRecDepth 65536 in
set_option maxHeartbeats 40000000 in
theorem rm_bse (l : Launch) (Z : State) (a0 : Array Value) (hw : ∀ d ∈ tables_1, d.before a0 Z = true) (ws : List Jvm.Cond) (a1 : Addr) (p2 : Int32) (p3 : Int32) (q4 : Int64) (φ : Nat → Int64) (cap : Nat) (fp : List Nat) (r : Nat) (h0 : Heap) (n0 : Nat) (Z0 : n0 ≤ h0.size) (WF : VG Z h0 a1 .long cap (fun r => .long (φ r)) 0 fp) (H : own_mono φ) (ok : own_ok2 fp) (hr : r < 4) (hp2 : p2 = (0 : Int32)) (hp3 : p3 = (own_i fp.length)) (hq : q4 = φ r) (hc : cap ≤ 4) :
  MetFree l (⟨"java/util/Arrays", "binarySearch", "([JIIJ)I"⟩ : MethodName) (head1 (Jvm.Cond.code (⟨"java/util/Arrays", "binarySearch", "([JIIJ)I"⟩ : MethodName) jdk_65_method_55_code 5 (some .int) :: ws) rM3) (fun a U => a = #[(.ref a1), (.int p2), (.int p3), (.long q4)] ∧ Z.Warmed39 U.vm ∧ U.heap = h0) (fun _ _ _ _ _ => True) (fun _ U oC U' => ∃ v L, oC = .returned v ∧ Q_rm_bse Z a1 p2 p3 q4 φ cap fp r h0 n0 v U'.heap L ∧ FrameEnd U oC U' L rM3.cells rM3.slots) := by
 refine MetFree.of_bodySF (plainFor_of_name pn_3) hisR ?_
 intro p e s m args below meth c s₁ Bd hml0 hP hK
 obtain ⟨rfl, hZ, hh⟩ := hP
 have hx := Bd.exec
 have hby := Bd.bytes
 have hml : c.maxLocals = 5 := hml0
 have hown : s.vm.findClass "java/util/Arrays" = some m.cls := findClass_of_methodNamed Bd.named
 have hnm := (name_of_methodNamed Bd.named Bd.method).1
 have X0 : Stand p l e rM3 s m #[(.ref a1), (.int p2), (.int p3), (.long q4)] below meth c s₁ [] 0 0 := Stand.of_body Bd
 have e0 : s₁.heap = h0 := by rw [← hh, Bd.state]; rfl
 have N0 := Fr.nil n0
 have pre0 : Sq p e below (s₁.setTop (mkF m 0 #[vR a1, vI p2, vI p3, vJ q4, .second] [])) (s₁.setTop (entryFrame m #[(.ref a1), (.int p2), (.int p3), (.long q4)] 5)) := fun t k => castTop (ef_rm_bse m a1 p2 p3 q4) k
 have pre00 : Sq p e below (s₁.setTop (mkF m 0 #[vR a1, vI p2, vI p3, vJ q4, .second] [])) (s₁.setTop (mkF m 0 #[vR a1, vI p2, vI p3, vJ q4, .second] [])) := fun _ k => k
 have R512 := fun (tg : State) (kt : Steps p.tables e below (s₁.setTop (mkF m 0 #[vR a1, vI (0 : Int32), vI (own_i fp.length), vJ (φ r), .second] [])) tg) => pre00 tg (by rw [hp2, hp3, hq]; exact kt)
 obtain ⟨i0, ik⟩ := own_ic (own_4i (Nat.le_trans ok.1 (by decide)))
 have R513 := fun (tg : State) (kt : Steps p.tables e below (s₁.setTop (mkF m 1 #[vR a1, vI (0 : Int32), vI (own_i fp.length), vJ (φ r), .second] [(.ref a1)])) tg) => R512 tg (by
  show Steps _ _ _ (s₁.setTop (mkF m 0 #[vR a1, vI (0 : Int32), vI (own_i fp.length), vJ (φ r), .second] [])) _
  refine XS.aloadN X0.here hx rfl (hb hby d24_0) rfl rfl ?_
  exact kt)
 clear R512
 obtain ⟨cl514, Ar514, ln514⟩ := WF.len
 have R515 := fun (tg : State) (kt : Steps p.tables e below (s₁.setTop (mkF m 4 #[vR a1, vI (0 : Int32), vI (own_i fp.length), vJ (φ r), .second] [(.int (own_i fp.length)), (.int (0 : Int32)), (.int (own_i cap))])) tg) => R513 tg (by
  show Steps _ _ _ (s₁.setTop (mkF m 1 #[vR a1, vI (0 : Int32), vI (own_i fp.length), vJ (φ r), .second] [(.ref a1)])) _
  refine X0.arraylength hx (by rw [e0]; exact Ar514.1) (State.isArrayOf_alike hZ.alike Ar514.2.1) (g := (mkF m 1 #[vR a1, vI (0 : Int32), vI (own_i fp.length), vJ (φ r), .second] [(.ref a1)])) rfl rfl (hb hby d24_1) _ ?_
  rw [ln514]
  show Steps _ _ _ (s₁.setTop (mkF m 2 #[vR a1, vI (0 : Int32), vI (own_i fp.length), vJ (φ r), .second] [(.int (own_i cap))])) _
  refine XS.iloadN X0.here hx rfl (hb hby d24_2) rfl ?_
  refine XS.iloadN X0.here hx rfl (hb hby d24_3) rfl ?_
  exact kt)
 clear R513
 obtain ⟨_, _, ⟨T516, L516, k516, n516⟩, -, X516, ⟨Lc516, hQ516, l516, y516, z516⟩, st516⟩ := Jvm.LawKit.callS X0 hx (y := (⟨"java/util/Arrays", "rangeCheck", "(III)V"⟩ : MethodName)) hown (mvT hZ (oW hw 68 rfl)) (mvT hZ (oW hw 69 rfl)) (mvT hZ (oW hw 66 rfl)) (mvT hZ (oW hw 70 rfl)) (by decide) (backOf (W := 0) (rm_rck l Z a0 hw [] (own_i cap) (0 : Int32) (own_i fp.length) h0 n0 Z0 i0 (by decide) (own_nl WF.1 (Nat.le_trans hc (by decide)))) hZ (oW hw 70 rfl) (oW hw 66 rfl) (by decide) (by decide)) (g := (mkF m 4 #[vR a1, vI (0 : Int32), vI (own_i fp.length), vJ (φ r), .second] [(.int (own_i fp.length)), (.int (0 : Int32)), (.int (own_i cap))])) rfl (by rw [hml]; rfl) (argsL := [(.int (own_i cap)), (.int (0 : Int32)), (.int (own_i fp.length))]) (rest := []) (lenOf pd_6 rfl) rfl (by show 2 * 0 + _ ≤ _; exact Nat.le_of_eq rfl) (hb hby d24_4) (fun _ _ => ⟨rfl, e0, (by decide : 0 + 0 ≤ _), (by decide : 0 + 0 ≤ _)⟩)
 dsimp only [Pt.U, Pt.locs, Pt.cells, Pt.slots] at X516 l516 y516 z516 st516 hQ516
 rw [l516, y516, z516] at X516
 obtain ⟨rfl, N516q, hh516⟩ := hQ516
 have N516 := Fr.app N0 N516q
 have R517 := fun (tg : State) (kt : Steps p.tables e below (T516.setTop (mkF m 11 #[vR a1, vI (0 : Int32), vI (own_i fp.length), vJ (φ r), .second] [(.long (φ r)), (.int (own_i fp.length)), (.int (0 : Int32)), (.ref a1)])) tg) => R515 tg (by
  refine st516 _ ?_
  refine XS.aloadN X516.here hx rfl (hb hby d24_7) rfl rfl ?_
  refine XS.iloadN X516.here hx rfl (hb hby d24_8) rfl ?_
  show Steps _ _ _ (T516.setTop (mkF m 9 #[vR a1, vI (0 : Int32), vI (own_i fp.length), vJ (φ r), .second] [(.int (0 : Int32)), (.ref a1)])) _
  refine XS.iloadN X516.here hx rfl (hb hby d24_9) rfl ?_
  refine XS.lloadN X516.here hx rfl (hb hby d24_10) rfl ?_
  exact kt)
 clear R515 st516
 obtain ⟨_, _, ⟨T518, L518, k518, n518⟩, -, X518, ⟨Lc518, hQ518, l518, y518, z518⟩, st518⟩ := Jvm.LawKit.callS X516 hx (y := (⟨"java/util/Arrays", "binarySearch0", "([JIIJ)I"⟩ : MethodName)) hown (mvT hZ (oW hw 131 rfl)) (mvT hZ (oW hw 132 rfl)) (mvT hZ (oW hw 66 rfl)) (mvT hZ (oW hw 133 rfl)) (by decide) (backOf (W := 0) (rm_bs0 l Z a0 hw [] a1 (0 : Int32) (own_i fp.length) (φ r) φ cap fp r h0 n0 Z0 WF H ok hr rfl rfl rfl) hZ (oW hw 133 rfl) (oW hw 66 rfl) (by decide) (by decide)) (g := (mkF m 11 #[vR a1, vI (0 : Int32), vI (own_i fp.length), vJ (φ r), .second] [(.long (φ r)), (.int (own_i fp.length)), (.int (0 : Int32)), (.ref a1)])) rfl (by rw [hml]; rfl) (argsL := [(.ref a1), (.int (0 : Int32)), (.int (own_i fp.length)), (.long (φ r))]) (rest := []) (lenOf pd_8 rfl) rfl (by show 2 * 0 + _ ≤ _; exact Nat.le_of_eq rfl) (hb hby d24_11) (fun _ _ => ⟨rfl, hh516, (by decide : 0 + 0 ≤ _), (by decide : 0 + 0 ≤ _)⟩)
 dsimp only [Pt.U, Pt.locs, Pt.cells, Pt.slots] at X518 l518 y518 z518 st518 hQ518
 rw [l518, y518, z518] at X518
 obtain ⟨rfl, N518q, hh518⟩ := hQ518
 have N518 := Fr.app N516 N518q
 have R519 := fun (tg : State) (kt : Steps p.tables e below (T518.setTop (mkF m 14 #[vR a1, vI (0 : Int32), vI (own_i fp.length), vJ (φ r), .second] [(.int (own_bs fp r))])) tg) => R517 tg (by
  refine st518 _ ?_
  exact kt)
 clear R517 st518
 obtain ⟨fs, hr, hrun, hended, hW, hsame⟩ := X518.leave (v := some (.int (own_bs fp r))) (fun h => by rw [Bd.returns] at h; cases h)
 refine ⟨_, _, pre0 _ (R519 _ ?_), hrun, hended, _, _, rfl, ?_, ⟨_, rfl⟩, hW, hsame.mono (by decide) (by decide)⟩
 ·exact retI X518 hx Bd.returns (hb hby d24_14) hr
 ·show Q_rm_bse Z a1 p2 p3 q4 φ cap fp r h0 n0 _ T518.heap _
  rw [hh518]
  exact ⟨rfl, N518, rfl⟩
theorem d23_0 : oD k28 0 (.aload_n 0) 1 := by decide +kernel
theorem d23_1 : oD k28 1 (.getfield 7) 3 := by decide +kernel
theorem d23_4 : oD k28 4 (.iconst 0) 1 := by decide +kernel
theorem d23_5 : oD k28 5 (.aload_n 0) 1 := by decide +kernel
theorem d23_6 : oD k28 6 (.getfield 29) 3 := by decide +kernel
theorem d23_9 : oD k28 9 (.lload_n 1) 1 := by decide +kernel
theorem d23_10 : oD k28 10 (.invokestatic 33) 3 := by decide +kernel
theorem d23_13 : oD k28 13 .ireturn 1 := by decide +kernel
theorem ef_rm_fnd (m : MethodId) (rp : Addr) (q2 : Int64) : entryFrame m #[(.ref rp), (.long q2)] 3 = mkF m 0 #[vR rp, vJ q2, .second] [] := by first | (simp [entryFrame, mkF, argsToLocals, Value.category]; done) | rfl
def Q_rm_fnd (Z : State) (rp : Addr) (q2 : Int64) (φ : Nat → Int64) (cap : Nat) (f1 : Addr) (f2 : Addr) (f3 : Addr) (fp : List Nat) (rw : List Nat) (nr : List Bool) (far : Bool) (r : Nat) (h0 : Heap) (n0 : Nat) (v : Option Value) (h : Heap) (L : List Loc) : Prop := v = some (.int (own_bs fp r)) ∧ Fr n0 L ∧ h = h0
set_option maxRecDepth 65536 in
set_option maxHeartbeats 40000000 in
theorem rm_fnd (l : Launch) (Z : State) (a0 : Array Value) (hw : ∀ d ∈ tables_1, d.before a0 Z = true) (ws : List Jvm.Cond) (rp : Addr) (q2 : Int64) (φ : Nat → Int64) (cap : Nat) (f1 : Addr) (f2 : Addr) (f3 : Addr) (fp : List Nat) (rw : List Nat) (nr : List Bool) (far : Bool) (r : Nat) (h0 : Heap) (n0 : Nat) (Z0 : n0 ≤ h0.size) (Er : Exa Z h0 rp cR) (Gf : Fld Z h0 rp cR "fingerprints" "[J" (.ref f1)) (Gr : Fld Z h0 rp cR "rows" "[I" (.ref f2)) (Gn : Fld Z h0 rp cR "near" "[Z" (.ref f3)) (Gs : Fld Z h0 rp cR "size" "I" (.int (own_i (fp).length))) (Gy : Fld Z h0 rp cR "anyFar" "Z" (.int (own_b2 far))) (WF : VG Z h0 f1 .long cap (fun r => .long (φ r)) 0 fp) (WR : VG Z h0 f2 .int cap (fun r => .int (own_i r)) 0 rw) (WN : VG Z h0 f3 .boolean cap (fun b => .int (own_b2 b)) false nr) (H : own_mono φ) (ok : own_ok2 fp) (hr : r < 4) (hq : q2 = φ r) (hc : cap ≤ 4) (h1 : rw.length = fp.length) (h2 : nr.length = fp.length) :
  MetFree l (⟨cR, "find", "(J)I"⟩ : MethodName) (head1 (Jvm.Cond.code (⟨cR, "find", "(J)I"⟩ : MethodName) prog_43_method_7_code 3 (some .int) :: ws) rM7) (fun a U => a = #[(.ref rp), (.long q2)] ∧ Z.Warmed39 U.vm ∧ U.heap = h0) (fun _ _ _ _ _ => True) (fun _ U oC U' => ∃ v L, oC = .returned v ∧ Q_rm_fnd Z rp q2 φ cap f1 f2 f3 fp rw nr far r h0 n0 v U'.heap L ∧ FrameEnd U oC U' L rM7.cells rM7.slots) := by
 refine MetFree.of_bodySF (plainFor_of_name pn_5) hisR ?_
 intro p e s m args below meth c s₁ Bd hml0 hP hK
 obtain ⟨rfl, hZ, hh⟩ := hP
 have hx := Bd.exec
 have hby := Bd.bytes
 have hml : c.maxLocals = 3 := hml0
 have hown : s.vm.findClass cR = some m.cls := findClass_of_methodNamed Bd.named
 have hnm := (name_of_methodNamed Bd.named Bd.method).1
 have X0 : Stand p l e rM7 s m #[(.ref rp), (.long q2)] below meth c s₁ [] 0 0 := Stand.of_body Bd
 have e0 : s₁.heap = h0 := by rw [← hh, Bd.state]; rfl
 have N0 := Fr.nil n0
 have pre0 : Sq p e below (s₁.setTop (mkF m 0 #[vR rp, vJ q2, .second] [])) (s₁.setTop (entryFrame m #[(.ref rp), (.long q2)] 3)) := fun t k => castTop (ef_rm_fnd m rp q2) k
 have pre00 : Sq p e below (s₁.setTop (mkF m 0 #[vR rp, vJ q2, .second] [])) (s₁.setTop (mkF m 0 #[vR rp, vJ q2, .second] [])) := fun _ k => k
 have R520 := fun (tg : State) (kt : Steps p.tables e below (s₁.setTop (mkF m 0 #[vR rp, vJ (φ r), .second] [])) tg) => pre00 tg (by rw [hq]; exact kt)
 have R521 := fun (tg : State) (kt : Steps p.tables e below (s₁.setTop (mkF m 1 #[vR rp, vJ (φ r), .second] [(.ref rp)])) tg) => R520 tg (by
  show Steps _ _ _ (s₁.setTop (mkF m 0 #[vR rp, vJ (φ r), .second] [])) _
  refine XS.aloadN X0.here hx rfl (hb hby d23_0) rfl rfl ?_
  exact kt)
 clear R520
 obtain ⟨T522, X522, e522, st522⟩ := getF X0 hx hZ hown (host := "") (Or.inl (oW hw 98 rfl)) Via.refl e0 Gf (g := (mkF m 1 #[vR rp, vJ (φ r), .second] [(.ref rp)])) rfl rfl (hb hby d23_1)
 have R523 := fun (tg : State) (kt : Steps p.tables e below (T522.setTop (mkF m 6 #[vR rp, vJ (φ r), .second] [(.ref rp), (.int (0 : Int32)), (.ref f1)])) tg) => R521 tg (by
  refine st522 _ ?_
  refine XS.iconst X522.here hx rfl (hb hby d23_4) ?_
  refine XS.aloadN X522.here hx rfl (hb hby d23_5) rfl rfl ?_
  exact kt)
 clear R521 st522
 obtain ⟨T524, X524, e524, st524⟩ := getF X522 hx hZ hown (host := "") (Or.inl (oW hw 126 rfl)) Via.refl e522 Gs (g := (mkF m 6 #[vR rp, vJ (φ r), .second] [(.ref rp), (.int (0 : Int32)), (.ref f1)])) rfl rfl (hb hby d23_6)
 have R525 := fun (tg : State) (kt : Steps p.tables e below (T524.setTop (mkF m 10 #[vR rp, vJ (φ r), .second] [(.long (φ r)), (.int (own_i fp.length)), (.int (0 : Int32)), (.ref f1)])) tg) => R523 tg (by
  refine st524 _ ?_
  refine XS.lloadN X524.here hx rfl (hb hby d23_9) rfl ?_
  exact kt)
 clear R523 st524
 obtain ⟨_, _, ⟨T526, L526, k526, n526⟩, -, X526, ⟨Lc526, hQ526, l526, y526, z526⟩, st526⟩ := Jvm.LawKit.callS X524 hx (y := (⟨"java/util/Arrays", "binarySearch", "([JIIJ)I"⟩ : MethodName)) hown (mvT hZ (oW hw 128 rfl)) (mvT hZ (oW hw 129 rfl)) (mvT hZ (oW hw 66 rfl)) (mvT hZ (oW hw 130 rfl)) (by decide) (backOf (W := 0) (rm_bse l Z a0 hw [] f1 (0 : Int32) (own_i fp.length) (φ r) φ cap fp r h0 n0 Z0 WF H ok hr rfl rfl rfl hc) hZ (oW hw 130 rfl) (oW hw 66 rfl) (by decide) (by decide)) (g := (mkF m 10 #[vR rp, vJ (φ r), .second] [(.long (φ r)), (.int (own_i fp.length)), (.int (0 : Int32)), (.ref f1)])) rfl (by rw [hml]; rfl) (argsL := [(.ref f1), (.int (0 : Int32)), (.int (own_i fp.length)), (.long (φ r))]) (rest := []) (lenOf pd_8 rfl) rfl (by show 2 * 0 + _ ≤ _; exact Nat.le_of_eq rfl) (hb hby d23_10) (fun _ _ => ⟨rfl, e524, (by decide : 0 + 0 ≤ _), (by decide : 0 + 0 ≤ _)⟩)
 dsimp only [Pt.U, Pt.locs, Pt.cells, Pt.slots] at X526 l526 y526 z526 st526 hQ526
 rw [l526, y526, z526] at X526
 obtain ⟨rfl, N526q, hh526⟩ := hQ526
 have N526 := Fr.app N0 N526q
 have R527 := fun (tg : State) (kt : Steps p.tables e below (T526.setTop (mkF m 13 #[vR rp, vJ (φ r), .second] [(.int (own_bs fp r))])) tg) => R525 tg (by
  refine st526 _ ?_
  exact kt)
 clear R525 st526
 obtain ⟨fs, hr, hrun, hended, hW, hsame⟩ := X526.leave (v := some (.int (own_bs fp r))) (fun h => by rw [Bd.returns] at h; cases h)
 refine ⟨_, _, pre0 _ (R527 _ ?_), hrun, hended, _, _, rfl, ?_, ⟨_, rfl⟩, hW, hsame.mono (by decide) (by decide)⟩
 ·exact retI X526 hx Bd.returns (hb hby d23_13) hr
 ·show Q_rm_fnd Z rp q2 φ cap f1 f2 f3 fp rw nr far r h0 n0 _ T526.heap _
  rw [hh526]
  exact ⟨rfl, N526, rfl⟩
theorem d22_0 : oD k23 0 (.aload_n 0) 1 := by decide +kernel
theorem d22_1 : oD k23 1 (.lload_n 1) 1 := by decide +kernel
theorem pd_9 : parseMethodDescriptor "(J)I" = some ⟨[.long], some .int⟩ := by decide +kernel
theorem d22_2 : oD k23 2 (.invokevirtual 21) 3 := by decide +kernel
theorem d22_5 : oD k23 5 (.ifCond .lt 7) 3 := by decide +kernel
theorem d22_12 : oD k23 12 (.iconst 0) 1 := by decide +kernel
theorem d22_13 : oD k23 13 .ireturn 1 := by decide +kernel
theorem d22_8 : oD k23 8 (.iconst 1) 1 := by decide +kernel
theorem d22_9 : oD k23 9 (.goto 4) 3 := by decide +kernel
theorem ef_rm_rpd (m : MethodId) (rp : Addr) (q2 : Int64) : entryFrame m #[(.ref rp), (.long q2)] 3 = mkF m 0 #[vR rp, vJ q2, .second] [] := by first | (simp [entryFrame, mkF, argsToLocals, Value.category]; done) | rfl
def Q_rm_rpd (Z : State) (rp : Addr) (q2 : Int64) (φ : Nat → Int64) (cap : Nat) (f1 : Addr) (f2 : Addr) (f3 : Addr) (fp : List Nat) (rw : List Nat) (nr : List Bool) (far : Bool) (r : Nat) (h0 : Heap) (n0 : Nat) (v : Option Value) (h : Heap) (L : List Loc) : Prop := v = some (.int (own_rpd fp r)) ∧ Fr n0 L ∧ h = h0
set_option maxRecDepth 65536 in
set_option maxHeartbeats 40000000 in
theorem rm_rpd (l : Launch) (Z : State) (a0 : Array Value) (hw : ∀ d ∈ tables_1, d.before a0 Z = true) (ws : List Jvm.Cond) (rp : Addr) (q2 : Int64) (φ : Nat → Int64) (cap : Nat) (f1 : Addr) (f2 : Addr) (f3 : Addr) (fp : List Nat) (rw : List Nat) (nr : List Bool) (far : Bool) (r : Nat) (h0 : Heap) (n0 : Nat) (Z0 : n0 ≤ h0.size) (Er : Exa Z h0 rp cR) (Gf : Fld Z h0 rp cR "fingerprints" "[J" (.ref f1)) (Gr : Fld Z h0 rp cR "rows" "[I" (.ref f2)) (Gn : Fld Z h0 rp cR "near" "[Z" (.ref f3)) (Gs : Fld Z h0 rp cR "size" "I" (.int (own_i (fp).length))) (Gy : Fld Z h0 rp cR "anyFar" "Z" (.int (own_b2 far))) (WF : VG Z h0 f1 .long cap (fun r => .long (φ r)) 0 fp) (WR : VG Z h0 f2 .int cap (fun r => .int (own_i r)) 0 rw) (WN : VG Z h0 f3 .boolean cap (fun b => .int (own_b2 b)) false nr) (H : own_mono φ) (ok : own_ok2 fp) (hr : r < 4) (hq : q2 = φ r) (hc : cap ≤ 4) (h1 : rw.length = fp.length) (h2 : nr.length = fp.length) :
  MetFree l (⟨cR, "repeated", "(J)Z"⟩ : MethodName) (head1 (Jvm.Cond.code (⟨cR, "repeated", "(J)Z"⟩ : MethodName) prog_43_method_2_code 3 (some .boolean) :: ws) rM11) (fun a U => a = #[(.ref rp), (.long q2)] ∧ Z.Warmed39 U.vm ∧ U.heap = h0) (fun _ _ _ _ _ => True) (fun _ U oC U' => ∃ v L, oC = .returned v ∧ Q_rm_rpd Z rp q2 φ cap f1 f2 f3 fp rw nr far r h0 n0 v U'.heap L ∧ FrameEnd U oC U' L rM11.cells rM11.slots) := by
 refine MetFree.of_bodySF (plainFor_of_name pn_5) hisR ?_
 intro p e s m args below meth c s₁ Bd hml0 hP hK
 obtain ⟨rfl, hZ, hh⟩ := hP
 have hx := Bd.exec
 have hby := Bd.bytes
 have hml : c.maxLocals = 3 := hml0
 have hown : s.vm.findClass cR = some m.cls := findClass_of_methodNamed Bd.named
 have hnm := (name_of_methodNamed Bd.named Bd.method).1
 have X0 : Stand p l e rM11 s m #[(.ref rp), (.long q2)] below meth c s₁ [] 0 0 := Stand.of_body Bd
 have e0 : s₁.heap = h0 := by rw [← hh, Bd.state]; rfl
 have N0 := Fr.nil n0
 have pre0 : Sq p e below (s₁.setTop (mkF m 0 #[vR rp, vJ q2, .second] [])) (s₁.setTop (entryFrame m #[(.ref rp), (.long q2)] 3)) := fun t k => castTop (ef_rm_rpd m rp q2) k
 have pre00 : Sq p e below (s₁.setTop (mkF m 0 #[vR rp, vJ q2, .second] [])) (s₁.setTop (mkF m 0 #[vR rp, vJ q2, .second] [])) := fun _ k => k
 have R528 := fun (tg : State) (kt : Steps p.tables e below (s₁.setTop (mkF m 0 #[vR rp, vJ (φ r), .second] [])) tg) => pre00 tg (by rw [hq]; exact kt)
 have R529 := fun (tg : State) (kt : Steps p.tables e below (s₁.setTop (mkF m 2 #[vR rp, vJ (φ r), .second] [(.long (φ r)), (.ref rp)])) tg) => R528 tg (by
  show Steps _ _ _ (s₁.setTop (mkF m 0 #[vR rp, vJ (φ r), .second] [])) _
  refine XS.aloadN X0.here hx rfl (hb hby d22_0) rfl rfl ?_
  refine XS.lloadN X0.here hx rfl (hb hby d22_1) rfl ?_
  exact kt)
 clear R528
 obtain ⟨cq530, q530, q530'⟩ := Er.cell
 obtain ⟨_, _, ⟨T530, L530, k530, n530⟩, -, X530, ⟨Lc530, hQ530, l530, y530, z530⟩, st530⟩ := X0.privateBack hx (y := (⟨cR, "find", "(J)I"⟩ : MethodName)) hown (mvT hZ (oW hw 122 rfl)) (mvT hZ (oW hw 123 rfl)) (own_selp (mvT hZ (oW hw 92 rfl)) (mvP hZ (oW hw 124 rfl)) (mvT hZ (oW hw 123 rfl)) (by decide)) (Cond.privateMethod_at (mvP hZ (oW hw 124 rfl) (args := #[]))) (mvT hZ (oW hw 125 rfl)) (by decide) (backOf (W := 0) (rm_fnd l Z a0 hw [] rp (φ r) φ cap f1 f2 f3 fp rw nr far r h0 n0 Z0 Er Gf Gr Gn Gs Gy WF WR WN H ok hr rfl hc h1 h2) hZ (oW hw 125 rfl) (oW hw 93 rfl) (by decide) (by decide)) (g := (mkF m 2 #[vR rp, vJ (φ r), .second] [(.long (φ r)), (.ref rp)])) rfl (by rw [hml]; rfl) (Steps.refl _) (a := rp) (by rw [e0]; exact q530) q530' (argsL := [(.long (φ r))]) (rest := []) (lenOf pd_9 rfl) rfl (by show 2 * 0 + _ ≤ _; exact Nat.le_of_eq rfl) (hb hby d22_2) (fun _ _ => ⟨rfl, e0, (by decide : 0 + 0 ≤ _), (by decide : 0 + 0 ≤ _)⟩)
 dsimp only [Pt.U, Pt.locs, Pt.cells, Pt.slots] at X530 l530 y530 z530 st530 hQ530
 rw [l530, y530, z530] at X530
 obtain ⟨rfl, N530q, hh530⟩ := hQ530
 have N530 := Fr.app N0 N530q
 have R531 := fun (tg : State) (kt : Steps p.tables e below (T530.setTop (mkF m 5 #[vR rp, vJ (φ r), .second] [(.int (own_bs fp r))])) tg) => R529 tg (by
  refine st530.trans ?_
  exact kt)
 clear R529 st530
 by_cases hbs : (own_bs fp r) < (0 : Int32)
 ·have R532 := fun (tg : State) (kt : Steps p.tables e below (T530.setTop (mkF m 13 #[vR rp, vJ (φ r), .second] [(.int (0 : Int32))])) tg) => R531 tg (by
   show Steps _ _ _ (T530.setTop (mkF m 5 #[vR rp, vJ (φ r), .second] [(.int (own_bs fp r))])) _
   refine XS.ifYes X530.here hx rfl (pc0 := 5) (pc' := 12) rfl (hb hby d22_5) rfl ((if0 _ _).trans (tlt (hbs : (own_bs fp r) < (0 : Int32))).1) (by decide) (by decide) ?_
   refine XS.iconst X530.here hx rfl (hb hby d22_12) ?_
   exact kt)
  clear R531
  obtain ⟨fs, hr, hrun, hended, hW, hsame⟩ := X530.leave (v := some (.int (0 : Int32))) (fun h => by rw [Bd.returns] at h; cases h)
  refine ⟨_, _, pre0 _ (R532 _ ?_), hrun, hended, _, _, rfl, ?_, ⟨_, rfl⟩, hW, hsame.mono (by decide) (by decide)⟩
  ·exact retN X530 hx (t := .boolean) Bd.returns (by simp) (hb hby d22_13) hr
  ·show Q_rm_rpd Z rp q2 φ cap f1 f2 f3 fp rw nr far r h0 n0 _ T530.heap _
   rw [hh530]
   exact ⟨by rw [own_rpd, if_pos hbs], N530, rfl⟩
 ·have R533 := fun (tg : State) (kt : Steps p.tables e below (T530.setTop (mkF m 13 #[vR rp, vJ (φ r), .second] [(.int (1 : Int32))])) tg) => R531 tg (by
   show Steps _ _ _ (T530.setTop (mkF m 5 #[vR rp, vJ (φ r), .second] [(.int (own_bs fp r))])) _
   refine XS.ifNo X530.here hx rfl (hb hby d22_5) rfl ((if0 _ _).trans (flt (hbs : ¬ ((own_bs fp r) < (0 : Int32)))).1) ?_
   refine XS.iconst X530.here hx rfl (hb hby d22_8) ?_
   show Steps _ _ _ (T530.setTop (mkF m 9 #[vR rp, vJ (φ r), .second] [(.int (1 : Int32))])) _
   refine XS.goto X530.here hx rfl (pc0 := 9) (pc' := 13) rfl (hb hby d22_9) (by decide) (by decide) ?_
   exact kt)
  clear R531
  obtain ⟨fs, hr, hrun, hended, hW, hsame⟩ := X530.leave (v := some (.int (1 : Int32))) (fun h => by rw [Bd.returns] at h; cases h)
  refine ⟨_, _, pre0 _ (R533 _ ?_), hrun, hended, _, _, rfl, ?_, ⟨_, rfl⟩, hW, hsame.mono (by decide) (by decide)⟩
  ·exact retN X530 hx (t := .boolean) Bd.returns (by simp) (hb hby d22_13) hr
  ·show Q_rm_rpd Z rp q2 φ cap f1 f2 f3 fp rw nr far r h0 n0 _ T530.heap _
   rw [hh530]
   exact ⟨by rw [own_rpd, if_neg hbs], N530, rfl⟩
theorem d26_0 : oD k24 0 (.aload_n 0) 1 := by decide +kernel
theorem d26_1 : oD k24 1 (.lload_n 1) 1 := by decide +kernel
theorem d26_2 : oD k24 2 (.invokevirtual 21) 3 := by decide +kernel
theorem d26_5 : oD k24 5 (.istore_n 3) 1 := by decide +kernel
theorem d26_6 : oD k24 6 (.iload_n 3) 1 := by decide +kernel
theorem d26_7 : oD k24 7 (.ifCond .lt 21) 3 := by decide +kernel
theorem d26_28 : oD k24 28 (.iconst 0) 1 := by decide +kernel
theorem d26_29 : oD k24 29 .ireturn 1 := by decide +kernel
theorem d26_10 : oD k24 10 (.aload_n 0) 1 := by decide +kernel
theorem d26_11 : oD k24 11 (.getfield 17) 3 := by decide +kernel
theorem d26_14 : oD k24 14 (.iload_n 3) 1 := by decide +kernel
theorem d26_15 : oD k24 15 .baload 1 := by decide +kernel
theorem d26_16 : oD k24 16 (.ifCond .eq 12) 3 := by decide +kernel
theorem d26_19 : oD k24 19 (.aload_n 0) 1 := by decide +kernel
theorem d26_20 : oD k24 20 (.getfield 13) 3 := by decide +kernel
theorem d26_23 : oD k24 23 (.iload_n 3) 1 := by decide +kernel
theorem d26_24 : oD k24 24 .iaload 1 := by decide +kernel
theorem d26_25 : oD k24 25 (.goto 4) 3 := by decide +kernel
theorem ef_rm_nearRows (m : MethodId) (rp : Addr) (q2 : Int64) : entryFrame m #[(.ref rp), (.long q2)] 4 = mkF m 0 #[vR rp, vJ q2, .second, .unset] [] := by first | (simp [entryFrame, mkF, argsToLocals, Value.category]; done) | rfl
def Q_rm_nearRows (Z : State) (rp : Addr) (q2 : Int64) (φ : Nat → Int64) (cap : Nat) (f1 : Addr) (f2 : Addr) (f3 : Addr) (fp : List Nat) (rw : List Nat) (nr : List Bool) (far : Bool) (r : Nat) (h0 : Heap) (n0 : Nat) (v : Option Value) (h : Heap) (L : List Loc) : Prop := v = some (.int (own_nrw fp rw nr r)) ∧ Fr n0 L ∧ h = h0
set_option maxRecDepth 65536 in
set_option maxHeartbeats 40000000 in
theorem rm_nearRows (l : Launch) (Z : State) (a0 : Array Value) (hw : ∀ d ∈ tables_1, d.before a0 Z = true) (ws : List Jvm.Cond) (rp : Addr) (q2 : Int64) (φ : Nat → Int64) (cap : Nat) (f1 : Addr) (f2 : Addr) (f3 : Addr) (fp : List Nat) (rw : List Nat) (nr : List Bool) (far : Bool) (r : Nat) (h0 : Heap) (n0 : Nat) (Z0 : n0 ≤ h0.size) (Er : Exa Z h0 rp cR) (Gf : Fld Z h0 rp cR "fingerprints" "[J" (.ref f1)) (Gr : Fld Z h0 rp cR "rows" "[I" (.ref f2)) (Gn : Fld Z h0 rp cR "near" "[Z" (.ref f3)) (Gs : Fld Z h0 rp cR "size" "I" (.int (own_i (fp).length))) (Gy : Fld Z h0 rp cR "anyFar" "Z" (.int (own_b2 far))) (WF : VG Z h0 f1 .long cap (fun r => .long (φ r)) 0 fp) (WR : VG Z h0 f2 .int cap (fun r => .int (own_i r)) 0 rw) (WN : VG Z h0 f3 .boolean cap (fun b => .int (own_b2 b)) false nr) (H : own_mono φ) (ok : own_ok2 fp) (hr : r < 4) (hq : q2 = φ r) (hc : cap ≤ 4) (h1 : rw.length = fp.length) (h2 : nr.length = fp.length) :
  MetFree l (⟨cR, "nearRows", "(J)I"⟩ : MethodName) (head1 (Jvm.Cond.code (⟨cR, "nearRows", "(J)I"⟩ : MethodName) prog_43_method_3_code 4 (some .int) :: ws) rM11) (fun a U => a = #[(.ref rp), (.long q2)] ∧ Z.Warmed39 U.vm ∧ U.heap = h0) (fun _ _ _ _ _ => True) (fun _ U oC U' => ∃ v L, oC = .returned v ∧ Q_rm_nearRows Z rp q2 φ cap f1 f2 f3 fp rw nr far r h0 n0 v U'.heap L ∧ FrameEnd U oC U' L rM11.cells rM11.slots) := by
 refine MetFree.of_bodySF (plainFor_of_name pn_5) hisR ?_
 intro p e s m args below meth c s₁ Bd hml0 hP hK
 obtain ⟨rfl, hZ, hh⟩ := hP
 have hx := Bd.exec
 have hby := Bd.bytes
 have hml : c.maxLocals = 4 := hml0
 have hown : s.vm.findClass cR = some m.cls := findClass_of_methodNamed Bd.named
 have hnm := (name_of_methodNamed Bd.named Bd.method).1
 have X0 : Stand p l e rM11 s m #[(.ref rp), (.long q2)] below meth c s₁ [] 0 0 := Stand.of_body Bd
 have e0 : s₁.heap = h0 := by rw [← hh, Bd.state]; rfl
 have N0 := Fr.nil n0
 have pre0 : Sq p e below (s₁.setTop (mkF m 0 #[vR rp, vJ q2, .second, .unset] [])) (s₁.setTop (entryFrame m #[(.ref rp), (.long q2)] 4)) := fun t k => castTop (ef_rm_nearRows m rp q2) k
 have pre00 : Sq p e below (s₁.setTop (mkF m 0 #[vR rp, vJ q2, .second, .unset] [])) (s₁.setTop (mkF m 0 #[vR rp, vJ q2, .second, .unset] [])) := fun _ k => k
 have R534 := fun (tg : State) (kt : Steps p.tables e below (s₁.setTop (mkF m 0 #[vR rp, vJ (φ r), .second, .unset] [])) tg) => pre00 tg (by rw [hq]; exact kt)
 have R535 := fun (tg : State) (kt : Steps p.tables e below (s₁.setTop (mkF m 2 #[vR rp, vJ (φ r), .second, .unset] [(.long (φ r)), (.ref rp)])) tg) => R534 tg (by
  show Steps _ _ _ (s₁.setTop (mkF m 0 #[vR rp, vJ (φ r), .second, .unset] [])) _
  refine XS.aloadN X0.here hx rfl (hb hby d26_0) rfl rfl ?_
  refine XS.lloadN X0.here hx rfl (hb hby d26_1) rfl ?_
  exact kt)
 clear R534
 obtain ⟨cq536, q536, q536'⟩ := Er.cell
 obtain ⟨_, _, ⟨T536, L536, k536, n536⟩, -, X536, ⟨Lc536, hQ536, l536, y536, z536⟩, st536⟩ := X0.privateBack hx (y := (⟨cR, "find", "(J)I"⟩ : MethodName)) hown (mvT hZ (oW hw 122 rfl)) (mvT hZ (oW hw 123 rfl)) (own_selp (mvT hZ (oW hw 92 rfl)) (mvP hZ (oW hw 124 rfl)) (mvT hZ (oW hw 123 rfl)) (by decide)) (Cond.privateMethod_at (mvP hZ (oW hw 124 rfl) (args := #[]))) (mvT hZ (oW hw 125 rfl)) (by decide) (backOf (W := 0) (rm_fnd l Z a0 hw [] rp (φ r) φ cap f1 f2 f3 fp rw nr far r h0 n0 Z0 Er Gf Gr Gn Gs Gy WF WR WN H ok hr rfl hc h1 h2) hZ (oW hw 125 rfl) (oW hw 93 rfl) (by decide) (by decide)) (g := (mkF m 2 #[vR rp, vJ (φ r), .second, .unset] [(.long (φ r)), (.ref rp)])) rfl (by rw [hml]; rfl) (Steps.refl _) (a := rp) (by rw [e0]; exact q536) q536' (argsL := [(.long (φ r))]) (rest := []) (lenOf pd_9 rfl) rfl (by show 2 * 0 + _ ≤ _; exact Nat.le_of_eq rfl) (hb hby d26_2) (fun _ _ => ⟨rfl, e0, (by decide : 0 + 0 ≤ _), (by decide : 0 + 0 ≤ _)⟩)
 dsimp only [Pt.U, Pt.locs, Pt.cells, Pt.slots] at X536 l536 y536 z536 st536 hQ536
 rw [l536, y536, z536] at X536
 obtain ⟨rfl, N536q, hh536⟩ := hQ536
 have N536 := Fr.app N0 N536q
 have R537 := fun (tg : State) (kt : Steps p.tables e below (T536.setTop (mkF m 7 #[vR rp, vJ (φ r), .second, vI (own_bs fp r)] [(.int (own_bs fp r))])) tg) => R535 tg (by
  refine st536.trans ?_
  show Steps _ _ _ (T536.setTop (mkF m 5 #[vR rp, vJ (φ r), .second, .unset] [(.int (own_bs fp r))])) _
  refine XS.istoreN X536.here hx rfl (hb hby d26_5) rfl (l' := #[vR rp, vJ (φ r), .second, vI (own_bs fp r)]) rfl ?_
  refine XS.iloadN X536.here hx rfl (hb hby d26_6) rfl ?_
  exact kt)
 clear R535 st536
 by_cases hbs : (own_bs fp r) < (0 : Int32)
 ·have R538 := fun (tg : State) (kt : Steps p.tables e below (T536.setTop (mkF m 29 #[vR rp, vJ (φ r), .second, vI (own_bs fp r)] [(.int (0 : Int32))])) tg) => R537 tg (by
   show Steps _ _ _ (T536.setTop (mkF m 7 #[vR rp, vJ (φ r), .second, vI (own_bs fp r)] [(.int (own_bs fp r))])) _
   refine XS.ifYes X536.here hx rfl (pc0 := 7) (pc' := 28) rfl (hb hby d26_7) rfl ((if0 _ _).trans (tlt (hbs : (own_bs fp r) < (0 : Int32))).1) (by decide) (by decide) ?_
   refine XS.iconst X536.here hx rfl (hb hby d26_28) ?_
   exact kt)
  clear R537
  obtain ⟨fs, hr, hrun, hended, hW, hsame⟩ := X536.leave (v := some (.int (0 : Int32))) (fun h => by rw [Bd.returns] at h; cases h)
  refine ⟨_, _, pre0 _ (R538 _ ?_), hrun, hended, _, _, rfl, ?_, ⟨_, rfl⟩, hW, hsame.mono (by decide) (by decide)⟩
  ·exact retI X536 hx Bd.returns (hb hby d26_29) hr
  ·show Q_rm_nearRows Z rp q2 φ cap f1 f2 f3 fp rw nr far r h0 n0 _ T536.heap _
   rw [hh536]
   exact ⟨by rw [own_nrw, if_pos hbs], N536, rfl⟩
 ·have R539 := fun (tg : State) (kt : Steps p.tables e below (T536.setTop (mkF m 10 #[vR rp, vJ (φ r), .second, vI (own_bs fp r)] [])) tg) => R537 tg (by
   show Steps _ _ _ (T536.setTop (mkF m 7 #[vR rp, vJ (φ r), .second, vI (own_bs fp r)] [(.int (own_bs fp r))])) _
   refine XS.ifNo X536.here hx rfl (hb hby d26_7) rfl ((if0 _ _).trans (flt (hbs : ¬ ((own_bs fp r) < (0 : Int32)))).1) ?_
   exact kt)
  clear R537
  obtain ⟨eb, hk⟩ := own_bsx hbs
  have hk1 : (own_bk fp r) < nr.length := by rw [h2]; exact hk
  have hk2 : (own_bk fp r) < rw.length := by rw [h1]; exact hk
  have R540 := fun (tg : State) (kt : Steps p.tables e below (T536.setTop (mkF m 11 #[vR rp, vJ (φ r), .second, vI (own_bs fp r)] [(.ref rp)])) tg) => R539 tg (by
   show Steps _ _ _ (T536.setTop (mkF m 10 #[vR rp, vJ (φ r), .second, vI (own_bs fp r)] [])) _
   refine XS.aloadN X536.here hx rfl (hb hby d26_10) rfl rfl ?_
   exact kt)
  clear R539
  obtain ⟨T541, X541, e541, st541⟩ := getF X536 hx hZ hown (host := "") (Or.inl (oW hw 103 rfl)) Via.refl hh536 Gn (g := (mkF m 11 #[vR rp, vJ (φ r), .second, vI (own_bs fp r)] [(.ref rp)])) rfl rfl (hb hby d26_11)
  have R542 := fun (tg : State) (kt : Steps p.tables e below (T541.setTop (mkF m 15 #[vR rp, vJ (φ r), .second, vI (own_bs fp r)] [(.int (own_bs fp r)), (.ref f3)])) tg) => R540 tg (by
   refine st541 _ ?_
   refine XS.iloadN X541.here hx rfl (hb hby d26_14) rfl ?_
   exact kt)
  clear R540 st541
  obtain ⟨cl543, Ar543, hin543, hat543⟩ := WN.at (j := (own_bs fp r)) (k := (own_bk fp r)) hbs rfl hk1
  have R544 := fun (tg : State) (kt : Steps p.tables e below (T541.setTop (mkF m 16 #[vR rp, vJ (φ r), .second, vI (own_bs fp r)] [(.int (own_b2 (nr.getD (own_bk fp r) false)))])) tg) => R542 tg (by
   show Steps _ _ _ (T541.setTop (mkF m 15 #[vR rp, vJ (φ r), .second, vI (own_bs fp r)] [(.int (own_bs fp r)), (.ref f3)])) _
   refine X541.baloadBooleans hx (j := (own_bs fp r)) (v := (.int (own_b2 (nr.getD (own_bk fp r) false)))) (by rw [e541]; exact Ar543.1) (State.isArrayOf_alike hZ.alike Ar543.2.1) Ar543.2.2 hin543 hat543 (g := (mkF m 15 #[vR rp, vJ (φ r), .second, vI (own_bs fp r)] [(.int (own_bs fp r)), (.ref f3)])) rfl rfl (hb hby d26_15) _ ?_
   exact kt)
  clear R542
  by_cases hv : (own_b2 (nr.getD (own_bk fp r) false)) = (0 : Int32)
  ·have R545 := fun (tg : State) (kt : Steps p.tables e below (T541.setTop (mkF m 29 #[vR rp, vJ (φ r), .second, vI (own_bs fp r)] [(.int (0 : Int32))])) tg) => R544 tg (by
    show Steps _ _ _ (T541.setTop (mkF m 16 #[vR rp, vJ (φ r), .second, vI (own_bs fp r)] [(.int (own_b2 (nr.getD (own_bk fp r) false)))])) _
    refine XS.ifYes X541.here hx rfl (pc0 := 16) (pc' := 28) rfl (hb hby d26_16) rfl ((if0 _ _).trans (teq (hv : (own_b2 (nr.getD (own_bk fp r) false)) = (0 : Int32))).1) (by decide) (by decide) ?_
    refine XS.iconst X541.here hx rfl (hb hby d26_28) ?_
    exact kt)
   clear R544
   obtain ⟨fs, hr, hrun, hended, hW, hsame⟩ := X541.leave (v := some (.int (0 : Int32))) (fun h => by rw [Bd.returns] at h; cases h)
   refine ⟨_, _, pre0 _ (R545 _ ?_), hrun, hended, _, _, rfl, ?_, ⟨_, rfl⟩, hW, hsame.mono (by decide) (by decide)⟩
   ·exact retI X541 hx Bd.returns (hb hby d26_29) hr
   ·show Q_rm_nearRows Z rp q2 φ cap f1 f2 f3 fp rw nr far r h0 n0 _ T541.heap _
    rw [e541]
    exact ⟨by rw [own_nrw, if_neg hbs, if_pos hv], N536, rfl⟩
  ·have R546 := fun (tg : State) (kt : Steps p.tables e below (T541.setTop (mkF m 20 #[vR rp, vJ (φ r), .second, vI (own_bs fp r)] [(.ref rp)])) tg) => R544 tg (by
    show Steps _ _ _ (T541.setTop (mkF m 16 #[vR rp, vJ (φ r), .second, vI (own_bs fp r)] [(.int (own_b2 (nr.getD (own_bk fp r) false)))])) _
    refine XS.ifNo X541.here hx rfl (hb hby d26_16) rfl ((if0 _ _).trans (feq (hv : ¬ ((own_b2 (nr.getD (own_bk fp r) false)) = (0 : Int32)))).1) ?_
    refine XS.aloadN X541.here hx rfl (hb hby d26_19) rfl rfl ?_
    exact kt)
   clear R544
   obtain ⟨T547, X547, e547, st547⟩ := getF X541 hx hZ hown (host := "") (Or.inl (oW hw 101 rfl)) Via.refl e541 Gr (g := (mkF m 20 #[vR rp, vJ (φ r), .second, vI (own_bs fp r)] [(.ref rp)])) rfl rfl (hb hby d26_20)
   have R548 := fun (tg : State) (kt : Steps p.tables e below (T547.setTop (mkF m 24 #[vR rp, vJ (φ r), .second, vI (own_bs fp r)] [(.int (own_bs fp r)), (.ref f2)])) tg) => R546 tg (by
    refine st547 _ ?_
    refine XS.iloadN X547.here hx rfl (hb hby d26_23) rfl ?_
    exact kt)
   clear R546 st547
   obtain ⟨cl549, Ar549, hin549, hat549⟩ := WR.at (j := (own_bs fp r)) (k := (own_bk fp r)) hbs rfl hk2
   have R550 := fun (tg : State) (kt : Steps p.tables e below (T547.setTop (mkF m 29 #[vR rp, vJ (φ r), .second, vI (own_bs fp r)] [(.int (own_i (rw.getD (own_bk fp r) 0)))])) tg) => R548 tg (by
    show Steps _ _ _ (T547.setTop (mkF m 24 #[vR rp, vJ (φ r), .second, vI (own_bs fp r)] [(.int (own_bs fp r)), (.ref f2)])) _
    refine X547.iaload hx (j := (own_bs fp r)) (v := (.int (own_i (rw.getD (own_bk fp r) 0)))) (by rw [e547]; exact Ar549.1) (State.isArrayOf_alike hZ.alike Ar549.2.1) Ar549.2.2 hin549 hat549 (g := (mkF m 24 #[vR rp, vJ (φ r), .second, vI (own_bs fp r)] [(.int (own_bs fp r)), (.ref f2)])) rfl rfl (hb hby d26_24) _ ?_
    show Steps _ _ _ (T547.setTop (mkF m 25 #[vR rp, vJ (φ r), .second, vI (own_bs fp r)] [(.int (own_i (rw.getD (own_bk fp r) 0)))])) _
    refine XS.goto X547.here hx rfl (pc0 := 25) (pc' := 29) rfl (hb hby d26_25) (by decide) (by decide) ?_
    exact kt)
   clear R548
   obtain ⟨fs, hr, hrun, hended, hW, hsame⟩ := X547.leave (v := some (.int (own_i (rw.getD (own_bk fp r) 0)))) (fun h => by rw [Bd.returns] at h; cases h)
   refine ⟨_, _, pre0 _ (R550 _ ?_), hrun, hended, _, _, rfl, ?_, ⟨_, rfl⟩, hW, hsame.mono (by decide) (by decide)⟩
   ·exact retI X547 hx Bd.returns (hb hby d26_29) hr
   ·show Q_rm_nearRows Z rp q2 φ cap f1 f2 f3 fp rw nr far r h0 n0 _ T547.heap _
    rw [e547]
    exact ⟨by rw [own_nrw, if_neg hbs, if_neg hv], N536, rfl⟩
theorem d27_0 : oD k25 0 (.aload_n 0) 1 := by decide +kernel
theorem d27_1 : oD k25 1 (.lload_n 1) 1 := by decide +kernel
theorem d27_2 : oD k25 2 (.invokevirtual 21) 3 := by decide +kernel
theorem d27_5 : oD k25 5 (.istore_n 3) 1 := by decide +kernel
theorem d27_6 : oD k25 6 (.iload_n 3) 1 := by decide +kernel
theorem d27_7 : oD k25 7 (.ifCond .lt 16) 3 := by decide +kernel
theorem d27_23 : oD k25 23 (.iconst 0) 1 := by decide +kernel
theorem d27_24 : oD k25 24 .ireturn 1 := by decide +kernel
theorem d27_10 : oD k25 10 (.aload_n 0) 1 := by decide +kernel
theorem d27_11 : oD k25 11 (.getfield 17) 3 := by decide +kernel
theorem d27_14 : oD k25 14 (.iload_n 3) 1 := by decide +kernel
theorem d27_15 : oD k25 15 .baload 1 := by decide +kernel
theorem d27_16 : oD k25 16 (.ifCond .ne 7) 3 := by decide +kernel
theorem d27_19 : oD k25 19 (.iconst 1) 1 := by decide +kernel
theorem d27_20 : oD k25 20 (.goto 4) 3 := by decide +kernel
theorem ef_rm_far (m : MethodId) (rp : Addr) (q2 : Int64) : entryFrame m #[(.ref rp), (.long q2)] 4 = mkF m 0 #[vR rp, vJ q2, .second, .unset] [] := by first | (simp [entryFrame, mkF, argsToLocals, Value.category]; done) | rfl
def Q_rm_far (Z : State) (rp : Addr) (q2 : Int64) (φ : Nat → Int64) (cap : Nat) (f1 : Addr) (f2 : Addr) (f3 : Addr) (fp : List Nat) (rw : List Nat) (nr : List Bool) (far : Bool) (r : Nat) (h0 : Heap) (n0 : Nat) (v : Option Value) (h : Heap) (L : List Loc) : Prop := v = some (.int (own_fr fp nr r)) ∧ Fr n0 L ∧ h = h0
set_option maxRecDepth 65536 in
set_option maxHeartbeats 40000000 in
theorem rm_far (l : Launch) (Z : State) (a0 : Array Value) (hw : ∀ d ∈ tables_1, d.before a0 Z = true) (ws : List Jvm.Cond) (rp : Addr) (q2 : Int64) (φ : Nat → Int64) (cap : Nat) (f1 : Addr) (f2 : Addr) (f3 : Addr) (fp : List Nat) (rw : List Nat) (nr : List Bool) (far : Bool) (r : Nat) (h0 : Heap) (n0 : Nat) (Z0 : n0 ≤ h0.size) (Er : Exa Z h0 rp cR) (Gf : Fld Z h0 rp cR "fingerprints" "[J" (.ref f1)) (Gr : Fld Z h0 rp cR "rows" "[I" (.ref f2)) (Gn : Fld Z h0 rp cR "near" "[Z" (.ref f3)) (Gs : Fld Z h0 rp cR "size" "I" (.int (own_i (fp).length))) (Gy : Fld Z h0 rp cR "anyFar" "Z" (.int (own_b2 far))) (WF : VG Z h0 f1 .long cap (fun r => .long (φ r)) 0 fp) (WR : VG Z h0 f2 .int cap (fun r => .int (own_i r)) 0 rw) (WN : VG Z h0 f3 .boolean cap (fun b => .int (own_b2 b)) false nr) (H : own_mono φ) (ok : own_ok2 fp) (hr : r < 4) (hq : q2 = φ r) (hc : cap ≤ 4) (h1 : rw.length = fp.length) (h2 : nr.length = fp.length) :
  MetFree l (⟨cR, "far", "(J)Z"⟩ : MethodName) (head1 (Jvm.Cond.code (⟨cR, "far", "(J)Z"⟩ : MethodName) prog_43_method_4_code 4 (some .boolean) :: ws) rM11) (fun a U => a = #[(.ref rp), (.long q2)] ∧ Z.Warmed39 U.vm ∧ U.heap = h0) (fun _ _ _ _ _ => True) (fun _ U oC U' => ∃ v L, oC = .returned v ∧ Q_rm_far Z rp q2 φ cap f1 f2 f3 fp rw nr far r h0 n0 v U'.heap L ∧ FrameEnd U oC U' L rM11.cells rM11.slots) := by
 refine MetFree.of_bodySF (plainFor_of_name pn_5) hisR ?_
 intro p e s m args below meth c s₁ Bd hml0 hP hK
 obtain ⟨rfl, hZ, hh⟩ := hP
 have hx := Bd.exec
 have hby := Bd.bytes
 have hml : c.maxLocals = 4 := hml0
 have hown : s.vm.findClass cR = some m.cls := findClass_of_methodNamed Bd.named
 have hnm := (name_of_methodNamed Bd.named Bd.method).1
 have X0 : Stand p l e rM11 s m #[(.ref rp), (.long q2)] below meth c s₁ [] 0 0 := Stand.of_body Bd
 have e0 : s₁.heap = h0 := by rw [← hh, Bd.state]; rfl
 have N0 := Fr.nil n0
 have pre0 : Sq p e below (s₁.setTop (mkF m 0 #[vR rp, vJ q2, .second, .unset] [])) (s₁.setTop (entryFrame m #[(.ref rp), (.long q2)] 4)) := fun t k => castTop (ef_rm_far m rp q2) k
 have pre00 : Sq p e below (s₁.setTop (mkF m 0 #[vR rp, vJ q2, .second, .unset] [])) (s₁.setTop (mkF m 0 #[vR rp, vJ q2, .second, .unset] [])) := fun _ k => k
 have R551 := fun (tg : State) (kt : Steps p.tables e below (s₁.setTop (mkF m 0 #[vR rp, vJ (φ r), .second, .unset] [])) tg) => pre00 tg (by rw [hq]; exact kt)
 have R552 := fun (tg : State) (kt : Steps p.tables e below (s₁.setTop (mkF m 2 #[vR rp, vJ (φ r), .second, .unset] [(.long (φ r)), (.ref rp)])) tg) => R551 tg (by
  show Steps _ _ _ (s₁.setTop (mkF m 0 #[vR rp, vJ (φ r), .second, .unset] [])) _
  refine XS.aloadN X0.here hx rfl (hb hby d27_0) rfl rfl ?_
  refine XS.lloadN X0.here hx rfl (hb hby d27_1) rfl ?_
  exact kt)
 clear R551
 obtain ⟨cq553, q553, q553'⟩ := Er.cell
 obtain ⟨_, _, ⟨T553, L553, k553, n553⟩, -, X553, ⟨Lc553, hQ553, l553, y553, z553⟩, st553⟩ := X0.privateBack hx (y := (⟨cR, "find", "(J)I"⟩ : MethodName)) hown (mvT hZ (oW hw 122 rfl)) (mvT hZ (oW hw 123 rfl)) (own_selp (mvT hZ (oW hw 92 rfl)) (mvP hZ (oW hw 124 rfl)) (mvT hZ (oW hw 123 rfl)) (by decide)) (Cond.privateMethod_at (mvP hZ (oW hw 124 rfl) (args := #[]))) (mvT hZ (oW hw 125 rfl)) (by decide) (backOf (W := 0) (rm_fnd l Z a0 hw [] rp (φ r) φ cap f1 f2 f3 fp rw nr far r h0 n0 Z0 Er Gf Gr Gn Gs Gy WF WR WN H ok hr rfl hc h1 h2) hZ (oW hw 125 rfl) (oW hw 93 rfl) (by decide) (by decide)) (g := (mkF m 2 #[vR rp, vJ (φ r), .second, .unset] [(.long (φ r)), (.ref rp)])) rfl (by rw [hml]; rfl) (Steps.refl _) (a := rp) (by rw [e0]; exact q553) q553' (argsL := [(.long (φ r))]) (rest := []) (lenOf pd_9 rfl) rfl (by show 2 * 0 + _ ≤ _; exact Nat.le_of_eq rfl) (hb hby d27_2) (fun _ _ => ⟨rfl, e0, (by decide : 0 + 0 ≤ _), (by decide : 0 + 0 ≤ _)⟩)
 dsimp only [Pt.U, Pt.locs, Pt.cells, Pt.slots] at X553 l553 y553 z553 st553 hQ553
 rw [l553, y553, z553] at X553
 obtain ⟨rfl, N553q, hh553⟩ := hQ553
 have N553 := Fr.app N0 N553q
 have R554 := fun (tg : State) (kt : Steps p.tables e below (T553.setTop (mkF m 7 #[vR rp, vJ (φ r), .second, vI (own_bs fp r)] [(.int (own_bs fp r))])) tg) => R552 tg (by
  refine st553.trans ?_
  show Steps _ _ _ (T553.setTop (mkF m 5 #[vR rp, vJ (φ r), .second, .unset] [(.int (own_bs fp r))])) _
  refine XS.istoreN X553.here hx rfl (hb hby d27_5) rfl (l' := #[vR rp, vJ (φ r), .second, vI (own_bs fp r)]) rfl ?_
  refine XS.iloadN X553.here hx rfl (hb hby d27_6) rfl ?_
  exact kt)
 clear R552 st553
 by_cases hbs : (own_bs fp r) < (0 : Int32)
 ·have R555 := fun (tg : State) (kt : Steps p.tables e below (T553.setTop (mkF m 24 #[vR rp, vJ (φ r), .second, vI (own_bs fp r)] [(.int (0 : Int32))])) tg) => R554 tg (by
   show Steps _ _ _ (T553.setTop (mkF m 7 #[vR rp, vJ (φ r), .second, vI (own_bs fp r)] [(.int (own_bs fp r))])) _
   refine XS.ifYes X553.here hx rfl (pc0 := 7) (pc' := 23) rfl (hb hby d27_7) rfl ((if0 _ _).trans (tlt (hbs : (own_bs fp r) < (0 : Int32))).1) (by decide) (by decide) ?_
   refine XS.iconst X553.here hx rfl (hb hby d27_23) ?_
   exact kt)
  clear R554
  obtain ⟨fs, hr, hrun, hended, hW, hsame⟩ := X553.leave (v := some (.int (0 : Int32))) (fun h => by rw [Bd.returns] at h; cases h)
  refine ⟨_, _, pre0 _ (R555 _ ?_), hrun, hended, _, _, rfl, ?_, ⟨_, rfl⟩, hW, hsame.mono (by decide) (by decide)⟩
  ·exact retN X553 hx (t := .boolean) Bd.returns (by simp) (hb hby d27_24) hr
  ·show Q_rm_far Z rp q2 φ cap f1 f2 f3 fp rw nr far r h0 n0 _ T553.heap _
   rw [hh553]
   exact ⟨by rw [own_fr, if_pos hbs], N553, rfl⟩
 ·have R556 := fun (tg : State) (kt : Steps p.tables e below (T553.setTop (mkF m 10 #[vR rp, vJ (φ r), .second, vI (own_bs fp r)] [])) tg) => R554 tg (by
   show Steps _ _ _ (T553.setTop (mkF m 7 #[vR rp, vJ (φ r), .second, vI (own_bs fp r)] [(.int (own_bs fp r))])) _
   refine XS.ifNo X553.here hx rfl (hb hby d27_7) rfl ((if0 _ _).trans (flt (hbs : ¬ ((own_bs fp r) < (0 : Int32)))).1) ?_
   exact kt)
  clear R554
  obtain ⟨eb, hk⟩ := own_bsx hbs
  have hk1 : (own_bk fp r) < nr.length := by rw [h2]; exact hk
  have hk2 : (own_bk fp r) < rw.length := by rw [h1]; exact hk
  have R557 := fun (tg : State) (kt : Steps p.tables e below (T553.setTop (mkF m 11 #[vR rp, vJ (φ r), .second, vI (own_bs fp r)] [(.ref rp)])) tg) => R556 tg (by
   show Steps _ _ _ (T553.setTop (mkF m 10 #[vR rp, vJ (φ r), .second, vI (own_bs fp r)] [])) _
   refine XS.aloadN X553.here hx rfl (hb hby d27_10) rfl rfl ?_
   exact kt)
  clear R556
  obtain ⟨T558, X558, e558, st558⟩ := getF X553 hx hZ hown (host := "") (Or.inl (oW hw 103 rfl)) Via.refl hh553 Gn (g := (mkF m 11 #[vR rp, vJ (φ r), .second, vI (own_bs fp r)] [(.ref rp)])) rfl rfl (hb hby d27_11)
  have R559 := fun (tg : State) (kt : Steps p.tables e below (T558.setTop (mkF m 15 #[vR rp, vJ (φ r), .second, vI (own_bs fp r)] [(.int (own_bs fp r)), (.ref f3)])) tg) => R557 tg (by
   refine st558 _ ?_
   refine XS.iloadN X558.here hx rfl (hb hby d27_14) rfl ?_
   exact kt)
  clear R557 st558
  obtain ⟨cl560, Ar560, hin560, hat560⟩ := WN.at (j := (own_bs fp r)) (k := (own_bk fp r)) hbs rfl hk1
  have R561 := fun (tg : State) (kt : Steps p.tables e below (T558.setTop (mkF m 16 #[vR rp, vJ (φ r), .second, vI (own_bs fp r)] [(.int (own_b2 (nr.getD (own_bk fp r) false)))])) tg) => R559 tg (by
   show Steps _ _ _ (T558.setTop (mkF m 15 #[vR rp, vJ (φ r), .second, vI (own_bs fp r)] [(.int (own_bs fp r)), (.ref f3)])) _
   refine X558.baloadBooleans hx (j := (own_bs fp r)) (v := (.int (own_b2 (nr.getD (own_bk fp r) false)))) (by rw [e558]; exact Ar560.1) (State.isArrayOf_alike hZ.alike Ar560.2.1) Ar560.2.2 hin560 hat560 (g := (mkF m 15 #[vR rp, vJ (φ r), .second, vI (own_bs fp r)] [(.int (own_bs fp r)), (.ref f3)])) rfl rfl (hb hby d27_15) _ ?_
   exact kt)
  clear R559
  by_cases hv : (own_b2 (nr.getD (own_bk fp r) false)) = (0 : Int32)
  ·have R562 := fun (tg : State) (kt : Steps p.tables e below (T558.setTop (mkF m 24 #[vR rp, vJ (φ r), .second, vI (own_bs fp r)] [(.int (1 : Int32))])) tg) => R561 tg (by
    show Steps _ _ _ (T558.setTop (mkF m 16 #[vR rp, vJ (φ r), .second, vI (own_bs fp r)] [(.int (own_b2 (nr.getD (own_bk fp r) false)))])) _
    refine XS.ifNo X558.here hx rfl (hb hby d27_16) rfl ((if0 _ _).trans (teq (hv : (own_b2 (nr.getD (own_bk fp r) false)) = (0 : Int32))).2) ?_
    refine XS.iconst X558.here hx rfl (hb hby d27_19) ?_
    show Steps _ _ _ (T558.setTop (mkF m 20 #[vR rp, vJ (φ r), .second, vI (own_bs fp r)] [(.int (1 : Int32))])) _
    refine XS.goto X558.here hx rfl (pc0 := 20) (pc' := 24) rfl (hb hby d27_20) (by decide) (by decide) ?_
    exact kt)
   clear R561
   obtain ⟨fs, hr, hrun, hended, hW, hsame⟩ := X558.leave (v := some (.int (1 : Int32))) (fun h => by rw [Bd.returns] at h; cases h)
   refine ⟨_, _, pre0 _ (R562 _ ?_), hrun, hended, _, _, rfl, ?_, ⟨_, rfl⟩, hW, hsame.mono (by decide) (by decide)⟩
   ·exact retN X558 hx (t := .boolean) Bd.returns (by simp) (hb hby d27_24) hr
   ·show Q_rm_far Z rp q2 φ cap f1 f2 f3 fp rw nr far r h0 n0 _ T558.heap _
    rw [e558]
    exact ⟨by rw [own_fr, if_neg hbs, if_pos hv], N553, rfl⟩
  ·have R563 := fun (tg : State) (kt : Steps p.tables e below (T558.setTop (mkF m 24 #[vR rp, vJ (φ r), .second, vI (own_bs fp r)] [(.int (0 : Int32))])) tg) => R561 tg (by
    show Steps _ _ _ (T558.setTop (mkF m 16 #[vR rp, vJ (φ r), .second, vI (own_bs fp r)] [(.int (own_b2 (nr.getD (own_bk fp r) false)))])) _
    refine XS.ifYes X558.here hx rfl (pc0 := 16) (pc' := 23) rfl (hb hby d27_16) rfl ((if0 _ _).trans (feq (hv : ¬ ((own_b2 (nr.getD (own_bk fp r) false)) = (0 : Int32)))).2) (by decide) (by decide) ?_
    refine XS.iconst X558.here hx rfl (hb hby d27_23) ?_
    exact kt)
   clear R561
   obtain ⟨fs, hr, hrun, hended, hW, hsame⟩ := X558.leave (v := some (.int (0 : Int32))) (fun h => by rw [Bd.returns] at h; cases h)
   refine ⟨_, _, pre0 _ (R563 _ ?_), hrun, hended, _, _, rfl, ?_, ⟨_, rfl⟩, hW, hsame.mono (by decide) (by decide)⟩
   ·exact retN X558 hx (t := .boolean) Bd.returns (by simp) (hb hby d27_24) hr
   ·show Q_rm_far Z rp q2 φ cap f1 f2 f3 fp rw nr far r h0 n0 _ T558.heap _
    rw [e558]
    exact ⟨by rw [own_fr, if_neg hbs, if_neg hv], N553, rfl⟩
theorem d28_0 : oD k26 0 (.aload_n 0) 1 := by decide +kernel
theorem d28_1 : oD k26 1 (.getfield 25) 3 := by decide +kernel
theorem d28_4 : oD k26 4 .ireturn 1 := by decide +kernel
theorem ef_rm_anf (m : MethodId) (rp : Addr) : entryFrame m #[(.ref rp)] 1 = mkF m 0 #[vR rp] [] := by first | (simp [entryFrame, mkF, argsToLocals, Value.category]; done) | rfl
def Q_rm_anf (Z : State) (rp : Addr) (far : Bool) (h0 : Heap) (n0 : Nat) (v : Option Value) (h : Heap) (L : List Loc) : Prop := v = some (.int (own_b2 far)) ∧ Fr n0 L ∧ h = h0
set_option maxRecDepth 65536 in
set_option maxHeartbeats 40000000 in
theorem rm_anf (l : Launch) (Z : State) (a0 : Array Value) (hw : ∀ d ∈ tables_1, d.before a0 Z = true) (ws : List Jvm.Cond) (rp : Addr) (far : Bool) (h0 : Heap) (n0 : Nat) (Z0 : n0 ≤ h0.size) (Gy : Fld Z h0 rp cR "anyFar" "Z" (.int (own_b2 far))) :
  MetFree l (⟨cR, "anyFar", "()Z"⟩ : MethodName) (head1 (Jvm.Cond.code (⟨cR, "anyFar", "()Z"⟩ : MethodName) prog_43_method_5_code 1 (some .boolean) :: ws) rM0) (fun a U => a = #[(.ref rp)] ∧ Z.Warmed39 U.vm ∧ U.heap = h0) (fun _ _ _ _ _ => True) (fun _ U oC U' => ∃ v L, oC = .returned v ∧ Q_rm_anf Z rp far h0 n0 v U'.heap L ∧ FrameEnd U oC U' L rM0.cells rM0.slots) := by
 refine MetFree.of_bodySF (plainFor_of_name pn_5) hisR ?_
 intro p e s m args below meth c s₁ Bd hml0 hP hK
 obtain ⟨rfl, hZ, hh⟩ := hP
 have hx := Bd.exec
 have hby := Bd.bytes
 have hml : c.maxLocals = 1 := hml0
 have hown : s.vm.findClass cR = some m.cls := findClass_of_methodNamed Bd.named
 have hnm := (name_of_methodNamed Bd.named Bd.method).1
 have X0 : Stand p l e rM0 s m #[(.ref rp)] below meth c s₁ [] 0 0 := Stand.of_body Bd
 have e0 : s₁.heap = h0 := by rw [← hh, Bd.state]; rfl
 have N0 := Fr.nil n0
 have pre0 : Sq p e below (s₁.setTop (mkF m 0 #[vR rp] [])) (s₁.setTop (entryFrame m #[(.ref rp)] 1)) := fun t k => castTop (ef_rm_anf m rp) k
 have pre00 : Sq p e below (s₁.setTop (mkF m 0 #[vR rp] [])) (s₁.setTop (mkF m 0 #[vR rp] [])) := fun _ k => k
 have R564 := fun (tg : State) (kt : Steps p.tables e below (s₁.setTop (mkF m 1 #[vR rp] [(.ref rp)])) tg) => pre00 tg (by
  show Steps _ _ _ (s₁.setTop (mkF m 0 #[vR rp] [])) _
  refine XS.aloadN X0.here hx rfl (hb hby d28_0) rfl rfl ?_
  exact kt)
 obtain ⟨T565, X565, e565, st565⟩ := getF X0 hx hZ hown (host := "") (Or.inl (oW hw 149 rfl)) Via.refl e0 Gy (g := (mkF m 1 #[vR rp] [(.ref rp)])) rfl rfl (hb hby d28_1)
 have R566 := fun (tg : State) (kt : Steps p.tables e below (T565.setTop (mkF m 4 #[vR rp] [(.int (own_b2 far))])) tg) => R564 tg (by
  refine st565 _ ?_
  exact kt)
 clear R564 st565
 obtain ⟨fs, hr, hrun, hended, hW, hsame⟩ := X565.leave (v := some (.int (own_b2 far))) (fun h => by rw [Bd.returns] at h; cases h)
 refine ⟨_, _, pre0 _ (R566 _ ?_), hrun, hended, _, _, rfl, ?_, ⟨_, rfl⟩, hW, hsame.mono (by decide) (by decide)⟩
 ·exact retN X565 hx (t := .boolean) Bd.returns (by simp) (hb hby d28_4) (fun f acts q1 q2 q3 => (congrArg (fun q => (doReturn e (T565.setTop f) acts (some (.int q))).1) (own_b2n far).1).trans (hr f acts q1 q2 q3))
 ·show Q_rm_anf Z rp far h0 n0 _ T565.heap _
  rw [e565]
  exact ⟨rfl, N0, rfl⟩
theorem d9_45 : oD k14 45 (.iload 4) 2 := by decide +kernel
theorem d9_47 : oD k14 47 (.aload_n 1) 1 := by decide +kernel
theorem pd_10 : parseMethodDescriptor "()I" = some ⟨[], some .int⟩ := by decide +kernel
theorem d9_48 : oD k14 48 (.invokevirtual 54) 3 := by decide +kernel
theorem d9_51 : oD k14 51 (.if_icmp .ge 30) 3 := by decide +kernel
theorem d9_54 : oD k14 54 (.aload_n 1) 1 := by decide +kernel
theorem d9_55 : oD k14 55 (.iload 4) 2 := by decide +kernel
theorem pd_11 : parseMethodDescriptor "(I)I" = some ⟨[.int], some .int⟩ := by decide +kernel
theorem d9_57 : oD k14 57 (.invokevirtual 58) 3 := by decide +kernel
theorem d9_60 : oD k14 60 (.istore 5) 2 := by decide +kernel
theorem d9_62 : oD k14 62 (.iload 5) 2 := by decide +kernel
theorem d9_64 : oD k14 64 (.iload 4) 2 := by decide +kernel
theorem d9_66 : oD k14 66 .isub 1 := by decide +kernel
theorem d9_67 : oD k14 67 (.iconst 1) 1 := by decide +kernel
theorem d9_68 : oD k14 68 (.if_icmp .le 6) 3 := by decide +kernel
theorem d9_71 : oD k14 71 (.iinc 3 1) 3 := by decide +kernel
theorem d9_74 : oD k14 74 (.iload 5) 2 := by decide +kernel
theorem d9_76 : oD k14 76 (.istore 4) 2 := by decide +kernel
theorem d9_78 : oD k14 78 (.goto (-33)) 3 := by decide +kernel
set_option maxRecDepth 65536 in
set_option maxHeartbeats 40000000 in
theorem lp_r1 {p : Program} {l : Launch} {e : Env} {s : State} {m : MethodId} {args : Array Value} {below : List Frame} {meth : Method} {c : Code} {Z : State} {a0 : Array Value} {n0 : Nat} {T0 : State} {locs : List Loc} {h0 : Heap} (cl : Nat) (sl : Nat) (φ : Nat → Int64) (a1 : Addr) (p1 : Addr) (p2 : Addr) (t1 : Addr) (N_ : List Nat) (i : Nat) (cc : Nat) (z5 : Slot) (X0 : Stand p l e rM14 s m args below meth c T0 locs cl sl) (hx : p.tables.exec = Jvm.exec) (hZ : Z.Warmed39 s.vm) (hw : ∀ d ∈ tables_1, d.before a0 Z = true) (hby : c.code = prog_41_method_4_code) (hml : c.maxLocals = 11) (hown : s.vm.findClass cP = some m.cls) (hcl : cl + 0 ≤ rM14.cells) (hsl : sl + 0 ≤ rM14.slots) (e0 : T0.heap = h0) (N0 : Fr n0 locs) (Z0 : n0 ≤ h0.size) (E1 : Exa Z h0 p1 cF) (Pv : Fld Z h0 p1 cF "values" "[J" (.ref t1)) (Ps : Fld Z h0 p1 cF "size" "I" (.int (own_i (N_).length))) (VP : VG Z h0 t1 .long 1024 (fun r => .long (φ r)) 0 N_) (H : own_mono φ) (okN : own_ok N_) (hci : cc ≤ i) (hz5 : z5 = .unset ∨ ∃ a : Int32, z5 = vI a) (hi : i < N_.length) :
  ∃ (T' : State) (L' : List Loc) (z5' : Slot), Stand p l e rM14 s m args below meth c T' L' cl sl ∧ T'.heap = h0 ∧ Fr n0 L' ∧ (z5' = .unset ∨ ∃ a : Int32, z5' = vI a) ∧ Sq p e below (T'.setTop (mkF m 45 #[vR a1, vR p1, vR p2, vI (own_i (cc + (if 1 < (own_re N_ i) - i then 1 else 0))), vI (own_i (own_re N_ i)), z5', .unset, .unset, .unset, .unset, .unset] [])) (T0.setTop (mkF m 45 #[vR a1, vR p1, vR p2, vI (own_i cc), vI (own_i i), z5, .unset, .unset, .unset, .unset, .unset] [])) := by
 obtain ⟨re1, re2⟩ := own_re_b hi
 have hi4 : i ≤ 4 := Nat.le_of_lt (Nat.lt_of_lt_of_le hi okN.1)
 have re4 : (own_re N_ i) ≤ 4 := Nat.le_trans re2 okN.1
 have R567 := fun (tg : State) (kt : Steps p.tables e below (T0.setTop (mkF m 48 #[vR a1, vR p1, vR p2, vI (own_i cc), vI (own_i i), z5, .unset, .unset, .unset, .unset, .unset] [(.ref p1), (.int (own_i i))])) tg) => (fun (t : State) (k : Steps p.tables e below (T0.setTop (mkF m 45 #[vR a1, vR p1, vR p2, vI (own_i cc), vI (own_i i), z5, .unset, .unset, .unset, .unset, .unset] [])) t) => k) tg (by
  show Steps _ _ _ (T0.setTop (mkF m 45 #[vR a1, vR p1, vR p2, vI (own_i cc), vI (own_i i), z5, .unset, .unset, .unset, .unset, .unset] [])) _
  refine XS.iload X0.here hx rfl (hb hby d9_45) rfl ?_
  refine XS.aloadN X0.here hx rfl (hb hby d9_47) rfl rfl ?_
  exact kt)
 obtain ⟨cq568, kq568, q568a, q568b, q568c⟩ := isOf hZ e0 E1
 obtain ⟨_, _, ⟨T568, L568, k568, n568⟩, -, X568, ⟨Lc568, hQ568, l568, y568, z568⟩, st568⟩ := X0.virtualBack hx (y := (⟨cF, "size", "()I"⟩ : MethodName)) (z := (⟨cF, "size", "()I"⟩ : MethodName)) hown (mvT hZ (oW hw 81 rfl)) (mvT hZ (oW hw 82 rfl)) (notFace_of_selects (args := #[]) (mvT hZ (oW hw 84 rfl))) (mvT hZ (oW hw 84 rfl)) (mvT hZ (oW hw 83 rfl)) (by decide) (backOf (W := 1) (rm_siz l Z a0 hw [] p1 (own_i N_.length) h0 n0 Z0 Ps) hZ (oW hw 85 rfl) (oW hw 17 rfl) (by decide) (by decide)) q568a q568c (g := (mkF m 48 #[vR a1, vR p1, vR p2, vI (own_i cc), vI (own_i i), z5, .unset, .unset, .unset, .unset, .unset] [(.ref p1), (.int (own_i i))])) rfl (by rw [hml]; rfl) (Steps.refl _) (argsL := []) (rest := [(.int (own_i i))]) (lenOf pd_10 rfl) rfl (by show 2 * 0 + _ ≤ _; exact Nat.le_of_eq rfl) (hb hby d9_48) (fun _ _ => ⟨rfl, e0, hcl, hsl⟩)
 dsimp only [Pt.U, Pt.locs, Pt.cells, Pt.slots] at X568 l568 y568 z568 st568 hQ568
 rw [l568, y568, z568] at X568
 obtain ⟨rfl, N568q, hh568⟩ := hQ568
 have N568 := Fr.app N0 N568q
 have R569 := fun (tg : State) (kt : Steps p.tables e below (T568.setTop (mkF m 57 #[vR a1, vR p1, vR p2, vI (own_i cc), vI (own_i i), z5, .unset, .unset, .unset, .unset, .unset] [(.int (own_i i)), (.ref p1)])) tg) => R567 tg (by
  refine st568.trans ?_
  show Steps _ _ _ (T568.setTop (mkF m 51 #[vR a1, vR p1, vR p2, vI (own_i cc), vI (own_i i), z5, .unset, .unset, .unset, .unset, .unset] [(.int (own_i N_.length)), (.int (own_i i))])) _
  refine XS.icmpNo X568.here hx rfl (hb hby d9_51) rfl (tlt (own_it3 hi okN.1 : (own_i i) < (own_i N_.length))).2.1 ?_
  refine XS.aloadN X568.here hx rfl (hb hby d9_54) rfl rfl ?_
  refine XS.iload X568.here hx rfl (hb hby d9_55) rfl ?_
  exact kt)
 clear R567 st568
 obtain ⟨cq570, kq570, q570a, q570b, q570c⟩ := isOf hZ hh568 E1
 obtain ⟨_, _, ⟨T570, L570, k570, n570⟩, -, X570, ⟨Lc570, hQ570, l570, y570, z570⟩, st570⟩ := X568.virtualBack hx (y := (⟨cF, "runEnd", "(I)I"⟩ : MethodName)) (z := (⟨cF, "runEnd", "(I)I"⟩ : MethodName)) hown (mvT hZ (oW hw 86 rfl)) (mvT hZ (oW hw 87 rfl)) (notFace_of_selects (args := #[]) (mvT hZ (oW hw 89 rfl))) (mvT hZ (oW hw 89 rfl)) (mvT hZ (oW hw 88 rfl)) (by decide) (backOf (W := 0) (rm_run l Z a0 hw [] p1 (own_i i) φ t1 N_ i h0 n0 Z0 E1 Pv Ps VP H okN rfl hi) hZ (oW hw 90 rfl) (oW hw 17 rfl) (by decide) (by decide)) q570a q570c (g := (mkF m 57 #[vR a1, vR p1, vR p2, vI (own_i cc), vI (own_i i), z5, .unset, .unset, .unset, .unset, .unset] [(.int (own_i i)), (.ref p1)])) rfl (by rw [hml]; rfl) (Steps.refl _) (argsL := [(.int (own_i i))]) (rest := []) (lenOf pd_11 rfl) rfl (by show 2 * 0 + _ ≤ _; exact Nat.le_of_eq rfl) (hb hby d9_57) (fun _ _ => ⟨rfl, hh568, hcl, hsl⟩)
 dsimp only [Pt.U, Pt.locs, Pt.cells, Pt.slots] at X570 l570 y570 z570 st570 hQ570
 rw [l570, y570, z570] at X570
 obtain ⟨rfl, N570q, hh570⟩ := hQ570
 have N570 := Fr.app N568 N570q
 have R571 := fun (tg : State) (kt : Steps p.tables e below (T570.setTop (mkF m 67 #[vR a1, vR p1, vR p2, vI (own_i cc), vI (own_i i), vI (own_i (own_re N_ i)), .unset, .unset, .unset, .unset, .unset] [(.int ((own_i (own_re N_ i)) - (own_i i)))])) tg) => R569 tg (by
  refine st570.trans ?_
  show Steps _ _ _ (T570.setTop (mkF m 60 #[vR a1, vR p1, vR p2, vI (own_i cc), vI (own_i i), z5, .unset, .unset, .unset, .unset, .unset] [(.int (own_i (own_re N_ i)))])) _
  refine XS.istore X570.here hx rfl (hb hby d9_60) rfl (l' := #[vR a1, vR p1, vR p2, vI (own_i cc), vI (own_i i), vI (own_i (own_re N_ i)), .unset, .unset, .unset, .unset, .unset]) (by rcases hz5 with rfl | ⟨_, rfl⟩ <;> rfl) ?_
  refine XS.iload X570.here hx rfl (hb hby d9_62) rfl ?_
  refine XS.iload X570.here hx rfl (hb hby d9_64) rfl ?_
  show Steps _ _ _ (T570.setTop (mkF m 66 #[vR a1, vR p1, vR p2, vI (own_i cc), vI (own_i i), vI (own_i (own_re N_ i)), .unset, .unset, .unset, .unset, .unset] [(.int (own_i i)), (.int (own_i (own_re N_ i)))])) _
  refine XS.isub X570.here hx rfl (hb hby d9_66) rfl ?_
  exact kt)
 clear R569 st570
 have R572 := fun (tg : State) (kt : Steps p.tables e below (T570.setTop (mkF m 67 #[vR a1, vR p1, vR p2, vI (own_i cc), vI (own_i i), vI (own_i (own_re N_ i)), .unset, .unset, .unset, .unset, .unset] [(.int (own_i ((own_re N_ i) - i)))])) tg) => R571 tg (by rw [own_isub (Nat.le_of_lt re1) (own_sub31 re4)]; exact kt)
 clear R571
 have R573 := fun (tg : State) (kt : Steps p.tables e below (T570.setTop (mkF m 68 #[vR a1, vR p1, vR p2, vI (own_i cc), vI (own_i i), vI (own_i (own_re N_ i)), .unset, .unset, .unset, .unset, .unset] [(.int (1 : Int32)), (.int (own_i ((own_re N_ i) - i)))])) tg) => R572 tg (by
  show Steps _ _ _ (T570.setTop (mkF m 67 #[vR a1, vR p1, vR p2, vI (own_i cc), vI (own_i i), vI (own_i (own_re N_ i)), .unset, .unset, .unset, .unset, .unset] [(.int (own_i ((own_re N_ i) - i)))])) _
  refine XS.iconst X570.here hx rfl (hb hby d9_67) ?_
  exact kt)
 clear R572
 by_cases hg : 1 < (own_re N_ i) - i
 ·have R574 := fun (tg : State) (kt : Steps p.tables e below (T570.setTop (mkF m 45 #[vR a1, vR p1, vR p2, vI ((own_i cc) + (1 : Int32)), vI (own_i (own_re N_ i)), vI (own_i (own_re N_ i)), .unset, .unset, .unset, .unset, .unset] [])) tg) => R573 tg (by
   show Steps _ _ _ (T570.setTop (mkF m 68 #[vR a1, vR p1, vR p2, vI (own_i cc), vI (own_i i), vI (own_i (own_re N_ i)), .unset, .unset, .unset, .unset, .unset] [(.int (1 : Int32)), (.int (own_i ((own_re N_ i) - i)))])) _
   refine XS.icmpNo X570.here hx rfl (hb hby d9_68) rfl (tlt ((own_1lt (own_le4 re4)).mpr hg : (1 : Int32) < (own_i ((own_re N_ i) - i)))).2.2.2 ?_
   show Steps _ _ _ (T570.setTop (mkF m 71 #[vR a1, vR p1, vR p2, vI (own_i cc), vI (own_i i), vI (own_i (own_re N_ i)), .unset, .unset, .unset, .unset, .unset] [])) _
   refine XS.iinc X570.here hx rfl (hb hby d9_71) rfl (l' := #[vR a1, vR p1, vR p2, vI ((own_i cc) + (1 : Int32)), vI (own_i i), vI (own_i (own_re N_ i)), .unset, .unset, .unset, .unset, .unset]) rfl ?_
   refine XS.iload X570.here hx rfl (hb hby d9_74) rfl ?_
   show Steps _ _ _ (T570.setTop (mkF m 76 #[vR a1, vR p1, vR p2, vI ((own_i cc) + (1 : Int32)), vI (own_i i), vI (own_i (own_re N_ i)), .unset, .unset, .unset, .unset, .unset] [(.int (own_i (own_re N_ i)))])) _
   refine XS.istore X570.here hx rfl (hb hby d9_76) rfl (l' := #[vR a1, vR p1, vR p2, vI ((own_i cc) + (1 : Int32)), vI (own_i (own_re N_ i)), vI (own_i (own_re N_ i)), .unset, .unset, .unset, .unset, .unset]) rfl ?_
   show Steps _ _ _ (T570.setTop (mkF m 78 #[vR a1, vR p1, vR p2, vI ((own_i cc) + (1 : Int32)), vI (own_i (own_re N_ i)), vI (own_i (own_re N_ i)), .unset, .unset, .unset, .unset, .unset] [])) _
   refine XS.goto X570.here hx rfl (pc0 := 78) (pc' := 45) rfl (hb hby d9_78) (by decide) (by decide) ?_
   exact kt)
  clear R573
  have eC : (cc + (if 1 < (own_re N_ i) - i then 1 else 0)) = cc + 1 := by rw [if_pos hg]
  have eI : own_i cc + (1 : Int32) = own_i (cc + 1) := own_i1 (Nat.lt_of_le_of_lt (Nat.succ_le_succ (Nat.le_trans hci hi4)) (by decide))
  have R575 := fun (tg : State) (kt : Steps p.tables e below (T570.setTop (mkF m 45 #[vR a1, vR p1, vR p2, vI (own_i (cc + (if 1 < (own_re N_ i) - i then 1 else 0))), vI (own_i (own_re N_ i)), vI (own_i (own_re N_ i)), .unset, .unset, .unset, .unset, .unset] [])) tg) => R574 tg (by rw [eC, ← eI] at kt; exact kt)
  clear R574
  exact ⟨_, _, _, X570, hh570, N570, Or.inr ⟨_, rfl⟩, R575⟩
 ·have R576 := fun (tg : State) (kt : Steps p.tables e below (T570.setTop (mkF m 45 #[vR a1, vR p1, vR p2, vI (own_i cc), vI (own_i (own_re N_ i)), vI (own_i (own_re N_ i)), .unset, .unset, .unset, .unset, .unset] [])) tg) => R573 tg (by
   show Steps _ _ _ (T570.setTop (mkF m 68 #[vR a1, vR p1, vR p2, vI (own_i cc), vI (own_i i), vI (own_i (own_re N_ i)), .unset, .unset, .unset, .unset, .unset] [(.int (1 : Int32)), (.int (own_i ((own_re N_ i) - i)))])) _
   refine XS.icmpYes X570.here hx rfl (pc0 := 68) (pc' := 74) rfl (hb hby d9_68) rfl (flt (fun q => hg ((own_1lt (own_le4 re4)).mp q) : ¬ ((1 : Int32) < (own_i ((own_re N_ i) - i))))).2.2.2 (by decide) (by decide) ?_
   refine XS.iload X570.here hx rfl (hb hby d9_74) rfl ?_
   show Steps _ _ _ (T570.setTop (mkF m 76 #[vR a1, vR p1, vR p2, vI (own_i cc), vI (own_i i), vI (own_i (own_re N_ i)), .unset, .unset, .unset, .unset, .unset] [(.int (own_i (own_re N_ i)))])) _
   refine XS.istore X570.here hx rfl (hb hby d9_76) rfl (l' := #[vR a1, vR p1, vR p2, vI (own_i cc), vI (own_i (own_re N_ i)), vI (own_i (own_re N_ i)), .unset, .unset, .unset, .unset, .unset]) rfl ?_
   show Steps _ _ _ (T570.setTop (mkF m 78 #[vR a1, vR p1, vR p2, vI (own_i cc), vI (own_i (own_re N_ i)), vI (own_i (own_re N_ i)), .unset, .unset, .unset, .unset, .unset] [])) _
   refine XS.goto X570.here hx rfl (pc0 := 78) (pc' := 45) rfl (hb hby d9_78) (by decide) (by decide) ?_
   exact kt)
  clear R573
  have eC : (cc + (if 1 < (own_re N_ i) - i then 1 else 0)) = cc := by rw [if_neg hg]; rfl
  have R577 := fun (tg : State) (kt : Steps p.tables e below (T570.setTop (mkF m 45 #[vR a1, vR p1, vR p2, vI (own_i (cc + (if 1 < (own_re N_ i) - i then 1 else 0))), vI (own_i (own_re N_ i)), vI (own_i (own_re N_ i)), .unset, .unset, .unset, .unset, .unset] [])) tg) => R576 tg (by rw [eC] at kt; exact kt)
  clear R576
  exact ⟨_, _, _, X570, hh570, N570, Or.inr ⟨_, rfl⟩, R577⟩
set_option maxRecDepth 65536 in
set_option maxHeartbeats 40000000 in
theorem lp_r1E {p : Program} {l : Launch} {e : Env} {s : State} {m : MethodId} {args : Array Value} {below : List Frame} {meth : Method} {c : Code} {Z : State} {a0 : Array Value} {n0 : Nat} {T0 : State} {locs : List Loc} {h0 : Heap} (cl : Nat) (sl : Nat) (φ : Nat → Int64) (a1 : Addr) (p1 : Addr) (p2 : Addr) (t1 : Addr) (N_ : List Nat) (i : Nat) (cc : Nat) (z5 : Slot) (X0 : Stand p l e rM14 s m args below meth c T0 locs cl sl) (hx : p.tables.exec = Jvm.exec) (hZ : Z.Warmed39 s.vm) (hw : ∀ d ∈ tables_1, d.before a0 Z = true) (hby : c.code = prog_41_method_4_code) (hml : c.maxLocals = 11) (hown : s.vm.findClass cP = some m.cls) (hcl : cl + 0 ≤ rM14.cells) (hsl : sl + 0 ≤ rM14.slots) (e0 : T0.heap = h0) (N0 : Fr n0 locs) (Z0 : n0 ≤ h0.size) (E1 : Exa Z h0 p1 cF) (Pv : Fld Z h0 p1 cF "values" "[J" (.ref t1)) (Ps : Fld Z h0 p1 cF "size" "I" (.int (own_i (N_).length))) (VP : VG Z h0 t1 .long 1024 (fun r => .long (φ r)) 0 N_) (H : own_mono φ) (okN : own_ok N_) (hz5 : z5 = .unset ∨ ∃ a : Int32, z5 = vI a) :
  ∃ (T' : State) (L' : List Loc) (z5' : Slot), Stand p l e rM14 s m args below meth c T' L' cl sl ∧ T'.heap = h0 ∧ Fr n0 L' ∧ (z5' = .unset ∨ ∃ a : Int32, z5' = vI a) ∧ Sq p e below (T'.setTop (mkF m 81 #[vR a1, vR p1, vR p2, vI (own_i cc), vI (own_i N_.length), z5', .unset, .unset, .unset, .unset, .unset] [])) (T0.setTop (mkF m 45 #[vR a1, vR p1, vR p2, vI (own_i cc), vI (own_i N_.length), z5, .unset, .unset, .unset, .unset, .unset] [])) := by
 have R578 := fun (tg : State) (kt : Steps p.tables e below (T0.setTop (mkF m 48 #[vR a1, vR p1, vR p2, vI (own_i cc), vI (own_i N_.length), z5, .unset, .unset, .unset, .unset, .unset] [(.ref p1), (.int (own_i N_.length))])) tg) => (fun (t : State) (k : Steps p.tables e below (T0.setTop (mkF m 45 #[vR a1, vR p1, vR p2, vI (own_i cc), vI (own_i N_.length), z5, .unset, .unset, .unset, .unset, .unset] [])) t) => k) tg (by
  show Steps _ _ _ (T0.setTop (mkF m 45 #[vR a1, vR p1, vR p2, vI (own_i cc), vI (own_i N_.length), z5, .unset, .unset, .unset, .unset, .unset] [])) _
  refine XS.iload X0.here hx rfl (hb hby d9_45) rfl ?_
  refine XS.aloadN X0.here hx rfl (hb hby d9_47) rfl rfl ?_
  exact kt)
 obtain ⟨cq579, kq579, q579a, q579b, q579c⟩ := isOf hZ e0 E1
 obtain ⟨_, _, ⟨T579, L579, k579, n579⟩, -, X579, ⟨Lc579, hQ579, l579, y579, z579⟩, st579⟩ := X0.virtualBack hx (y := (⟨cF, "size", "()I"⟩ : MethodName)) (z := (⟨cF, "size", "()I"⟩ : MethodName)) hown (mvT hZ (oW hw 81 rfl)) (mvT hZ (oW hw 82 rfl)) (notFace_of_selects (args := #[]) (mvT hZ (oW hw 84 rfl))) (mvT hZ (oW hw 84 rfl)) (mvT hZ (oW hw 83 rfl)) (by decide) (backOf (W := 1) (rm_siz l Z a0 hw [] p1 (own_i N_.length) h0 n0 Z0 Ps) hZ (oW hw 85 rfl) (oW hw 17 rfl) (by decide) (by decide)) q579a q579c (g := (mkF m 48 #[vR a1, vR p1, vR p2, vI (own_i cc), vI (own_i N_.length), z5, .unset, .unset, .unset, .unset, .unset] [(.ref p1), (.int (own_i N_.length))])) rfl (by rw [hml]; rfl) (Steps.refl _) (argsL := []) (rest := [(.int (own_i N_.length))]) (lenOf pd_10 rfl) rfl (by show 2 * 0 + _ ≤ _; exact Nat.le_of_eq rfl) (hb hby d9_48) (fun _ _ => ⟨rfl, e0, hcl, hsl⟩)
 dsimp only [Pt.U, Pt.locs, Pt.cells, Pt.slots] at X579 l579 y579 z579 st579 hQ579
 rw [l579, y579, z579] at X579
 obtain ⟨rfl, N579q, hh579⟩ := hQ579
 have N579 := Fr.app N0 N579q
 have R580 := fun (tg : State) (kt : Steps p.tables e below (T579.setTop (mkF m 81 #[vR a1, vR p1, vR p2, vI (own_i cc), vI (own_i N_.length), z5, .unset, .unset, .unset, .unset, .unset] [])) tg) => R578 tg (by
  refine st579.trans ?_
  show Steps _ _ _ (T579.setTop (mkF m 51 #[vR a1, vR p1, vR p2, vI (own_i cc), vI (own_i N_.length), z5, .unset, .unset, .unset, .unset, .unset] [(.int (own_i N_.length)), (.int (own_i N_.length))])) _
  refine XS.icmpYes X579.here hx rfl (pc0 := 51) (pc' := 81) rfl (hb hby d9_51) rfl (flt (own_irr : ¬ ((own_i N_.length) < (own_i N_.length)))).2.1 (by decide) (by decide) ?_
  exact kt)
 clear R578 st579
 exact ⟨_, _, _, X579, hh579, N579, hz5, R580⟩
set_option maxHeartbeats 4000000 in
theorem lp_r1L {p : Program} {l : Launch} {e : Env} {s : State} {m : MethodId} {args : Array Value} {below : List Frame} {meth : Method} {c : Code} {Z : State} {a0 : Array Value} {n0 : Nat} (cl sl : Nat) (φ : Nat → Int64) (a1 p1 p2 t1 : Addr) (N_ : List Nat) (hx : p.tables.exec = Jvm.exec) (hZ : Z.Warmed39 s.vm) (hw : ∀ d ∈ tables_1, d.before a0 Z = true) (hby : c.code = prog_41_method_4_code) (hml : c.maxLocals = 11) (hown : s.vm.findClass cP = some m.cls) (hcl : cl + 0 ≤ rM14.cells) (hsl : sl + 0 ≤ rM14.slots) {h0 : Heap} (Z0 : n0 ≤ h0.size) (E1 : Exa Z h0 p1 cF) (Pv : Fld Z h0 p1 cF "values" "[J" (.ref t1)) (Ps : Fld Z h0 p1 cF "size" "I" (.int (own_i (N_).length))) (VP : VG Z h0 t1 .long 1024 (fun r => .long (φ r)) 0 N_) (H : own_mono φ) (okN : own_ok N_) :
  ∀ (d i cc : Nat) (z5 : Slot) {T0 : State} {locs : List Loc} (X0 : Stand p l e rM14 s m args below meth c T0 locs cl sl) (e0 : T0.heap = h0) (N0 : Fr n0 locs), N_.length - i ≤ d → i ≤ N_.length → cc ≤ i → (z5 = .unset ∨ ∃ a : Int32, z5 = vI a) → ∃ (T' : State) (L' : List Loc) (z5' : Slot), Stand p l e rM14 s m args below meth c T' L' cl sl ∧ T'.heap = h0 ∧ Fr n0 L' ∧ (z5' = .unset ∨ ∃ a : Int32, z5' = vI a) ∧ Sq p e below (T'.setTop (mkF m 81 #[vR a1, vR p1, vR p2, vI (own_i (cc + own_cn N_ d i)), vI (own_i N_.length), z5', .unset, .unset, .unset, .unset, .unset] [])) (T0.setTop (mkF m 45 #[vR a1, vR p1, vR p2, vI (own_i cc), vI (own_i i), z5, .unset, .unset, .unset, .unset, .unset] [])) := by
 intro d
 induction d with
 | zero =>
  intro i cc z5 T0 locs X0 e0 N0 hd hi hci hz5
  cases (show i = N_.length by omega)
  rw [own_cn]
  exact lp_r1E cl sl φ a1 p1 p2 t1 N_ 0 cc z5 X0 hx hZ hw hby hml hown hcl hsl e0 N0 Z0 E1 Pv Ps VP H okN hz5
 | succ d ih =>
  intro i cc z5 T0 locs X0 e0 N0 hd hi hci hz5
  by_cases hlt : i < N_.length
  ·obtain ⟨T1, L1, z1, X1, e1, N1, hz1, st1⟩ := lp_r1 cl sl φ a1 p1 p2 t1 N_ i cc z5 X0 hx hZ hw hby hml hown hcl hsl e0 N0 Z0 E1 Pv Ps VP H okN hci hz5 hlt
   have rb := own_re_b hlt
   obtain ⟨T2, L2, z2, X2, e2, N2, hz2, st2⟩ := ih (own_re N_ i) (cc + (if 1 < own_re N_ i - i then 1 else 0)) z1 X1 e1 N1 (by omega) rb.2 (by split <;> omega) hz1
   refine ⟨T2, L2, z2, X2, e2, N2, hz2, ?_⟩
   rw [own_cn, if_pos hlt, ← Nat.add_assoc]
   exact fun tg kt => st1 tg (st2 tg kt)
  ·cases (show i = N_.length by omega)
   rw [own_cn, if_neg hlt]
   exact lp_r1E cl sl φ a1 p1 p2 t1 N_ 0 cc z5 X0 hx hZ hw hby hml hown hcl hsl e0 N0 Z0 E1 Pv Ps VP H okN hz5
theorem d9_125 : oD k14 125 (.iload 5) 2 := by decide +kernel
theorem d9_127 : oD k14 127 (.aload_n 2) 1 := by decide +kernel
theorem d9_128 : oD k14 128 (.invokevirtual 54) 3 := by decide +kernel
theorem d9_131 : oD k14 131 (.if_icmp .ge 36) 3 := by decide +kernel
theorem d9_134 : oD k14 134 (.aload_n 2) 1 := by decide +kernel
theorem d9_135 : oD k14 135 (.iload 5) 2 := by decide +kernel
theorem pd_12 : parseMethodDescriptor "(I)J" = some ⟨[.int], some .long⟩ := by decide +kernel
theorem d9_137 : oD k14 137 (.invokevirtual 67) 3 := by decide +kernel
theorem d9_140 : oD k14 140 (.lload 8) 2 := by decide +kernel
theorem d9_142 : oD k14 142 .lcmp 1 := by decide +kernel
theorem d9_143 : oD k14 143 (.ifCond .gt 24) 3 := by decide +kernel
theorem d9_146 : oD k14 146 (.aload_n 2) 1 := by decide +kernel
theorem d9_147 : oD k14 147 (.iload 5) 2 := by decide +kernel
theorem d9_149 : oD k14 149 (.invokevirtual 67) 3 := by decide +kernel
theorem d9_152 : oD k14 152 (.lload 8) 2 := by decide +kernel
theorem d9_154 : oD k14 154 .lcmp 1 := by decide +kernel
theorem d9_155 : oD k14 155 (.ifCond .ne 6) 3 := by decide +kernel
theorem d9_158 : oD k14 158 (.iinc 10 1) 3 := by decide +kernel
theorem d9_161 : oD k14 161 (.iinc 5 1) 3 := by decide +kernel
theorem d9_164 : oD k14 164 (.goto (-39)) 3 := by decide +kernel
set_option maxRecDepth 65536 in
set_option maxHeartbeats 40000000 in
theorem lp_r3 {p : Program} {l : Launch} {e : Env} {s : State} {m : MethodId} {args : Array Value} {below : List Frame} {meth : Method} {c : Code} {Z : State} {a0 : Array Value} {n0 : Nat} {T0 : State} {locs : List Loc} {h0 : Heap} (cl : Nat) (sl : Nat) (φ : Nat → Int64) (a1 : Addr) (p1 : Addr) (p2 : Addr) (t2 : Addr) (rp : Addr) (W_ : List Nat) (nv : Int32) (iv : Int32) (rv : Int32) (xx : Nat) (j : Nat) (cc : Nat) (X0 : Stand p l e rM14 s m args below meth c T0 locs cl sl) (hx : p.tables.exec = Jvm.exec) (hZ : Z.Warmed39 s.vm) (hw : ∀ d ∈ tables_1, d.before a0 Z = true) (hby : c.code = prog_41_method_4_code) (hml : c.maxLocals = 11) (hown : s.vm.findClass cP = some m.cls) (hcl : cl + 0 ≤ rM14.cells) (hsl : sl + 0 ≤ rM14.slots) (e0 : T0.heap = h0) (N0 : Fr n0 locs) (Z0 : n0 ≤ h0.size) (E2 : Exa Z h0 p2 cF) (Qv : Fld Z h0 p2 cF "values" "[J" (.ref t2)) (Qs : Fld Z h0 p2 cF "size" "I" (.int (own_i (W_).length))) (VF : VG Z h0 t2 .long 1024 (fun r => .long (φ r)) 0 W_) (H : own_mono φ) (okW : own_ok W_) (hx4 : xx < 4) (hcj : cc ≤ j) (hj : j < W_.length) :
  ∃ (T' : State) (L' : List Loc), Stand p l e rM14 s m args below meth c T' L' cl sl ∧ T'.heap = h0 ∧ Fr n0 L' ∧ ((xx < W_.getD j 0 ∧ (Sq p e below (T'.setTop (mkF m 167 #[vR a1, vR p1, vR p2, vI nv, vR rp, vI (own_i j), vI iv, vI rv, vJ (φ xx), .second, vI (own_i cc)] [])) (T0.setTop (mkF m 125 #[vR a1, vR p1, vR p2, vI nv, vR rp, vI (own_i j), vI iv, vI rv, vJ (φ xx), .second, vI (own_i cc)] [])))) ∨ (¬ xx < W_.getD j 0 ∧ (Sq p e below (T'.setTop (mkF m 125 #[vR a1, vR p1, vR p2, vI nv, vR rp, vI (own_i (j + 1)), vI iv, vI rv, vJ (φ xx), .second, vI (own_i (if W_.getD j 0 = xx then cc + 1 else cc))] [])) (T0.setTop (mkF m 125 #[vR a1, vR p1, vR p2, vI nv, vR rp, vI (own_i j), vI iv, vI rv, vJ (φ xx), .second, vI (own_i cc)] []))))) := by
 have hj4 : j ≤ 4 := Nat.le_of_lt (Nat.lt_of_lt_of_le hj okW.1)
 have R581 := fun (tg : State) (kt : Steps p.tables e below (T0.setTop (mkF m 128 #[vR a1, vR p1, vR p2, vI nv, vR rp, vI (own_i j), vI iv, vI rv, vJ (φ xx), .second, vI (own_i cc)] [(.ref p2), (.int (own_i j))])) tg) => (fun (t : State) (k : Steps p.tables e below (T0.setTop (mkF m 125 #[vR a1, vR p1, vR p2, vI nv, vR rp, vI (own_i j), vI iv, vI rv, vJ (φ xx), .second, vI (own_i cc)] [])) t) => k) tg (by
  show Steps _ _ _ (T0.setTop (mkF m 125 #[vR a1, vR p1, vR p2, vI nv, vR rp, vI (own_i j), vI iv, vI rv, vJ (φ xx), .second, vI (own_i cc)] [])) _
  refine XS.iload X0.here hx rfl (hb hby d9_125) rfl ?_
  refine XS.aloadN X0.here hx rfl (hb hby d9_127) rfl rfl ?_
  exact kt)
 obtain ⟨cq582, kq582, q582a, q582b, q582c⟩ := isOf hZ e0 E2
 obtain ⟨_, _, ⟨T582, L582, k582, n582⟩, -, X582, ⟨Lc582, hQ582, l582, y582, z582⟩, st582⟩ := X0.virtualBack hx (y := (⟨cF, "size", "()I"⟩ : MethodName)) (z := (⟨cF, "size", "()I"⟩ : MethodName)) hown (mvT hZ (oW hw 81 rfl)) (mvT hZ (oW hw 82 rfl)) (notFace_of_selects (args := #[]) (mvT hZ (oW hw 84 rfl))) (mvT hZ (oW hw 84 rfl)) (mvT hZ (oW hw 83 rfl)) (by decide) (backOf (W := 1) (rm_siz l Z a0 hw [] p2 (own_i W_.length) h0 n0 Z0 Qs) hZ (oW hw 85 rfl) (oW hw 17 rfl) (by decide) (by decide)) q582a q582c (g := (mkF m 128 #[vR a1, vR p1, vR p2, vI nv, vR rp, vI (own_i j), vI iv, vI rv, vJ (φ xx), .second, vI (own_i cc)] [(.ref p2), (.int (own_i j))])) rfl (by rw [hml]; rfl) (Steps.refl _) (argsL := []) (rest := [(.int (own_i j))]) (lenOf pd_10 rfl) rfl (by show 2 * 0 + _ ≤ _; exact Nat.le_of_eq rfl) (hb hby d9_128) (fun _ _ => ⟨rfl, e0, hcl, hsl⟩)
 dsimp only [Pt.U, Pt.locs, Pt.cells, Pt.slots] at X582 l582 y582 z582 st582 hQ582
 rw [l582, y582, z582] at X582
 obtain ⟨rfl, N582q, hh582⟩ := hQ582
 have N582 := Fr.app N0 N582q
 have R583 := fun (tg : State) (kt : Steps p.tables e below (T582.setTop (mkF m 137 #[vR a1, vR p1, vR p2, vI nv, vR rp, vI (own_i j), vI iv, vI rv, vJ (φ xx), .second, vI (own_i cc)] [(.int (own_i j)), (.ref p2)])) tg) => R581 tg (by
  refine st582.trans ?_
  show Steps _ _ _ (T582.setTop (mkF m 131 #[vR a1, vR p1, vR p2, vI nv, vR rp, vI (own_i j), vI iv, vI rv, vJ (φ xx), .second, vI (own_i cc)] [(.int (own_i W_.length)), (.int (own_i j))])) _
  refine XS.icmpNo X582.here hx rfl (hb hby d9_131) rfl (tlt (own_it3 hj okW.1 : (own_i j) < (own_i W_.length))).2.1 ?_
  refine XS.aloadN X582.here hx rfl (hb hby d9_134) rfl rfl ?_
  refine XS.iload X582.here hx rfl (hb hby d9_135) rfl ?_
  exact kt)
 clear R581 st582
 obtain ⟨cq584, kq584, q584a, q584b, q584c⟩ := isOf hZ hh582 E2
 obtain ⟨_, _, ⟨T584, L584, k584, n584⟩, -, X584, ⟨Lc584, hQ584, l584, y584, z584⟩, st584⟩ := X582.virtualBack hx (y := (⟨cF, "get", "(I)J"⟩ : MethodName)) (z := (⟨cF, "get", "(I)J"⟩ : MethodName)) hown (mvT hZ (oW hw 105 rfl)) (mvT hZ (oW hw 106 rfl)) (notFace_of_selects (args := #[]) (mvT hZ (oW hw 108 rfl))) (mvT hZ (oW hw 108 rfl)) (mvT hZ (oW hw 107 rfl)) (by decide) (backOf (W := 0) (rm_get l Z a0 hw [] p2 (own_i j) φ t2 W_ j h0 n0 Z0 E2 Qv Qs VF rfl hj okW) hZ (oW hw 109 rfl) (oW hw 17 rfl) (by decide) (by decide)) q584a q584c (g := (mkF m 137 #[vR a1, vR p1, vR p2, vI nv, vR rp, vI (own_i j), vI iv, vI rv, vJ (φ xx), .second, vI (own_i cc)] [(.int (own_i j)), (.ref p2)])) rfl (by rw [hml]; rfl) (Steps.refl _) (argsL := [(.int (own_i j))]) (rest := []) (lenOf pd_12 rfl) rfl (by show 2 * 0 + _ ≤ _; exact Nat.le_of_eq rfl) (hb hby d9_137) (fun _ _ => ⟨rfl, hh582, hcl, hsl⟩)
 dsimp only [Pt.U, Pt.locs, Pt.cells, Pt.slots] at X584 l584 y584 z584 st584 hQ584
 rw [l584, y584, z584] at X584
 obtain ⟨rfl, N584q, hh584⟩ := hQ584
 have N584 := Fr.app N582 N584q
 have R585 := fun (tg : State) (kt : Steps p.tables e below (T584.setTop (mkF m 143 #[vR a1, vR p1, vR p2, vI nv, vR rp, vI (own_i j), vI iv, vI rv, vJ (φ xx), .second, vI (own_i cc)] [(.int (lcmpW (φ (W_.getD j 0)) (φ xx)))])) tg) => R583 tg (by
  refine st584.trans ?_
  refine XS.lload X584.here hx rfl (hb hby d9_140) rfl ?_
  show Steps _ _ _ (T584.setTop (mkF m 142 #[vR a1, vR p1, vR p2, vI nv, vR rp, vI (own_i j), vI iv, vI rv, vJ (φ xx), .second, vI (own_i cc)] [(.long (φ xx)), (.long (φ (W_.getD j 0)))])) _
  refine XS.lcmp X584.here hx rfl (hb hby d9_142) rfl ?_
  exact kt)
 clear R583 st584
 by_cases hg : xx < W_.getD j 0
 ·have R586 := fun (tg : State) (kt : Steps p.tables e below (T584.setTop (mkF m 167 #[vR a1, vR p1, vR p2, vI nv, vR rp, vI (own_i j), vI iv, vI rv, vJ (φ xx), .second, vI (own_i cc)] [])) tg) => R585 tg (by
   show Steps _ _ _ (T584.setTop (mkF m 143 #[vR a1, vR p1, vR p2, vI nv, vR rp, vI (own_i j), vI iv, vI rv, vJ (φ xx), .second, vI (own_i cc)] [(.int (lcmpW (φ (W_.getD j 0)) (φ xx)))])) _
   refine XS.ifYes X584.here hx rfl (pc0 := 143) (pc' := 167) rfl (hb hby d9_143) rfl ((if0 _ _).trans (tlt ((own_cg H (okW.at hj) hx4).mpr hg : (0 : Int32) < (lcmpW (φ (W_.getD j 0)) (φ xx)))).2.2.1) (by decide) (by decide) ?_
   exact kt)
  clear R585
  exact ⟨_, _, X584, hh584, N584, Or.inl ⟨hg, R586⟩⟩
 ·have R587 := fun (tg : State) (kt : Steps p.tables e below (T584.setTop (mkF m 149 #[vR a1, vR p1, vR p2, vI nv, vR rp, vI (own_i j), vI iv, vI rv, vJ (φ xx), .second, vI (own_i cc)] [(.int (own_i j)), (.ref p2)])) tg) => R585 tg (by
   show Steps _ _ _ (T584.setTop (mkF m 143 #[vR a1, vR p1, vR p2, vI nv, vR rp, vI (own_i j), vI iv, vI rv, vJ (φ xx), .second, vI (own_i cc)] [(.int (lcmpW (φ (W_.getD j 0)) (φ xx)))])) _
   refine XS.ifNo X584.here hx rfl (hb hby d9_143) rfl ((if0 _ _).trans (flt (fun q => hg ((own_cg H (okW.at hj) hx4).mp q) : ¬ ((0 : Int32) < (lcmpW (φ (W_.getD j 0)) (φ xx))))).2.2.1) ?_
   refine XS.aloadN X584.here hx rfl (hb hby d9_146) rfl rfl ?_
   refine XS.iload X584.here hx rfl (hb hby d9_147) rfl ?_
   exact kt)
  clear R585
  obtain ⟨cq588, kq588, q588a, q588b, q588c⟩ := isOf hZ hh584 E2
  obtain ⟨_, _, ⟨T588, L588, k588, n588⟩, -, X588, ⟨Lc588, hQ588, l588, y588, z588⟩, st588⟩ := X584.virtualBack hx (y := (⟨cF, "get", "(I)J"⟩ : MethodName)) (z := (⟨cF, "get", "(I)J"⟩ : MethodName)) hown (mvT hZ (oW hw 105 rfl)) (mvT hZ (oW hw 106 rfl)) (notFace_of_selects (args := #[]) (mvT hZ (oW hw 108 rfl))) (mvT hZ (oW hw 108 rfl)) (mvT hZ (oW hw 107 rfl)) (by decide) (backOf (W := 0) (rm_get l Z a0 hw [] p2 (own_i j) φ t2 W_ j h0 n0 Z0 E2 Qv Qs VF rfl hj okW) hZ (oW hw 109 rfl) (oW hw 17 rfl) (by decide) (by decide)) q588a q588c (g := (mkF m 149 #[vR a1, vR p1, vR p2, vI nv, vR rp, vI (own_i j), vI iv, vI rv, vJ (φ xx), .second, vI (own_i cc)] [(.int (own_i j)), (.ref p2)])) rfl (by rw [hml]; rfl) (Steps.refl _) (argsL := [(.int (own_i j))]) (rest := []) (lenOf pd_12 rfl) rfl (by show 2 * 0 + _ ≤ _; exact Nat.le_of_eq rfl) (hb hby d9_149) (fun _ _ => ⟨rfl, hh584, hcl, hsl⟩)
  dsimp only [Pt.U, Pt.locs, Pt.cells, Pt.slots] at X588 l588 y588 z588 st588 hQ588
  rw [l588, y588, z588] at X588
  obtain ⟨rfl, N588q, hh588⟩ := hQ588
  have N588 := Fr.app N584 N588q
  have R589 := fun (tg : State) (kt : Steps p.tables e below (T588.setTop (mkF m 155 #[vR a1, vR p1, vR p2, vI nv, vR rp, vI (own_i j), vI iv, vI rv, vJ (φ xx), .second, vI (own_i cc)] [(.int (lcmpW (φ (W_.getD j 0)) (φ xx)))])) tg) => R587 tg (by
   refine st588.trans ?_
   refine XS.lload X588.here hx rfl (hb hby d9_152) rfl ?_
   show Steps _ _ _ (T588.setTop (mkF m 154 #[vR a1, vR p1, vR p2, vI nv, vR rp, vI (own_i j), vI iv, vI rv, vJ (φ xx), .second, vI (own_i cc)] [(.long (φ xx)), (.long (φ (W_.getD j 0)))])) _
   refine XS.lcmp X588.here hx rfl (hb hby d9_154) rfl ?_
   exact kt)
  clear R587 st588
  by_cases he : W_.getD j 0 = xx
  ·have R590 := fun (tg : State) (kt : Steps p.tables e below (T588.setTop (mkF m 125 #[vR a1, vR p1, vR p2, vI nv, vR rp, vI ((own_i j) + (1 : Int32)), vI iv, vI rv, vJ (φ xx), .second, vI ((own_i cc) + (1 : Int32))] [])) tg) => R589 tg (by
    show Steps _ _ _ (T588.setTop (mkF m 155 #[vR a1, vR p1, vR p2, vI nv, vR rp, vI (own_i j), vI iv, vI rv, vJ (φ xx), .second, vI (own_i cc)] [(.int (lcmpW (φ (W_.getD j 0)) (φ xx)))])) _
    refine XS.ifNo X588.here hx rfl (hb hby d9_155) rfl ((if0 _ _).trans (teq ((own_ce H (okW.at hj) hx4).mpr he : (lcmpW (φ (W_.getD j 0)) (φ xx)) = (0 : Int32))).2) ?_
    show Steps _ _ _ (T588.setTop (mkF m 158 #[vR a1, vR p1, vR p2, vI nv, vR rp, vI (own_i j), vI iv, vI rv, vJ (φ xx), .second, vI (own_i cc)] [])) _
    refine XS.iinc X588.here hx rfl (hb hby d9_158) rfl (l' := #[vR a1, vR p1, vR p2, vI nv, vR rp, vI (own_i j), vI iv, vI rv, vJ (φ xx), .second, vI ((own_i cc) + (1 : Int32))]) rfl ?_
    show Steps _ _ _ (T588.setTop (mkF m 161 #[vR a1, vR p1, vR p2, vI nv, vR rp, vI (own_i j), vI iv, vI rv, vJ (φ xx), .second, vI ((own_i cc) + (1 : Int32))] [])) _
    refine XS.iinc X588.here hx rfl (hb hby d9_161) rfl (l' := #[vR a1, vR p1, vR p2, vI nv, vR rp, vI ((own_i j) + (1 : Int32)), vI iv, vI rv, vJ (φ xx), .second, vI ((own_i cc) + (1 : Int32))]) rfl ?_
    show Steps _ _ _ (T588.setTop (mkF m 164 #[vR a1, vR p1, vR p2, vI nv, vR rp, vI ((own_i j) + (1 : Int32)), vI iv, vI rv, vJ (φ xx), .second, vI ((own_i cc) + (1 : Int32))] [])) _
    refine XS.goto X588.here hx rfl (pc0 := 164) (pc' := 125) rfl (hb hby d9_164) (by decide) (by decide) ?_
    exact kt)
   clear R589
   have eJ : own_i j + (1 : Int32) = own_i (j + 1) := own_i1 (Nat.lt_of_le_of_lt (Nat.succ_le_succ hj4) (by decide))
   have eC : (if W_.getD j 0 = xx then cc + 1 else cc) = cc + 1 := if_pos he
   have eI : own_i cc + (1 : Int32) = own_i (cc + 1) := own_i1 (Nat.lt_of_le_of_lt (Nat.succ_le_succ (Nat.le_trans hcj hj4)) (by decide))
   have R591 := fun (tg : State) (kt : Steps p.tables e below (T588.setTop (mkF m 125 #[vR a1, vR p1, vR p2, vI nv, vR rp, vI (own_i (j + 1)), vI iv, vI rv, vJ (φ xx), .second, vI (own_i (if W_.getD j 0 = xx then cc + 1 else cc))] [])) tg) => R590 tg (by rw [eC, ← eJ, ← eI] at kt; exact kt)
   clear R590
   exact ⟨_, _, X588, hh588, N588, Or.inr ⟨hg, R591⟩⟩
  ·have R592 := fun (tg : State) (kt : Steps p.tables e below (T588.setTop (mkF m 125 #[vR a1, vR p1, vR p2, vI nv, vR rp, vI ((own_i j) + (1 : Int32)), vI iv, vI rv, vJ (φ xx), .second, vI (own_i cc)] [])) tg) => R589 tg (by
    show Steps _ _ _ (T588.setTop (mkF m 155 #[vR a1, vR p1, vR p2, vI nv, vR rp, vI (own_i j), vI iv, vI rv, vJ (φ xx), .second, vI (own_i cc)] [(.int (lcmpW (φ (W_.getD j 0)) (φ xx)))])) _
    refine XS.ifYes X588.here hx rfl (pc0 := 155) (pc' := 161) rfl (hb hby d9_155) rfl ((if0 _ _).trans (feq (fun q => he ((own_ce H (okW.at hj) hx4).mp q) : ¬ ((lcmpW (φ (W_.getD j 0)) (φ xx)) = (0 : Int32)))).2) (by decide) (by decide) ?_
    show Steps _ _ _ (T588.setTop (mkF m 161 #[vR a1, vR p1, vR p2, vI nv, vR rp, vI (own_i j), vI iv, vI rv, vJ (φ xx), .second, vI (own_i cc)] [])) _
    refine XS.iinc X588.here hx rfl (hb hby d9_161) rfl (l' := #[vR a1, vR p1, vR p2, vI nv, vR rp, vI ((own_i j) + (1 : Int32)), vI iv, vI rv, vJ (φ xx), .second, vI (own_i cc)]) rfl ?_
    show Steps _ _ _ (T588.setTop (mkF m 164 #[vR a1, vR p1, vR p2, vI nv, vR rp, vI ((own_i j) + (1 : Int32)), vI iv, vI rv, vJ (φ xx), .second, vI (own_i cc)] [])) _
    refine XS.goto X588.here hx rfl (pc0 := 164) (pc' := 125) rfl (hb hby d9_164) (by decide) (by decide) ?_
    exact kt)
   clear R589
   have eJ : own_i j + (1 : Int32) = own_i (j + 1) := own_i1 (Nat.lt_of_le_of_lt (Nat.succ_le_succ hj4) (by decide))
   have eC : (if W_.getD j 0 = xx then cc + 1 else cc) = cc := if_neg he
   have R593 := fun (tg : State) (kt : Steps p.tables e below (T588.setTop (mkF m 125 #[vR a1, vR p1, vR p2, vI nv, vR rp, vI (own_i (j + 1)), vI iv, vI rv, vJ (φ xx), .second, vI (own_i (if W_.getD j 0 = xx then cc + 1 else cc))] [])) tg) => R592 tg (by rw [eC, ← eJ] at kt; exact kt)
   clear R592
   exact ⟨_, _, X588, hh588, N588, Or.inr ⟨hg, R593⟩⟩
set_option maxRecDepth 65536 in
set_option maxHeartbeats 40000000 in
theorem lp_r3E {p : Program} {l : Launch} {e : Env} {s : State} {m : MethodId} {args : Array Value} {below : List Frame} {meth : Method} {c : Code} {Z : State} {a0 : Array Value} {n0 : Nat} {T0 : State} {locs : List Loc} {h0 : Heap} (cl : Nat) (sl : Nat) (φ : Nat → Int64) (a1 : Addr) (p1 : Addr) (p2 : Addr) (t2 : Addr) (rp : Addr) (W_ : List Nat) (nv : Int32) (iv : Int32) (rv : Int32) (xx : Nat) (j : Nat) (cc : Nat) (X0 : Stand p l e rM14 s m args below meth c T0 locs cl sl) (hx : p.tables.exec = Jvm.exec) (hZ : Z.Warmed39 s.vm) (hw : ∀ d ∈ tables_1, d.before a0 Z = true) (hby : c.code = prog_41_method_4_code) (hml : c.maxLocals = 11) (hown : s.vm.findClass cP = some m.cls) (hcl : cl + 0 ≤ rM14.cells) (hsl : sl + 0 ≤ rM14.slots) (e0 : T0.heap = h0) (N0 : Fr n0 locs) (Z0 : n0 ≤ h0.size) (E2 : Exa Z h0 p2 cF) (Qv : Fld Z h0 p2 cF "values" "[J" (.ref t2)) (Qs : Fld Z h0 p2 cF "size" "I" (.int (own_i (W_).length))) (VF : VG Z h0 t2 .long 1024 (fun r => .long (φ r)) 0 W_) (H : own_mono φ) (okW : own_ok W_) (hx4 : xx < 4) :
  ∃ (T' : State) (L' : List Loc), Stand p l e rM14 s m args below meth c T' L' cl sl ∧ T'.heap = h0 ∧ Fr n0 L' ∧ (Sq p e below (T'.setTop (mkF m 167 #[vR a1, vR p1, vR p2, vI nv, vR rp, vI (own_i W_.length), vI iv, vI rv, vJ (φ xx), .second, vI (own_i cc)] [])) (T0.setTop (mkF m 125 #[vR a1, vR p1, vR p2, vI nv, vR rp, vI (own_i W_.length), vI iv, vI rv, vJ (φ xx), .second, vI (own_i cc)] []))) := by
 have R594 := fun (tg : State) (kt : Steps p.tables e below (T0.setTop (mkF m 128 #[vR a1, vR p1, vR p2, vI nv, vR rp, vI (own_i W_.length), vI iv, vI rv, vJ (φ xx), .second, vI (own_i cc)] [(.ref p2), (.int (own_i W_.length))])) tg) => (fun (t : State) (k : Steps p.tables e below (T0.setTop (mkF m 125 #[vR a1, vR p1, vR p2, vI nv, vR rp, vI (own_i W_.length), vI iv, vI rv, vJ (φ xx), .second, vI (own_i cc)] [])) t) => k) tg (by
  show Steps _ _ _ (T0.setTop (mkF m 125 #[vR a1, vR p1, vR p2, vI nv, vR rp, vI (own_i W_.length), vI iv, vI rv, vJ (φ xx), .second, vI (own_i cc)] [])) _
  refine XS.iload X0.here hx rfl (hb hby d9_125) rfl ?_
  refine XS.aloadN X0.here hx rfl (hb hby d9_127) rfl rfl ?_
  exact kt)
 obtain ⟨cq595, kq595, q595a, q595b, q595c⟩ := isOf hZ e0 E2
 obtain ⟨_, _, ⟨T595, L595, k595, n595⟩, -, X595, ⟨Lc595, hQ595, l595, y595, z595⟩, st595⟩ := X0.virtualBack hx (y := (⟨cF, "size", "()I"⟩ : MethodName)) (z := (⟨cF, "size", "()I"⟩ : MethodName)) hown (mvT hZ (oW hw 81 rfl)) (mvT hZ (oW hw 82 rfl)) (notFace_of_selects (args := #[]) (mvT hZ (oW hw 84 rfl))) (mvT hZ (oW hw 84 rfl)) (mvT hZ (oW hw 83 rfl)) (by decide) (backOf (W := 1) (rm_siz l Z a0 hw [] p2 (own_i W_.length) h0 n0 Z0 Qs) hZ (oW hw 85 rfl) (oW hw 17 rfl) (by decide) (by decide)) q595a q595c (g := (mkF m 128 #[vR a1, vR p1, vR p2, vI nv, vR rp, vI (own_i W_.length), vI iv, vI rv, vJ (φ xx), .second, vI (own_i cc)] [(.ref p2), (.int (own_i W_.length))])) rfl (by rw [hml]; rfl) (Steps.refl _) (argsL := []) (rest := [(.int (own_i W_.length))]) (lenOf pd_10 rfl) rfl (by show 2 * 0 + _ ≤ _; exact Nat.le_of_eq rfl) (hb hby d9_128) (fun _ _ => ⟨rfl, e0, hcl, hsl⟩)
 dsimp only [Pt.U, Pt.locs, Pt.cells, Pt.slots] at X595 l595 y595 z595 st595 hQ595
 rw [l595, y595, z595] at X595
 obtain ⟨rfl, N595q, hh595⟩ := hQ595
 have N595 := Fr.app N0 N595q
 have R596 := fun (tg : State) (kt : Steps p.tables e below (T595.setTop (mkF m 167 #[vR a1, vR p1, vR p2, vI nv, vR rp, vI (own_i W_.length), vI iv, vI rv, vJ (φ xx), .second, vI (own_i cc)] [])) tg) => R594 tg (by
  refine st595.trans ?_
  show Steps _ _ _ (T595.setTop (mkF m 131 #[vR a1, vR p1, vR p2, vI nv, vR rp, vI (own_i W_.length), vI iv, vI rv, vJ (φ xx), .second, vI (own_i cc)] [(.int (own_i W_.length)), (.int (own_i W_.length))])) _
  refine XS.icmpYes X595.here hx rfl (pc0 := 131) (pc' := 167) rfl (hb hby d9_131) rfl (flt (own_irr : ¬ ((own_i W_.length) < (own_i W_.length)))).2.1 (by decide) (by decide) ?_
  exact kt)
 clear R594 st595
 exact ⟨_, _, X595, hh595, N595, R596⟩
set_option maxHeartbeats 4000000 in
theorem lp_r3L {p : Program} {l : Launch} {e : Env} {s : State} {m : MethodId} {args : Array Value} {below : List Frame} {meth : Method} {c : Code} {Z : State} {a0 : Array Value} {n0 : Nat} (cl sl : Nat) (φ : Nat → Int64) (a1 p1 p2 t2 rp : Addr) (W_ : List Nat) (nv iv rv : Int32) (xx : Nat) (hx : p.tables.exec = Jvm.exec) (hZ : Z.Warmed39 s.vm) (hw : ∀ d ∈ tables_1, d.before a0 Z = true) (hby : c.code = prog_41_method_4_code) (hml : c.maxLocals = 11) (hown : s.vm.findClass cP = some m.cls) (hcl : cl + 0 ≤ rM14.cells) (hsl : sl + 0 ≤ rM14.slots) {h0 : Heap} (Z0 : n0 ≤ h0.size) (E2 : Exa Z h0 p2 cF) (Qv : Fld Z h0 p2 cF "values" "[J" (.ref t2)) (Qs : Fld Z h0 p2 cF "size" "I" (.int (own_i (W_).length))) (VF : VG Z h0 t2 .long 1024 (fun r => .long (φ r)) 0 W_) (H : own_mono φ) (okW : own_ok W_) (hx4 : xx < 4) :
  ∀ (d j cc : Nat) {T0 : State} {locs : List Loc} (X0 : Stand p l e rM14 s m args below meth c T0 locs cl sl) (e0 : T0.heap = h0) (N0 : Fr n0 locs), j + d = W_.length → cc ≤ j → ∃ (T' : State) (L' : List Loc), Stand p l e rM14 s m args below meth c T' L' cl sl ∧ T'.heap = h0 ∧ Fr n0 L' ∧ (Sq p e below (T'.setTop (mkF m 167 #[vR a1, vR p1, vR p2, vI nv, vR rp, vI (own_i (own_fw W_ xx d j cc).1), vI iv, vI rv, vJ (φ xx), .second, vI (own_i (own_fw W_ xx d j cc).2)] [])) (T0.setTop (mkF m 125 #[vR a1, vR p1, vR p2, vI nv, vR rp, vI (own_i j), vI iv, vI rv, vJ (φ xx), .second, vI (own_i cc)] []))) := by
 intro d
 induction d with
 | zero =>
  intro j cc T0 locs X0 e0 N0 hd hcj
  cases (show j = W_.length by omega)
  rw [own_fw]
  exact lp_r3E cl sl φ a1 p1 p2 t2 rp W_ nv iv rv xx 0 cc X0 hx hZ hw hby hml hown hcl hsl e0 N0 Z0 E2 Qv Qs VF H okW hx4
 | succ d ih =>
  intro j cc T0 locs X0 e0 N0 hd hcj
  obtain ⟨T1, L1, X1, e1, N1, ⟨he, st1⟩ | ⟨he, st1⟩⟩ := lp_r3 cl sl φ a1 p1 p2 t2 rp W_ nv iv rv xx j cc X0 hx hZ hw hby hml hown hcl hsl e0 N0 Z0 E2 Qv Qs VF H okW hx4 hcj (by omega)
  ·refine ⟨T1, L1, X1, e1, N1, ?_⟩
   rw [own_fw, if_pos he]
   exact st1
  ·obtain ⟨T2, L2, X2, e2, N2, st2⟩ := ih (j + 1) (if W_.getD j 0 = xx then cc + 1 else cc) X1 e1 N1 (by omega) (by split <;> omega)
   refine ⟨T2, L2, X2, e2, N2, ?_⟩
   rw [own_fw, if_neg he]
   exact fun tg kt => st1 tg (st2 tg kt)
theorem d9_97 : oD k14 97 (.iload 6) 2 := by decide +kernel
theorem d9_99 : oD k14 99 (.aload_n 1) 1 := by decide +kernel
theorem d9_100 : oD k14 100 (.invokevirtual 54) 3 := by decide +kernel
theorem d9_103 : oD k14 103 (.if_icmp .ge 109) 3 := by decide +kernel
theorem d9_106 : oD k14 106 (.aload_n 1) 1 := by decide +kernel
theorem d9_107 : oD k14 107 (.iload 6) 2 := by decide +kernel
theorem d9_109 : oD k14 109 (.invokevirtual 58) 3 := by decide +kernel
theorem d9_112 : oD k14 112 (.istore 7) 2 := by decide +kernel
theorem d9_114 : oD k14 114 (.aload_n 1) 1 := by decide +kernel
theorem d9_115 : oD k14 115 (.iload 6) 2 := by decide +kernel
theorem d9_117 : oD k14 117 (.invokevirtual 67) 3 := by decide +kernel
theorem d9_120 : oD k14 120 (.lstore 8) 2 := by decide +kernel
theorem d9_122 : oD k14 122 (.iconst 0) 1 := by decide +kernel
theorem d9_123 : oD k14 123 (.istore 10) 2 := by decide +kernel
theorem d9_167 : oD k14 167 (.iload 7) 2 := by decide +kernel
theorem d9_169 : oD k14 169 (.iload 6) 2 := by decide +kernel
theorem d9_171 : oD k14 171 .isub 1 := by decide +kernel
theorem d9_172 : oD k14 172 (.iconst 1) 1 := by decide +kernel
theorem d9_173 : oD k14 173 (.if_icmp .le 32) 3 := by decide +kernel
theorem d9_205 : oD k14 205 (.iload 7) 2 := by decide +kernel
theorem d9_207 : oD k14 207 (.istore 6) 2 := by decide +kernel
theorem d9_209 : oD k14 209 (.goto (-112)) 3 := by decide +kernel
theorem d9_176 : oD k14 176 (.aload 4) 2 := by decide +kernel
theorem d9_178 : oD k14 178 (.lload 8) 2 := by decide +kernel
theorem d9_180 : oD k14 180 (.iload 7) 2 := by decide +kernel
theorem d9_182 : oD k14 182 (.iload 6) 2 := by decide +kernel
theorem d9_184 : oD k14 184 .isub 1 := by decide +kernel
theorem d9_185 : oD k14 185 (.iload 10) 2 := by decide +kernel
theorem d9_187 : oD k14 187 (.iload 7) 2 := by decide +kernel
theorem d9_189 : oD k14 189 (.iload 6) 2 := by decide +kernel
theorem d9_191 : oD k14 191 .isub 1 := by decide +kernel
theorem d9_192 : oD k14 192 (.iconst 1) 1 := by decide +kernel
theorem d9_193 : oD k14 193 .isub 1 := by decide +kernel
theorem d9_194 : oD k14 194 (.if_icmp .ne 7) 3 := by decide +kernel
theorem d9_197 : oD k14 197 (.iconst 1) 1 := by decide +kernel
theorem d9_198 : oD k14 198 (.goto 4) 3 := by decide +kernel
theorem d9_201 : oD k14 201 (.iconst 0) 1 := by decide +kernel
theorem pd_13 : parseMethodDescriptor "(JIZ)V" = some ⟨[.long, .int, .boolean], none⟩ := by decide +kernel
theorem d9_202 : oD k14 202 (.invokevirtual 71) 3 := by decide +kernel
set_option maxRecDepth 65536 in
set_option maxHeartbeats 40000000 in
theorem lp_r2 {p : Program} {l : Launch} {e : Env} {s : State} {m : MethodId} {args : Array Value} {below : List Frame} {meth : Method} {c : Code} {Z : State} {a0 : Array Value} {n0 : Nat} {T0 : State} {locs : List Loc} {h0 : Heap} (cl : Nat) (sl : Nat) (φ : Nat → Int64) (a1 : Addr) (p1 : Addr) (p2 : Addr) (t1 : Addr) (t2 : Addr) (rp : Addr) (f1 : Addr) (f2 : Addr) (f3 : Addr) (N_ : List Nat) (W_ : List Nat) (cap : Nat) (i : Nat) (j : Nat) (fp : List Nat) (rw : List Nat) (nr : List Bool) (far : Bool) (z7 : Slot) (z8 : Slot) (z9 : Slot) (z10 : Slot) (X0 : Stand p l e rM14 s m args below meth c T0 locs cl sl) (hx : p.tables.exec = Jvm.exec) (hZ : Z.Warmed39 s.vm) (hw : ∀ d ∈ tables_1, d.before a0 Z = true) (hby : c.code = prog_41_method_4_code) (hml : c.maxLocals = 11) (hown : s.vm.findClass cP = some m.cls) (hcl : cl + 0 ≤ rM14.cells) (hsl : sl + 0 ≤ rM14.slots) (e0 : T0.heap = h0) (N0 : Fr n0 locs) (Z0 : n0 ≤ h0.size) (E1 : Exa Z h0 p1 cF) (Pv : Fld Z h0 p1 cF "values" "[J" (.ref t1)) (Ps : Fld Z h0 p1 cF "size" "I" (.int (own_i (N_).length))) (VP : VG Z h0 t1 .long 1024 (fun r => .long (φ r)) 0 N_) (E2 : Exa Z h0 p2 cF) (Qv : Fld Z h0 p2 cF "values" "[J" (.ref t2)) (Qs : Fld Z h0 p2 cF "size" "I" (.int (own_i (W_).length))) (VF : VG Z h0 t2 .long 1024 (fun r => .long (φ r)) 0 W_) (Er : Exa Z h0 rp cR) (Gf : Fld Z h0 rp cR "fingerprints" "[J" (.ref f1)) (Gr : Fld Z h0 rp cR "rows" "[I" (.ref f2)) (Gn : Fld Z h0 rp cR "near" "[Z" (.ref f3)) (Gs : Fld Z h0 rp cR "size" "I" (.int (own_i (fp).length))) (Gy : Fld Z h0 rp cR "anyFar" "Z" (.int (own_b2 far))) (WF : VG Z h0 f1 .long cap (fun r => .long (φ r)) 0 fp) (WR : VG Z h0 f2 .int cap (fun r => .int (own_i r)) 0 rw) (WN : VG Z h0 f3 .boolean cap (fun b => .int (own_b2 b)) false nr) (H : own_mono φ) (okN : own_ok N_) (okW : own_ok W_) (hc : cap ≤ 4) (RD : own_rd n0 rp f1 f2 f3) (AX : own_ap p1 t1 p2 t2 rp f1 f2 f3) (hz : (z7 = .unset ∧ z8 = .unset ∧ z9 = .unset ∧ z10 = .unset) ∨ (∃ (a : Int32) (b : Int64) (c' : Int32), z7 = vI a ∧ z8 = vJ b ∧ z9 = .second ∧ z10 = vI c')) (hjW : j ≤ W_.length) (h1 : rw.length = fp.length) (h2 : nr.length = fp.length) (hl : 1 < (own_re N_ i) - i → fp.length < cap) (hi : i < N_.length) :
  ∃ (T' : State) (h' : Heap) (L' : List Loc) (z7' z8' z9' z10' : Slot), Stand p l e rM14 s m args below meth c T' L' cl sl ∧ T'.heap = h' ∧ Fr n0 L' ∧ Keep h0 h' [rp, f1, f2, f3] ∧ n0 ≤ h'.size ∧ ((z7' = .unset ∧ z8' = .unset ∧ z9' = .unset ∧ z10' = .unset) ∨ (∃ (a : Int32) (b : Int64) (c' : Int32), z7' = vI a ∧ z8' = vJ b ∧ z9' = .second ∧ z10' = vI c')) ∧ Exa Z h' p1 cF ∧ Fld Z h' p1 cF "values" "[J" (.ref t1) ∧ Fld Z h' p1 cF "size" "I" (.int (own_i (N_).length)) ∧ VG Z h' t1 .long 1024 (fun r => .long (φ r)) 0 N_ ∧ Exa Z h' p2 cF ∧ Fld Z h' p2 cF "values" "[J" (.ref t2) ∧ Fld Z h' p2 cF "size" "I" (.int (own_i (W_).length)) ∧ VG Z h' t2 .long 1024 (fun r => .long (φ r)) 0 W_ ∧ ((1 < (own_re N_ i) - i ∧ Exa Z h' rp cR ∧ Fld Z h' rp cR "fingerprints" "[J" (.ref f1) ∧ Fld Z h' rp cR "rows" "[I" (.ref f2) ∧ Fld Z h' rp cR "near" "[Z" (.ref f3) ∧ Fld Z h' rp cR "size" "I" (.int (own_i ((fp ++ [(N_.getD i 0)])).length)) ∧ Fld Z h' rp cR "anyFar" "Z" (.int (own_b2 (far || !(decide ((own_fw W_ (N_.getD i 0) (W_.length - j) j 0).2 = (own_re N_ i) - i - 1))))) ∧ VG Z h' f1 .long cap (fun r => .long (φ r)) 0 (fp ++ [(N_.getD i 0)]) ∧ VG Z h' f2 .int cap (fun r => .int (own_i r)) 0 (rw ++ [(own_re N_ i) - i]) ∧ VG Z h' f3 .boolean cap (fun b => .int (own_b2 b)) false (nr ++ [(decide ((own_fw W_ (N_.getD i 0) (W_.length - j) j 0).2 = (own_re N_ i) - i - 1))])) ∨ (¬ 1 < (own_re N_ i) - i ∧ Exa Z h' rp cR ∧ Fld Z h' rp cR "fingerprints" "[J" (.ref f1) ∧ Fld Z h' rp cR "rows" "[I" (.ref f2) ∧ Fld Z h' rp cR "near" "[Z" (.ref f3) ∧ Fld Z h' rp cR "size" "I" (.int (own_i (fp).length)) ∧ Fld Z h' rp cR "anyFar" "Z" (.int (own_b2 far)) ∧ VG Z h' f1 .long cap (fun r => .long (φ r)) 0 fp ∧ VG Z h' f2 .int cap (fun r => .int (own_i r)) 0 rw ∧ VG Z h' f3 .boolean cap (fun b => .int (own_b2 b)) false nr)) ∧ Sq p e below (T'.setTop (mkF m 97 #[vR a1, vR p1, vR p2, vI (own_i cap), vR rp, vI (own_i (own_fw W_ (N_.getD i 0) (W_.length - j) j 0).1), vI (own_i (own_re N_ i)), z7', z8', z9', z10'] [])) (T0.setTop (mkF m 97 #[vR a1, vR p1, vR p2, vI (own_i cap), vR rp, vI (own_i j), vI (own_i i), z7, z8, z9, z10] [])) := by
 obtain ⟨ne_rp_f1, ne_rp_f2, ne_rp_f3, ne_f1_f2, ne_f1_f3, ne_f2_f3, g_rp, g_f1, g_f2, g_f3⟩ := id RD
 obtain ⟨ne_p1_rp, ne_p1_f1, ne_p1_f2, ne_p1_f3, ne_t1_rp, ne_t1_f1, ne_t1_f2, ne_t1_f3, ne_p2_rp, ne_p2_f1, ne_p2_f2, ne_p2_f3, ne_t2_rp, ne_t2_f1, ne_t2_f2, ne_t2_f3⟩ := id AX
 obtain ⟨re1, re2⟩ := own_re_b hi
 have re4 : (own_re N_ i) ≤ 4 := Nat.le_trans re2 okN.1
 have x4 : (N_.getD i 0) < 4 := okN.at hi
 have fwb := own_fw_b W_ (N_.getD i 0) (W_.length - j) j 0 (Nat.zero_le _)
 have j4 : (own_fw W_ (N_.getD i 0) (W_.length - j) j 0).1 ≤ W_.length := by have := fwb.2.1; omega
 have c4 : (own_fw W_ (N_.getD i 0) (W_.length - j) j 0).2 ≤ 4 := Nat.le_trans (Nat.le_trans fwb.2.2 j4) okW.1
 have R597 := fun (tg : State) (kt : Steps p.tables e below (T0.setTop (mkF m 100 #[vR a1, vR p1, vR p2, vI (own_i cap), vR rp, vI (own_i j), vI (own_i i), z7, z8, z9, z10] [(.ref p1), (.int (own_i i))])) tg) => (fun (t : State) (k : Steps p.tables e below (T0.setTop (mkF m 97 #[vR a1, vR p1, vR p2, vI (own_i cap), vR rp, vI (own_i j), vI (own_i i), z7, z8, z9, z10] [])) t) => k) tg (by
  show Steps _ _ _ (T0.setTop (mkF m 97 #[vR a1, vR p1, vR p2, vI (own_i cap), vR rp, vI (own_i j), vI (own_i i), z7, z8, z9, z10] [])) _
  refine XS.iload X0.here hx rfl (hb hby d9_97) rfl ?_
  refine XS.aloadN X0.here hx rfl (hb hby d9_99) rfl rfl ?_
  exact kt)
 obtain ⟨cq598, kq598, q598a, q598b, q598c⟩ := isOf hZ e0 E1
 obtain ⟨_, _, ⟨T598, L598, k598, n598⟩, -, X598, ⟨Lc598, hQ598, l598, y598, z598⟩, st598⟩ := X0.virtualBack hx (y := (⟨cF, "size", "()I"⟩ : MethodName)) (z := (⟨cF, "size", "()I"⟩ : MethodName)) hown (mvT hZ (oW hw 81 rfl)) (mvT hZ (oW hw 82 rfl)) (notFace_of_selects (args := #[]) (mvT hZ (oW hw 84 rfl))) (mvT hZ (oW hw 84 rfl)) (mvT hZ (oW hw 83 rfl)) (by decide) (backOf (W := 1) (rm_siz l Z a0 hw [] p1 (own_i N_.length) h0 n0 Z0 Ps) hZ (oW hw 85 rfl) (oW hw 17 rfl) (by decide) (by decide)) q598a q598c (g := (mkF m 100 #[vR a1, vR p1, vR p2, vI (own_i cap), vR rp, vI (own_i j), vI (own_i i), z7, z8, z9, z10] [(.ref p1), (.int (own_i i))])) rfl (by rw [hml]; rfl) (Steps.refl _) (argsL := []) (rest := [(.int (own_i i))]) (lenOf pd_10 rfl) rfl (by show 2 * 0 + _ ≤ _; exact Nat.le_of_eq rfl) (hb hby d9_100) (fun _ _ => ⟨rfl, e0, hcl, hsl⟩)
 dsimp only [Pt.U, Pt.locs, Pt.cells, Pt.slots] at X598 l598 y598 z598 st598 hQ598
 rw [l598, y598, z598] at X598
 obtain ⟨rfl, N598q, hh598⟩ := hQ598
 have N598 := Fr.app N0 N598q
 have R599 := fun (tg : State) (kt : Steps p.tables e below (T598.setTop (mkF m 109 #[vR a1, vR p1, vR p2, vI (own_i cap), vR rp, vI (own_i j), vI (own_i i), z7, z8, z9, z10] [(.int (own_i i)), (.ref p1)])) tg) => R597 tg (by
  refine st598.trans ?_
  show Steps _ _ _ (T598.setTop (mkF m 103 #[vR a1, vR p1, vR p2, vI (own_i cap), vR rp, vI (own_i j), vI (own_i i), z7, z8, z9, z10] [(.int (own_i N_.length)), (.int (own_i i))])) _
  refine XS.icmpNo X598.here hx rfl (hb hby d9_103) rfl (tlt (own_it3 hi okN.1 : (own_i i) < (own_i N_.length))).2.1 ?_
  refine XS.aloadN X598.here hx rfl (hb hby d9_106) rfl rfl ?_
  refine XS.iload X598.here hx rfl (hb hby d9_107) rfl ?_
  exact kt)
 clear R597 st598
 obtain ⟨cq600, kq600, q600a, q600b, q600c⟩ := isOf hZ hh598 E1
 obtain ⟨_, _, ⟨T600, L600, k600, n600⟩, -, X600, ⟨Lc600, hQ600, l600, y600, z600⟩, st600⟩ := X598.virtualBack hx (y := (⟨cF, "runEnd", "(I)I"⟩ : MethodName)) (z := (⟨cF, "runEnd", "(I)I"⟩ : MethodName)) hown (mvT hZ (oW hw 86 rfl)) (mvT hZ (oW hw 87 rfl)) (notFace_of_selects (args := #[]) (mvT hZ (oW hw 89 rfl))) (mvT hZ (oW hw 89 rfl)) (mvT hZ (oW hw 88 rfl)) (by decide) (backOf (W := 0) (rm_run l Z a0 hw [] p1 (own_i i) φ t1 N_ i h0 n0 Z0 E1 Pv Ps VP H okN rfl hi) hZ (oW hw 90 rfl) (oW hw 17 rfl) (by decide) (by decide)) q600a q600c (g := (mkF m 109 #[vR a1, vR p1, vR p2, vI (own_i cap), vR rp, vI (own_i j), vI (own_i i), z7, z8, z9, z10] [(.int (own_i i)), (.ref p1)])) rfl (by rw [hml]; rfl) (Steps.refl _) (argsL := [(.int (own_i i))]) (rest := []) (lenOf pd_11 rfl) rfl (by show 2 * 0 + _ ≤ _; exact Nat.le_of_eq rfl) (hb hby d9_109) (fun _ _ => ⟨rfl, hh598, hcl, hsl⟩)
 dsimp only [Pt.U, Pt.locs, Pt.cells, Pt.slots] at X600 l600 y600 z600 st600 hQ600
 rw [l600, y600, z600] at X600
 obtain ⟨rfl, N600q, hh600⟩ := hQ600
 have N600 := Fr.app N598 N600q
 have R601 := fun (tg : State) (kt : Steps p.tables e below (T600.setTop (mkF m 117 #[vR a1, vR p1, vR p2, vI (own_i cap), vR rp, vI (own_i j), vI (own_i i), vI (own_i (own_re N_ i)), z8, z9, z10] [(.int (own_i i)), (.ref p1)])) tg) => R599 tg (by
  refine st600.trans ?_
  show Steps _ _ _ (T600.setTop (mkF m 112 #[vR a1, vR p1, vR p2, vI (own_i cap), vR rp, vI (own_i j), vI (own_i i), z7, z8, z9, z10] [(.int (own_i (own_re N_ i)))])) _
  refine XS.istore X600.here hx rfl (hb hby d9_112) rfl (l' := #[vR a1, vR p1, vR p2, vI (own_i cap), vR rp, vI (own_i j), vI (own_i i), vI (own_i (own_re N_ i)), z8, z9, z10]) (by rcases hz with ⟨rfl, rfl, rfl, rfl⟩ | ⟨_, _, _, rfl, rfl, rfl, rfl⟩ <;> rfl) ?_
  refine XS.aloadN X600.here hx rfl (hb hby d9_114) rfl rfl ?_
  refine XS.iload X600.here hx rfl (hb hby d9_115) rfl ?_
  exact kt)
 clear R599 st600
 obtain ⟨cq602, kq602, q602a, q602b, q602c⟩ := isOf hZ hh600 E1
 obtain ⟨_, _, ⟨T602, L602, k602, n602⟩, -, X602, ⟨Lc602, hQ602, l602, y602, z602⟩, st602⟩ := X600.virtualBack hx (y := (⟨cF, "get", "(I)J"⟩ : MethodName)) (z := (⟨cF, "get", "(I)J"⟩ : MethodName)) hown (mvT hZ (oW hw 105 rfl)) (mvT hZ (oW hw 106 rfl)) (notFace_of_selects (args := #[]) (mvT hZ (oW hw 108 rfl))) (mvT hZ (oW hw 108 rfl)) (mvT hZ (oW hw 107 rfl)) (by decide) (backOf (W := 0) (rm_get l Z a0 hw [] p1 (own_i i) φ t1 N_ i h0 n0 Z0 E1 Pv Ps VP rfl hi okN) hZ (oW hw 109 rfl) (oW hw 17 rfl) (by decide) (by decide)) q602a q602c (g := (mkF m 117 #[vR a1, vR p1, vR p2, vI (own_i cap), vR rp, vI (own_i j), vI (own_i i), vI (own_i (own_re N_ i)), z8, z9, z10] [(.int (own_i i)), (.ref p1)])) rfl (by rw [hml]; rfl) (Steps.refl _) (argsL := [(.int (own_i i))]) (rest := []) (lenOf pd_12 rfl) rfl (by show 2 * 0 + _ ≤ _; exact Nat.le_of_eq rfl) (hb hby d9_117) (fun _ _ => ⟨rfl, hh600, hcl, hsl⟩)
 dsimp only [Pt.U, Pt.locs, Pt.cells, Pt.slots] at X602 l602 y602 z602 st602 hQ602
 rw [l602, y602, z602] at X602
 obtain ⟨rfl, N602q, hh602⟩ := hQ602
 have N602 := Fr.app N600 N602q
 have R603 := fun (tg : State) (kt : Steps p.tables e below (T602.setTop (mkF m 125 #[vR a1, vR p1, vR p2, vI (own_i cap), vR rp, vI (own_i j), vI (own_i i), vI (own_i (own_re N_ i)), vJ (φ (N_.getD i 0)), .second, vI (0 : Int32)] [])) tg) => R601 tg (by
  refine st602.trans ?_
  show Steps _ _ _ (T602.setTop (mkF m 120 #[vR a1, vR p1, vR p2, vI (own_i cap), vR rp, vI (own_i j), vI (own_i i), vI (own_i (own_re N_ i)), z8, z9, z10] [(.long (φ (N_.getD i 0)))])) _
  refine XS.lstore X602.here hx rfl (hb hby d9_120) rfl (l' := #[vR a1, vR p1, vR p2, vI (own_i cap), vR rp, vI (own_i j), vI (own_i i), vI (own_i (own_re N_ i)), vJ (φ (N_.getD i 0)), .second, z10]) (by rcases hz with ⟨rfl, rfl, rfl, rfl⟩ | ⟨_, _, _, rfl, rfl, rfl, rfl⟩ <;> rfl) ?_
  refine XS.iconst X602.here hx rfl (hb hby d9_122) ?_
  show Steps _ _ _ (T602.setTop (mkF m 123 #[vR a1, vR p1, vR p2, vI (own_i cap), vR rp, vI (own_i j), vI (own_i i), vI (own_i (own_re N_ i)), vJ (φ (N_.getD i 0)), .second, z10] [(.int (0 : Int32))])) _
  refine XS.istore X602.here hx rfl (hb hby d9_123) rfl (l' := #[vR a1, vR p1, vR p2, vI (own_i cap), vR rp, vI (own_i j), vI (own_i i), vI (own_i (own_re N_ i)), vJ (φ (N_.getD i 0)), .second, vI (0 : Int32)]) (by rcases hz with ⟨rfl, rfl, rfl, rfl⟩ | ⟨_, _, _, rfl, rfl, rfl, rfl⟩ <;> rfl) ?_
  exact kt)
 clear R601 st602
 have R604 := fun (tg : State) (kt : Steps p.tables e below (T602.setTop (mkF m 125 #[vR a1, vR p1, vR p2, vI (own_i cap), vR rp, vI (own_i j), vI (own_i i), vI (own_i (own_re N_ i)), vJ (φ (N_.getD i 0)), .second, vI (own_i 0)] [])) tg) => R603 tg kt
 clear R603
 obtain ⟨T605, L605, X605, e605, N605, st605⟩ := lp_r3L cl sl φ a1 p1 p2 t2 rp W_ (own_i cap) (own_i i) (own_i (own_re N_ i)) (N_.getD i 0) hx hZ hw hby hml hown hcl hsl Z0 E2 Qv Qs VF H okW x4 (W_.length - j) j 0 X602 hh602 N602 (by omega) (Nat.zero_le _)
 have R606 := fun (tg : State) (kt : Steps p.tables e below (T605.setTop (mkF m 172 #[vR a1, vR p1, vR p2, vI (own_i cap), vR rp, vI (own_i (own_fw W_ (N_.getD i 0) (W_.length - j) j 0).1), vI (own_i i), vI (own_i (own_re N_ i)), vJ (φ (N_.getD i 0)), .second, vI (own_i (own_fw W_ (N_.getD i 0) (W_.length - j) j 0).2)] [(.int ((own_i (own_re N_ i)) - (own_i i)))])) tg) => R604 tg (by
  refine st605 _ ?_
  refine XS.iload X605.here hx rfl (hb hby d9_167) rfl ?_
  refine XS.iload X605.here hx rfl (hb hby d9_169) rfl ?_
  show Steps _ _ _ (T605.setTop (mkF m 171 #[vR a1, vR p1, vR p2, vI (own_i cap), vR rp, vI (own_i (own_fw W_ (N_.getD i 0) (W_.length - j) j 0).1), vI (own_i i), vI (own_i (own_re N_ i)), vJ (φ (N_.getD i 0)), .second, vI (own_i (own_fw W_ (N_.getD i 0) (W_.length - j) j 0).2)] [(.int (own_i i)), (.int (own_i (own_re N_ i)))])) _
  refine XS.isub X605.here hx rfl (hb hby d9_171) rfl ?_
  exact kt)
 clear R604 st605
 have R607 := fun (tg : State) (kt : Steps p.tables e below (T605.setTop (mkF m 172 #[vR a1, vR p1, vR p2, vI (own_i cap), vR rp, vI (own_i (own_fw W_ (N_.getD i 0) (W_.length - j) j 0).1), vI (own_i i), vI (own_i (own_re N_ i)), vJ (φ (N_.getD i 0)), .second, vI (own_i (own_fw W_ (N_.getD i 0) (W_.length - j) j 0).2)] [(.int (own_i ((own_re N_ i) - i)))])) tg) => R606 tg (by rw [own_isub (Nat.le_of_lt re1) (own_sub31 re4)]; exact kt)
 clear R606
 have R608 := fun (tg : State) (kt : Steps p.tables e below (T605.setTop (mkF m 173 #[vR a1, vR p1, vR p2, vI (own_i cap), vR rp, vI (own_i (own_fw W_ (N_.getD i 0) (W_.length - j) j 0).1), vI (own_i i), vI (own_i (own_re N_ i)), vJ (φ (N_.getD i 0)), .second, vI (own_i (own_fw W_ (N_.getD i 0) (W_.length - j) j 0).2)] [(.int (1 : Int32)), (.int (own_i ((own_re N_ i) - i)))])) tg) => R607 tg (by
  show Steps _ _ _ (T605.setTop (mkF m 172 #[vR a1, vR p1, vR p2, vI (own_i cap), vR rp, vI (own_i (own_fw W_ (N_.getD i 0) (W_.length - j) j 0).1), vI (own_i i), vI (own_i (own_re N_ i)), vJ (φ (N_.getD i 0)), .second, vI (own_i (own_fw W_ (N_.getD i 0) (W_.length - j) j 0).2)] [(.int (own_i ((own_re N_ i) - i)))])) _
  refine XS.iconst X605.here hx rfl (hb hby d9_172) ?_
  exact kt)
 clear R607
 by_cases hg : 1 < (own_re N_ i) - i
 ·have R610 := fun (tg : State) (kt : Steps p.tables e below (T605.setTop (mkF m 185 #[vR a1, vR p1, vR p2, vI (own_i cap), vR rp, vI (own_i (own_fw W_ (N_.getD i 0) (W_.length - j) j 0).1), vI (own_i i), vI (own_i (own_re N_ i)), vJ (φ (N_.getD i 0)), .second, vI (own_i (own_fw W_ (N_.getD i 0) (W_.length - j) j 0).2)] [(.int ((own_i (own_re N_ i)) - (own_i i))), (.long (φ (N_.getD i 0))), (.ref rp)])) tg) => R608 tg (by
   show Steps _ _ _ (T605.setTop (mkF m 173 #[vR a1, vR p1, vR p2, vI (own_i cap), vR rp, vI (own_i (own_fw W_ (N_.getD i 0) (W_.length - j) j 0).1), vI (own_i i), vI (own_i (own_re N_ i)), vJ (φ (N_.getD i 0)), .second, vI (own_i (own_fw W_ (N_.getD i 0) (W_.length - j) j 0).2)] [(.int (1 : Int32)), (.int (own_i ((own_re N_ i) - i)))])) _
   refine XS.icmpNo X605.here hx rfl (hb hby d9_173) rfl (tlt ((own_1lt (own_le4 re4)).mpr hg : (1 : Int32) < (own_i ((own_re N_ i) - i)))).2.2.2 ?_
   refine XS.aload X605.here hx rfl (hb hby d9_176) rfl rfl ?_
   refine XS.lload X605.here hx rfl (hb hby d9_178) rfl ?_
   refine XS.iload X605.here hx rfl (hb hby d9_180) rfl ?_
   show Steps _ _ _ (T605.setTop (mkF m 182 #[vR a1, vR p1, vR p2, vI (own_i cap), vR rp, vI (own_i (own_fw W_ (N_.getD i 0) (W_.length - j) j 0).1), vI (own_i i), vI (own_i (own_re N_ i)), vJ (φ (N_.getD i 0)), .second, vI (own_i (own_fw W_ (N_.getD i 0) (W_.length - j) j 0).2)] [(.int (own_i (own_re N_ i))), (.long (φ (N_.getD i 0))), (.ref rp)])) _
   refine XS.iload X605.here hx rfl (hb hby d9_182) rfl ?_
   show Steps _ _ _ (T605.setTop (mkF m 184 #[vR a1, vR p1, vR p2, vI (own_i cap), vR rp, vI (own_i (own_fw W_ (N_.getD i 0) (W_.length - j) j 0).1), vI (own_i i), vI (own_i (own_re N_ i)), vJ (φ (N_.getD i 0)), .second, vI (own_i (own_fw W_ (N_.getD i 0) (W_.length - j) j 0).2)] [(.int (own_i i)), (.int (own_i (own_re N_ i))), (.long (φ (N_.getD i 0))), (.ref rp)])) _
   refine XS.isub X605.here hx rfl (hb hby d9_184) rfl ?_
   exact kt)
  clear R608
  have R611 := fun (tg : State) (kt : Steps p.tables e below (T605.setTop (mkF m 185 #[vR a1, vR p1, vR p2, vI (own_i cap), vR rp, vI (own_i (own_fw W_ (N_.getD i 0) (W_.length - j) j 0).1), vI (own_i i), vI (own_i (own_re N_ i)), vJ (φ (N_.getD i 0)), .second, vI (own_i (own_fw W_ (N_.getD i 0) (W_.length - j) j 0).2)] [(.int (own_i ((own_re N_ i) - i))), (.long (φ (N_.getD i 0))), (.ref rp)])) tg) => R610 tg (by rw [own_isub (Nat.le_of_lt re1) (own_sub31 re4)]; exact kt)
  clear R610
  have R612 := fun (tg : State) (kt : Steps p.tables e below (T605.setTop (mkF m 192 #[vR a1, vR p1, vR p2, vI (own_i cap), vR rp, vI (own_i (own_fw W_ (N_.getD i 0) (W_.length - j) j 0).1), vI (own_i i), vI (own_i (own_re N_ i)), vJ (φ (N_.getD i 0)), .second, vI (own_i (own_fw W_ (N_.getD i 0) (W_.length - j) j 0).2)] [(.int ((own_i (own_re N_ i)) - (own_i i))), (.int (own_i (own_fw W_ (N_.getD i 0) (W_.length - j) j 0).2)), (.int (own_i ((own_re N_ i) - i))), (.long (φ (N_.getD i 0))), (.ref rp)])) tg) => R611 tg (by
   show Steps _ _ _ (T605.setTop (mkF m 185 #[vR a1, vR p1, vR p2, vI (own_i cap), vR rp, vI (own_i (own_fw W_ (N_.getD i 0) (W_.length - j) j 0).1), vI (own_i i), vI (own_i (own_re N_ i)), vJ (φ (N_.getD i 0)), .second, vI (own_i (own_fw W_ (N_.getD i 0) (W_.length - j) j 0).2)] [(.int (own_i ((own_re N_ i) - i))), (.long (φ (N_.getD i 0))), (.ref rp)])) _
   refine XS.iload X605.here hx rfl (hb hby d9_185) rfl ?_
   refine XS.iload X605.here hx rfl (hb hby d9_187) rfl ?_
   refine XS.iload X605.here hx rfl (hb hby d9_189) rfl ?_
   show Steps _ _ _ (T605.setTop (mkF m 191 #[vR a1, vR p1, vR p2, vI (own_i cap), vR rp, vI (own_i (own_fw W_ (N_.getD i 0) (W_.length - j) j 0).1), vI (own_i i), vI (own_i (own_re N_ i)), vJ (φ (N_.getD i 0)), .second, vI (own_i (own_fw W_ (N_.getD i 0) (W_.length - j) j 0).2)] [(.int (own_i i)), (.int (own_i (own_re N_ i))), (.int (own_i (own_fw W_ (N_.getD i 0) (W_.length - j) j 0).2)), (.int (own_i ((own_re N_ i) - i))), (.long (φ (N_.getD i 0))), (.ref rp)])) _
   refine XS.isub X605.here hx rfl (hb hby d9_191) rfl ?_
   exact kt)
  clear R611
  have R613 := fun (tg : State) (kt : Steps p.tables e below (T605.setTop (mkF m 192 #[vR a1, vR p1, vR p2, vI (own_i cap), vR rp, vI (own_i (own_fw W_ (N_.getD i 0) (W_.length - j) j 0).1), vI (own_i i), vI (own_i (own_re N_ i)), vJ (φ (N_.getD i 0)), .second, vI (own_i (own_fw W_ (N_.getD i 0) (W_.length - j) j 0).2)] [(.int (own_i ((own_re N_ i) - i))), (.int (own_i (own_fw W_ (N_.getD i 0) (W_.length - j) j 0).2)), (.int (own_i ((own_re N_ i) - i))), (.long (φ (N_.getD i 0))), (.ref rp)])) tg) => R612 tg (by rw [own_isub (Nat.le_of_lt re1) (own_sub31 re4)]; exact kt)
  clear R612
  have R614 := fun (tg : State) (kt : Steps p.tables e below (T605.setTop (mkF m 194 #[vR a1, vR p1, vR p2, vI (own_i cap), vR rp, vI (own_i (own_fw W_ (N_.getD i 0) (W_.length - j) j 0).1), vI (own_i i), vI (own_i (own_re N_ i)), vJ (φ (N_.getD i 0)), .second, vI (own_i (own_fw W_ (N_.getD i 0) (W_.length - j) j 0).2)] [(.int ((own_i ((own_re N_ i) - i)) - (1 : Int32))), (.int (own_i (own_fw W_ (N_.getD i 0) (W_.length - j) j 0).2)), (.int (own_i ((own_re N_ i) - i))), (.long (φ (N_.getD i 0))), (.ref rp)])) tg) => R613 tg (by
   show Steps _ _ _ (T605.setTop (mkF m 192 #[vR a1, vR p1, vR p2, vI (own_i cap), vR rp, vI (own_i (own_fw W_ (N_.getD i 0) (W_.length - j) j 0).1), vI (own_i i), vI (own_i (own_re N_ i)), vJ (φ (N_.getD i 0)), .second, vI (own_i (own_fw W_ (N_.getD i 0) (W_.length - j) j 0).2)] [(.int (own_i ((own_re N_ i) - i))), (.int (own_i (own_fw W_ (N_.getD i 0) (W_.length - j) j 0).2)), (.int (own_i ((own_re N_ i) - i))), (.long (φ (N_.getD i 0))), (.ref rp)])) _
   refine XS.iconst X605.here hx rfl (hb hby d9_192) ?_
   show Steps _ _ _ (T605.setTop (mkF m 193 #[vR a1, vR p1, vR p2, vI (own_i cap), vR rp, vI (own_i (own_fw W_ (N_.getD i 0) (W_.length - j) j 0).1), vI (own_i i), vI (own_i (own_re N_ i)), vJ (φ (N_.getD i 0)), .second, vI (own_i (own_fw W_ (N_.getD i 0) (W_.length - j) j 0).2)] [(.int (1 : Int32)), (.int (own_i ((own_re N_ i) - i))), (.int (own_i (own_fw W_ (N_.getD i 0) (W_.length - j) j 0).2)), (.int (own_i ((own_re N_ i) - i))), (.long (φ (N_.getD i 0))), (.ref rp)])) _
   refine XS.isub X605.here hx rfl (hb hby d9_193) rfl ?_
   exact kt)
  clear R613
  have R615 := fun (tg : State) (kt : Steps p.tables e below (T605.setTop (mkF m 194 #[vR a1, vR p1, vR p2, vI (own_i cap), vR rp, vI (own_i (own_fw W_ (N_.getD i 0) (W_.length - j) j 0).1), vI (own_i i), vI (own_i (own_re N_ i)), vJ (φ (N_.getD i 0)), .second, vI (own_i (own_fw W_ (N_.getD i 0) (W_.length - j) j 0).2)] [(.int (own_i ((own_re N_ i) - i - 1))), (.int (own_i (own_fw W_ (N_.getD i 0) (W_.length - j) j 0).2)), (.int (own_i ((own_re N_ i) - i))), (.long (φ (N_.getD i 0))), (.ref rp)])) tg) => R614 tg (by rw [own_sub1 (own_le4 re4) (Nat.le_of_lt hg)]; exact kt)
  clear R614
  have R616 : Sq p e below (T605.setTop (mkF m 202 #[vR a1, vR p1, vR p2, vI (own_i cap), vR rp, vI (own_i (own_fw W_ (N_.getD i 0) (W_.length - j) j 0).1), vI (own_i i), vI (own_i (own_re N_ i)), vJ (φ (N_.getD i 0)), .second, vI (own_i (own_fw W_ (N_.getD i 0) (W_.length - j) j 0).2)] [(.int (own_q (own_fw W_ (N_.getD i 0) (W_.length - j) j 0).2 ((own_re N_ i) - i - 1))), (.int (own_i ((own_re N_ i) - i))), (.long (φ (N_.getD i 0))), (.ref rp)])) (T0.setTop (mkF m 97 #[vR a1, vR p1, vR p2, vI (own_i cap), vR rp, vI (own_i j), vI (own_i i), z7, z8, z9, z10] [])) := by
   intro tg kt
   refine R615 _ ?_
   by_cases hq_ : (own_i (own_fw W_ (N_.getD i 0) (W_.length - j) j 0).2) = (own_i ((own_re N_ i) - i - 1))
   ·rw [show (own_q (own_fw W_ (N_.getD i 0) (W_.length - j) j 0).2 ((own_re N_ i) - i - 1)) = (1 : Int32) from if_pos hq_] at kt
    show Steps p.tables e below (T605.setTop (mkF m 194 #[vR a1, vR p1, vR p2, vI (own_i cap), vR rp, vI (own_i (own_fw W_ (N_.getD i 0) (W_.length - j) j 0).1), vI (own_i i), vI (own_i (own_re N_ i)), vJ (φ (N_.getD i 0)), .second, vI (own_i (own_fw W_ (N_.getD i 0) (W_.length - j) j 0).2)] [(.int (own_i ((own_re N_ i) - i - 1))), (.int (own_i (own_fw W_ (N_.getD i 0) (W_.length - j) j 0).2)), (.int (own_i ((own_re N_ i) - i))), (.long (φ (N_.getD i 0))), (.ref rp)])) _
    refine XS.icmpNo X605.here hx rfl (hb hby d9_194) rfl (teq (hq_ : (own_i (own_fw W_ (N_.getD i 0) (W_.length - j) j 0).2) = (own_i ((own_re N_ i) - i - 1)))).2 ?_
    refine XS.iconst X605.here hx rfl (hb hby d9_197) ?_
    show Steps p.tables e below (T605.setTop (mkF m 198 #[vR a1, vR p1, vR p2, vI (own_i cap), vR rp, vI (own_i (own_fw W_ (N_.getD i 0) (W_.length - j) j 0).1), vI (own_i i), vI (own_i (own_re N_ i)), vJ (φ (N_.getD i 0)), .second, vI (own_i (own_fw W_ (N_.getD i 0) (W_.length - j) j 0).2)] [(.int (1 : Int32)), (.int (own_i ((own_re N_ i) - i))), (.long (φ (N_.getD i 0))), (.ref rp)])) _
    refine XS.goto X605.here hx rfl (pc0 := 198) (pc' := 202) rfl (hb hby d9_198) (by decide) (by decide) ?_
    exact kt
   ·rw [show (own_q (own_fw W_ (N_.getD i 0) (W_.length - j) j 0).2 ((own_re N_ i) - i - 1)) = (0 : Int32) from if_neg hq_] at kt
    show Steps p.tables e below (T605.setTop (mkF m 194 #[vR a1, vR p1, vR p2, vI (own_i cap), vR rp, vI (own_i (own_fw W_ (N_.getD i 0) (W_.length - j) j 0).1), vI (own_i i), vI (own_i (own_re N_ i)), vJ (φ (N_.getD i 0)), .second, vI (own_i (own_fw W_ (N_.getD i 0) (W_.length - j) j 0).2)] [(.int (own_i ((own_re N_ i) - i - 1))), (.int (own_i (own_fw W_ (N_.getD i 0) (W_.length - j) j 0).2)), (.int (own_i ((own_re N_ i) - i))), (.long (φ (N_.getD i 0))), (.ref rp)])) _
    refine XS.icmpYes X605.here hx rfl (pc0 := 194) (pc' := 201) rfl (hb hby d9_194) rfl (feq (hq_ : ¬ ((own_i (own_fw W_ (N_.getD i 0) (W_.length - j) j 0).2) = (own_i ((own_re N_ i) - i - 1))))).2 (by decide) (by decide) ?_
    refine XS.iconst X605.here hx rfl (hb hby d9_201) ?_
    exact kt
  clear R615
  have R617 := fun (tg : State) (kt : Steps p.tables e below (T605.setTop (mkF m 202 #[vR a1, vR p1, vR p2, vI (own_i cap), vR rp, vI (own_i (own_fw W_ (N_.getD i 0) (W_.length - j) j 0).1), vI (own_i i), vI (own_i (own_re N_ i)), vJ (φ (N_.getD i 0)), .second, vI (own_i (own_fw W_ (N_.getD i 0) (W_.length - j) j 0).2)] [(.int (own_b2 (decide ((own_fw W_ (N_.getD i 0) (W_.length - j) j 0).2 = (own_re N_ i) - i - 1)))), (.int (own_i ((own_re N_ i) - i))), (.long (φ (N_.getD i 0))), (.ref rp)])) tg) => R616 tg (by rw [own_qb c4 (own_le4 (own_le4 re4))]; exact kt)
  clear R616
  obtain ⟨_, _, ⟨T618, L618, k618, n618⟩, -, X618, ⟨Lc618, hQ618, l618, y618, z618⟩, st618⟩ := own_privRef X605 hx hZ (y := (⟨cR, "add", "(JIZ)V"⟩ : MethodName)) hown (oW hw 157 rfl) (oW hw 158 rfl) (oW hw 159 rfl) (oW hw 92 rfl) (oW hw 160 rfl) (by decide) (backOf (W := 0) (rm_rpa l Z a0 hw [] rp (φ (N_.getD i 0)) (own_i ((own_re N_ i) - i)) (own_b2 (decide ((own_fw W_ (N_.getD i 0) (W_.length - j) j 0).2 = (own_re N_ i) - i - 1))) φ cap f1 f2 f3 fp rw nr far (N_.getD i 0) ((own_re N_ i) - i) (decide ((own_fw W_ (N_.getD i 0) (W_.length - j) j 0).2 = (own_re N_ i) - i - 1)) h0 n0 Z0 Er Gf Gr Gn Gs Gy WF WR WN RD rfl rfl rfl (hl hg) hc h1 h2) hZ (oW hw 160 rfl) (oW hw 93 rfl) (by decide) (by decide)) (a := rp) e605 Er (g := (mkF m 202 #[vR a1, vR p1, vR p2, vI (own_i cap), vR rp, vI (own_i (own_fw W_ (N_.getD i 0) (W_.length - j) j 0).1), vI (own_i i), vI (own_i (own_re N_ i)), vJ (φ (N_.getD i 0)), .second, vI (own_i (own_fw W_ (N_.getD i 0) (W_.length - j) j 0).2)] [(.int (own_b2 (decide ((own_fw W_ (N_.getD i 0) (W_.length - j) j 0).2 = (own_re N_ i) - i - 1)))), (.int (own_i ((own_re N_ i) - i))), (.long (φ (N_.getD i 0))), (.ref rp)])) rfl (by rw [hml]; rfl) (argsL := [(.long (φ (N_.getD i 0))), (.int (own_i ((own_re N_ i) - i))), (.int (own_b2 (decide ((own_fw W_ (N_.getD i 0) (W_.length - j) j 0).2 = (own_re N_ i) - i - 1))))]) (rest := []) (lenOf pd_13 rfl) rfl (by show 2 * 0 + _ ≤ _; exact Nat.le_of_eq rfl) (hb hby d9_202) (fun _ _ => ⟨rfl, e605, hcl, hsl⟩)
  dsimp only [Pt.U, Pt.locs, Pt.cells, Pt.slots] at X618 l618 y618 z618 st618 hQ618
  rw [l618, y618, z618] at X618
  obtain ⟨rfl, N618q, K618, zEr, zGf, zGr, zGn, zGs, zGy, zWF, zWR, zWN⟩ := hQ618
  have N618 := Fr.app N605 N618q
  have E_p1_619 := E1.keep K618
  have Pv_619 := Pv.keep K618 (own_notin4 ne_p1_rp ne_p1_f1 ne_p1_f2 ne_p1_f3)
  have Ps_619 := Ps.keep K618 (own_notin4 ne_p1_rp ne_p1_f1 ne_p1_f2 ne_p1_f3)
  have VP_619 := VP.keep K618 (own_notin4 ne_t1_rp ne_t1_f1 ne_t1_f2 ne_t1_f3)
  have E_p2_619 := E2.keep K618
  have Qv_619 := Qv.keep K618 (own_notin4 ne_p2_rp ne_p2_f1 ne_p2_f2 ne_p2_f3)
  have Qs_619 := Qs.keep K618 (own_notin4 ne_p2_rp ne_p2_f1 ne_p2_f2 ne_p2_f3)
  have VF_619 := VF.keep K618 (own_notin4 ne_t2_rp ne_t2_f1 ne_t2_f2 ne_t2_f3)
  have Zs619 : n0 ≤ T618.heap.size := Nat.le_trans Z0 K618.1
  have Kk619 : Keep h0 T618.heap [rp, f1, f2, f3] := Keep.trans (Keep.refl h0 [rp, f1, f2, f3]) K618 (own_trans4 (Or.inl (List.mem_of_getElem? (i := 0) rfl)) (Or.inl (List.mem_of_getElem? (i := 1) rfl)) (Or.inl (List.mem_of_getElem? (i := 2) rfl)) (Or.inl (List.mem_of_getElem? (i := 3) rfl)))
  have R620 := fun (tg : State) (kt : Steps p.tables e below (T618.setTop (mkF m 97 #[vR a1, vR p1, vR p2, vI (own_i cap), vR rp, vI (own_i (own_fw W_ (N_.getD i 0) (W_.length - j) j 0).1), vI (own_i (own_re N_ i)), vI (own_i (own_re N_ i)), vJ (φ (N_.getD i 0)), .second, vI (own_i (own_fw W_ (N_.getD i 0) (W_.length - j) j 0).2)] [])) tg) => R617 tg (by
   refine st618.trans ?_
   refine XS.iload X618.here hx rfl (hb hby d9_205) rfl ?_
   show Steps _ _ _ (T618.setTop (mkF m 207 #[vR a1, vR p1, vR p2, vI (own_i cap), vR rp, vI (own_i (own_fw W_ (N_.getD i 0) (W_.length - j) j 0).1), vI (own_i i), vI (own_i (own_re N_ i)), vJ (φ (N_.getD i 0)), .second, vI (own_i (own_fw W_ (N_.getD i 0) (W_.length - j) j 0).2)] [(.int (own_i (own_re N_ i)))])) _
   refine XS.istore X618.here hx rfl (hb hby d9_207) rfl (l' := #[vR a1, vR p1, vR p2, vI (own_i cap), vR rp, vI (own_i (own_fw W_ (N_.getD i 0) (W_.length - j) j 0).1), vI (own_i (own_re N_ i)), vI (own_i (own_re N_ i)), vJ (φ (N_.getD i 0)), .second, vI (own_i (own_fw W_ (N_.getD i 0) (W_.length - j) j 0).2)]) rfl ?_
   show Steps _ _ _ (T618.setTop (mkF m 209 #[vR a1, vR p1, vR p2, vI (own_i cap), vR rp, vI (own_i (own_fw W_ (N_.getD i 0) (W_.length - j) j 0).1), vI (own_i (own_re N_ i)), vI (own_i (own_re N_ i)), vJ (φ (N_.getD i 0)), .second, vI (own_i (own_fw W_ (N_.getD i 0) (W_.length - j) j 0).2)] [])) _
   refine XS.goto X618.here hx rfl (pc0 := 209) (pc' := 97) rfl (hb hby d9_209) (by decide) (by decide) ?_
   exact kt)
  clear R617 st618
  exact ⟨_, _, _, _, _, _, _, X618, rfl, N618, Kk619, Zs619, Or.inr ⟨_, _, _, rfl, rfl, rfl, rfl⟩, E_p1_619, Pv_619, Ps_619, VP_619, E_p2_619, Qv_619, Qs_619, VF_619, Or.inl ⟨hg, zEr, zGf, zGr, zGn, zGs, zGy, zWF, zWR, zWN⟩, R620⟩
 ·have R609 := fun (tg : State) (kt : Steps p.tables e below (T605.setTop (mkF m 97 #[vR a1, vR p1, vR p2, vI (own_i cap), vR rp, vI (own_i (own_fw W_ (N_.getD i 0) (W_.length - j) j 0).1), vI (own_i (own_re N_ i)), vI (own_i (own_re N_ i)), vJ (φ (N_.getD i 0)), .second, vI (own_i (own_fw W_ (N_.getD i 0) (W_.length - j) j 0).2)] [])) tg) => R608 tg (by
   show Steps _ _ _ (T605.setTop (mkF m 173 #[vR a1, vR p1, vR p2, vI (own_i cap), vR rp, vI (own_i (own_fw W_ (N_.getD i 0) (W_.length - j) j 0).1), vI (own_i i), vI (own_i (own_re N_ i)), vJ (φ (N_.getD i 0)), .second, vI (own_i (own_fw W_ (N_.getD i 0) (W_.length - j) j 0).2)] [(.int (1 : Int32)), (.int (own_i ((own_re N_ i) - i)))])) _
   refine XS.icmpYes X605.here hx rfl (pc0 := 173) (pc' := 205) rfl (hb hby d9_173) rfl (flt (fun q => hg ((own_1lt (own_le4 re4)).mp q) : ¬ ((1 : Int32) < (own_i ((own_re N_ i) - i))))).2.2.2 (by decide) (by decide) ?_
   refine XS.iload X605.here hx rfl (hb hby d9_205) rfl ?_
   show Steps _ _ _ (T605.setTop (mkF m 207 #[vR a1, vR p1, vR p2, vI (own_i cap), vR rp, vI (own_i (own_fw W_ (N_.getD i 0) (W_.length - j) j 0).1), vI (own_i i), vI (own_i (own_re N_ i)), vJ (φ (N_.getD i 0)), .second, vI (own_i (own_fw W_ (N_.getD i 0) (W_.length - j) j 0).2)] [(.int (own_i (own_re N_ i)))])) _
   refine XS.istore X605.here hx rfl (hb hby d9_207) rfl (l' := #[vR a1, vR p1, vR p2, vI (own_i cap), vR rp, vI (own_i (own_fw W_ (N_.getD i 0) (W_.length - j) j 0).1), vI (own_i (own_re N_ i)), vI (own_i (own_re N_ i)), vJ (φ (N_.getD i 0)), .second, vI (own_i (own_fw W_ (N_.getD i 0) (W_.length - j) j 0).2)]) rfl ?_
   show Steps _ _ _ (T605.setTop (mkF m 209 #[vR a1, vR p1, vR p2, vI (own_i cap), vR rp, vI (own_i (own_fw W_ (N_.getD i 0) (W_.length - j) j 0).1), vI (own_i (own_re N_ i)), vI (own_i (own_re N_ i)), vJ (φ (N_.getD i 0)), .second, vI (own_i (own_fw W_ (N_.getD i 0) (W_.length - j) j 0).2)] [])) _
   refine XS.goto X605.here hx rfl (pc0 := 209) (pc' := 97) rfl (hb hby d9_209) (by decide) (by decide) ?_
   exact kt)
  clear R608
  exact ⟨_, _, _, _, _, _, _, X605, e605, N605, (Keep.refl h0 [rp, f1, f2, f3]), Z0, Or.inr ⟨_, _, _, rfl, rfl, rfl, rfl⟩, E1, Pv, Ps, VP, E2, Qv, Qs, VF, Or.inr ⟨hg, Er, Gf, Gr, Gn, Gs, Gy, WF, WR, WN⟩, R609⟩
set_option maxRecDepth 65536 in
set_option maxHeartbeats 40000000 in
theorem lp_r2E {p : Program} {l : Launch} {e : Env} {s : State} {m : MethodId} {args : Array Value} {below : List Frame} {meth : Method} {c : Code} {Z : State} {a0 : Array Value} {n0 : Nat} {T0 : State} {locs : List Loc} {h0 : Heap} (cl : Nat) (sl : Nat) (φ : Nat → Int64) (a1 : Addr) (p1 : Addr) (p2 : Addr) (t1 : Addr) (rp : Addr) (N_ : List Nat) (cap : Nat) (j : Nat) (z7 : Slot) (z8 : Slot) (z9 : Slot) (z10 : Slot) (X0 : Stand p l e rM14 s m args below meth c T0 locs cl sl) (hx : p.tables.exec = Jvm.exec) (hZ : Z.Warmed39 s.vm) (hw : ∀ d ∈ tables_1, d.before a0 Z = true) (hby : c.code = prog_41_method_4_code) (hml : c.maxLocals = 11) (hown : s.vm.findClass cP = some m.cls) (hcl : cl + 0 ≤ rM14.cells) (hsl : sl + 0 ≤ rM14.slots) (e0 : T0.heap = h0) (N0 : Fr n0 locs) (Z0 : n0 ≤ h0.size) (E1 : Exa Z h0 p1 cF) (Pv : Fld Z h0 p1 cF "values" "[J" (.ref t1)) (Ps : Fld Z h0 p1 cF "size" "I" (.int (own_i (N_).length))) (VP : VG Z h0 t1 .long 1024 (fun r => .long (φ r)) 0 N_) :
  ∃ (T' : State) (L' : List Loc), Stand p l e rM14 s m args below meth c T' L' cl sl ∧ T'.heap = h0 ∧ Fr n0 L' ∧ Sq p e below (T'.setTop (mkF m 212 #[vR a1, vR p1, vR p2, vI (own_i cap), vR rp, vI (own_i j), vI (own_i N_.length), z7, z8, z9, z10] [])) (T0.setTop (mkF m 97 #[vR a1, vR p1, vR p2, vI (own_i cap), vR rp, vI (own_i j), vI (own_i N_.length), z7, z8, z9, z10] [])) := by
 have R621 := fun (tg : State) (kt : Steps p.tables e below (T0.setTop (mkF m 100 #[vR a1, vR p1, vR p2, vI (own_i cap), vR rp, vI (own_i j), vI (own_i N_.length), z7, z8, z9, z10] [(.ref p1), (.int (own_i N_.length))])) tg) => (fun (t : State) (k : Steps p.tables e below (T0.setTop (mkF m 97 #[vR a1, vR p1, vR p2, vI (own_i cap), vR rp, vI (own_i j), vI (own_i N_.length), z7, z8, z9, z10] [])) t) => k) tg (by
  show Steps _ _ _ (T0.setTop (mkF m 97 #[vR a1, vR p1, vR p2, vI (own_i cap), vR rp, vI (own_i j), vI (own_i N_.length), z7, z8, z9, z10] [])) _
  refine XS.iload X0.here hx rfl (hb hby d9_97) rfl ?_
  refine XS.aloadN X0.here hx rfl (hb hby d9_99) rfl rfl ?_
  exact kt)
 obtain ⟨cq622, kq622, q622a, q622b, q622c⟩ := isOf hZ e0 E1
 obtain ⟨_, _, ⟨T622, L622, k622, n622⟩, -, X622, ⟨Lc622, hQ622, l622, y622, z622⟩, st622⟩ := X0.virtualBack hx (y := (⟨cF, "size", "()I"⟩ : MethodName)) (z := (⟨cF, "size", "()I"⟩ : MethodName)) hown (mvT hZ (oW hw 81 rfl)) (mvT hZ (oW hw 82 rfl)) (notFace_of_selects (args := #[]) (mvT hZ (oW hw 84 rfl))) (mvT hZ (oW hw 84 rfl)) (mvT hZ (oW hw 83 rfl)) (by decide) (backOf (W := 1) (rm_siz l Z a0 hw [] p1 (own_i N_.length) h0 n0 Z0 Ps) hZ (oW hw 85 rfl) (oW hw 17 rfl) (by decide) (by decide)) q622a q622c (g := (mkF m 100 #[vR a1, vR p1, vR p2, vI (own_i cap), vR rp, vI (own_i j), vI (own_i N_.length), z7, z8, z9, z10] [(.ref p1), (.int (own_i N_.length))])) rfl (by rw [hml]; rfl) (Steps.refl _) (argsL := []) (rest := [(.int (own_i N_.length))]) (lenOf pd_10 rfl) rfl (by show 2 * 0 + _ ≤ _; exact Nat.le_of_eq rfl) (hb hby d9_100) (fun _ _ => ⟨rfl, e0, hcl, hsl⟩)
 dsimp only [Pt.U, Pt.locs, Pt.cells, Pt.slots] at X622 l622 y622 z622 st622 hQ622
 rw [l622, y622, z622] at X622
 obtain ⟨rfl, N622q, hh622⟩ := hQ622
 have N622 := Fr.app N0 N622q
 have R623 := fun (tg : State) (kt : Steps p.tables e below (T622.setTop (mkF m 212 #[vR a1, vR p1, vR p2, vI (own_i cap), vR rp, vI (own_i j), vI (own_i N_.length), z7, z8, z9, z10] [])) tg) => R621 tg (by
  refine st622.trans ?_
  show Steps _ _ _ (T622.setTop (mkF m 103 #[vR a1, vR p1, vR p2, vI (own_i cap), vR rp, vI (own_i j), vI (own_i N_.length), z7, z8, z9, z10] [(.int (own_i N_.length)), (.int (own_i N_.length))])) _
  refine XS.icmpYes X622.here hx rfl (pc0 := 103) (pc' := 212) rfl (hb hby d9_103) rfl (flt (own_irr : ¬ ((own_i N_.length) < (own_i N_.length)))).2.1 (by decide) (by decide) ?_
  exact kt)
 clear R621 st622
 exact ⟨_, _, X622, hh622, N622, R623⟩
set_option maxHeartbeats 8000000 in
theorem lp_r2L {p : Program} {l : Launch} {e : Env} {s : State} {m : MethodId} {args : Array Value} {below : List Frame} {meth : Method} {c : Code} {Z : State} {a0 : Array Value} {n0 : Nat} (cl sl : Nat) (φ : Nat → Int64) (a1 p1 p2 t1 t2 rp f1 f2 f3 : Addr) (N_ W_ : List Nat) (cap : Nat) (hx : p.tables.exec = Jvm.exec) (hZ : Z.Warmed39 s.vm) (hw : ∀ d ∈ tables_1, d.before a0 Z = true) (hby : c.code = prog_41_method_4_code) (hml : c.maxLocals = 11) (hown : s.vm.findClass cP = some m.cls) (hcl : cl + 0 ≤ rM14.cells) (hsl : sl + 0 ≤ rM14.slots) (H : own_mono φ) (okN : own_ok N_) (okW : own_ok W_) (hc : cap ≤ 4) (RD : own_rd n0 rp f1 f2 f3) (AX : own_ap p1 t1 p2 t2 rp f1 f2 f3) :
  ∀ (d i j : Nat) (fp rw : List Nat) (nr : List Bool) (far : Bool) (z7 z8 z9 z10 : Slot) {T0 : State} {locs : List Loc} {h0 : Heap} (X0 : Stand p l e rM14 s m args below meth c T0 locs cl sl) (e0 : T0.heap = h0) (N0 : Fr n0 locs) (Z0 : n0 ≤ h0.size) (E1 : Exa Z h0 p1 cF) (Pv : Fld Z h0 p1 cF "values" "[J" (.ref t1)) (Ps : Fld Z h0 p1 cF "size" "I" (.int (own_i (N_).length))) (VP : VG Z h0 t1 .long 1024 (fun r => .long (φ r)) 0 N_) (E2 : Exa Z h0 p2 cF) (Qv : Fld Z h0 p2 cF "values" "[J" (.ref t2)) (Qs : Fld Z h0 p2 cF "size" "I" (.int (own_i (W_).length))) (VF : VG Z h0 t2 .long 1024 (fun r => .long (φ r)) 0 W_) (Er : Exa Z h0 rp cR) (Gf : Fld Z h0 rp cR "fingerprints" "[J" (.ref f1)) (Gr : Fld Z h0 rp cR "rows" "[I" (.ref f2)) (Gn : Fld Z h0 rp cR "near" "[Z" (.ref f3)) (Gs : Fld Z h0 rp cR "size" "I" (.int (own_i (fp).length))) (Gy : Fld Z h0 rp cR "anyFar" "Z" (.int (own_b2 far))) (WF : VG Z h0 f1 .long cap (fun r => .long (φ r)) 0 fp) (WR : VG Z h0 f2 .int cap (fun r => .int (own_i r)) 0 rw) (WN : VG Z h0 f3 .boolean cap (fun b => .int (own_b2 b)) false nr), N_.length - i ≤ d → i ≤ N_.length → j ≤ W_.length → fp.length + own_cn N_ d i = cap → rw.length = fp.length → nr.length = fp.length → (∀ x ∈ fp, x < 4) → ((z7 = .unset ∧ z8 = .unset ∧ z9 = .unset ∧ z10 = .unset) ∨ (∃ (a : Int32) (b : Int64) (c' : Int32), z7 = vI a ∧ z8 = vJ b ∧ z9 = .second ∧ z10 = vI c')) →
   ∃ (T' : State) (h' : Heap) (L' : List Loc) (j' : Nat) (z7' z8' z9' z10' : Slot), Stand p l e rM14 s m args below meth c T' L' cl sl ∧ T'.heap = h' ∧ Fr n0 L' ∧ n0 ≤ h'.size ∧ (Exa Z h' rp cR ∧ Fld Z h' rp cR "fingerprints" "[J" (.ref f1) ∧ Fld Z h' rp cR "rows" "[I" (.ref f2) ∧ Fld Z h' rp cR "near" "[Z" (.ref f3) ∧ Fld Z h' rp cR "size" "I" (.int (own_i ((own_rp N_ W_ d i j fp rw nr far).1).length)) ∧ Fld Z h' rp cR "anyFar" "Z" (.int (own_b2 (own_rp N_ W_ d i j fp rw nr far).2.2.2)) ∧ VG Z h' f1 .long cap (fun r => .long (φ r)) 0 (own_rp N_ W_ d i j fp rw nr far).1 ∧ VG Z h' f2 .int cap (fun r => .int (own_i r)) 0 (own_rp N_ W_ d i j fp rw nr far).2.1 ∧ VG Z h' f3 .boolean cap (fun b => .int (own_b2 b)) false (own_rp N_ W_ d i j fp rw nr far).2.2.1) ∧ ((own_rp N_ W_ d i j fp rw nr far).1.length = cap ∧ (own_rp N_ W_ d i j fp rw nr far).2.1.length = cap ∧ (own_rp N_ W_ d i j fp rw nr far).2.2.1.length = cap ∧ ∀ x ∈ (own_rp N_ W_ d i j fp rw nr far).1, x < 4) ∧ Sq p e below (T'.setTop (mkF m 212 #[vR a1, vR p1, vR p2, vI (own_i cap), vR rp, vI (own_i j'), vI (own_i N_.length), z7', z8', z9', z10'] [])) (T0.setTop (mkF m 97 #[vR a1, vR p1, vR p2, vI (own_i cap), vR rp, vI (own_i j), vI (own_i i), z7, z8, z9, z10] [])) := by
 intro d
 induction d with
 | zero =>
  intro i j fp rw nr far z7 z8 z9 z10 T0 locs h0 X0 e0 N0 Z0 E1 Pv Ps VP E2 Qv Qs VF Er Gf Gr Gn Gs Gy WF WR WN hd hi hj hcap h1 h2 hx4 hz
  cases (show i = N_.length by omega)
  rw [own_cn, Nat.add_zero] at hcap
  obtain ⟨T1, L1, X1, e1, N1, st1⟩ := lp_r2E cl sl φ a1 p1 p2 t1 rp N_ cap j z7 z8 z9 z10 X0 hx hZ hw hby hml hown hcl hsl e0 N0 Z0 E1 Pv Ps VP
  rw [own_rp]
  exact ⟨T1, h0, L1, j, z7, z8, z9, z10, X1, e1, N1, Z0, ⟨Er, Gf, Gr, Gn, Gs, Gy, WF, WR, WN⟩, ⟨hcap, h1.trans hcap, h2.trans hcap, hx4⟩, st1⟩
 | succ d ih =>
  intro i j fp rw nr far z7 z8 z9 z10 T0 locs h0 X0 e0 N0 Z0 E1 Pv Ps VP E2 Qv Qs VF Er Gf Gr Gn Gs Gy WF WR WN hd hi hj hcap h1 h2 hx4 hz
  by_cases hlt : i < N_.length
  ·rw [own_cn, if_pos hlt] at hcap
   have rb := own_re_b hlt
   have fb := own_fw_b W_ (N_.getD i 0) (W_.length - j) j 0 (Nat.zero_le _)
   obtain ⟨T1, h1', L1, y7, y8, y9, y10, X1, e1, N1, K1, Z1, hz1, a1', a2', a3', a4', b1', b2', b3', b4', hor, st1⟩ := lp_r2 cl sl φ a1 p1 p2 t1 t2 rp f1 f2 f3 N_ W_ cap i j fp rw nr far z7 z8 z9 z10 X0 hx hZ hw hby hml hown hcl hsl e0 N0 Z0 E1 Pv Ps VP E2 Qv Qs VF Er Gf Gr Gn Gs Gy WF WR WN H okN okW hc RD AX hz hj h1 h2 (fun q => by rw [if_pos q] at hcap; omega) hlt
   rcases hor with ⟨hg, r1, r2, r3, r4, r5, r6, r7, r8, r9⟩ | ⟨hg, r1, r2, r3, r4, r5, r6, r7, r8, r9⟩
   ·rw [if_pos hg] at hcap
    obtain ⟨T2, h2', L2, j2, w7, w8, w9, w10, X2, e2, N2, Z2, R2, Q2, st2⟩ := ih (own_re N_ i) (own_fw W_ (N_.getD i 0) (W_.length - j) j 0).1 _ _ _ _ y7 y8 y9 y10 X1 e1 N1 Z1 a1' a2' a3' a4' b1' b2' b3' b4' r1 r2 r3 r4 r5 r6 r7 r8 r9 (by omega) rb.2 (by omega) (by simp; omega) (by simp [h1]) (by simp [h2]) (fun x hx' => by
     rcases List.mem_append.mp hx' with q | q
     ·exact hx4 x q
     ·rw [List.mem_singleton.mp q]; exact okN.at hlt) hz1
    rw [own_rp, if_pos hlt, if_pos hg]
    exact ⟨T2, h2', L2, j2, w7, w8, w9, w10, X2, e2, N2, Z2, R2, Q2, fun tg kt => st1 tg (st2 tg kt)⟩
   ·rw [if_neg hg, Nat.zero_add] at hcap
    obtain ⟨T2, h2', L2, j2, w7, w8, w9, w10, X2, e2, N2, Z2, R2, Q2, st2⟩ := ih (own_re N_ i) (own_fw W_ (N_.getD i 0) (W_.length - j) j 0).1 _ _ _ _ y7 y8 y9 y10 X1 e1 N1 Z1 a1' a2' a3' a4' b1' b2' b3' b4' r1 r2 r3 r4 r5 r6 r7 r8 r9 (by omega) rb.2 (by omega) hcap h1 h2 hx4 hz1
    rw [own_rp, if_pos hlt, if_neg hg]
    exact ⟨T2, h2', L2, j2, w7, w8, w9, w10, X2, e2, N2, Z2, R2, Q2, fun tg kt => st1 tg (st2 tg kt)⟩
  ·cases (show i = N_.length by omega)
   rw [own_cn, if_neg hlt, Nat.add_zero] at hcap
   obtain ⟨T1, L1, X1, e1, N1, st1⟩ := lp_r2E cl sl φ a1 p1 p2 t1 rp N_ cap j z7 z8 z9 z10 X0 hx hZ hw hby hml hown hcl hsl e0 N0 Z0 E1 Pv Ps VP
   rw [own_rp, if_neg hlt]
   exact ⟨T1, h0, L1, j, z7, z8, z9, z10, X1, e1, N1, Z0, ⟨Er, Gf, Gr, Gn, Gs, Gy, WF, WR, WN⟩, ⟨hcap, h1.trans hcap, h2.trans hcap, hx4⟩, st1⟩
theorem d9_0 : oD k14 0 (.aload_n 0) 1 := by decide +kernel
theorem d9_1 : oD k14 1 (.getfield 22) 3 := by decide +kernel
theorem d9_4 : oD k14 4 (.astore_n 1) 1 := by decide +kernel
theorem d9_5 : oD k14 5 (.aload_n 0) 1 := by decide +kernel
theorem d9_6 : oD k14 6 (.getfield 26) 3 := by decide +kernel
theorem d9_9 : oD k14 9 (.astore_n 2) 1 := by decide +kernel
theorem d9_10 : oD k14 10 (.aload_n 0) 1 := by decide +kernel
theorem d9_11 : oD k14 11 (.new 19) 3 := by decide +kernel
theorem d9_14 : oD k14 14 .dup 1 := by decide +kernel
theorem d9_15 : oD k14 15 (.invokespecial 21) 3 := by decide +kernel
theorem d9_18 : oD k14 18 (.putfield 22) 3 := by decide +kernel
theorem d9_21 : oD k14 21 (.aload_n 0) 1 := by decide +kernel
theorem d9_22 : oD k14 22 (.new 19) 3 := by decide +kernel
theorem d9_25 : oD k14 25 .dup 1 := by decide +kernel
theorem d9_26 : oD k14 26 (.invokespecial 21) 3 := by decide +kernel
theorem d9_29 : oD k14 29 (.putfield 26) 3 := by decide +kernel
theorem d9_32 : oD k14 32 (.aload_n 1) 1 := by decide +kernel
theorem d9_33 : oD k14 33 (.invokevirtual 51) 3 := by decide +kernel
theorem d9_36 : oD k14 36 (.aload_n 2) 1 := by decide +kernel
theorem d9_37 : oD k14 37 (.invokevirtual 51) 3 := by decide +kernel
theorem d9_40 : oD k14 40 (.iconst 0) 1 := by decide +kernel
theorem d9_41 : oD k14 41 (.istore_n 3) 1 := by decide +kernel
theorem d9_42 : oD k14 42 (.iconst 0) 1 := by decide +kernel
theorem d9_43 : oD k14 43 (.istore 4) 2 := by decide +kernel
theorem d9_81 : oD k14 81 (.new 62) 3 := by decide +kernel
theorem d9_84 : oD k14 84 .dup 1 := by decide +kernel
theorem d9_85 : oD k14 85 (.iload_n 3) 1 := by decide +kernel
theorem pd_14 : parseMethodDescriptor "(I)V" = some ⟨[.int], none⟩ := by decide +kernel
theorem d9_86 : oD k14 86 (.invokespecial 64) 3 := by decide +kernel
theorem d9_89 : oD k14 89 (.astore 4) 2 := by decide +kernel
theorem d9_91 : oD k14 91 (.iconst 0) 1 := by decide +kernel
theorem d9_92 : oD k14 92 (.istore 5) 2 := by decide +kernel
theorem d9_94 : oD k14 94 (.iconst 0) 1 := by decide +kernel
theorem d9_95 : oD k14 95 (.istore 6) 2 := by decide +kernel
theorem d9_212 : oD k14 212 (.aload 4) 2 := by decide +kernel
theorem d9_214 : oD k14 214 .areturn 1 := by decide +kernel
theorem ef_rm_rep (m : MethodId) (a1 : Addr) : entryFrame m #[(.ref a1)] 11 = mkF m 0 #[vR a1, .unset, .unset, .unset, .unset, .unset, .unset, .unset, .unset, .unset, .unset] [] := by first | (simp [entryFrame, mkF, argsToLocals, Value.category]; done) | rfl
def Q_rm_rep (Z : State) (a1 : Addr) (φ : Nat → Int64) (rc : Addr) (lg : Addr) (p1 : Addr) (t1 : Addr) (p2 : Addr) (t2 : Addr) (R : List Nat) (B : List Bool) (P : List Nat) (F : List Nat) (h0 : Heap) (n0 : Nat) (v : Option Value) (h : Heap) (L : List Loc) : Prop := ∃ rp f1 f2 f3 : Addr, v = some (.ref rp) ∧ Fr n0 L ∧ n0 ≤ h.size ∧ (Exa Z h rp cR ∧ Fld Z h rp cR "fingerprints" "[J" (.ref f1) ∧ Fld Z h rp cR "rows" "[I" (.ref f2) ∧ Fld Z h rp cR "near" "[Z" (.ref f3) ∧ Fld Z h rp cR "size" "I" (.int (own_i ((own_rp (own_sort P) (own_sort F) 4 0 0 [] [] [] false).1).length)) ∧ Fld Z h rp cR "anyFar" "Z" (.int (own_b2 (own_rp (own_sort P) (own_sort F) 4 0 0 [] [] [] false).2.2.2)) ∧ VG Z h f1 .long (own_cn (own_sort P) 4 0) (fun r => .long (φ r)) 0 (own_rp (own_sort P) (own_sort F) 4 0 0 [] [] [] false).1 ∧ VG Z h f2 .int (own_cn (own_sort P) 4 0) (fun r => .int (own_i r)) 0 (own_rp (own_sort P) (own_sort F) 4 0 0 [] [] [] false).2.1 ∧ VG Z h f3 .boolean (own_cn (own_sort P) 4 0) (fun b => .int (own_b2 b)) false (own_rp (own_sort P) (own_sort F) 4 0 0 [] [] [] false).2.2.1) ∧ ((own_rp (own_sort P) (own_sort F) 4 0 0 [] [] [] false).1.length = (own_cn (own_sort P) 4 0) ∧ (own_rp (own_sort P) (own_sort F) 4 0 0 [] [] [] false).2.1.length = (own_cn (own_sort P) 4 0) ∧ (own_rp (own_sort P) (own_sort F) 4 0 0 [] [] [] false).2.2.1.length = (own_cn (own_sort P) 4 0) ∧ ∀ x ∈ (own_rp (own_sort P) (own_sort F) 4 0 0 [] [] [] false).1, x < 4) ∧ (own_cn (own_sort P) 4 0) ≤ 2
set_option maxRecDepth 65536 in
set_option maxHeartbeats 40000000 in
theorem rm_rep (l : Launch) (Z : State) (a0 : Array Value) (hw : ∀ d ∈ tables_1, d.before a0 Z = true) (ws : List Jvm.Cond) (a1 : Addr) (φ : Nat → Int64) (rc : Addr) (lg : Addr) (p1 : Addr) (t1 : Addr) (p2 : Addr) (t2 : Addr) (R : List Nat) (B : List Bool) (P : List Nat) (F : List Nat) (h0 : Heap) (n0 : Nat) (Z0 : n0 ≤ h0.size) (Ea : Exa Z h0 a1 cP) (Fq : Fld Z h0 a1 cP "recent" "[J" (.ref rc)) (Fl : Fld Z h0 a1 cP "recentLeading" "[Z" (.ref lg)) (Fp : Fld Z h0 a1 cP "periods" cD (.ref p1)) (Ff : Fld Z h0 a1 cP "followers" cD (.ref p2)) (Fn : Fld Z h0 a1 cP "seen" "I" (.int (own_i (R).length))) (VR : VG Z h0 rc .long 16 (fun r => .long (φ r)) 0 R) (VB : VG Z h0 lg .boolean 16 (fun b => .int (own_b2 b)) false B) (E1 : Exa Z h0 p1 cF) (Pv : Fld Z h0 p1 cF "values" "[J" (.ref t1)) (Ps : Fld Z h0 p1 cF "size" "I" (.int (own_i (P).length))) (VP : VG Z h0 t1 .long 1024 (fun r => .long (φ r)) 0 P) (E2 : Exa Z h0 p2 cF) (Qv : Fld Z h0 p2 cF "values" "[J" (.ref t2)) (Qs : Fld Z h0 p2 cF "size" "I" (.int (own_i (F).length))) (VF : VG Z h0 t2 .long 1024 (fun r => .long (φ r)) 0 F) (ND : own_nd n0 a1 rc lg p1 t1 p2 t2) (H : own_mono φ) (okP : own_ok P) (okF : own_ok F) :
  MetFree l (⟨cP, "repeats", "()Lcom/example/workaday_tariff/workadaytariff/engine/PeriodCensus$Repeats;"⟩ : MethodName) (head1 (Jvm.Cond.code (⟨cP, "repeats", "()Lcom/example/workaday_tariff/workadaytariff/engine/PeriodCensus$Repeats;"⟩ : MethodName) prog_41_method_4_code 11 (some (.object cR)) :: ws) rM14) (fun a U => a = #[(.ref a1)] ∧ Z.Warmed39 U.vm ∧ U.heap = h0) (fun _ _ _ _ _ => True) (fun _ U oC U' => ∃ v L, oC = .returned v ∧ Q_rm_rep Z a1 φ rc lg p1 t1 p2 t2 R B P F h0 n0 v U'.heap L ∧ FrameEnd U oC U' L rM14.cells rM14.slots) := by
 refine MetFree.of_bodySF (plainFor_of_name pn_1) hisR ?_
 intro p e s m args below meth c s₁ Bd hml0 hP hK
 obtain ⟨rfl, hZ, hh⟩ := hP
 have hx := Bd.exec
 have hby := Bd.bytes
 have hml : c.maxLocals = 11 := hml0
 have hown : s.vm.findClass cP = some m.cls := findClass_of_methodNamed Bd.named
 have hnm := (name_of_methodNamed Bd.named Bd.method).1
 have X0 : Stand p l e rM14 s m #[(.ref a1)] below meth c s₁ [] 0 0 := Stand.of_body Bd
 have e0 : s₁.heap = h0 := by rw [← hh, Bd.state]; rfl
 have N0 := Fr.nil n0
 have pre0 : Sq p e below (s₁.setTop (mkF m 0 #[vR a1, .unset, .unset, .unset, .unset, .unset, .unset, .unset, .unset, .unset, .unset] [])) (s₁.setTop (entryFrame m #[(.ref a1)] 11)) := fun t k => castTop (ef_rm_rep m a1) k
 have pre00 : Sq p e below (s₁.setTop (mkF m 0 #[vR a1, .unset, .unset, .unset, .unset, .unset, .unset, .unset, .unset, .unset, .unset] [])) (s₁.setTop (mkF m 0 #[vR a1, .unset, .unset, .unset, .unset, .unset, .unset, .unset, .unset, .unset, .unset] [])) := fun _ k => k
 obtain ⟨ne_a1_rc, ne_a1_lg, ne_a1_p1, ne_a1_t1, ne_a1_p2, ne_a1_t2, ne_rc_lg, ne_rc_p1, ne_rc_t1, ne_rc_p2, ne_rc_t2, ne_lg_p1, ne_lg_t1, ne_lg_p2, ne_lg_t2, ne_p1_t1, ne_p1_p2, ne_p1_t2, ne_t1_p2, ne_t1_t2, ne_p2_t2, g_a1, g_rc, g_lg, g_p1, g_t1, g_p2, g_t2⟩ := id ND
 have R624 := fun (tg : State) (kt : Steps p.tables e below (s₁.setTop (mkF m 1 #[vR a1, .unset, .unset, .unset, .unset, .unset, .unset, .unset, .unset, .unset, .unset] [(.ref a1)])) tg) => pre00 tg (by
  show Steps _ _ _ (s₁.setTop (mkF m 0 #[vR a1, .unset, .unset, .unset, .unset, .unset, .unset, .unset, .unset, .unset, .unset] [])) _
  refine XS.aloadN X0.here hx rfl (hb hby d9_0) rfl rfl ?_
  exact kt)
 obtain ⟨T625, X625, e625, st625⟩ := getF X0 hx hZ hown (host := "") (Or.inl (oW hw 24 rfl)) Via.refl e0 Fp (g := (mkF m 1 #[vR a1, .unset, .unset, .unset, .unset, .unset, .unset, .unset, .unset, .unset, .unset] [(.ref a1)])) rfl rfl (hb hby d9_1)
 have R626 := fun (tg : State) (kt : Steps p.tables e below (T625.setTop (mkF m 6 #[vR a1, vR p1, .unset, .unset, .unset, .unset, .unset, .unset, .unset, .unset, .unset] [(.ref a1)])) tg) => R624 tg (by
  refine st625 _ ?_
  show Steps _ _ _ (T625.setTop (mkF m 4 #[vR a1, .unset, .unset, .unset, .unset, .unset, .unset, .unset, .unset, .unset, .unset] [(.ref p1)])) _
  refine XS.astoreN X625.here hx rfl (hb hby d9_4) rfl rfl (l' := #[vR a1, vR p1, .unset, .unset, .unset, .unset, .unset, .unset, .unset, .unset, .unset]) rfl ?_
  refine XS.aloadN X625.here hx rfl (hb hby d9_5) rfl rfl ?_
  exact kt)
 clear R624 st625
 obtain ⟨T627, X627, e627, st627⟩ := getF X625 hx hZ hown (host := "") (Or.inl (oW hw 26 rfl)) Via.refl e625 Ff (g := (mkF m 6 #[vR a1, vR p1, .unset, .unset, .unset, .unset, .unset, .unset, .unset, .unset, .unset] [(.ref a1)])) rfl rfl (hb hby d9_6)
 have R628 := fun (tg : State) (kt : Steps p.tables e below (T627.setTop (mkF m 11 #[vR a1, vR p1, vR p2, .unset, .unset, .unset, .unset, .unset, .unset, .unset, .unset] [(.ref a1)])) tg) => R626 tg (by
  refine st627 _ ?_
  show Steps _ _ _ (T627.setTop (mkF m 9 #[vR a1, vR p1, .unset, .unset, .unset, .unset, .unset, .unset, .unset, .unset, .unset] [(.ref p2)])) _
  refine XS.astoreN X627.here hx rfl (hb hby d9_9) rfl rfl (l' := #[vR a1, vR p1, vR p2, .unset, .unset, .unset, .unset, .unset, .unset, .unset, .unset]) rfl ?_
  refine XS.aloadN X627.here hx rfl (hb hby d9_10) rfl rfl ?_
  exact kt)
 clear R626 st627
 obtain ⟨T629, h629, X629, e629, E629, A629, D629, -, st629⟩ := newO X627 hx hZ hown (oW hw 15 rfl) (oW hw 16 rfl) (oW hw 17 rfl) e627 (g := (mkF m 11 #[vR a1, vR p1, vR p2, .unset, .unset, .unset, .unset, .unset, .unset, .unset, .unset] [(.ref a1)])) rfl (hb hby d9_11) (by decide) (by decide)
 obtain ⟨n1, g629⟩ : ∃ z, z = h0.size := ⟨_, rfl⟩
 rw [← g629] at A629 D629 st629
 have E_n1 := A629
 have g_n1 : n0 ≤ n1 := Nat.le_trans Z0 (Nat.le_of_eq g629.symm)
 have ne_a1_n1 : a1 ≠ n1 := Nat.ne_of_lt (Nat.lt_of_lt_of_le Ea.lt (Nat.le_of_eq g629.symm))
 have ne_p1_n1 : p1 ≠ n1 := Nat.ne_of_lt (Nat.lt_of_lt_of_le E1.lt (Nat.le_of_eq g629.symm))
 have ne_t1_n1 : t1 ≠ n1 := Nat.ne_of_lt (Nat.lt_of_lt_of_le VP.lt (Nat.le_of_eq g629.symm))
 have ne_p2_n1 : p2 ≠ n1 := Nat.ne_of_lt (Nat.lt_of_lt_of_le E2.lt (Nat.le_of_eq g629.symm))
 have ne_t2_n1 : t2 ≠ n1 := Nat.ne_of_lt (Nat.lt_of_lt_of_le VF.lt (Nat.le_of_eq g629.symm))
 have E_a1_629 := Ea.ext E629
 have Fp_629 := Fp.ext E629
 have Ff_629 := Ff.ext E629
 have E_p1_629 := E1.ext E629
 have Pv_629 := Pv.ext E629
 have Ps_629 := Ps.ext E629
 have VP_629 := VP.ext E629
 have E_p2_629 := E2.ext E629
 have Qv_629 := Qv.ext E629
 have Qs_629 := Qs.ext E629
 have VF_629 := VF.ext E629
 have Zs629 : n0 ≤ h629.size := Nat.le_trans Z0 E629.1
 have Xv : Fld Z h629 n1 cF "values" "[J" .null := D629 (Or.inl (oW hw 23 rfl)) (ty := (.array .long)) (by decide)
 have Xs : Fld Z h629 n1 cF "size" "I" (.int (0 : Int32)) := D629 (Or.inl (oW hw 43 rfl)) (ty := .int) (by decide)
 have R630 := fun (tg : State) (kt : Steps p.tables e below (T629.setTop (mkF m 15 #[vR a1, vR p1, vR p2, .unset, .unset, .unset, .unset, .unset, .unset, .unset, .unset] [(.ref n1), (.ref n1), (.ref a1)])) tg) => R628 tg (by
  refine st629 _ ?_
  refine XS.dup X629.here hx rfl (hb hby d9_14) rfl rfl ?_
  exact kt)
 clear R628 st629
 obtain ⟨_, _, ⟨T631, L631, k631, n631⟩, -, X631, ⟨Lc631, hQ631, l631, y631, z631⟩, st631⟩ := own_specRef X629 hx hZ (y := (⟨cF, "<init>", "()V"⟩ : MethodName)) rfl hown (oW hw 18 rfl) (oW hw 19 rfl) (oW hw 20 rfl) (by decide) (backOf (W := 2) (rm_fpi l Z a0 hw [] n1 φ h629 n0 Zs629 E_n1 Xv Xs g_n1) hZ (oW hw 20 rfl) (oW hw 17 rfl) (by decide) (by decide)) (g := (mkF m 15 #[vR a1, vR p1, vR p2, .unset, .unset, .unset, .unset, .unset, .unset, .unset, .unset] [(.ref n1), (.ref n1), (.ref a1)])) rfl (by rw [hml]; rfl) (a := n1) (argsL := []) (rest := [(.ref n1), (.ref a1)]) (lenOf pd_0 rfl) rfl (by show 2 * 0 + _ ≤ _; exact Nat.le_of_eq rfl) (hb hby d9_15) (fun _ _ => ⟨rfl, e629, (by decide : 1 + 1 ≤ _), (by decide : 2 + 1024 ≤ _)⟩)
 dsimp only [Pt.U, Pt.locs, Pt.cells, Pt.slots] at X631 l631 y631 z631 st631 hQ631
 rw [l631, y631, z631] at X631
 obtain ⟨t3, rfl, N631q, sz_t3, K631, -, -, -, -⟩ := hQ631
 have N631 := Fr.app N0 N631q
 have E_a1_632 := E_a1_629.keep K631
 have Fp_632 := Fp_629.keep K631 (own_notin1 ne_a1_n1)
 have Ff_632 := Ff_629.keep K631 (own_notin1 ne_a1_n1)
 have E_p1_632 := E_p1_629.keep K631
 have Pv_632 := Pv_629.keep K631 (own_notin1 ne_p1_n1)
 have Ps_632 := Ps_629.keep K631 (own_notin1 ne_p1_n1)
 have VP_632 := VP_629.keep K631 (own_notin1 ne_t1_n1)
 have E_p2_632 := E_p2_629.keep K631
 have Qv_632 := Qv_629.keep K631 (own_notin1 ne_p2_n1)
 have Qs_632 := Qs_629.keep K631 (own_notin1 ne_p2_n1)
 have VF_632 := VF_629.keep K631 (own_notin1 ne_t2_n1)
 clear E_a1_629 Fp_629 Ff_629 E_p1_629 Pv_629 Ps_629 VP_629 E_p2_629 Qv_629 Qs_629 VF_629
 have Zs632 : n0 ≤ T631.heap.size := Nat.le_trans Zs629 K631.1
 have R633 := fun (tg : State) (kt : Steps p.tables e below (T631.setTop (mkF m 18 #[vR a1, vR p1, vR p2, .unset, .unset, .unset, .unset, .unset, .unset, .unset, .unset] [(.ref n1), (.ref a1)])) tg) => R630 tg (by
  refine st631.trans ?_
  exact kt)
 clear R630 st631
 obtain ⟨T634, h634, X634, e634, W634, st634⟩ := putF X631 hx hZ hown (host := "") (Or.inl (oW hw 24 rfl)) Via.refl rfl Fp_632 E_a1_632 (Or.inl (oW hw 25 rfl)) (oW hw 1 rfl) (ty := (.object cF)) (by decide) rfl rfl (g := (mkF m 18 #[vR a1, vR p1, vR p2, .unset, .unset, .unset, .unset, .unset, .unset, .unset, .unset] [(.ref n1), (.ref a1)])) rfl rfl (hb hby d9_18)
 have N634 := Fr.snoc X634 N631 g_a1
 have Fp_634 := Fp_632.same W634
 have E_a1_634 := E_a1_632.wr W634
 have Ff_634 := Ff_632.other W634 (Or.inr (slot_ne (Or.inl (oW hw 27 rfl)) (Or.inl (oW hw 25 rfl)) (by decide) (t := (.object cF)) (t' := (.object cF)) (by decide) (by decide)))
 have E_p1_634 := E_p1_632.wr W634
 have Pv_634 := Pv_632.other W634 (Or.inl (Ne.symm ne_a1_p1))
 have Ps_634 := Ps_632.other W634 (Or.inl (Ne.symm ne_a1_p1))
 have VP_634 := VP_632.other W634 (Ne.symm ne_a1_t1)
 have E_p2_634 := E_p2_632.wr W634
 have Qv_634 := Qv_632.other W634 (Or.inl (Ne.symm ne_a1_p2))
 have Qs_634 := Qs_632.other W634 (Or.inl (Ne.symm ne_a1_p2))
 have VF_634 := VF_632.other W634 (Ne.symm ne_a1_t2)
 clear E_a1_632 Ff_632 E_p1_632 Pv_632 Ps_632 VP_632 E_p2_632 Qv_632 Qs_632 VF_632
 have Zs634 : n0 ≤ h634.size := Nat.le_trans Zs632 (Keep.of_wr W634).1
 have R635 := fun (tg : State) (kt : Steps p.tables e below (T634.setTop (mkF m 22 #[vR a1, vR p1, vR p2, .unset, .unset, .unset, .unset, .unset, .unset, .unset, .unset] [(.ref a1)])) tg) => R633 tg (by
  refine st634 _ ?_
  refine XS.aloadN X634.here hx rfl (hb hby d9_21) rfl rfl ?_
  exact kt)
 clear R633 st634
 obtain ⟨T636, h636, X636, e636, E636, A636, D636, -, st636⟩ := newO X634 hx hZ hown (oW hw 15 rfl) (oW hw 16 rfl) (oW hw 17 rfl) e634 (g := (mkF m 22 #[vR a1, vR p1, vR p2, .unset, .unset, .unset, .unset, .unset, .unset, .unset, .unset] [(.ref a1)])) rfl (hb hby d9_22) (by decide) (by decide)
 obtain ⟨n2, g636⟩ : ∃ z, z = h634.size := ⟨_, rfl⟩
 rw [← g636] at A636 D636 st636
 have E_n2 := A636
 have g_n2 : n0 ≤ n2 := Nat.le_trans Zs634 (Nat.le_of_eq g636.symm)
 have ne_a1_n2 : a1 ≠ n2 := Nat.ne_of_lt (Nat.lt_of_lt_of_le E_a1_634.lt (Nat.le_of_eq g636.symm))
 have ne_p1_n2 : p1 ≠ n2 := Nat.ne_of_lt (Nat.lt_of_lt_of_le E_p1_634.lt (Nat.le_of_eq g636.symm))
 have ne_t1_n2 : t1 ≠ n2 := Nat.ne_of_lt (Nat.lt_of_lt_of_le VP_634.lt (Nat.le_of_eq g636.symm))
 have ne_p2_n2 : p2 ≠ n2 := Nat.ne_of_lt (Nat.lt_of_lt_of_le E_p2_634.lt (Nat.le_of_eq g636.symm))
 have ne_t2_n2 : t2 ≠ n2 := Nat.ne_of_lt (Nat.lt_of_lt_of_le VF_634.lt (Nat.le_of_eq g636.symm))
 have E_a1_636 := E_a1_634.ext E636
 have Fp_636 := Fp_634.ext E636
 have Ff_636 := Ff_634.ext E636
 have E_p1_636 := E_p1_634.ext E636
 have Pv_636 := Pv_634.ext E636
 have Ps_636 := Ps_634.ext E636
 have VP_636 := VP_634.ext E636
 have E_p2_636 := E_p2_634.ext E636
 have Qv_636 := Qv_634.ext E636
 have Qs_636 := Qs_634.ext E636
 have VF_636 := VF_634.ext E636
 clear E_a1_634 Fp_634 Ff_634 E_p1_634 Pv_634 Ps_634 VP_634 E_p2_634 Qv_634 Qs_634 VF_634
 have Zs636 : n0 ≤ h636.size := Nat.le_trans Zs634 E636.1
 have Xv : Fld Z h636 n2 cF "values" "[J" .null := D636 (Or.inl (oW hw 23 rfl)) (ty := (.array .long)) (by decide)
 have Xs : Fld Z h636 n2 cF "size" "I" (.int (0 : Int32)) := D636 (Or.inl (oW hw 43 rfl)) (ty := .int) (by decide)
 have R637 := fun (tg : State) (kt : Steps p.tables e below (T636.setTop (mkF m 26 #[vR a1, vR p1, vR p2, .unset, .unset, .unset, .unset, .unset, .unset, .unset, .unset] [(.ref n2), (.ref n2), (.ref a1)])) tg) => R635 tg (by
  refine st636 _ ?_
  show Steps _ _ _ (T636.setTop (mkF m 25 #[vR a1, vR p1, vR p2, .unset, .unset, .unset, .unset, .unset, .unset, .unset, .unset] [(.ref n2), (.ref a1)])) _
  refine XS.dup X636.here hx rfl (hb hby d9_25) rfl rfl ?_
  exact kt)
 clear R635 st636
 obtain ⟨_, _, ⟨T638, L638, k638, n638⟩, -, X638, ⟨Lc638, hQ638, l638, y638, z638⟩, st638⟩ := own_specRef X636 hx hZ (y := (⟨cF, "<init>", "()V"⟩ : MethodName)) rfl hown (oW hw 18 rfl) (oW hw 19 rfl) (oW hw 20 rfl) (by decide) (backOf (W := 2) (rm_fpi l Z a0 hw [] n2 φ h636 n0 Zs636 E_n2 Xv Xs g_n2) hZ (oW hw 20 rfl) (oW hw 17 rfl) (by decide) (by decide)) (g := (mkF m 26 #[vR a1, vR p1, vR p2, .unset, .unset, .unset, .unset, .unset, .unset, .unset, .unset] [(.ref n2), (.ref n2), (.ref a1)])) rfl (by rw [hml]; rfl) (a := n2) (argsL := []) (rest := [(.ref n2), (.ref a1)]) (lenOf pd_0 rfl) rfl (by show 2 * 0 + _ ≤ _; exact Nat.le_of_eq rfl) (hb hby d9_26) (fun _ _ => ⟨rfl, e636, (by decide : 3 + 1 ≤ _), (by decide : 1028 + 1024 ≤ _)⟩)
 dsimp only [Pt.U, Pt.locs, Pt.cells, Pt.slots] at X638 l638 y638 z638 st638 hQ638
 rw [l638, y638, z638] at X638
 obtain ⟨t4, rfl, N638q, sz_t4, K638, -, -, -, -⟩ := hQ638
 have N638 := Fr.app N634 N638q
 have E_a1_639 := E_a1_636.keep K638
 have Fp_639 := Fp_636.keep K638 (own_notin1 ne_a1_n2)
 have Ff_639 := Ff_636.keep K638 (own_notin1 ne_a1_n2)
 have E_p1_639 := E_p1_636.keep K638
 have Pv_639 := Pv_636.keep K638 (own_notin1 ne_p1_n2)
 have Ps_639 := Ps_636.keep K638 (own_notin1 ne_p1_n2)
 have VP_639 := VP_636.keep K638 (own_notin1 ne_t1_n2)
 have E_p2_639 := E_p2_636.keep K638
 have Qv_639 := Qv_636.keep K638 (own_notin1 ne_p2_n2)
 have Qs_639 := Qs_636.keep K638 (own_notin1 ne_p2_n2)
 have VF_639 := VF_636.keep K638 (own_notin1 ne_t2_n2)
 clear E_a1_636 Fp_636 Ff_636 E_p1_636 Pv_636 Ps_636 VP_636 E_p2_636 Qv_636 Qs_636 VF_636
 have Zs639 : n0 ≤ T638.heap.size := Nat.le_trans Zs636 K638.1
 have R640 := fun (tg : State) (kt : Steps p.tables e below (T638.setTop (mkF m 29 #[vR a1, vR p1, vR p2, .unset, .unset, .unset, .unset, .unset, .unset, .unset, .unset] [(.ref n2), (.ref a1)])) tg) => R637 tg (by
  refine st638.trans ?_
  exact kt)
 clear R637 st638
 obtain ⟨T641, h641, X641, e641, W641, st641⟩ := putF X638 hx hZ hown (host := "") (Or.inl (oW hw 26 rfl)) Via.refl rfl Ff_639 E_a1_639 (Or.inl (oW hw 27 rfl)) (oW hw 1 rfl) (ty := (.object cF)) (by decide) rfl rfl (g := (mkF m 29 #[vR a1, vR p1, vR p2, .unset, .unset, .unset, .unset, .unset, .unset, .unset, .unset] [(.ref n2), (.ref a1)])) rfl rfl (hb hby d9_29)
 have N641 := Fr.snoc X641 N638 g_a1
 have Ff_641 := Ff_639.same W641
 have E_a1_641 := E_a1_639.wr W641
 have Fp_641 := Fp_639.other W641 (Or.inr (slot_ne (Or.inl (oW hw 25 rfl)) (Or.inl (oW hw 27 rfl)) (by decide) (t := (.object cF)) (t' := (.object cF)) (by decide) (by decide)))
 have E_p1_641 := E_p1_639.wr W641
 have Pv_641 := Pv_639.other W641 (Or.inl (Ne.symm ne_a1_p1))
 have Ps_641 := Ps_639.other W641 (Or.inl (Ne.symm ne_a1_p1))
 have VP_641 := VP_639.other W641 (Ne.symm ne_a1_t1)
 have E_p2_641 := E_p2_639.wr W641
 have Qv_641 := Qv_639.other W641 (Or.inl (Ne.symm ne_a1_p2))
 have Qs_641 := Qs_639.other W641 (Or.inl (Ne.symm ne_a1_p2))
 have VF_641 := VF_639.other W641 (Ne.symm ne_a1_t2)
 clear E_a1_639 Fp_639 E_p1_639 Pv_639 Ps_639 VP_639 E_p2_639 Qv_639 Qs_639 VF_639
 have Zs641 : n0 ≤ h641.size := Nat.le_trans Zs639 (Keep.of_wr W641).1
 have R642 := fun (tg : State) (kt : Steps p.tables e below (T641.setTop (mkF m 33 #[vR a1, vR p1, vR p2, .unset, .unset, .unset, .unset, .unset, .unset, .unset, .unset] [(.ref p1)])) tg) => R640 tg (by
  refine st641 _ ?_
  refine XS.aloadN X641.here hx rfl (hb hby d9_32) rfl rfl ?_
  exact kt)
 clear R640 st641
 obtain ⟨cq643, kq643, q643a, q643b, q643c⟩ := isOf hZ e641 E_p1_641
 obtain ⟨_, _, ⟨T643, L643, k643, n643⟩, -, X643, ⟨Lc643, hQ643, l643, y643, z643⟩, st643⟩ := X641.virtualBack hx (y := (⟨cF, "sort", "()V"⟩ : MethodName)) (z := (⟨cF, "sort", "()V"⟩ : MethodName)) hown (mvT hZ (oW hw 59 rfl)) (mvT hZ (oW hw 60 rfl)) (notFace_of_selects (args := #[]) (mvT hZ (oW hw 62 rfl))) (mvT hZ (oW hw 62 rfl)) (mvT hZ (oW hw 61 rfl)) (by decide) (backOf (W := 0) (rm_fso l Z a0 hw [] p1 φ t1 P h641 n0 Zs641 E_p1_641 Pv_641 Ps_641 VP_641 g_t1 H okP) hZ (oW hw 63 rfl) (oW hw 17 rfl) (by decide) (by decide)) q643a q643c (g := (mkF m 33 #[vR a1, vR p1, vR p2, .unset, .unset, .unset, .unset, .unset, .unset, .unset, .unset] [(.ref p1)])) rfl (by rw [hml]; rfl) (Steps.refl _) (argsL := []) (rest := []) (lenOf pd_0 rfl) rfl (by show 2 * 0 + _ ≤ _; exact Nat.le_of_eq rfl) (hb hby d9_33) (fun _ _ => ⟨rfl, e641, (by decide : 4 + 0 ≤ _), (by decide : 2052 + 0 ≤ _)⟩)
 dsimp only [Pt.U, Pt.locs, Pt.cells, Pt.slots] at X643 l643 y643 z643 st643 hQ643
 rw [l643, y643, z643] at X643
 obtain ⟨rfl, N643q, K643, V643s⟩ := hQ643
 have N643 := Fr.app N641 N643q
 have E_p1_644 := E_p1_641.keep K643
 have Pv_644 := Pv_641.keep K643 (own_notin1 ne_p1_t1)
 have Ps_644 := Ps_641.keep K643 (own_notin1 ne_p1_t1)
 have E_p2_644 := E_p2_641.keep K643
 have Qv_644 := Qv_641.keep K643 (own_notin1 (Ne.symm ne_t1_p2))
 have Qs_644 := Qs_641.keep K643 (own_notin1 (Ne.symm ne_t1_p2))
 have VF_644 := VF_641.keep K643 (own_notin1 (Ne.symm ne_t1_t2))
 clear E_p1_641 Pv_641 Ps_641 E_p2_641 Qv_641 Qs_641 VF_641
 have Zs644 : n0 ≤ T643.heap.size := Nat.le_trans Zs641 K643.1
 have R645 := fun (tg : State) (kt : Steps p.tables e below (T643.setTop (mkF m 37 #[vR a1, vR p1, vR p2, .unset, .unset, .unset, .unset, .unset, .unset, .unset, .unset] [(.ref p2)])) tg) => R642 tg (by
  refine st643.trans ?_
  refine XS.aloadN X643.here hx rfl (hb hby d9_36) rfl rfl ?_
  exact kt)
 clear R642 st643
 obtain ⟨cq646, kq646, q646a, q646b, q646c⟩ := isOf hZ rfl E_p2_644
 obtain ⟨_, _, ⟨T646, L646, k646, n646⟩, -, X646, ⟨Lc646, hQ646, l646, y646, z646⟩, st646⟩ := X643.virtualBack hx (y := (⟨cF, "sort", "()V"⟩ : MethodName)) (z := (⟨cF, "sort", "()V"⟩ : MethodName)) hown (mvT hZ (oW hw 59 rfl)) (mvT hZ (oW hw 60 rfl)) (notFace_of_selects (args := #[]) (mvT hZ (oW hw 62 rfl))) (mvT hZ (oW hw 62 rfl)) (mvT hZ (oW hw 61 rfl)) (by decide) (backOf (W := 0) (rm_fso l Z a0 hw [] p2 φ t2 F T643.heap n0 Zs644 E_p2_644 Qv_644 Qs_644 VF_644 g_t2 H okF) hZ (oW hw 63 rfl) (oW hw 17 rfl) (by decide) (by decide)) q646a q646c (g := (mkF m 37 #[vR a1, vR p1, vR p2, .unset, .unset, .unset, .unset, .unset, .unset, .unset, .unset] [(.ref p2)])) rfl (by rw [hml]; rfl) (Steps.refl _) (argsL := []) (rest := []) (lenOf pd_0 rfl) rfl (by show 2 * 0 + _ ≤ _; exact Nat.le_of_eq rfl) (hb hby d9_37) (fun _ _ => ⟨rfl, rfl, (by decide : 4 + 0 ≤ _), (by decide : 2052 + 0 ≤ _)⟩)
 dsimp only [Pt.U, Pt.locs, Pt.cells, Pt.slots] at X646 l646 y646 z646 st646 hQ646
 rw [l646, y646, z646] at X646
 obtain ⟨rfl, N646q, K646, V646s⟩ := hQ646
 have N646 := Fr.app N643 N646q
 have E_p1_647 := E_p1_644.keep K646
 have Pv_647 := Pv_644.keep K646 (own_notin1 ne_p1_t2)
 have Ps_647 := Ps_644.keep K646 (own_notin1 ne_p1_t2)
 have E_p2_647 := E_p2_644.keep K646
 have Qv_647 := Qv_644.keep K646 (own_notin1 ne_p2_t2)
 have Qs_647 := Qs_644.keep K646 (own_notin1 ne_p2_t2)
 have VP_647 := V643s.keep K646 (own_notin1 ne_t1_t2)
 clear E_p1_644 Pv_644 Ps_644 E_p2_644 Qv_644 Qs_644
 have Zs647 : n0 ≤ T646.heap.size := Nat.le_trans Zs644 K646.1
 have R648 := fun (tg : State) (kt : Steps p.tables e below (T646.setTop (mkF m 45 #[vR a1, vR p1, vR p2, vI (0 : Int32), vI (0 : Int32), .unset, .unset, .unset, .unset, .unset, .unset] [])) tg) => R645 tg (by
  refine st646.trans ?_
  refine XS.iconst X646.here hx rfl (hb hby d9_40) ?_
  show Steps _ _ _ (T646.setTop (mkF m 41 #[vR a1, vR p1, vR p2, .unset, .unset, .unset, .unset, .unset, .unset, .unset, .unset] [(.int (0 : Int32))])) _
  refine XS.istoreN X646.here hx rfl (hb hby d9_41) rfl (l' := #[vR a1, vR p1, vR p2, vI (0 : Int32), .unset, .unset, .unset, .unset, .unset, .unset, .unset]) rfl ?_
  refine XS.iconst X646.here hx rfl (hb hby d9_42) ?_
  show Steps _ _ _ (T646.setTop (mkF m 43 #[vR a1, vR p1, vR p2, vI (0 : Int32), .unset, .unset, .unset, .unset, .unset, .unset, .unset] [(.int (0 : Int32))])) _
  refine XS.istore X646.here hx rfl (hb hby d9_43) rfl (l' := #[vR a1, vR p1, vR p2, vI (0 : Int32), vI (0 : Int32), .unset, .unset, .unset, .unset, .unset, .unset]) rfl ?_
  exact kt)
 clear R645 st646
 obtain ⟨N_, hN_⟩ : ∃ z : List Nat, z = own_sort P := ⟨_, rfl⟩
 have okN_ : own_ok N_ := by rw [hN_]; exact (own_sort_ok okP).1
 have Psz : Fld Z T646.heap p1 cF "size" "I" (.int (own_i (N_).length)) := by rw [hN_, (own_sort_ok okP).2]; exact Ps_647
 have VPz : VG Z T646.heap t1 .long 1024 (fun r => .long (φ r)) 0 N_ := by rw [hN_]; exact VP_647
 obtain ⟨W_, hW_⟩ : ∃ z : List Nat, z = own_sort F := ⟨_, rfl⟩
 have okW_ : own_ok W_ := by rw [hW_]; exact (own_sort_ok okF).1
 have Qsz : Fld Z T646.heap p2 cF "size" "I" (.int (own_i (W_).length)) := by rw [hW_, (own_sort_ok okF).2]; exact Qs_647
 have VFz : VG Z T646.heap t2 .long 1024 (fun r => .long (φ r)) 0 W_ := by rw [hW_]; exact V646s
 have R649 := fun (tg : State) (kt : Steps p.tables e below (T646.setTop (mkF m 45 #[vR a1, vR p1, vR p2, vI (own_i 0), vI (own_i 0), .unset, .unset, .unset, .unset, .unset, .unset] [])) tg) => R648 tg kt
 clear R648
 obtain ⟨T650, L650, zz650, X650, e650, N650, hz650, st650⟩ := lp_r1L 4 2052 φ a1 p1 p2 t1 N_ hx hZ hw hby hml hown (by decide) (by decide) Zs647 E_p1_647 Pv_647 Psz VPz H okN_ 4 0 0 .unset X646 rfl N646 okN_.1 (Nat.zero_le _) (Nat.le_refl _) (Or.inl rfl)
 have R651 := fun (tg : State) (kt : Steps p.tables e below (T650.setTop (mkF m 81 #[vR a1, vR p1, vR p2, vI (own_i (0 + own_cn N_ 4 0)), vI (own_i N_.length), zz650, .unset, .unset, .unset, .unset, .unset] [])) tg) => R649 tg (by
  refine st650 _ ?_
  exact kt)
 clear R649 st650
 obtain ⟨cap, hcap⟩ : ∃ z : Nat, z = own_cn N_ 4 0 := ⟨_, rfl⟩
 have cap2 : cap ≤ 2 := by have q := own_cn_b N_ 4 0; have r := okN_.1; omega
 have cap4 : cap ≤ 4 := Nat.le_trans cap2 (by decide)
 have R652 := fun (tg : State) (kt : Steps p.tables e below (T650.setTop (mkF m 81 #[vR a1, vR p1, vR p2, vI (own_i cap), vI (own_i N_.length), zz650, .unset, .unset, .unset, .unset, .unset] [])) tg) => R651 tg (by rw [Nat.zero_add, ← hcap]; exact kt)
 clear R651
 obtain ⟨T653, h653, X653, e653, E653, A653, D653, -, st653⟩ := newO X650 hx hZ hown (oW hw 91 rfl) (oW hw 92 rfl) (oW hw 93 rfl) e650 (g := (mkF m 81 #[vR a1, vR p1, vR p2, vI (own_i cap), vI (own_i N_.length), zz650, .unset, .unset, .unset, .unset, .unset] [])) rfl (hb hby d9_81) (by decide) (by decide)
 obtain ⟨rp, g653⟩ : ∃ z, z = T646.heap.size := ⟨_, rfl⟩
 rw [← g653] at A653 D653 st653
 have E_rp := A653
 have g_rp : n0 ≤ rp := Nat.le_trans Zs647 (Nat.le_of_eq g653.symm)
 have ne_p1_rp : p1 ≠ rp := Nat.ne_of_lt (Nat.lt_of_lt_of_le E_p1_647.lt (Nat.le_of_eq g653.symm))
 have ne_p2_rp : p2 ≠ rp := Nat.ne_of_lt (Nat.lt_of_lt_of_le E_p2_647.lt (Nat.le_of_eq g653.symm))
 have ne_t1_rp : t1 ≠ rp := Nat.ne_of_lt (Nat.lt_of_lt_of_le VPz.lt (Nat.le_of_eq g653.symm))
 have ne_t2_rp : t2 ≠ rp := Nat.ne_of_lt (Nat.lt_of_lt_of_le VFz.lt (Nat.le_of_eq g653.symm))
 have E_p1_653 := E_p1_647.ext E653
 have Pv_653 := Pv_647.ext E653
 have Ps_653 := Psz.ext E653
 have E_p2_653 := E_p2_647.ext E653
 have Qv_653 := Qv_647.ext E653
 have Qs_653 := Qsz.ext E653
 have VP_653 := VPz.ext E653
 have VF_653 := VFz.ext E653
 clear E_p1_647 Pv_647 E_p2_647 Qv_647
 have Zs653 : n0 ≤ h653.size := Nat.le_trans Zs647 E653.1
 have Gf : Fld Z h653 rp cR "fingerprints" "[J" .null := D653 (Or.inr (oW hw 99 rfl)) (ty := (.array .long)) (by decide)
 have Gr : Fld Z h653 rp cR "rows" "[I" .null := D653 (Or.inr (oW hw 102 rfl)) (ty := (.array .int)) (by decide)
 have Gn : Fld Z h653 rp cR "near" "[Z" .null := D653 (Or.inr (oW hw 104 rfl)) (ty := (.array .boolean)) (by decide)
 have Gs : Fld Z h653 rp cR "size" "I" (.int (0 : Int32)) := D653 (Or.inl (oW hw 127 rfl)) (ty := .int) (by decide)
 have Gy : Fld Z h653 rp cR "anyFar" "Z" (.int (0 : Int32)) := D653 (Or.inl (oW hw 150 rfl)) (ty := .boolean) (by decide)
 have R654 := fun (tg : State) (kt : Steps p.tables e below (T653.setTop (mkF m 86 #[vR a1, vR p1, vR p2, vI (own_i cap), vI (own_i N_.length), zz650, .unset, .unset, .unset, .unset, .unset] [(.int (own_i cap)), (.ref rp), (.ref rp)])) tg) => R652 tg (by
  refine st653 _ ?_
  refine XS.dup X653.here hx rfl (hb hby d9_84) rfl rfl ?_
  refine XS.iloadN X653.here hx rfl (hb hby d9_85) rfl ?_
  exact kt)
 clear R652 st653
 obtain ⟨_, _, ⟨T655, L655, k655, n655⟩, -, X655, ⟨Lc655, hQ655, l655, y655, z655⟩, st655⟩ := own_specRef X653 hx hZ (y := (⟨cR, "<init>", "(I)V"⟩ : MethodName)) rfl hown (oW hw 94 rfl) (oW hw 95 rfl) (oW hw 96 rfl) (by decide) (backOf (W := 1) (rm_rpi l Z a0 hw [] rp (own_i cap) φ cap h653 n0 Zs653 E_rp Gf Gr Gn Gs Gy g_rp rfl cap4) hZ (oW hw 96 rfl) (oW hw 93 rfl) (by decide) (by decide)) (g := (mkF m 86 #[vR a1, vR p1, vR p2, vI (own_i cap), vI (own_i N_.length), zz650, .unset, .unset, .unset, .unset, .unset] [(.int (own_i cap)), (.ref rp), (.ref rp)])) rfl (by rw [hml]; rfl) (a := rp) (argsL := [(.int (own_i cap))]) (rest := [(.ref rp)]) (lenOf pd_14 rfl) rfl (by show 2 * 0 + _ ≤ _; exact Nat.le_of_eq rfl) (hb hby d9_86) (fun _ _ => ⟨rfl, e653, (by decide : 5 + 3 ≤ _), (by decide : 2057 + 12 ≤ _)⟩)
 dsimp only [Pt.U, Pt.locs, Pt.cells, Pt.slots] at X655 l655 y655 z655 st655 hQ655
 rw [l655, y655, z655] at X655
 obtain ⟨f1, f2, f3, rfl, N655q, K655, sf1, sf2, sf3, RD, zEr, zGf, zGr, zGn, zGs, zGy, zWF, zWR, zWN⟩ := hQ655
 have N655 := Fr.app N650 N655q
 have g_f1 : n0 ≤ f1 := Nat.le_trans Zs653 sf1
 have ne_p1_f1 : p1 ≠ f1 := Nat.ne_of_lt (Nat.lt_of_lt_of_le E_p1_653.lt sf1)
 have ne_p2_f1 : p2 ≠ f1 := Nat.ne_of_lt (Nat.lt_of_lt_of_le E_p2_653.lt sf1)
 have ne_t1_f1 : t1 ≠ f1 := Nat.ne_of_lt (Nat.lt_of_lt_of_le VP_653.lt sf1)
 have ne_t2_f1 : t2 ≠ f1 := Nat.ne_of_lt (Nat.lt_of_lt_of_le VF_653.lt sf1)
 have ne_rp_f1 : rp ≠ f1 := Nat.ne_of_lt (Nat.lt_of_lt_of_le Gf.lt sf1)
 have g_f2 : n0 ≤ f2 := Nat.le_trans Zs653 sf2
 have ne_p1_f2 : p1 ≠ f2 := Nat.ne_of_lt (Nat.lt_of_lt_of_le E_p1_653.lt sf2)
 have ne_p2_f2 : p2 ≠ f2 := Nat.ne_of_lt (Nat.lt_of_lt_of_le E_p2_653.lt sf2)
 have ne_t1_f2 : t1 ≠ f2 := Nat.ne_of_lt (Nat.lt_of_lt_of_le VP_653.lt sf2)
 have ne_t2_f2 : t2 ≠ f2 := Nat.ne_of_lt (Nat.lt_of_lt_of_le VF_653.lt sf2)
 have ne_rp_f2 : rp ≠ f2 := Nat.ne_of_lt (Nat.lt_of_lt_of_le Gf.lt sf2)
 have g_f3 : n0 ≤ f3 := Nat.le_trans Zs653 sf3
 have ne_p1_f3 : p1 ≠ f3 := Nat.ne_of_lt (Nat.lt_of_lt_of_le E_p1_653.lt sf3)
 have ne_p2_f3 : p2 ≠ f3 := Nat.ne_of_lt (Nat.lt_of_lt_of_le E_p2_653.lt sf3)
 have ne_t1_f3 : t1 ≠ f3 := Nat.ne_of_lt (Nat.lt_of_lt_of_le VP_653.lt sf3)
 have ne_t2_f3 : t2 ≠ f3 := Nat.ne_of_lt (Nat.lt_of_lt_of_le VF_653.lt sf3)
 have ne_rp_f3 : rp ≠ f3 := Nat.ne_of_lt (Nat.lt_of_lt_of_le Gf.lt sf3)
 have E_p1_656 := E_p1_653.keep K655
 have Pv_656 := Pv_653.keep K655 (own_notin1 ne_p1_rp)
 have Ps_656 := Ps_653.keep K655 (own_notin1 ne_p1_rp)
 have E_p2_656 := E_p2_653.keep K655
 have Qv_656 := Qv_653.keep K655 (own_notin1 ne_p2_rp)
 have Qs_656 := Qs_653.keep K655 (own_notin1 ne_p2_rp)
 have VP_656 := VP_653.keep K655 (own_notin1 ne_t1_rp)
 have VF_656 := VF_653.keep K655 (own_notin1 ne_t2_rp)
 clear E_p1_653 Pv_653 Ps_653 E_p2_653 Qv_653 Qs_653 VP_653 VF_653
 have Zs656 : n0 ≤ T655.heap.size := Nat.le_trans Zs653 K655.1
 have R657 := fun (tg : State) (kt : Steps p.tables e below (T655.setTop (mkF m 97 #[vR a1, vR p1, vR p2, vI (own_i cap), vR rp, vI (0 : Int32), vI (0 : Int32), .unset, .unset, .unset, .unset] [])) tg) => R654 tg (by
  refine st655.trans ?_
  show Steps _ _ _ (T655.setTop (mkF m 89 #[vR a1, vR p1, vR p2, vI (own_i cap), vI (own_i N_.length), zz650, .unset, .unset, .unset, .unset, .unset] [(.ref rp)])) _
  refine XS.astore X655.here hx rfl (hb hby d9_89) rfl rfl (l' := #[vR a1, vR p1, vR p2, vI (own_i cap), vR rp, zz650, .unset, .unset, .unset, .unset, .unset]) rfl ?_
  refine XS.iconst X655.here hx rfl (hb hby d9_91) ?_
  show Steps _ _ _ (T655.setTop (mkF m 92 #[vR a1, vR p1, vR p2, vI (own_i cap), vR rp, zz650, .unset, .unset, .unset, .unset, .unset] [(.int (0 : Int32))])) _
  refine XS.istore X655.here hx rfl (hb hby d9_92) rfl (l' := #[vR a1, vR p1, vR p2, vI (own_i cap), vR rp, vI (0 : Int32), .unset, .unset, .unset, .unset, .unset]) (by rcases hz650 with rfl | ⟨_, rfl⟩ <;> rfl) ?_
  refine XS.iconst X655.here hx rfl (hb hby d9_94) ?_
  show Steps _ _ _ (T655.setTop (mkF m 95 #[vR a1, vR p1, vR p2, vI (own_i cap), vR rp, vI (0 : Int32), .unset, .unset, .unset, .unset, .unset] [(.int (0 : Int32))])) _
  refine XS.istore X655.here hx rfl (hb hby d9_95) rfl (l' := #[vR a1, vR p1, vR p2, vI (own_i cap), vR rp, vI (0 : Int32), vI (0 : Int32), .unset, .unset, .unset, .unset]) rfl ?_
  exact kt)
 clear R654 st655
 have R658 := fun (tg : State) (kt : Steps p.tables e below (T655.setTop (mkF m 97 #[vR a1, vR p1, vR p2, vI (own_i cap), vR rp, vI (own_i 0), vI (own_i 0), .unset, .unset, .unset, .unset] [])) tg) => R657 tg kt
 clear R657
 obtain ⟨T659, h659, L659, jj659, za659, zb659, zc659, zd659, X659, e659, N659, Zs659, ⟨yEr, yGf, yGr, yGn, yGs, yGy, yWF, yWR, yWN⟩, RL, st659⟩ := lp_r2L 8 2069 φ a1 p1 p2 t1 t2 rp f1 f2 f3 N_ W_ cap hx hZ hw hby hml hown (by decide) (by decide) H okN_ okW_ cap4 RD ⟨ne_p1_rp, ne_p1_f1, ne_p1_f2, ne_p1_f3, ne_t1_rp, ne_t1_f1, ne_t1_f2, ne_t1_f3, ne_p2_rp, ne_p2_f1, ne_p2_f2, ne_p2_f3, ne_t2_rp, ne_t2_f1, ne_t2_f2, ne_t2_f3⟩ 4 0 0 [] [] [] false .unset .unset .unset .unset X655 rfl N655 Zs656 E_p1_656 Pv_656 Ps_656 VP_656 E_p2_656 Qv_656 Qs_656 VF_656 zEr zGf zGr zGn zGs zGy zWF zWR zWN okN_.1 (Nat.zero_le _) (Nat.zero_le _) ((Nat.zero_add _).trans hcap.symm) rfl rfl (fun _ q => nomatch q) (Or.inl ⟨rfl, rfl, rfl, rfl⟩)
 have R660 := fun (tg : State) (kt : Steps p.tables e below (T659.setTop (mkF m 214 #[vR a1, vR p1, vR p2, vI (own_i cap), vR rp, vI (own_i jj659), vI (own_i N_.length), za659, zb659, zc659, zd659] [(.ref rp)])) tg) => R658 tg (by
  refine st659 _ ?_
  refine XS.aload X659.here hx rfl (hb hby d9_212) rfl rfl ?_
  exact kt)
 clear R658 st659
 obtain ⟨fs, hr, hrun, hended, hW, hsame⟩ := X659.leave (v := some (.ref rp)) (fun h => by rw [Bd.returns] at h; cases h)
 refine ⟨_, _, pre0 _ (R660 _ ?_), hrun, hended, _, _, rfl, ?_, ⟨_, rfl⟩, hW, hsame.mono (by decide) (by decide)⟩
 ·show Steps p.tables e below (T659.setTop (mkF m 214 #[vR a1, vR p1, vR p2, vI (own_i cap), vR rp, vI (own_i jj659), vI (own_i N_.length), za659, zb659, zc659, zd659] [(.ref rp)])) _
  jvm_step X659.here [X659.here.top, hx, (hb hby d9_214), X659.method', Bd.returns, Value.isRef, FieldType.isReference]
  first | (intro acts; rw [hr _ acts rfl rfl rfl]) | rw [hr _ _ rfl rfl rfl]
  exact Steps.refl _
 ·show Q_rm_rep Z a1 φ rc lg p1 t1 p2 t2 R B P F h0 n0 _ T659.heap _
  rw [e659]
  unfold Q_rm_rep; rw [← hN_, ← hW_, ← hcap]; exact ⟨rp, f1, f2, f3, rfl, N659, Zs659, ⟨yEr, yGf, yGr, yGn, yGs, yGy, yWF, yWR, yWN⟩, RL, cap2⟩
theorem d20_0 : oD k9 0 (.iload_n 0) 1 := by decide +kernel
theorem d20_1 : oD k9 1 (.iconst 2) 1 := by decide +kernel
theorem d20_2 : oD k9 2 (.if_icmp .ne 16) 3 := by decide +kernel
theorem d20_18 : oD k9 18 (.iload_n 0) 1 := by decide +kernel
theorem d20_19 : oD k9 19 (.iconst 3) 1 := by decide +kernel
theorem d20_20 : oD k9 20 (.if_icmp .ne 16) 3 := by decide +kernel
theorem d20_36 : oD k9 36 (.iconst 0) 1 := by decide +kernel
theorem d20_37 : oD k9 37 .ireturn 1 := by decide +kernel
theorem d20_5 : oD k9 5 (.lload_n 1) 1 := by decide +kernel
theorem d20_6 : oD k9 6 (.lload 5) 2 := by decide +kernel
theorem d20_8 : oD k9 8 .lcmp 1 := by decide +kernel
theorem d20_9 : oD k9 9 (.ifCond .ne 7) 3 := by decide +kernel
theorem d20_12 : oD k9 12 (.iconst 1) 1 := by decide +kernel
theorem d20_13 : oD k9 13 (.goto 4) 3 := by decide +kernel
theorem d20_17 : oD k9 17 .ireturn 1 := by decide +kernel
theorem d20_16 : oD k9 16 (.iconst 0) 1 := by decide +kernel
theorem d20_23 : oD k9 23 (.lload_n 3) 1 := by decide +kernel
theorem d20_24 : oD k9 24 (.lload 5) 2 := by decide +kernel
theorem d20_26 : oD k9 26 .lcmp 1 := by decide +kernel
theorem d20_27 : oD k9 27 (.ifCond .ne 7) 3 := by decide +kernel
theorem d20_30 : oD k9 30 (.iconst 1) 1 := by decide +kernel
theorem d20_31 : oD k9 31 (.goto 4) 3 := by decide +kernel
theorem d20_35 : oD k9 35 .ireturn 1 := by decide +kernel
theorem d20_34 : oD k9 34 (.iconst 0) 1 := by decide +kernel
theorem ef_rm_hit (m : MethodId) (p1 : Int32) (q2 : Int64) (q3 : Int64) (q4 : Int64) : entryFrame m #[(.int p1), (.long q2), (.long q3), (.long q4)] 7 = mkF m 0 #[vI p1, vJ q2, .second, vJ q3, .second, vJ q4, .second] [] := by first | (simp [entryFrame, mkF, argsToLocals, Value.category]; done) | rfl
def Q_rm_hit (Z : State) (p1 : Int32) (q2 : Int64) (q3 : Int64) (q4 : Int64) (φ : Nat → Int64) (κ : Nat) (ra : Nat) (rb : Nat) (rq : Nat) (h0 : Heap) (n0 : Nat) (v : Option Value) (h : Heap) (L : List Loc) : Prop := v = some (.int (own_i (own_h κ ra rb rq))) ∧ Fr n0 L ∧ h = h0
set_option maxRecDepth 65536 in
set_option maxHeartbeats 40000000 in
theorem rm_hit (l : Launch) (Z : State) (a0 : Array Value) (hw : ∀ d ∈ tables_1, d.before a0 Z = true) (ws : List Jvm.Cond) (p1 : Int32) (q2 : Int64) (q3 : Int64) (q4 : Int64) (φ : Nat → Int64) (κ : Nat) (ra : Nat) (rb : Nat) (rq : Nat) (h0 : Heap) (n0 : Nat) (Z0 : n0 ≤ h0.size) (hk : p1 = own_i κ) (h2 : q2 = φ ra) (h3 : q3 = φ rb) (h4 : q4 = φ rq) (H : own_mono φ) (ya : ra < 4) (yb : rb < 4) (yq : rq < 4) (k4 : κ = 0 ∨ κ = 1 ∨ κ = 2 ∨ κ = 3) :
  MetFree l (⟨cL, "hit", "(IJJJ)I"⟩ : MethodName) (head1 (Jvm.Cond.code (⟨cL, "hit", "(IJJJ)I"⟩ : MethodName) method_4_code 7 (some .int) :: ws) rM0) (fun a U => a = #[(.int p1), (.long q2), (.long q3), (.long q4)] ∧ Z.Warmed39 U.vm ∧ U.heap = h0) (fun _ _ _ _ _ => True) (fun _ U oC U' => ∃ v L, oC = .returned v ∧ Q_rm_hit Z p1 q2 q3 q4 φ κ ra rb rq h0 n0 v U'.heap L ∧ FrameEnd U oC U' L rM0.cells rM0.slots) := by
 refine MetFree.of_bodySF (plainFor_of_name pn_2) hisR ?_
 intro p e s m args below meth c s₁ Bd hml0 hP hK
 obtain ⟨rfl, hZ, hh⟩ := hP
 have hx := Bd.exec
 have hby := Bd.bytes
 have hml : c.maxLocals = 7 := hml0
 have hown : s.vm.findClass cL = some m.cls := findClass_of_methodNamed Bd.named
 have hnm := (name_of_methodNamed Bd.named Bd.method).1
 have X0 : Stand p l e rM0 s m #[(.int p1), (.long q2), (.long q3), (.long q4)] below meth c s₁ [] 0 0 := Stand.of_body Bd
 have e0 : s₁.heap = h0 := by rw [← hh, Bd.state]; rfl
 have N0 := Fr.nil n0
 have pre0 : Sq p e below (s₁.setTop (mkF m 0 #[vI p1, vJ q2, .second, vJ q3, .second, vJ q4, .second] [])) (s₁.setTop (entryFrame m #[(.int p1), (.long q2), (.long q3), (.long q4)] 7)) := fun t k => castTop (ef_rm_hit m p1 q2 q3 q4) k
 have pre00 : Sq p e below (s₁.setTop (mkF m 0 #[vI p1, vJ q2, .second, vJ q3, .second, vJ q4, .second] [])) (s₁.setTop (mkF m 0 #[vI p1, vJ q2, .second, vJ q3, .second, vJ q4, .second] [])) := fun _ k => k
 rcases k4 with k4 | k4 | k4 | k4
 ·rw [k4] at hk
  have hk : p1 = (0 : Int32) := hk
  have R661 := fun (tg : State) (kt : Steps p.tables e below (s₁.setTop (mkF m 0 #[vI (0 : Int32), vJ (φ ra), .second, vJ (φ rb), .second, vJ (φ rq), .second] [])) tg) => pre00 tg (by rw [hk, h2, h3, h4]; exact kt)
  have R662 := fun (tg : State) (kt : Steps p.tables e below (s₁.setTop (mkF m 37 #[vI (0 : Int32), vJ (φ ra), .second, vJ (φ rb), .second, vJ (φ rq), .second] [(.int (0 : Int32))])) tg) => R661 tg (by
   show Steps _ _ _ (s₁.setTop (mkF m 0 #[vI (0 : Int32), vJ (φ ra), .second, vJ (φ rb), .second, vJ (φ rq), .second] [])) _
   refine XS.iloadN X0.here hx rfl (hb hby d20_0) rfl ?_
   refine XS.iconst X0.here hx rfl (hb hby d20_1) ?_
   show Steps _ _ _ (s₁.setTop (mkF m 2 #[vI (0 : Int32), vJ (φ ra), .second, vJ (φ rb), .second, vJ (φ rq), .second] [(.int (2 : Int32)), (.int (0 : Int32))])) _
   refine XS.icmpYes X0.here hx rfl (pc0 := 2) (pc' := 18) rfl (hb hby d20_2) rfl (feq (by decide : ¬ ((0 : Int32) = (2 : Int32)))).2 (by decide) (by decide) ?_
   refine XS.iloadN X0.here hx rfl (hb hby d20_18) rfl ?_
   refine XS.iconst X0.here hx rfl (hb hby d20_19) ?_
   show Steps _ _ _ (s₁.setTop (mkF m 20 #[vI (0 : Int32), vJ (φ ra), .second, vJ (φ rb), .second, vJ (φ rq), .second] [(.int (3 : Int32)), (.int (0 : Int32))])) _
   refine XS.icmpYes X0.here hx rfl (pc0 := 20) (pc' := 36) rfl (hb hby d20_20) rfl (feq (by decide : ¬ ((0 : Int32) = (3 : Int32)))).2 (by decide) (by decide) ?_
   refine XS.iconst X0.here hx rfl (hb hby d20_36) ?_
   exact kt)
  clear R661
  obtain ⟨fs, hr, hrun, hended, hW, hsame⟩ := X0.leave (v := some (.int (0 : Int32))) (fun h => by rw [Bd.returns] at h; cases h)
  refine ⟨_, _, pre0 _ (R662 _ ?_), hrun, hended, _, _, rfl, ?_, ⟨_, rfl⟩, hW, hsame.mono (by decide) (by decide)⟩
  ·exact retI X0 hx Bd.returns (hb hby d20_37) hr
  ·show Q_rm_hit Z p1 q2 q3 q4 φ κ ra rb rq h0 n0 _ s₁.heap _
   rw [e0]
   exact ⟨by rw [k4]; rfl, N0, rfl⟩
 ·rw [k4] at hk
  have hk : p1 = (1 : Int32) := hk
  have R663 := fun (tg : State) (kt : Steps p.tables e below (s₁.setTop (mkF m 0 #[vI (1 : Int32), vJ (φ ra), .second, vJ (φ rb), .second, vJ (φ rq), .second] [])) tg) => pre00 tg (by rw [hk, h2, h3, h4]; exact kt)
  have R664 := fun (tg : State) (kt : Steps p.tables e below (s₁.setTop (mkF m 37 #[vI (1 : Int32), vJ (φ ra), .second, vJ (φ rb), .second, vJ (φ rq), .second] [(.int (0 : Int32))])) tg) => R663 tg (by
   show Steps _ _ _ (s₁.setTop (mkF m 0 #[vI (1 : Int32), vJ (φ ra), .second, vJ (φ rb), .second, vJ (φ rq), .second] [])) _
   refine XS.iloadN X0.here hx rfl (hb hby d20_0) rfl ?_
   refine XS.iconst X0.here hx rfl (hb hby d20_1) ?_
   show Steps _ _ _ (s₁.setTop (mkF m 2 #[vI (1 : Int32), vJ (φ ra), .second, vJ (φ rb), .second, vJ (φ rq), .second] [(.int (2 : Int32)), (.int (1 : Int32))])) _
   refine XS.icmpYes X0.here hx rfl (pc0 := 2) (pc' := 18) rfl (hb hby d20_2) rfl (feq (by decide : ¬ ((1 : Int32) = (2 : Int32)))).2 (by decide) (by decide) ?_
   refine XS.iloadN X0.here hx rfl (hb hby d20_18) rfl ?_
   refine XS.iconst X0.here hx rfl (hb hby d20_19) ?_
   show Steps _ _ _ (s₁.setTop (mkF m 20 #[vI (1 : Int32), vJ (φ ra), .second, vJ (φ rb), .second, vJ (φ rq), .second] [(.int (3 : Int32)), (.int (1 : Int32))])) _
   refine XS.icmpYes X0.here hx rfl (pc0 := 20) (pc' := 36) rfl (hb hby d20_20) rfl (feq (by decide : ¬ ((1 : Int32) = (3 : Int32)))).2 (by decide) (by decide) ?_
   refine XS.iconst X0.here hx rfl (hb hby d20_36) ?_
   exact kt)
  clear R663
  obtain ⟨fs, hr, hrun, hended, hW, hsame⟩ := X0.leave (v := some (.int (0 : Int32))) (fun h => by rw [Bd.returns] at h; cases h)
  refine ⟨_, _, pre0 _ (R664 _ ?_), hrun, hended, _, _, rfl, ?_, ⟨_, rfl⟩, hW, hsame.mono (by decide) (by decide)⟩
  ·exact retI X0 hx Bd.returns (hb hby d20_37) hr
  ·show Q_rm_hit Z p1 q2 q3 q4 φ κ ra rb rq h0 n0 _ s₁.heap _
   rw [e0]
   exact ⟨by rw [k4]; rfl, N0, rfl⟩
 ·rw [k4] at hk
  have hk : p1 = (2 : Int32) := hk
  have R665 := fun (tg : State) (kt : Steps p.tables e below (s₁.setTop (mkF m 0 #[vI (2 : Int32), vJ (φ ra), .second, vJ (φ rb), .second, vJ (φ rq), .second] [])) tg) => pre00 tg (by rw [hk, h2, h3, h4]; exact kt)
  have R666 := fun (tg : State) (kt : Steps p.tables e below (s₁.setTop (mkF m 9 #[vI (2 : Int32), vJ (φ ra), .second, vJ (φ rb), .second, vJ (φ rq), .second] [(.int (lcmpW (φ ra) (φ rq)))])) tg) => R665 tg (by
   show Steps _ _ _ (s₁.setTop (mkF m 0 #[vI (2 : Int32), vJ (φ ra), .second, vJ (φ rb), .second, vJ (φ rq), .second] [])) _
   refine XS.iloadN X0.here hx rfl (hb hby d20_0) rfl ?_
   refine XS.iconst X0.here hx rfl (hb hby d20_1) ?_
   show Steps _ _ _ (s₁.setTop (mkF m 2 #[vI (2 : Int32), vJ (φ ra), .second, vJ (φ rb), .second, vJ (φ rq), .second] [(.int (2 : Int32)), (.int (2 : Int32))])) _
   refine XS.icmpNo X0.here hx rfl (hb hby d20_2) rfl (teq (by decide : (2 : Int32) = (2 : Int32))).2 ?_
   refine XS.lloadN X0.here hx rfl (hb hby d20_5) rfl ?_
   refine XS.lload X0.here hx rfl (hb hby d20_6) rfl ?_
   show Steps _ _ _ (s₁.setTop (mkF m 8 #[vI (2 : Int32), vJ (φ ra), .second, vJ (φ rb), .second, vJ (φ rq), .second] [(.long (φ rq)), (.long (φ ra))])) _
   refine XS.lcmp X0.here hx rfl (hb hby d20_8) rfl ?_
   exact kt)
  clear R665
  by_cases he : ra = rq
  ·have R667 := fun (tg : State) (kt : Steps p.tables e below (s₁.setTop (mkF m 17 #[vI (2 : Int32), vJ (φ ra), .second, vJ (φ rb), .second, vJ (φ rq), .second] [(.int (1 : Int32))])) tg) => R666 tg (by
    show Steps _ _ _ (s₁.setTop (mkF m 9 #[vI (2 : Int32), vJ (φ ra), .second, vJ (φ rb), .second, vJ (φ rq), .second] [(.int (lcmpW (φ ra) (φ rq)))])) _
    refine XS.ifNo X0.here hx rfl (hb hby d20_9) rfl ((if0 _ _).trans (teq ((own_ce H ya yq).mpr he : (lcmpW (φ ra) (φ rq)) = (0 : Int32))).2) ?_
    refine XS.iconst X0.here hx rfl (hb hby d20_12) ?_
    show Steps _ _ _ (s₁.setTop (mkF m 13 #[vI (2 : Int32), vJ (φ ra), .second, vJ (φ rb), .second, vJ (φ rq), .second] [(.int (1 : Int32))])) _
    refine XS.goto X0.here hx rfl (pc0 := 13) (pc' := 17) rfl (hb hby d20_13) (by decide) (by decide) ?_
    exact kt)
   clear R666
   obtain ⟨fs, hr, hrun, hended, hW, hsame⟩ := X0.leave (v := some (.int (1 : Int32))) (fun h => by rw [Bd.returns] at h; cases h)
   refine ⟨_, _, pre0 _ (R667 _ ?_), hrun, hended, _, _, rfl, ?_, ⟨_, rfl⟩, hW, hsame.mono (by decide) (by decide)⟩
   ·exact retI X0 hx Bd.returns (hb hby d20_17) hr
   ·show Q_rm_hit Z p1 q2 q3 q4 φ κ ra rb rq h0 n0 _ s₁.heap _
    rw [e0]
    exact ⟨by rw [k4, show own_h 2 ra rb rq = 1 from if_pos he]; rfl, N0, rfl⟩
  ·have R668 := fun (tg : State) (kt : Steps p.tables e below (s₁.setTop (mkF m 17 #[vI (2 : Int32), vJ (φ ra), .second, vJ (φ rb), .second, vJ (φ rq), .second] [(.int (0 : Int32))])) tg) => R666 tg (by
    show Steps _ _ _ (s₁.setTop (mkF m 9 #[vI (2 : Int32), vJ (φ ra), .second, vJ (φ rb), .second, vJ (φ rq), .second] [(.int (lcmpW (φ ra) (φ rq)))])) _
    refine XS.ifYes X0.here hx rfl (pc0 := 9) (pc' := 16) rfl (hb hby d20_9) rfl ((if0 _ _).trans (feq (fun q => he ((own_ce H ya yq).mp q) : ¬ ((lcmpW (φ ra) (φ rq)) = (0 : Int32)))).2) (by decide) (by decide) ?_
    refine XS.iconst X0.here hx rfl (hb hby d20_16) ?_
    exact kt)
   clear R666
   obtain ⟨fs, hr, hrun, hended, hW, hsame⟩ := X0.leave (v := some (.int (0 : Int32))) (fun h => by rw [Bd.returns] at h; cases h)
   refine ⟨_, _, pre0 _ (R668 _ ?_), hrun, hended, _, _, rfl, ?_, ⟨_, rfl⟩, hW, hsame.mono (by decide) (by decide)⟩
   ·exact retI X0 hx Bd.returns (hb hby d20_17) hr
   ·show Q_rm_hit Z p1 q2 q3 q4 φ κ ra rb rq h0 n0 _ s₁.heap _
    rw [e0]
    exact ⟨by rw [k4, show own_h 2 ra rb rq = 0 from if_neg he]; rfl, N0, rfl⟩
 ·rw [k4] at hk
  have hk : p1 = (3 : Int32) := hk
  have R669 := fun (tg : State) (kt : Steps p.tables e below (s₁.setTop (mkF m 0 #[vI (3 : Int32), vJ (φ ra), .second, vJ (φ rb), .second, vJ (φ rq), .second] [])) tg) => pre00 tg (by rw [hk, h2, h3, h4]; exact kt)
  have R670 := fun (tg : State) (kt : Steps p.tables e below (s₁.setTop (mkF m 27 #[vI (3 : Int32), vJ (φ ra), .second, vJ (φ rb), .second, vJ (φ rq), .second] [(.int (lcmpW (φ rb) (φ rq)))])) tg) => R669 tg (by
   show Steps _ _ _ (s₁.setTop (mkF m 0 #[vI (3 : Int32), vJ (φ ra), .second, vJ (φ rb), .second, vJ (φ rq), .second] [])) _
   refine XS.iloadN X0.here hx rfl (hb hby d20_0) rfl ?_
   refine XS.iconst X0.here hx rfl (hb hby d20_1) ?_
   show Steps _ _ _ (s₁.setTop (mkF m 2 #[vI (3 : Int32), vJ (φ ra), .second, vJ (φ rb), .second, vJ (φ rq), .second] [(.int (2 : Int32)), (.int (3 : Int32))])) _
   refine XS.icmpYes X0.here hx rfl (pc0 := 2) (pc' := 18) rfl (hb hby d20_2) rfl (feq (by decide : ¬ ((3 : Int32) = (2 : Int32)))).2 (by decide) (by decide) ?_
   refine XS.iloadN X0.here hx rfl (hb hby d20_18) rfl ?_
   refine XS.iconst X0.here hx rfl (hb hby d20_19) ?_
   show Steps _ _ _ (s₁.setTop (mkF m 20 #[vI (3 : Int32), vJ (φ ra), .second, vJ (φ rb), .second, vJ (φ rq), .second] [(.int (3 : Int32)), (.int (3 : Int32))])) _
   refine XS.icmpNo X0.here hx rfl (hb hby d20_20) rfl (teq (by decide : (3 : Int32) = (3 : Int32))).2 ?_
   refine XS.lloadN X0.here hx rfl (hb hby d20_23) rfl ?_
   refine XS.lload X0.here hx rfl (hb hby d20_24) rfl ?_
   show Steps _ _ _ (s₁.setTop (mkF m 26 #[vI (3 : Int32), vJ (φ ra), .second, vJ (φ rb), .second, vJ (φ rq), .second] [(.long (φ rq)), (.long (φ rb))])) _
   refine XS.lcmp X0.here hx rfl (hb hby d20_26) rfl ?_
   exact kt)
  clear R669
  by_cases he : rb = rq
  ·have R671 := fun (tg : State) (kt : Steps p.tables e below (s₁.setTop (mkF m 35 #[vI (3 : Int32), vJ (φ ra), .second, vJ (φ rb), .second, vJ (φ rq), .second] [(.int (1 : Int32))])) tg) => R670 tg (by
    show Steps _ _ _ (s₁.setTop (mkF m 27 #[vI (3 : Int32), vJ (φ ra), .second, vJ (φ rb), .second, vJ (φ rq), .second] [(.int (lcmpW (φ rb) (φ rq)))])) _
    refine XS.ifNo X0.here hx rfl (hb hby d20_27) rfl ((if0 _ _).trans (teq ((own_ce H yb yq).mpr he : (lcmpW (φ rb) (φ rq)) = (0 : Int32))).2) ?_
    refine XS.iconst X0.here hx rfl (hb hby d20_30) ?_
    show Steps _ _ _ (s₁.setTop (mkF m 31 #[vI (3 : Int32), vJ (φ ra), .second, vJ (φ rb), .second, vJ (φ rq), .second] [(.int (1 : Int32))])) _
    refine XS.goto X0.here hx rfl (pc0 := 31) (pc' := 35) rfl (hb hby d20_31) (by decide) (by decide) ?_
    exact kt)
   clear R670
   obtain ⟨fs, hr, hrun, hended, hW, hsame⟩ := X0.leave (v := some (.int (1 : Int32))) (fun h => by rw [Bd.returns] at h; cases h)
   refine ⟨_, _, pre0 _ (R671 _ ?_), hrun, hended, _, _, rfl, ?_, ⟨_, rfl⟩, hW, hsame.mono (by decide) (by decide)⟩
   ·exact retI X0 hx Bd.returns (hb hby d20_35) hr
   ·show Q_rm_hit Z p1 q2 q3 q4 φ κ ra rb rq h0 n0 _ s₁.heap _
    rw [e0]
    exact ⟨by rw [k4, show own_h 3 ra rb rq = 1 from if_pos he]; rfl, N0, rfl⟩
  ·have R672 := fun (tg : State) (kt : Steps p.tables e below (s₁.setTop (mkF m 35 #[vI (3 : Int32), vJ (φ ra), .second, vJ (φ rb), .second, vJ (φ rq), .second] [(.int (0 : Int32))])) tg) => R670 tg (by
    show Steps _ _ _ (s₁.setTop (mkF m 27 #[vI (3 : Int32), vJ (φ ra), .second, vJ (φ rb), .second, vJ (φ rq), .second] [(.int (lcmpW (φ rb) (φ rq)))])) _
    refine XS.ifYes X0.here hx rfl (pc0 := 27) (pc' := 34) rfl (hb hby d20_27) rfl ((if0 _ _).trans (feq (fun q => he ((own_ce H yb yq).mp q) : ¬ ((lcmpW (φ rb) (φ rq)) = (0 : Int32)))).2) (by decide) (by decide) ?_
    refine XS.iconst X0.here hx rfl (hb hby d20_34) ?_
    exact kt)
   clear R670
   obtain ⟨fs, hr, hrun, hended, hW, hsame⟩ := X0.leave (v := some (.int (0 : Int32))) (fun h => by rw [Bd.returns] at h; cases h)
   refine ⟨_, _, pre0 _ (R672 _ ?_), hrun, hended, _, _, rfl, ?_, ⟨_, rfl⟩, hW, hsame.mono (by decide) (by decide)⟩
   ·exact retI X0 hx Bd.returns (hb hby d20_35) hr
   ·show Q_rm_hit Z p1 q2 q3 q4 φ κ ra rb rq h0 n0 _ s₁.heap _
    rw [e0]
    exact ⟨by rw [k4, show own_h 3 ra rb rq = 0 from if_neg he]; rfl, N0, rfl⟩
theorem d21_0 : oD k10 0 (.iload_n 0) 1 := by decide +kernel
theorem d21_1 : oD k10 1 (.lload 4) 2 := by decide +kernel
theorem d21_3 : oD k10 3 (.lload 6) 2 := by decide +kernel
theorem d21_5 : oD k10 5 (.lload 8) 2 := by decide +kernel
theorem pd_15 : parseMethodDescriptor "(IJJJ)I" = some ⟨[.int, .long, .long, .long], some .int⟩ := by decide +kernel
theorem d21_7 : oD k10 7 (.invokestatic 22) 3 := by decide +kernel
theorem d21_10 : oD k10 10 (.iconst 1) 1 := by decide +kernel
theorem d21_11 : oD k10 11 (.if_icmp .ne 7) 3 := by decide +kernel
theorem d21_14 : oD k10 14 (.iconst 0) 1 := by decide +kernel
theorem d21_15 : oD k10 15 (.goto 58) 3 := by decide +kernel
theorem d21_73 : oD k10 73 (.istore 10) 2 := by decide +kernel
theorem d21_75 : oD k10 75 (.iload 10) 2 := by decide +kernel
theorem d21_77 : oD k10 77 (.ifCond .le 8) 3 := by decide +kernel
theorem d21_85 : oD k10 85 (.iload 10) 2 := by decide +kernel
theorem d21_87 : oD k10 87 (.iconst 1) 1 := by decide +kernel
theorem d21_88 : oD k10 88 (.if_icmp .le 8) 3 := by decide +kernel
theorem d21_96 : oD k10 96 (.iload 10) 2 := by decide +kernel
theorem d21_98 : oD k10 98 (.iconst 2) 1 := by decide +kernel
theorem d21_99 : oD k10 99 (.if_icmp .le 8) 3 := by decide +kernel
theorem d21_107 : oD k10 107 (.iload 10) 2 := by decide +kernel
theorem d21_109 : oD k10 109 (.iconst 3) 1 := by decide +kernel
theorem d21_110 : oD k10 110 (.if_icmp .le 12) 3 := by decide +kernel
theorem d21_122 : oD k10 122 (.iconst 0) 1 := by decide +kernel
theorem d21_123 : oD k10 123 .ireturn 1 := by decide +kernel
theorem d21_18 : oD k10 18 (.iload_n 1) 1 := by decide +kernel
theorem d21_19 : oD k10 19 (.lload 4) 2 := by decide +kernel
theorem d21_21 : oD k10 21 (.lload 6) 2 := by decide +kernel
theorem d21_23 : oD k10 23 (.lload 8) 2 := by decide +kernel
theorem d21_25 : oD k10 25 (.invokestatic 22) 3 := by decide +kernel
theorem d21_28 : oD k10 28 (.iconst 1) 1 := by decide +kernel
theorem d21_29 : oD k10 29 (.if_icmp .ne 7) 3 := by decide +kernel
theorem d21_32 : oD k10 32 (.iconst 1) 1 := by decide +kernel
theorem d21_33 : oD k10 33 (.goto 40) 3 := by decide +kernel
theorem d21_80 : oD k10 80 (.iload_n 0) 1 := by decide +kernel
theorem d21_81 : oD k10 81 (.iconst 1) 1 := by decide +kernel
theorem d21_82 : oD k10 82 (.if_icmp .eq 36) 3 := by decide +kernel
theorem d21_118 : oD k10 118 (.iconst 1) 1 := by decide +kernel
theorem d21_119 : oD k10 119 (.goto 4) 3 := by decide +kernel
theorem d21_36 : oD k10 36 (.iload_n 2) 1 := by decide +kernel
theorem d21_37 : oD k10 37 (.lload 4) 2 := by decide +kernel
theorem d21_39 : oD k10 39 (.lload 6) 2 := by decide +kernel
theorem d21_41 : oD k10 41 (.lload 8) 2 := by decide +kernel
theorem d21_43 : oD k10 43 (.invokestatic 22) 3 := by decide +kernel
theorem d21_46 : oD k10 46 (.iconst 1) 1 := by decide +kernel
theorem d21_47 : oD k10 47 (.if_icmp .ne 7) 3 := by decide +kernel
theorem d21_50 : oD k10 50 (.iconst 2) 1 := by decide +kernel
theorem d21_51 : oD k10 51 (.goto 22) 3 := by decide +kernel
theorem d21_91 : oD k10 91 (.iload_n 1) 1 := by decide +kernel
theorem d21_92 : oD k10 92 (.iconst 1) 1 := by decide +kernel
theorem d21_93 : oD k10 93 (.if_icmp .eq 25) 3 := by decide +kernel
theorem d21_54 : oD k10 54 (.iload_n 3) 1 := by decide +kernel
theorem d21_55 : oD k10 55 (.lload 4) 2 := by decide +kernel
theorem d21_57 : oD k10 57 (.lload 6) 2 := by decide +kernel
theorem d21_59 : oD k10 59 (.lload 8) 2 := by decide +kernel
theorem d21_61 : oD k10 61 (.invokestatic 22) 3 := by decide +kernel
theorem d21_64 : oD k10 64 (.iconst 1) 1 := by decide +kernel
theorem d21_65 : oD k10 65 (.if_icmp .ne 7) 3 := by decide +kernel
theorem d21_68 : oD k10 68 (.iconst 3) 1 := by decide +kernel
theorem d21_69 : oD k10 69 (.goto 4) 3 := by decide +kernel
theorem d21_102 : oD k10 102 (.iload_n 2) 1 := by decide +kernel
theorem d21_103 : oD k10 103 (.iconst 1) 1 := by decide +kernel
theorem d21_104 : oD k10 104 (.if_icmp .eq 14) 3 := by decide +kernel
theorem d21_72 : oD k10 72 (.iconst 4) 1 := by decide +kernel
theorem d21_113 : oD k10 113 (.iload_n 3) 1 := by decide +kernel
theorem d21_114 : oD k10 114 (.iconst 1) 1 := by decide +kernel
theorem d21_115 : oD k10 115 (.if_icmp .ne 7) 3 := by decide +kernel
theorem ef_rm_ubf (m : MethodId) (p1 : Int32) (p2 : Int32) (p3 : Int32) (p4 : Int32) (q5 : Int64) (q6 : Int64) (q7 : Int64) : entryFrame m #[(.int p1), (.int p2), (.int p3), (.int p4), (.long q5), (.long q6), (.long q7)] 11 = mkF m 0 #[vI p1, vI p2, vI p3, vI p4, vJ q5, .second, vJ q6, .second, vJ q7, .second, .unset] [] := by first | (simp [entryFrame, mkF, argsToLocals, Value.category]; done) | rfl
def Q_rm_ubf (Z : State) (p1 : Int32) (p2 : Int32) (p3 : Int32) (p4 : Int32) (q5 : Int64) (q6 : Int64) (q7 : Int64) (φ : Nat → Int64) (κ0 : Nat) (κ1 : Nat) (κ2 : Nat) (κ3 : Nat) (ra : Nat) (rb : Nat) (rq : Nat) (h0 : Heap) (n0 : Nat) (v : Option Value) (h : Heap) (L : List Loc) : Prop := v = some (.int (own_b2 (own_ub κ0 κ1 κ2 κ3 ra rb rq))) ∧ Fr n0 L ∧ h = h0
set_option maxRecDepth 65536 in
set_option maxHeartbeats 40000000 in
theorem rm_ubf (l : Launch) (Z : State) (a0 : Array Value) (hw : ∀ d ∈ tables_1, d.before a0 Z = true) (ws : List Jvm.Cond) (p1 : Int32) (p2 : Int32) (p3 : Int32) (p4 : Int32) (q5 : Int64) (q6 : Int64) (q7 : Int64) (φ : Nat → Int64) (κ0 : Nat) (κ1 : Nat) (κ2 : Nat) (κ3 : Nat) (ra : Nat) (rb : Nat) (rq : Nat) (h0 : Heap) (n0 : Nat) (Z0 : n0 ≤ h0.size) (hk0 : p1 = own_i κ0) (hk1 : p2 = own_i κ1) (hk2 : p3 = own_i κ2) (hk3 : p4 = own_i κ3) (h5 : q5 = φ ra) (h6 : q6 = φ rb) (h7 : q7 = φ rq) (H : own_mono φ) (ya : ra < 4) (yb : rb < 4) (yq : rq < 4) (k40 : κ0 = 0 ∨ κ0 = 1 ∨ κ0 = 2 ∨ κ0 = 3) (k41 : κ1 = 0 ∨ κ1 = 1 ∨ κ1 = 2 ∨ κ1 = 3) (k42 : κ2 = 0 ∨ κ2 = 1 ∨ κ2 = 2 ∨ κ2 = 3) (k43 : κ3 = 0 ∨ κ3 = 1 ∨ κ3 = 2 ∨ κ3 = 3) :
  MetFree l (⟨cL, "unnamedBeforeFirst", "(IIIIJJJ)Z"⟩ : MethodName) (head1 (Jvm.Cond.code (⟨cL, "unnamedBeforeFirst", "(IIIIJJJ)Z"⟩ : MethodName) method_5_code 11 (some .boolean) :: ws) rM2) (fun a U => a = #[(.int p1), (.int p2), (.int p3), (.int p4), (.long q5), (.long q6), (.long q7)] ∧ Z.Warmed39 U.vm ∧ U.heap = h0) (fun _ _ _ _ _ => True) (fun _ U oC U' => ∃ v L, oC = .returned v ∧ Q_rm_ubf Z p1 p2 p3 p4 q5 q6 q7 φ κ0 κ1 κ2 κ3 ra rb rq h0 n0 v U'.heap L ∧ FrameEnd U oC U' L rM2.cells rM2.slots) := by
 refine MetFree.of_bodySF (plainFor_of_name pn_2) hisR ?_
 intro p e s m args below meth c s₁ Bd hml0 hP hK
 obtain ⟨rfl, hZ, hh⟩ := hP
 have hx := Bd.exec
 have hby := Bd.bytes
 have hml : c.maxLocals = 11 := hml0
 have hown : s.vm.findClass cL = some m.cls := findClass_of_methodNamed Bd.named
 have hnm := (name_of_methodNamed Bd.named Bd.method).1
 have X0 : Stand p l e rM2 s m #[(.int p1), (.int p2), (.int p3), (.int p4), (.long q5), (.long q6), (.long q7)] below meth c s₁ [] 0 0 := Stand.of_body Bd
 have e0 : s₁.heap = h0 := by rw [← hh, Bd.state]; rfl
 have N0 := Fr.nil n0
 have pre0 : Sq p e below (s₁.setTop (mkF m 0 #[vI p1, vI p2, vI p3, vI p4, vJ q5, .second, vJ q6, .second, vJ q7, .second, .unset] [])) (s₁.setTop (entryFrame m #[(.int p1), (.int p2), (.int p3), (.int p4), (.long q5), (.long q6), (.long q7)] 11)) := fun t k => castTop (ef_rm_ubf m p1 p2 p3 p4 q5 q6 q7) k
 have pre00 : Sq p e below (s₁.setTop (mkF m 0 #[vI p1, vI p2, vI p3, vI p4, vJ q5, .second, vJ q6, .second, vJ q7, .second, .unset] [])) (s₁.setTop (mkF m 0 #[vI p1, vI p2, vI p3, vI p4, vJ q5, .second, vJ q6, .second, vJ q7, .second, .unset] [])) := fun _ k => k
 have R673 := fun (tg : State) (kt : Steps p.tables e below (s₁.setTop (mkF m 0 #[vI (own_i κ0), vI (own_i κ1), vI (own_i κ2), vI (own_i κ3), vJ (φ ra), .second, vJ (φ rb), .second, vJ (φ rq), .second, .unset] [])) tg) => pre00 tg (by rw [hk0, hk1, hk2, hk3, h5, h6, h7]; exact kt)
 have l0 : κ0 ≤ 4 := own_k4l k40
 have m0 : own_h κ0 ra rb rq ≤ 4 := Nat.le_trans (own_h1 _ _ _ _) (by decide)
 have l1 : κ1 ≤ 4 := own_k4l k41
 have m1 : own_h κ1 ra rb rq ≤ 4 := Nat.le_trans (own_h1 _ _ _ _) (by decide)
 have l2 : κ2 ≤ 4 := own_k4l k42
 have m2 : own_h κ2 ra rb rq ≤ 4 := Nat.le_trans (own_h1 _ _ _ _) (by decide)
 have l3 : κ3 ≤ 4 := own_k4l k43
 have m3 : own_h κ3 ra rb rq ≤ 4 := Nat.le_trans (own_h1 _ _ _ _) (by decide)
 have R674 := fun (tg : State) (kt : Steps p.tables e below (s₁.setTop (mkF m 7 #[vI (own_i κ0), vI (own_i κ1), vI (own_i κ2), vI (own_i κ3), vJ (φ ra), .second, vJ (φ rb), .second, vJ (φ rq), .second, .unset] [(.long (φ rq)), (.long (φ rb)), (.long (φ ra)), (.int (own_i κ0))])) tg) => R673 tg (by
  show Steps _ _ _ (s₁.setTop (mkF m 0 #[vI (own_i κ0), vI (own_i κ1), vI (own_i κ2), vI (own_i κ3), vJ (φ ra), .second, vJ (φ rb), .second, vJ (φ rq), .second, .unset] [])) _
  refine XS.iloadN X0.here hx rfl (hb hby d21_0) rfl ?_
  refine XS.lload X0.here hx rfl (hb hby d21_1) rfl ?_
  refine XS.lload X0.here hx rfl (hb hby d21_3) rfl ?_
  refine XS.lload X0.here hx rfl (hb hby d21_5) rfl ?_
  exact kt)
 clear R673
 obtain ⟨_, _, ⟨T675, L675, k675, n675⟩, -, X675, ⟨Lc675, hQ675, l675, y675, z675⟩, st675⟩ := Jvm.LawKit.callS X0 hx (y := (⟨cL, "hit", "(IJJJ)I"⟩ : MethodName)) hown (mvT hZ (oW hw 110 rfl)) (mvT hZ (oW hw 111 rfl)) (mvT hZ (oW hw 30 rfl)) (mvT hZ (oW hw 112 rfl)) (by decide) (backOf (W := 0) (rm_hit l Z a0 hw [] (own_i κ0) (φ ra) (φ rb) (φ rq) φ κ0 ra rb rq h0 n0 Z0 rfl rfl rfl rfl H ya yb yq k40) hZ (oW hw 112 rfl) (oW hw 30 rfl) (by decide) (by decide)) (g := (mkF m 7 #[vI (own_i κ0), vI (own_i κ1), vI (own_i κ2), vI (own_i κ3), vJ (φ ra), .second, vJ (φ rb), .second, vJ (φ rq), .second, .unset] [(.long (φ rq)), (.long (φ rb)), (.long (φ ra)), (.int (own_i κ0))])) rfl (by rw [hml]; rfl) (argsL := [(.int (own_i κ0)), (.long (φ ra)), (.long (φ rb)), (.long (φ rq))]) (rest := []) (lenOf pd_15 rfl) rfl (by show 2 * 0 + _ ≤ _; exact Nat.le_of_eq rfl) (hb hby d21_7) (fun _ _ => ⟨rfl, e0, (by decide : 0 + 0 ≤ _), (by decide : 0 + 0 ≤ _)⟩)
 dsimp only [Pt.U, Pt.locs, Pt.cells, Pt.slots] at X675 l675 y675 z675 st675 hQ675
 rw [l675, y675, z675] at X675
 obtain ⟨rfl, N675q, hh675⟩ := hQ675
 have N675 := Fr.app N0 N675q
 have R676 := fun (tg : State) (kt : Steps p.tables e below (T675.setTop (mkF m 11 #[vI (own_i κ0), vI (own_i κ1), vI (own_i κ2), vI (own_i κ3), vJ (φ ra), .second, vJ (φ rb), .second, vJ (φ rq), .second, .unset] [(.int (1 : Int32)), (.int (own_i (own_h κ0 ra rb rq)))])) tg) => R674 tg (by
  refine st675 _ ?_
  show Steps _ _ _ (T675.setTop (mkF m 10 #[vI (own_i κ0), vI (own_i κ1), vI (own_i κ2), vI (own_i κ3), vJ (φ ra), .second, vJ (φ rb), .second, vJ (φ rq), .second, .unset] [(.int (own_i (own_h κ0 ra rb rq)))])) _
  refine XS.iconst X675.here hx rfl (hb hby d21_10) ?_
  exact kt)
 clear R674 st675
 by_cases g0 : own_h κ0 ra rb rq = 1
 ·have R677 := fun (tg : State) (kt : Steps p.tables e below (T675.setTop (mkF m 123 #[vI (own_i κ0), vI (own_i κ1), vI (own_i κ2), vI (own_i κ3), vJ (φ ra), .second, vJ (φ rb), .second, vJ (φ rq), .second, vI (0 : Int32)] [(.int (0 : Int32))])) tg) => R676 tg (by
   show Steps _ _ _ (T675.setTop (mkF m 11 #[vI (own_i κ0), vI (own_i κ1), vI (own_i κ2), vI (own_i κ3), vJ (φ ra), .second, vJ (φ rb), .second, vJ (φ rq), .second, .unset] [(.int (1 : Int32)), (.int (own_i (own_h κ0 ra rb rq)))])) _
   refine XS.icmpNo X675.here hx rfl (hb hby d21_11) rfl (teq ((own_ie1 m0).mpr g0 : (own_i (own_h κ0 ra rb rq)) = (1 : Int32))).2 ?_
   refine XS.iconst X675.here hx rfl (hb hby d21_14) ?_
   show Steps _ _ _ (T675.setTop (mkF m 15 #[vI (own_i κ0), vI (own_i κ1), vI (own_i κ2), vI (own_i κ3), vJ (φ ra), .second, vJ (φ rb), .second, vJ (φ rq), .second, .unset] [(.int (0 : Int32))])) _
   refine XS.goto X675.here hx rfl (pc0 := 15) (pc' := 73) rfl (hb hby d21_15) (by decide) (by decide) ?_
   show Steps _ _ _ (T675.setTop (mkF m 73 #[vI (own_i κ0), vI (own_i κ1), vI (own_i κ2), vI (own_i κ3), vJ (φ ra), .second, vJ (φ rb), .second, vJ (φ rq), .second, .unset] [(.int (0 : Int32))])) _
   refine XS.istore X675.here hx rfl (hb hby d21_73) rfl (l' := #[vI (own_i κ0), vI (own_i κ1), vI (own_i κ2), vI (own_i κ3), vJ (φ ra), .second, vJ (φ rb), .second, vJ (φ rq), .second, vI (0 : Int32)]) rfl ?_
   refine XS.iload X675.here hx rfl (hb hby d21_75) rfl ?_
   show Steps _ _ _ (T675.setTop (mkF m 77 #[vI (own_i κ0), vI (own_i κ1), vI (own_i κ2), vI (own_i κ3), vJ (φ ra), .second, vJ (φ rb), .second, vJ (φ rq), .second, vI (0 : Int32)] [(.int (0 : Int32))])) _
   refine XS.ifYes X675.here hx rfl (pc0 := 77) (pc' := 85) rfl (hb hby d21_77) rfl ((if0 _ _).trans (flt (by decide : ¬ ((0 : Int32) < (0 : Int32)))).2.2.2) (by decide) (by decide) ?_
   refine XS.iload X675.here hx rfl (hb hby d21_85) rfl ?_
   refine XS.iconst X675.here hx rfl (hb hby d21_87) ?_
   show Steps _ _ _ (T675.setTop (mkF m 88 #[vI (own_i κ0), vI (own_i κ1), vI (own_i κ2), vI (own_i κ3), vJ (φ ra), .second, vJ (φ rb), .second, vJ (φ rq), .second, vI (0 : Int32)] [(.int (1 : Int32)), (.int (0 : Int32))])) _
   refine XS.icmpYes X675.here hx rfl (pc0 := 88) (pc' := 96) rfl (hb hby d21_88) rfl (flt (by decide : ¬ ((1 : Int32) < (0 : Int32)))).2.2.2 (by decide) (by decide) ?_
   refine XS.iload X675.here hx rfl (hb hby d21_96) rfl ?_
   refine XS.iconst X675.here hx rfl (hb hby d21_98) ?_
   show Steps _ _ _ (T675.setTop (mkF m 99 #[vI (own_i κ0), vI (own_i κ1), vI (own_i κ2), vI (own_i κ3), vJ (φ ra), .second, vJ (φ rb), .second, vJ (φ rq), .second, vI (0 : Int32)] [(.int (2 : Int32)), (.int (0 : Int32))])) _
   refine XS.icmpYes X675.here hx rfl (pc0 := 99) (pc' := 107) rfl (hb hby d21_99) rfl (flt (by decide : ¬ ((2 : Int32) < (0 : Int32)))).2.2.2 (by decide) (by decide) ?_
   refine XS.iload X675.here hx rfl (hb hby d21_107) rfl ?_
   refine XS.iconst X675.here hx rfl (hb hby d21_109) ?_
   show Steps _ _ _ (T675.setTop (mkF m 110 #[vI (own_i κ0), vI (own_i κ1), vI (own_i κ2), vI (own_i κ3), vJ (φ ra), .second, vJ (φ rb), .second, vJ (φ rq), .second, vI (0 : Int32)] [(.int (3 : Int32)), (.int (0 : Int32))])) _
   refine XS.icmpYes X675.here hx rfl (pc0 := 110) (pc' := 122) rfl (hb hby d21_110) rfl (flt (by decide : ¬ ((3 : Int32) < (0 : Int32)))).2.2.2 (by decide) (by decide) ?_
   refine XS.iconst X675.here hx rfl (hb hby d21_122) ?_
   exact kt)
  clear R676
  obtain ⟨fs, hr, hrun, hended, hW, hsame⟩ := X675.leave (v := some (.int (0 : Int32))) (fun h => by rw [Bd.returns] at h; cases h)
  refine ⟨_, _, pre0 _ (R677 _ ?_), hrun, hended, _, _, rfl, ?_, ⟨_, rfl⟩, hW, hsame.mono (by decide) (by decide)⟩
  ·exact retN X675 hx (t := .boolean) Bd.returns (by simp) (hb hby d21_123) hr
  ·show Q_rm_ubf Z p1 p2 p3 p4 q5 q6 q7 φ κ0 κ1 κ2 κ3 ra rb rq h0 n0 _ T675.heap _
   rw [hh675]
   exact ⟨by rw [own_ub, if_pos g0]; simp [own_b2], N675, rfl⟩
 ·have R678 := fun (tg : State) (kt : Steps p.tables e below (T675.setTop (mkF m 25 #[vI (own_i κ0), vI (own_i κ1), vI (own_i κ2), vI (own_i κ3), vJ (φ ra), .second, vJ (φ rb), .second, vJ (φ rq), .second, .unset] [(.long (φ rq)), (.long (φ rb)), (.long (φ ra)), (.int (own_i κ1))])) tg) => R676 tg (by
   show Steps _ _ _ (T675.setTop (mkF m 11 #[vI (own_i κ0), vI (own_i κ1), vI (own_i κ2), vI (own_i κ3), vJ (φ ra), .second, vJ (φ rb), .second, vJ (φ rq), .second, .unset] [(.int (1 : Int32)), (.int (own_i (own_h κ0 ra rb rq)))])) _
   refine XS.icmpYes X675.here hx rfl (pc0 := 11) (pc' := 18) rfl (hb hby d21_11) rfl (feq (fun q => g0 ((own_ie1 m0).mp q) : ¬ ((own_i (own_h κ0 ra rb rq)) = (1 : Int32)))).2 (by decide) (by decide) ?_
   refine XS.iloadN X675.here hx rfl (hb hby d21_18) rfl ?_
   refine XS.lload X675.here hx rfl (hb hby d21_19) rfl ?_
   refine XS.lload X675.here hx rfl (hb hby d21_21) rfl ?_
   show Steps _ _ _ (T675.setTop (mkF m 23 #[vI (own_i κ0), vI (own_i κ1), vI (own_i κ2), vI (own_i κ3), vJ (φ ra), .second, vJ (φ rb), .second, vJ (φ rq), .second, .unset] [(.long (φ rb)), (.long (φ ra)), (.int (own_i κ1))])) _
   refine XS.lload X675.here hx rfl (hb hby d21_23) rfl ?_
   exact kt)
  clear R676
  obtain ⟨_, _, ⟨T679, L679, k679, n679⟩, -, X679, ⟨Lc679, hQ679, l679, y679, z679⟩, st679⟩ := Jvm.LawKit.callS X675 hx (y := (⟨cL, "hit", "(IJJJ)I"⟩ : MethodName)) hown (mvT hZ (oW hw 110 rfl)) (mvT hZ (oW hw 111 rfl)) (mvT hZ (oW hw 30 rfl)) (mvT hZ (oW hw 112 rfl)) (by decide) (backOf (W := 0) (rm_hit l Z a0 hw [] (own_i κ1) (φ ra) (φ rb) (φ rq) φ κ1 ra rb rq h0 n0 Z0 rfl rfl rfl rfl H ya yb yq k41) hZ (oW hw 112 rfl) (oW hw 30 rfl) (by decide) (by decide)) (g := (mkF m 25 #[vI (own_i κ0), vI (own_i κ1), vI (own_i κ2), vI (own_i κ3), vJ (φ ra), .second, vJ (φ rb), .second, vJ (φ rq), .second, .unset] [(.long (φ rq)), (.long (φ rb)), (.long (φ ra)), (.int (own_i κ1))])) rfl (by rw [hml]; rfl) (argsL := [(.int (own_i κ1)), (.long (φ ra)), (.long (φ rb)), (.long (φ rq))]) (rest := []) (lenOf pd_15 rfl) rfl (by show 2 * 0 + _ ≤ _; exact Nat.le_of_eq rfl) (hb hby d21_25) (fun _ _ => ⟨rfl, hh675, (by decide : 0 + 0 ≤ _), (by decide : 0 + 0 ≤ _)⟩)
  dsimp only [Pt.U, Pt.locs, Pt.cells, Pt.slots] at X679 l679 y679 z679 st679 hQ679
  rw [l679, y679, z679] at X679
  obtain ⟨rfl, N679q, hh679⟩ := hQ679
  have N679 := Fr.app N675 N679q
  have R680 := fun (tg : State) (kt : Steps p.tables e below (T679.setTop (mkF m 29 #[vI (own_i κ0), vI (own_i κ1), vI (own_i κ2), vI (own_i κ3), vJ (φ ra), .second, vJ (φ rb), .second, vJ (φ rq), .second, .unset] [(.int (1 : Int32)), (.int (own_i (own_h κ1 ra rb rq)))])) tg) => R678 tg (by
   refine st679 _ ?_
   refine XS.iconst X679.here hx rfl (hb hby d21_28) ?_
   exact kt)
  clear R678 st679
  by_cases g1 : own_h κ1 ra rb rq = 1
  ·have R681 := fun (tg : State) (kt : Steps p.tables e below (T679.setTop (mkF m 82 #[vI (own_i κ0), vI (own_i κ1), vI (own_i κ2), vI (own_i κ3), vJ (φ ra), .second, vJ (φ rb), .second, vJ (φ rq), .second, vI (1 : Int32)] [(.int (1 : Int32)), (.int (own_i κ0))])) tg) => R680 tg (by
    show Steps _ _ _ (T679.setTop (mkF m 29 #[vI (own_i κ0), vI (own_i κ1), vI (own_i κ2), vI (own_i κ3), vJ (φ ra), .second, vJ (φ rb), .second, vJ (φ rq), .second, .unset] [(.int (1 : Int32)), (.int (own_i (own_h κ1 ra rb rq)))])) _
    refine XS.icmpNo X679.here hx rfl (hb hby d21_29) rfl (teq ((own_ie1 m1).mpr g1 : (own_i (own_h κ1 ra rb rq)) = (1 : Int32))).2 ?_
    refine XS.iconst X679.here hx rfl (hb hby d21_32) ?_
    show Steps _ _ _ (T679.setTop (mkF m 33 #[vI (own_i κ0), vI (own_i κ1), vI (own_i κ2), vI (own_i κ3), vJ (φ ra), .second, vJ (φ rb), .second, vJ (φ rq), .second, .unset] [(.int (1 : Int32))])) _
    refine XS.goto X679.here hx rfl (pc0 := 33) (pc' := 73) rfl (hb hby d21_33) (by decide) (by decide) ?_
    show Steps _ _ _ (T679.setTop (mkF m 73 #[vI (own_i κ0), vI (own_i κ1), vI (own_i κ2), vI (own_i κ3), vJ (φ ra), .second, vJ (φ rb), .second, vJ (φ rq), .second, .unset] [(.int (1 : Int32))])) _
    refine XS.istore X679.here hx rfl (hb hby d21_73) rfl (l' := #[vI (own_i κ0), vI (own_i κ1), vI (own_i κ2), vI (own_i κ3), vJ (φ ra), .second, vJ (φ rb), .second, vJ (φ rq), .second, vI (1 : Int32)]) rfl ?_
    refine XS.iload X679.here hx rfl (hb hby d21_75) rfl ?_
    show Steps _ _ _ (T679.setTop (mkF m 77 #[vI (own_i κ0), vI (own_i κ1), vI (own_i κ2), vI (own_i κ3), vJ (φ ra), .second, vJ (φ rb), .second, vJ (φ rq), .second, vI (1 : Int32)] [(.int (1 : Int32))])) _
    refine XS.ifNo X679.here hx rfl (hb hby d21_77) rfl ((if0 _ _).trans (tlt (by decide : (0 : Int32) < (1 : Int32))).2.2.2) ?_
    refine XS.iloadN X679.here hx rfl (hb hby d21_80) rfl ?_
    refine XS.iconst X679.here hx rfl (hb hby d21_81) ?_
    exact kt)
   clear R680
   by_cases ee0 : κ0 = 1
   ·have R682 := fun (tg : State) (kt : Steps p.tables e below (T679.setTop (mkF m 123 #[vI (own_i κ0), vI (own_i κ1), vI (own_i κ2), vI (own_i κ3), vJ (φ ra), .second, vJ (φ rb), .second, vJ (φ rq), .second, vI (1 : Int32)] [(.int (1 : Int32))])) tg) => R681 tg (by
     show Steps _ _ _ (T679.setTop (mkF m 82 #[vI (own_i κ0), vI (own_i κ1), vI (own_i κ2), vI (own_i κ3), vJ (φ ra), .second, vJ (φ rb), .second, vJ (φ rq), .second, vI (1 : Int32)] [(.int (1 : Int32)), (.int (own_i κ0))])) _
     refine XS.icmpYes X679.here hx rfl (pc0 := 82) (pc' := 118) rfl (hb hby d21_82) rfl (teq ((own_ie1 l0).mpr ee0 : (own_i κ0) = (1 : Int32))).1 (by decide) (by decide) ?_
     refine XS.iconst X679.here hx rfl (hb hby d21_118) ?_
     show Steps _ _ _ (T679.setTop (mkF m 119 #[vI (own_i κ0), vI (own_i κ1), vI (own_i κ2), vI (own_i κ3), vJ (φ ra), .second, vJ (φ rb), .second, vJ (φ rq), .second, vI (1 : Int32)] [(.int (1 : Int32))])) _
     refine XS.goto X679.here hx rfl (pc0 := 119) (pc' := 123) rfl (hb hby d21_119) (by decide) (by decide) ?_
     exact kt)
    clear R681
    obtain ⟨fs, hr, hrun, hended, hW, hsame⟩ := X679.leave (v := some (.int (1 : Int32))) (fun h => by rw [Bd.returns] at h; cases h)
    refine ⟨_, _, pre0 _ (R682 _ ?_), hrun, hended, _, _, rfl, ?_, ⟨_, rfl⟩, hW, hsame.mono (by decide) (by decide)⟩
    ·exact retN X679 hx (t := .boolean) Bd.returns (by simp) (hb hby d21_123) hr
    ·show Q_rm_ubf Z p1 p2 p3 p4 q5 q6 q7 φ κ0 κ1 κ2 κ3 ra rb rq h0 n0 _ T679.heap _
     rw [hh679]
     exact ⟨by rw [own_ub, if_neg g0, if_pos g1, decide_eq_true ee0]; simp [own_b2], N679, rfl⟩
   ·have R683 := fun (tg : State) (kt : Steps p.tables e below (T679.setTop (mkF m 123 #[vI (own_i κ0), vI (own_i κ1), vI (own_i κ2), vI (own_i κ3), vJ (φ ra), .second, vJ (φ rb), .second, vJ (φ rq), .second, vI (1 : Int32)] [(.int (0 : Int32))])) tg) => R681 tg (by
     show Steps _ _ _ (T679.setTop (mkF m 82 #[vI (own_i κ0), vI (own_i κ1), vI (own_i κ2), vI (own_i κ3), vJ (φ ra), .second, vJ (φ rb), .second, vJ (φ rq), .second, vI (1 : Int32)] [(.int (1 : Int32)), (.int (own_i κ0))])) _
     refine XS.icmpNo X679.here hx rfl (hb hby d21_82) rfl (feq (fun q => ee0 ((own_ie1 l0).mp q) : ¬ ((own_i κ0) = (1 : Int32)))).1 ?_
     refine XS.iload X679.here hx rfl (hb hby d21_85) rfl ?_
     refine XS.iconst X679.here hx rfl (hb hby d21_87) ?_
     show Steps _ _ _ (T679.setTop (mkF m 88 #[vI (own_i κ0), vI (own_i κ1), vI (own_i κ2), vI (own_i κ3), vJ (φ ra), .second, vJ (φ rb), .second, vJ (φ rq), .second, vI (1 : Int32)] [(.int (1 : Int32)), (.int (1 : Int32))])) _
     refine XS.icmpYes X679.here hx rfl (pc0 := 88) (pc' := 96) rfl (hb hby d21_88) rfl (flt (by decide : ¬ ((1 : Int32) < (1 : Int32)))).2.2.2 (by decide) (by decide) ?_
     refine XS.iload X679.here hx rfl (hb hby d21_96) rfl ?_
     refine XS.iconst X679.here hx rfl (hb hby d21_98) ?_
     show Steps _ _ _ (T679.setTop (mkF m 99 #[vI (own_i κ0), vI (own_i κ1), vI (own_i κ2), vI (own_i κ3), vJ (φ ra), .second, vJ (φ rb), .second, vJ (φ rq), .second, vI (1 : Int32)] [(.int (2 : Int32)), (.int (1 : Int32))])) _
     refine XS.icmpYes X679.here hx rfl (pc0 := 99) (pc' := 107) rfl (hb hby d21_99) rfl (flt (by decide : ¬ ((2 : Int32) < (1 : Int32)))).2.2.2 (by decide) (by decide) ?_
     refine XS.iload X679.here hx rfl (hb hby d21_107) rfl ?_
     refine XS.iconst X679.here hx rfl (hb hby d21_109) ?_
     show Steps _ _ _ (T679.setTop (mkF m 110 #[vI (own_i κ0), vI (own_i κ1), vI (own_i κ2), vI (own_i κ3), vJ (φ ra), .second, vJ (φ rb), .second, vJ (φ rq), .second, vI (1 : Int32)] [(.int (3 : Int32)), (.int (1 : Int32))])) _
     refine XS.icmpYes X679.here hx rfl (pc0 := 110) (pc' := 122) rfl (hb hby d21_110) rfl (flt (by decide : ¬ ((3 : Int32) < (1 : Int32)))).2.2.2 (by decide) (by decide) ?_
     refine XS.iconst X679.here hx rfl (hb hby d21_122) ?_
     exact kt)
    clear R681
    obtain ⟨fs, hr, hrun, hended, hW, hsame⟩ := X679.leave (v := some (.int (0 : Int32))) (fun h => by rw [Bd.returns] at h; cases h)
    refine ⟨_, _, pre0 _ (R683 _ ?_), hrun, hended, _, _, rfl, ?_, ⟨_, rfl⟩, hW, hsame.mono (by decide) (by decide)⟩
    ·exact retN X679 hx (t := .boolean) Bd.returns (by simp) (hb hby d21_123) hr
    ·show Q_rm_ubf Z p1 p2 p3 p4 q5 q6 q7 φ κ0 κ1 κ2 κ3 ra rb rq h0 n0 _ T679.heap _
     rw [hh679]
     exact ⟨by rw [own_ub, if_neg g0, if_pos g1, decide_eq_false ee0]; simp [own_b2], N679, rfl⟩
  ·have R684 := fun (tg : State) (kt : Steps p.tables e below (T679.setTop (mkF m 43 #[vI (own_i κ0), vI (own_i κ1), vI (own_i κ2), vI (own_i κ3), vJ (φ ra), .second, vJ (φ rb), .second, vJ (φ rq), .second, .unset] [(.long (φ rq)), (.long (φ rb)), (.long (φ ra)), (.int (own_i κ2))])) tg) => R680 tg (by
    show Steps _ _ _ (T679.setTop (mkF m 29 #[vI (own_i κ0), vI (own_i κ1), vI (own_i κ2), vI (own_i κ3), vJ (φ ra), .second, vJ (φ rb), .second, vJ (φ rq), .second, .unset] [(.int (1 : Int32)), (.int (own_i (own_h κ1 ra rb rq)))])) _
    refine XS.icmpYes X679.here hx rfl (pc0 := 29) (pc' := 36) rfl (hb hby d21_29) rfl (feq (fun q => g1 ((own_ie1 m1).mp q) : ¬ ((own_i (own_h κ1 ra rb rq)) = (1 : Int32)))).2 (by decide) (by decide) ?_
    refine XS.iloadN X679.here hx rfl (hb hby d21_36) rfl ?_
    refine XS.lload X679.here hx rfl (hb hby d21_37) rfl ?_
    refine XS.lload X679.here hx rfl (hb hby d21_39) rfl ?_
    show Steps _ _ _ (T679.setTop (mkF m 41 #[vI (own_i κ0), vI (own_i κ1), vI (own_i κ2), vI (own_i κ3), vJ (φ ra), .second, vJ (φ rb), .second, vJ (φ rq), .second, .unset] [(.long (φ rb)), (.long (φ ra)), (.int (own_i κ2))])) _
    refine XS.lload X679.here hx rfl (hb hby d21_41) rfl ?_
    exact kt)
   clear R680
   obtain ⟨_, _, ⟨T685, L685, k685, n685⟩, -, X685, ⟨Lc685, hQ685, l685, y685, z685⟩, st685⟩ := Jvm.LawKit.callS X679 hx (y := (⟨cL, "hit", "(IJJJ)I"⟩ : MethodName)) hown (mvT hZ (oW hw 110 rfl)) (mvT hZ (oW hw 111 rfl)) (mvT hZ (oW hw 30 rfl)) (mvT hZ (oW hw 112 rfl)) (by decide) (backOf (W := 0) (rm_hit l Z a0 hw [] (own_i κ2) (φ ra) (φ rb) (φ rq) φ κ2 ra rb rq h0 n0 Z0 rfl rfl rfl rfl H ya yb yq k42) hZ (oW hw 112 rfl) (oW hw 30 rfl) (by decide) (by decide)) (g := (mkF m 43 #[vI (own_i κ0), vI (own_i κ1), vI (own_i κ2), vI (own_i κ3), vJ (φ ra), .second, vJ (φ rb), .second, vJ (φ rq), .second, .unset] [(.long (φ rq)), (.long (φ rb)), (.long (φ ra)), (.int (own_i κ2))])) rfl (by rw [hml]; rfl) (argsL := [(.int (own_i κ2)), (.long (φ ra)), (.long (φ rb)), (.long (φ rq))]) (rest := []) (lenOf pd_15 rfl) rfl (by show 2 * 0 + _ ≤ _; exact Nat.le_of_eq rfl) (hb hby d21_43) (fun _ _ => ⟨rfl, hh679, (by decide : 0 + 0 ≤ _), (by decide : 0 + 0 ≤ _)⟩)
   dsimp only [Pt.U, Pt.locs, Pt.cells, Pt.slots] at X685 l685 y685 z685 st685 hQ685
   rw [l685, y685, z685] at X685
   obtain ⟨rfl, N685q, hh685⟩ := hQ685
   have N685 := Fr.app N679 N685q
   have R686 := fun (tg : State) (kt : Steps p.tables e below (T685.setTop (mkF m 47 #[vI (own_i κ0), vI (own_i κ1), vI (own_i κ2), vI (own_i κ3), vJ (φ ra), .second, vJ (φ rb), .second, vJ (φ rq), .second, .unset] [(.int (1 : Int32)), (.int (own_i (own_h κ2 ra rb rq)))])) tg) => R684 tg (by
    refine st685 _ ?_
    refine XS.iconst X685.here hx rfl (hb hby d21_46) ?_
    exact kt)
   clear R684 st685
   by_cases g2 : own_h κ2 ra rb rq = 1
   ·have R687 := fun (tg : State) (kt : Steps p.tables e below (T685.setTop (mkF m 82 #[vI (own_i κ0), vI (own_i κ1), vI (own_i κ2), vI (own_i κ3), vJ (φ ra), .second, vJ (φ rb), .second, vJ (φ rq), .second, vI (2 : Int32)] [(.int (1 : Int32)), (.int (own_i κ0))])) tg) => R686 tg (by
     show Steps _ _ _ (T685.setTop (mkF m 47 #[vI (own_i κ0), vI (own_i κ1), vI (own_i κ2), vI (own_i κ3), vJ (φ ra), .second, vJ (φ rb), .second, vJ (φ rq), .second, .unset] [(.int (1 : Int32)), (.int (own_i (own_h κ2 ra rb rq)))])) _
     refine XS.icmpNo X685.here hx rfl (hb hby d21_47) rfl (teq ((own_ie1 m2).mpr g2 : (own_i (own_h κ2 ra rb rq)) = (1 : Int32))).2 ?_
     refine XS.iconst X685.here hx rfl (hb hby d21_50) ?_
     show Steps _ _ _ (T685.setTop (mkF m 51 #[vI (own_i κ0), vI (own_i κ1), vI (own_i κ2), vI (own_i κ3), vJ (φ ra), .second, vJ (φ rb), .second, vJ (φ rq), .second, .unset] [(.int (2 : Int32))])) _
     refine XS.goto X685.here hx rfl (pc0 := 51) (pc' := 73) rfl (hb hby d21_51) (by decide) (by decide) ?_
     show Steps _ _ _ (T685.setTop (mkF m 73 #[vI (own_i κ0), vI (own_i κ1), vI (own_i κ2), vI (own_i κ3), vJ (φ ra), .second, vJ (φ rb), .second, vJ (φ rq), .second, .unset] [(.int (2 : Int32))])) _
     refine XS.istore X685.here hx rfl (hb hby d21_73) rfl (l' := #[vI (own_i κ0), vI (own_i κ1), vI (own_i κ2), vI (own_i κ3), vJ (φ ra), .second, vJ (φ rb), .second, vJ (φ rq), .second, vI (2 : Int32)]) rfl ?_
     refine XS.iload X685.here hx rfl (hb hby d21_75) rfl ?_
     show Steps _ _ _ (T685.setTop (mkF m 77 #[vI (own_i κ0), vI (own_i κ1), vI (own_i κ2), vI (own_i κ3), vJ (φ ra), .second, vJ (φ rb), .second, vJ (φ rq), .second, vI (2 : Int32)] [(.int (2 : Int32))])) _
     refine XS.ifNo X685.here hx rfl (hb hby d21_77) rfl ((if0 _ _).trans (tlt (by decide : (0 : Int32) < (2 : Int32))).2.2.2) ?_
     refine XS.iloadN X685.here hx rfl (hb hby d21_80) rfl ?_
     refine XS.iconst X685.here hx rfl (hb hby d21_81) ?_
     exact kt)
    clear R686
    by_cases ee0 : κ0 = 1
    ·have R688 := fun (tg : State) (kt : Steps p.tables e below (T685.setTop (mkF m 123 #[vI (own_i κ0), vI (own_i κ1), vI (own_i κ2), vI (own_i κ3), vJ (φ ra), .second, vJ (φ rb), .second, vJ (φ rq), .second, vI (2 : Int32)] [(.int (1 : Int32))])) tg) => R687 tg (by
      show Steps _ _ _ (T685.setTop (mkF m 82 #[vI (own_i κ0), vI (own_i κ1), vI (own_i κ2), vI (own_i κ3), vJ (φ ra), .second, vJ (φ rb), .second, vJ (φ rq), .second, vI (2 : Int32)] [(.int (1 : Int32)), (.int (own_i κ0))])) _
      refine XS.icmpYes X685.here hx rfl (pc0 := 82) (pc' := 118) rfl (hb hby d21_82) rfl (teq ((own_ie1 l0).mpr ee0 : (own_i κ0) = (1 : Int32))).1 (by decide) (by decide) ?_
      refine XS.iconst X685.here hx rfl (hb hby d21_118) ?_
      show Steps _ _ _ (T685.setTop (mkF m 119 #[vI (own_i κ0), vI (own_i κ1), vI (own_i κ2), vI (own_i κ3), vJ (φ ra), .second, vJ (φ rb), .second, vJ (φ rq), .second, vI (2 : Int32)] [(.int (1 : Int32))])) _
      refine XS.goto X685.here hx rfl (pc0 := 119) (pc' := 123) rfl (hb hby d21_119) (by decide) (by decide) ?_
      exact kt)
     clear R687
     obtain ⟨fs, hr, hrun, hended, hW, hsame⟩ := X685.leave (v := some (.int (1 : Int32))) (fun h => by rw [Bd.returns] at h; cases h)
     refine ⟨_, _, pre0 _ (R688 _ ?_), hrun, hended, _, _, rfl, ?_, ⟨_, rfl⟩, hW, hsame.mono (by decide) (by decide)⟩
     ·exact retN X685 hx (t := .boolean) Bd.returns (by simp) (hb hby d21_123) hr
     ·show Q_rm_ubf Z p1 p2 p3 p4 q5 q6 q7 φ κ0 κ1 κ2 κ3 ra rb rq h0 n0 _ T685.heap _
      rw [hh685]
      exact ⟨by rw [own_ub, if_neg g0, if_neg g1, if_pos g2, decide_eq_true ee0]; simp [own_b2], N685, rfl⟩
    ·have R689 := fun (tg : State) (kt : Steps p.tables e below (T685.setTop (mkF m 93 #[vI (own_i κ0), vI (own_i κ1), vI (own_i κ2), vI (own_i κ3), vJ (φ ra), .second, vJ (φ rb), .second, vJ (φ rq), .second, vI (2 : Int32)] [(.int (1 : Int32)), (.int (own_i κ1))])) tg) => R687 tg (by
      show Steps _ _ _ (T685.setTop (mkF m 82 #[vI (own_i κ0), vI (own_i κ1), vI (own_i κ2), vI (own_i κ3), vJ (φ ra), .second, vJ (φ rb), .second, vJ (φ rq), .second, vI (2 : Int32)] [(.int (1 : Int32)), (.int (own_i κ0))])) _
      refine XS.icmpNo X685.here hx rfl (hb hby d21_82) rfl (feq (fun q => ee0 ((own_ie1 l0).mp q) : ¬ ((own_i κ0) = (1 : Int32)))).1 ?_
      refine XS.iload X685.here hx rfl (hb hby d21_85) rfl ?_
      refine XS.iconst X685.here hx rfl (hb hby d21_87) ?_
      show Steps _ _ _ (T685.setTop (mkF m 88 #[vI (own_i κ0), vI (own_i κ1), vI (own_i κ2), vI (own_i κ3), vJ (φ ra), .second, vJ (φ rb), .second, vJ (φ rq), .second, vI (2 : Int32)] [(.int (1 : Int32)), (.int (2 : Int32))])) _
      refine XS.icmpNo X685.here hx rfl (hb hby d21_88) rfl (tlt (by decide : (1 : Int32) < (2 : Int32))).2.2.2 ?_
      refine XS.iloadN X685.here hx rfl (hb hby d21_91) rfl ?_
      refine XS.iconst X685.here hx rfl (hb hby d21_92) ?_
      exact kt)
     clear R687
     by_cases ee1 : κ1 = 1
     ·have R690 := fun (tg : State) (kt : Steps p.tables e below (T685.setTop (mkF m 123 #[vI (own_i κ0), vI (own_i κ1), vI (own_i κ2), vI (own_i κ3), vJ (φ ra), .second, vJ (φ rb), .second, vJ (φ rq), .second, vI (2 : Int32)] [(.int (1 : Int32))])) tg) => R689 tg (by
       show Steps _ _ _ (T685.setTop (mkF m 93 #[vI (own_i κ0), vI (own_i κ1), vI (own_i κ2), vI (own_i κ3), vJ (φ ra), .second, vJ (φ rb), .second, vJ (φ rq), .second, vI (2 : Int32)] [(.int (1 : Int32)), (.int (own_i κ1))])) _
       refine XS.icmpYes X685.here hx rfl (pc0 := 93) (pc' := 118) rfl (hb hby d21_93) rfl (teq ((own_ie1 l1).mpr ee1 : (own_i κ1) = (1 : Int32))).1 (by decide) (by decide) ?_
       refine XS.iconst X685.here hx rfl (hb hby d21_118) ?_
       show Steps _ _ _ (T685.setTop (mkF m 119 #[vI (own_i κ0), vI (own_i κ1), vI (own_i κ2), vI (own_i κ3), vJ (φ ra), .second, vJ (φ rb), .second, vJ (φ rq), .second, vI (2 : Int32)] [(.int (1 : Int32))])) _
       refine XS.goto X685.here hx rfl (pc0 := 119) (pc' := 123) rfl (hb hby d21_119) (by decide) (by decide) ?_
       exact kt)
      clear R689
      obtain ⟨fs, hr, hrun, hended, hW, hsame⟩ := X685.leave (v := some (.int (1 : Int32))) (fun h => by rw [Bd.returns] at h; cases h)
      refine ⟨_, _, pre0 _ (R690 _ ?_), hrun, hended, _, _, rfl, ?_, ⟨_, rfl⟩, hW, hsame.mono (by decide) (by decide)⟩
      ·exact retN X685 hx (t := .boolean) Bd.returns (by simp) (hb hby d21_123) hr
      ·show Q_rm_ubf Z p1 p2 p3 p4 q5 q6 q7 φ κ0 κ1 κ2 κ3 ra rb rq h0 n0 _ T685.heap _
       rw [hh685]
       exact ⟨by rw [own_ub, if_neg g0, if_neg g1, if_pos g2, decide_eq_false ee0, decide_eq_true ee1]; simp [own_b2], N685, rfl⟩
     ·have R691 := fun (tg : State) (kt : Steps p.tables e below (T685.setTop (mkF m 123 #[vI (own_i κ0), vI (own_i κ1), vI (own_i κ2), vI (own_i κ3), vJ (φ ra), .second, vJ (φ rb), .second, vJ (φ rq), .second, vI (2 : Int32)] [(.int (0 : Int32))])) tg) => R689 tg (by
       show Steps _ _ _ (T685.setTop (mkF m 93 #[vI (own_i κ0), vI (own_i κ1), vI (own_i κ2), vI (own_i κ3), vJ (φ ra), .second, vJ (φ rb), .second, vJ (φ rq), .second, vI (2 : Int32)] [(.int (1 : Int32)), (.int (own_i κ1))])) _
       refine XS.icmpNo X685.here hx rfl (hb hby d21_93) rfl (feq (fun q => ee1 ((own_ie1 l1).mp q) : ¬ ((own_i κ1) = (1 : Int32)))).1 ?_
       refine XS.iload X685.here hx rfl (hb hby d21_96) rfl ?_
       refine XS.iconst X685.here hx rfl (hb hby d21_98) ?_
       show Steps _ _ _ (T685.setTop (mkF m 99 #[vI (own_i κ0), vI (own_i κ1), vI (own_i κ2), vI (own_i κ3), vJ (φ ra), .second, vJ (φ rb), .second, vJ (φ rq), .second, vI (2 : Int32)] [(.int (2 : Int32)), (.int (2 : Int32))])) _
       refine XS.icmpYes X685.here hx rfl (pc0 := 99) (pc' := 107) rfl (hb hby d21_99) rfl (flt (by decide : ¬ ((2 : Int32) < (2 : Int32)))).2.2.2 (by decide) (by decide) ?_
       refine XS.iload X685.here hx rfl (hb hby d21_107) rfl ?_
       refine XS.iconst X685.here hx rfl (hb hby d21_109) ?_
       show Steps _ _ _ (T685.setTop (mkF m 110 #[vI (own_i κ0), vI (own_i κ1), vI (own_i κ2), vI (own_i κ3), vJ (φ ra), .second, vJ (φ rb), .second, vJ (φ rq), .second, vI (2 : Int32)] [(.int (3 : Int32)), (.int (2 : Int32))])) _
       refine XS.icmpYes X685.here hx rfl (pc0 := 110) (pc' := 122) rfl (hb hby d21_110) rfl (flt (by decide : ¬ ((3 : Int32) < (2 : Int32)))).2.2.2 (by decide) (by decide) ?_
       refine XS.iconst X685.here hx rfl (hb hby d21_122) ?_
       exact kt)
      clear R689
      obtain ⟨fs, hr, hrun, hended, hW, hsame⟩ := X685.leave (v := some (.int (0 : Int32))) (fun h => by rw [Bd.returns] at h; cases h)
      refine ⟨_, _, pre0 _ (R691 _ ?_), hrun, hended, _, _, rfl, ?_, ⟨_, rfl⟩, hW, hsame.mono (by decide) (by decide)⟩
      ·exact retN X685 hx (t := .boolean) Bd.returns (by simp) (hb hby d21_123) hr
      ·show Q_rm_ubf Z p1 p2 p3 p4 q5 q6 q7 φ κ0 κ1 κ2 κ3 ra rb rq h0 n0 _ T685.heap _
       rw [hh685]
       exact ⟨by rw [own_ub, if_neg g0, if_neg g1, if_pos g2, decide_eq_false ee0, decide_eq_false ee1]; simp [own_b2], N685, rfl⟩
   ·have R692 := fun (tg : State) (kt : Steps p.tables e below (T685.setTop (mkF m 61 #[vI (own_i κ0), vI (own_i κ1), vI (own_i κ2), vI (own_i κ3), vJ (φ ra), .second, vJ (φ rb), .second, vJ (φ rq), .second, .unset] [(.long (φ rq)), (.long (φ rb)), (.long (φ ra)), (.int (own_i κ3))])) tg) => R686 tg (by
     show Steps _ _ _ (T685.setTop (mkF m 47 #[vI (own_i κ0), vI (own_i κ1), vI (own_i κ2), vI (own_i κ3), vJ (φ ra), .second, vJ (φ rb), .second, vJ (φ rq), .second, .unset] [(.int (1 : Int32)), (.int (own_i (own_h κ2 ra rb rq)))])) _
     refine XS.icmpYes X685.here hx rfl (pc0 := 47) (pc' := 54) rfl (hb hby d21_47) rfl (feq (fun q => g2 ((own_ie1 m2).mp q) : ¬ ((own_i (own_h κ2 ra rb rq)) = (1 : Int32)))).2 (by decide) (by decide) ?_
     refine XS.iloadN X685.here hx rfl (hb hby d21_54) rfl ?_
     refine XS.lload X685.here hx rfl (hb hby d21_55) rfl ?_
     refine XS.lload X685.here hx rfl (hb hby d21_57) rfl ?_
     show Steps _ _ _ (T685.setTop (mkF m 59 #[vI (own_i κ0), vI (own_i κ1), vI (own_i κ2), vI (own_i κ3), vJ (φ ra), .second, vJ (φ rb), .second, vJ (φ rq), .second, .unset] [(.long (φ rb)), (.long (φ ra)), (.int (own_i κ3))])) _
     refine XS.lload X685.here hx rfl (hb hby d21_59) rfl ?_
     exact kt)
    clear R686
    obtain ⟨_, _, ⟨T693, L693, k693, n693⟩, -, X693, ⟨Lc693, hQ693, l693, y693, z693⟩, st693⟩ := Jvm.LawKit.callS X685 hx (y := (⟨cL, "hit", "(IJJJ)I"⟩ : MethodName)) hown (mvT hZ (oW hw 110 rfl)) (mvT hZ (oW hw 111 rfl)) (mvT hZ (oW hw 30 rfl)) (mvT hZ (oW hw 112 rfl)) (by decide) (backOf (W := 0) (rm_hit l Z a0 hw [] (own_i κ3) (φ ra) (φ rb) (φ rq) φ κ3 ra rb rq h0 n0 Z0 rfl rfl rfl rfl H ya yb yq k43) hZ (oW hw 112 rfl) (oW hw 30 rfl) (by decide) (by decide)) (g := (mkF m 61 #[vI (own_i κ0), vI (own_i κ1), vI (own_i κ2), vI (own_i κ3), vJ (φ ra), .second, vJ (φ rb), .second, vJ (φ rq), .second, .unset] [(.long (φ rq)), (.long (φ rb)), (.long (φ ra)), (.int (own_i κ3))])) rfl (by rw [hml]; rfl) (argsL := [(.int (own_i κ3)), (.long (φ ra)), (.long (φ rb)), (.long (φ rq))]) (rest := []) (lenOf pd_15 rfl) rfl (by show 2 * 0 + _ ≤ _; exact Nat.le_of_eq rfl) (hb hby d21_61) (fun _ _ => ⟨rfl, hh685, (by decide : 0 + 0 ≤ _), (by decide : 0 + 0 ≤ _)⟩)
    dsimp only [Pt.U, Pt.locs, Pt.cells, Pt.slots] at X693 l693 y693 z693 st693 hQ693
    rw [l693, y693, z693] at X693
    obtain ⟨rfl, N693q, hh693⟩ := hQ693
    have N693 := Fr.app N685 N693q
    have R694 := fun (tg : State) (kt : Steps p.tables e below (T693.setTop (mkF m 65 #[vI (own_i κ0), vI (own_i κ1), vI (own_i κ2), vI (own_i κ3), vJ (φ ra), .second, vJ (φ rb), .second, vJ (φ rq), .second, .unset] [(.int (1 : Int32)), (.int (own_i (own_h κ3 ra rb rq)))])) tg) => R692 tg (by
     refine st693 _ ?_
     refine XS.iconst X693.here hx rfl (hb hby d21_64) ?_
     exact kt)
    clear R692 st693
    by_cases g3 : own_h κ3 ra rb rq = 1
    ·have R695 := fun (tg : State) (kt : Steps p.tables e below (T693.setTop (mkF m 82 #[vI (own_i κ0), vI (own_i κ1), vI (own_i κ2), vI (own_i κ3), vJ (φ ra), .second, vJ (φ rb), .second, vJ (φ rq), .second, vI (3 : Int32)] [(.int (1 : Int32)), (.int (own_i κ0))])) tg) => R694 tg (by
      show Steps _ _ _ (T693.setTop (mkF m 65 #[vI (own_i κ0), vI (own_i κ1), vI (own_i κ2), vI (own_i κ3), vJ (φ ra), .second, vJ (φ rb), .second, vJ (φ rq), .second, .unset] [(.int (1 : Int32)), (.int (own_i (own_h κ3 ra rb rq)))])) _
      refine XS.icmpNo X693.here hx rfl (hb hby d21_65) rfl (teq ((own_ie1 m3).mpr g3 : (own_i (own_h κ3 ra rb rq)) = (1 : Int32))).2 ?_
      refine XS.iconst X693.here hx rfl (hb hby d21_68) ?_
      show Steps _ _ _ (T693.setTop (mkF m 69 #[vI (own_i κ0), vI (own_i κ1), vI (own_i κ2), vI (own_i κ3), vJ (φ ra), .second, vJ (φ rb), .second, vJ (φ rq), .second, .unset] [(.int (3 : Int32))])) _
      refine XS.goto X693.here hx rfl (pc0 := 69) (pc' := 73) rfl (hb hby d21_69) (by decide) (by decide) ?_
      show Steps _ _ _ (T693.setTop (mkF m 73 #[vI (own_i κ0), vI (own_i κ1), vI (own_i κ2), vI (own_i κ3), vJ (φ ra), .second, vJ (φ rb), .second, vJ (φ rq), .second, .unset] [(.int (3 : Int32))])) _
      refine XS.istore X693.here hx rfl (hb hby d21_73) rfl (l' := #[vI (own_i κ0), vI (own_i κ1), vI (own_i κ2), vI (own_i κ3), vJ (φ ra), .second, vJ (φ rb), .second, vJ (φ rq), .second, vI (3 : Int32)]) rfl ?_
      refine XS.iload X693.here hx rfl (hb hby d21_75) rfl ?_
      show Steps _ _ _ (T693.setTop (mkF m 77 #[vI (own_i κ0), vI (own_i κ1), vI (own_i κ2), vI (own_i κ3), vJ (φ ra), .second, vJ (φ rb), .second, vJ (φ rq), .second, vI (3 : Int32)] [(.int (3 : Int32))])) _
      refine XS.ifNo X693.here hx rfl (hb hby d21_77) rfl ((if0 _ _).trans (tlt (by decide : (0 : Int32) < (3 : Int32))).2.2.2) ?_
      refine XS.iloadN X693.here hx rfl (hb hby d21_80) rfl ?_
      refine XS.iconst X693.here hx rfl (hb hby d21_81) ?_
      exact kt)
     clear R694
     by_cases ee0 : κ0 = 1
     ·have R696 := fun (tg : State) (kt : Steps p.tables e below (T693.setTop (mkF m 123 #[vI (own_i κ0), vI (own_i κ1), vI (own_i κ2), vI (own_i κ3), vJ (φ ra), .second, vJ (φ rb), .second, vJ (φ rq), .second, vI (3 : Int32)] [(.int (1 : Int32))])) tg) => R695 tg (by
       show Steps _ _ _ (T693.setTop (mkF m 82 #[vI (own_i κ0), vI (own_i κ1), vI (own_i κ2), vI (own_i κ3), vJ (φ ra), .second, vJ (φ rb), .second, vJ (φ rq), .second, vI (3 : Int32)] [(.int (1 : Int32)), (.int (own_i κ0))])) _
       refine XS.icmpYes X693.here hx rfl (pc0 := 82) (pc' := 118) rfl (hb hby d21_82) rfl (teq ((own_ie1 l0).mpr ee0 : (own_i κ0) = (1 : Int32))).1 (by decide) (by decide) ?_
       refine XS.iconst X693.here hx rfl (hb hby d21_118) ?_
       show Steps _ _ _ (T693.setTop (mkF m 119 #[vI (own_i κ0), vI (own_i κ1), vI (own_i κ2), vI (own_i κ3), vJ (φ ra), .second, vJ (φ rb), .second, vJ (φ rq), .second, vI (3 : Int32)] [(.int (1 : Int32))])) _
       refine XS.goto X693.here hx rfl (pc0 := 119) (pc' := 123) rfl (hb hby d21_119) (by decide) (by decide) ?_
       exact kt)
      clear R695
      obtain ⟨fs, hr, hrun, hended, hW, hsame⟩ := X693.leave (v := some (.int (1 : Int32))) (fun h => by rw [Bd.returns] at h; cases h)
      refine ⟨_, _, pre0 _ (R696 _ ?_), hrun, hended, _, _, rfl, ?_, ⟨_, rfl⟩, hW, hsame.mono (by decide) (by decide)⟩
      ·exact retN X693 hx (t := .boolean) Bd.returns (by simp) (hb hby d21_123) hr
      ·show Q_rm_ubf Z p1 p2 p3 p4 q5 q6 q7 φ κ0 κ1 κ2 κ3 ra rb rq h0 n0 _ T693.heap _
       rw [hh693]
       exact ⟨by rw [own_ub, if_neg g0, if_neg g1, if_neg g2, if_pos g3, decide_eq_true ee0]; simp [own_b2], N693, rfl⟩
     ·have R697 := fun (tg : State) (kt : Steps p.tables e below (T693.setTop (mkF m 93 #[vI (own_i κ0), vI (own_i κ1), vI (own_i κ2), vI (own_i κ3), vJ (φ ra), .second, vJ (φ rb), .second, vJ (φ rq), .second, vI (3 : Int32)] [(.int (1 : Int32)), (.int (own_i κ1))])) tg) => R695 tg (by
       show Steps _ _ _ (T693.setTop (mkF m 82 #[vI (own_i κ0), vI (own_i κ1), vI (own_i κ2), vI (own_i κ3), vJ (φ ra), .second, vJ (φ rb), .second, vJ (φ rq), .second, vI (3 : Int32)] [(.int (1 : Int32)), (.int (own_i κ0))])) _
       refine XS.icmpNo X693.here hx rfl (hb hby d21_82) rfl (feq (fun q => ee0 ((own_ie1 l0).mp q) : ¬ ((own_i κ0) = (1 : Int32)))).1 ?_
       refine XS.iload X693.here hx rfl (hb hby d21_85) rfl ?_
       refine XS.iconst X693.here hx rfl (hb hby d21_87) ?_
       show Steps _ _ _ (T693.setTop (mkF m 88 #[vI (own_i κ0), vI (own_i κ1), vI (own_i κ2), vI (own_i κ3), vJ (φ ra), .second, vJ (φ rb), .second, vJ (φ rq), .second, vI (3 : Int32)] [(.int (1 : Int32)), (.int (3 : Int32))])) _
       refine XS.icmpNo X693.here hx rfl (hb hby d21_88) rfl (tlt (by decide : (1 : Int32) < (3 : Int32))).2.2.2 ?_
       refine XS.iloadN X693.here hx rfl (hb hby d21_91) rfl ?_
       refine XS.iconst X693.here hx rfl (hb hby d21_92) ?_
       exact kt)
      clear R695
      by_cases ee1 : κ1 = 1
      ·have R698 := fun (tg : State) (kt : Steps p.tables e below (T693.setTop (mkF m 123 #[vI (own_i κ0), vI (own_i κ1), vI (own_i κ2), vI (own_i κ3), vJ (φ ra), .second, vJ (φ rb), .second, vJ (φ rq), .second, vI (3 : Int32)] [(.int (1 : Int32))])) tg) => R697 tg (by
        show Steps _ _ _ (T693.setTop (mkF m 93 #[vI (own_i κ0), vI (own_i κ1), vI (own_i κ2), vI (own_i κ3), vJ (φ ra), .second, vJ (φ rb), .second, vJ (φ rq), .second, vI (3 : Int32)] [(.int (1 : Int32)), (.int (own_i κ1))])) _
        refine XS.icmpYes X693.here hx rfl (pc0 := 93) (pc' := 118) rfl (hb hby d21_93) rfl (teq ((own_ie1 l1).mpr ee1 : (own_i κ1) = (1 : Int32))).1 (by decide) (by decide) ?_
        refine XS.iconst X693.here hx rfl (hb hby d21_118) ?_
        show Steps _ _ _ (T693.setTop (mkF m 119 #[vI (own_i κ0), vI (own_i κ1), vI (own_i κ2), vI (own_i κ3), vJ (φ ra), .second, vJ (φ rb), .second, vJ (φ rq), .second, vI (3 : Int32)] [(.int (1 : Int32))])) _
        refine XS.goto X693.here hx rfl (pc0 := 119) (pc' := 123) rfl (hb hby d21_119) (by decide) (by decide) ?_
        exact kt)
       clear R697
       obtain ⟨fs, hr, hrun, hended, hW, hsame⟩ := X693.leave (v := some (.int (1 : Int32))) (fun h => by rw [Bd.returns] at h; cases h)
       refine ⟨_, _, pre0 _ (R698 _ ?_), hrun, hended, _, _, rfl, ?_, ⟨_, rfl⟩, hW, hsame.mono (by decide) (by decide)⟩
       ·exact retN X693 hx (t := .boolean) Bd.returns (by simp) (hb hby d21_123) hr
       ·show Q_rm_ubf Z p1 p2 p3 p4 q5 q6 q7 φ κ0 κ1 κ2 κ3 ra rb rq h0 n0 _ T693.heap _
        rw [hh693]
        exact ⟨by rw [own_ub, if_neg g0, if_neg g1, if_neg g2, if_pos g3, decide_eq_false ee0, decide_eq_true ee1]; simp [own_b2], N693, rfl⟩
      ·have R699 := fun (tg : State) (kt : Steps p.tables e below (T693.setTop (mkF m 104 #[vI (own_i κ0), vI (own_i κ1), vI (own_i κ2), vI (own_i κ3), vJ (φ ra), .second, vJ (φ rb), .second, vJ (φ rq), .second, vI (3 : Int32)] [(.int (1 : Int32)), (.int (own_i κ2))])) tg) => R697 tg (by
        show Steps _ _ _ (T693.setTop (mkF m 93 #[vI (own_i κ0), vI (own_i κ1), vI (own_i κ2), vI (own_i κ3), vJ (φ ra), .second, vJ (φ rb), .second, vJ (φ rq), .second, vI (3 : Int32)] [(.int (1 : Int32)), (.int (own_i κ1))])) _
        refine XS.icmpNo X693.here hx rfl (hb hby d21_93) rfl (feq (fun q => ee1 ((own_ie1 l1).mp q) : ¬ ((own_i κ1) = (1 : Int32)))).1 ?_
        refine XS.iload X693.here hx rfl (hb hby d21_96) rfl ?_
        refine XS.iconst X693.here hx rfl (hb hby d21_98) ?_
        show Steps _ _ _ (T693.setTop (mkF m 99 #[vI (own_i κ0), vI (own_i κ1), vI (own_i κ2), vI (own_i κ3), vJ (φ ra), .second, vJ (φ rb), .second, vJ (φ rq), .second, vI (3 : Int32)] [(.int (2 : Int32)), (.int (3 : Int32))])) _
        refine XS.icmpNo X693.here hx rfl (hb hby d21_99) rfl (tlt (by decide : (2 : Int32) < (3 : Int32))).2.2.2 ?_
        refine XS.iloadN X693.here hx rfl (hb hby d21_102) rfl ?_
        refine XS.iconst X693.here hx rfl (hb hby d21_103) ?_
        exact kt)
       clear R697
       by_cases ee2 : κ2 = 1
       ·have R700 := fun (tg : State) (kt : Steps p.tables e below (T693.setTop (mkF m 123 #[vI (own_i κ0), vI (own_i κ1), vI (own_i κ2), vI (own_i κ3), vJ (φ ra), .second, vJ (φ rb), .second, vJ (φ rq), .second, vI (3 : Int32)] [(.int (1 : Int32))])) tg) => R699 tg (by
         show Steps _ _ _ (T693.setTop (mkF m 104 #[vI (own_i κ0), vI (own_i κ1), vI (own_i κ2), vI (own_i κ3), vJ (φ ra), .second, vJ (φ rb), .second, vJ (φ rq), .second, vI (3 : Int32)] [(.int (1 : Int32)), (.int (own_i κ2))])) _
         refine XS.icmpYes X693.here hx rfl (pc0 := 104) (pc' := 118) rfl (hb hby d21_104) rfl (teq ((own_ie1 l2).mpr ee2 : (own_i κ2) = (1 : Int32))).1 (by decide) (by decide) ?_
         refine XS.iconst X693.here hx rfl (hb hby d21_118) ?_
         show Steps _ _ _ (T693.setTop (mkF m 119 #[vI (own_i κ0), vI (own_i κ1), vI (own_i κ2), vI (own_i κ3), vJ (φ ra), .second, vJ (φ rb), .second, vJ (φ rq), .second, vI (3 : Int32)] [(.int (1 : Int32))])) _
         refine XS.goto X693.here hx rfl (pc0 := 119) (pc' := 123) rfl (hb hby d21_119) (by decide) (by decide) ?_
         exact kt)
        clear R699
        obtain ⟨fs, hr, hrun, hended, hW, hsame⟩ := X693.leave (v := some (.int (1 : Int32))) (fun h => by rw [Bd.returns] at h; cases h)
        refine ⟨_, _, pre0 _ (R700 _ ?_), hrun, hended, _, _, rfl, ?_, ⟨_, rfl⟩, hW, hsame.mono (by decide) (by decide)⟩
        ·exact retN X693 hx (t := .boolean) Bd.returns (by simp) (hb hby d21_123) hr
        ·show Q_rm_ubf Z p1 p2 p3 p4 q5 q6 q7 φ κ0 κ1 κ2 κ3 ra rb rq h0 n0 _ T693.heap _
         rw [hh693]
         exact ⟨by rw [own_ub, if_neg g0, if_neg g1, if_neg g2, if_pos g3, decide_eq_false ee0, decide_eq_false ee1, decide_eq_true ee2]; simp [own_b2], N693, rfl⟩
       ·have R701 := fun (tg : State) (kt : Steps p.tables e below (T693.setTop (mkF m 123 #[vI (own_i κ0), vI (own_i κ1), vI (own_i κ2), vI (own_i κ3), vJ (φ ra), .second, vJ (φ rb), .second, vJ (φ rq), .second, vI (3 : Int32)] [(.int (0 : Int32))])) tg) => R699 tg (by
         show Steps _ _ _ (T693.setTop (mkF m 104 #[vI (own_i κ0), vI (own_i κ1), vI (own_i κ2), vI (own_i κ3), vJ (φ ra), .second, vJ (φ rb), .second, vJ (φ rq), .second, vI (3 : Int32)] [(.int (1 : Int32)), (.int (own_i κ2))])) _
         refine XS.icmpNo X693.here hx rfl (hb hby d21_104) rfl (feq (fun q => ee2 ((own_ie1 l2).mp q) : ¬ ((own_i κ2) = (1 : Int32)))).1 ?_
         refine XS.iload X693.here hx rfl (hb hby d21_107) rfl ?_
         refine XS.iconst X693.here hx rfl (hb hby d21_109) ?_
         show Steps _ _ _ (T693.setTop (mkF m 110 #[vI (own_i κ0), vI (own_i κ1), vI (own_i κ2), vI (own_i κ3), vJ (φ ra), .second, vJ (φ rb), .second, vJ (φ rq), .second, vI (3 : Int32)] [(.int (3 : Int32)), (.int (3 : Int32))])) _
         refine XS.icmpYes X693.here hx rfl (pc0 := 110) (pc' := 122) rfl (hb hby d21_110) rfl (flt (by decide : ¬ ((3 : Int32) < (3 : Int32)))).2.2.2 (by decide) (by decide) ?_
         refine XS.iconst X693.here hx rfl (hb hby d21_122) ?_
         exact kt)
        clear R699
        obtain ⟨fs, hr, hrun, hended, hW, hsame⟩ := X693.leave (v := some (.int (0 : Int32))) (fun h => by rw [Bd.returns] at h; cases h)
        refine ⟨_, _, pre0 _ (R701 _ ?_), hrun, hended, _, _, rfl, ?_, ⟨_, rfl⟩, hW, hsame.mono (by decide) (by decide)⟩
        ·exact retN X693 hx (t := .boolean) Bd.returns (by simp) (hb hby d21_123) hr
        ·show Q_rm_ubf Z p1 p2 p3 p4 q5 q6 q7 φ κ0 κ1 κ2 κ3 ra rb rq h0 n0 _ T693.heap _
         rw [hh693]
         exact ⟨by rw [own_ub, if_neg g0, if_neg g1, if_neg g2, if_pos g3, decide_eq_false ee0, decide_eq_false ee1, decide_eq_false ee2]; simp [own_b2], N693, rfl⟩
    ·have R702 := fun (tg : State) (kt : Steps p.tables e below (T693.setTop (mkF m 82 #[vI (own_i κ0), vI (own_i κ1), vI (own_i κ2), vI (own_i κ3), vJ (φ ra), .second, vJ (φ rb), .second, vJ (φ rq), .second, vI (4 : Int32)] [(.int (1 : Int32)), (.int (own_i κ0))])) tg) => R694 tg (by
      show Steps _ _ _ (T693.setTop (mkF m 65 #[vI (own_i κ0), vI (own_i κ1), vI (own_i κ2), vI (own_i κ3), vJ (φ ra), .second, vJ (φ rb), .second, vJ (φ rq), .second, .unset] [(.int (1 : Int32)), (.int (own_i (own_h κ3 ra rb rq)))])) _
      refine XS.icmpYes X693.here hx rfl (pc0 := 65) (pc' := 72) rfl (hb hby d21_65) rfl (feq (fun q => g3 ((own_ie1 m3).mp q) : ¬ ((own_i (own_h κ3 ra rb rq)) = (1 : Int32)))).2 (by decide) (by decide) ?_
      refine XS.iconst X693.here hx rfl (hb hby d21_72) ?_
      show Steps _ _ _ (T693.setTop (mkF m 73 #[vI (own_i κ0), vI (own_i κ1), vI (own_i κ2), vI (own_i κ3), vJ (φ ra), .second, vJ (φ rb), .second, vJ (φ rq), .second, .unset] [(.int (4 : Int32))])) _
      refine XS.istore X693.here hx rfl (hb hby d21_73) rfl (l' := #[vI (own_i κ0), vI (own_i κ1), vI (own_i κ2), vI (own_i κ3), vJ (φ ra), .second, vJ (φ rb), .second, vJ (φ rq), .second, vI (4 : Int32)]) rfl ?_
      refine XS.iload X693.here hx rfl (hb hby d21_75) rfl ?_
      show Steps _ _ _ (T693.setTop (mkF m 77 #[vI (own_i κ0), vI (own_i κ1), vI (own_i κ2), vI (own_i κ3), vJ (φ ra), .second, vJ (φ rb), .second, vJ (φ rq), .second, vI (4 : Int32)] [(.int (4 : Int32))])) _
      refine XS.ifNo X693.here hx rfl (hb hby d21_77) rfl ((if0 _ _).trans (tlt (by decide : (0 : Int32) < (4 : Int32))).2.2.2) ?_
      refine XS.iloadN X693.here hx rfl (hb hby d21_80) rfl ?_
      refine XS.iconst X693.here hx rfl (hb hby d21_81) ?_
      exact kt)
     clear R694
     by_cases ee0 : κ0 = 1
     ·have R703 := fun (tg : State) (kt : Steps p.tables e below (T693.setTop (mkF m 123 #[vI (own_i κ0), vI (own_i κ1), vI (own_i κ2), vI (own_i κ3), vJ (φ ra), .second, vJ (φ rb), .second, vJ (φ rq), .second, vI (4 : Int32)] [(.int (1 : Int32))])) tg) => R702 tg (by
       show Steps _ _ _ (T693.setTop (mkF m 82 #[vI (own_i κ0), vI (own_i κ1), vI (own_i κ2), vI (own_i κ3), vJ (φ ra), .second, vJ (φ rb), .second, vJ (φ rq), .second, vI (4 : Int32)] [(.int (1 : Int32)), (.int (own_i κ0))])) _
       refine XS.icmpYes X693.here hx rfl (pc0 := 82) (pc' := 118) rfl (hb hby d21_82) rfl (teq ((own_ie1 l0).mpr ee0 : (own_i κ0) = (1 : Int32))).1 (by decide) (by decide) ?_
       refine XS.iconst X693.here hx rfl (hb hby d21_118) ?_
       show Steps _ _ _ (T693.setTop (mkF m 119 #[vI (own_i κ0), vI (own_i κ1), vI (own_i κ2), vI (own_i κ3), vJ (φ ra), .second, vJ (φ rb), .second, vJ (φ rq), .second, vI (4 : Int32)] [(.int (1 : Int32))])) _
       refine XS.goto X693.here hx rfl (pc0 := 119) (pc' := 123) rfl (hb hby d21_119) (by decide) (by decide) ?_
       exact kt)
      clear R702
      obtain ⟨fs, hr, hrun, hended, hW, hsame⟩ := X693.leave (v := some (.int (1 : Int32))) (fun h => by rw [Bd.returns] at h; cases h)
      refine ⟨_, _, pre0 _ (R703 _ ?_), hrun, hended, _, _, rfl, ?_, ⟨_, rfl⟩, hW, hsame.mono (by decide) (by decide)⟩
      ·exact retN X693 hx (t := .boolean) Bd.returns (by simp) (hb hby d21_123) hr
      ·show Q_rm_ubf Z p1 p2 p3 p4 q5 q6 q7 φ κ0 κ1 κ2 κ3 ra rb rq h0 n0 _ T693.heap _
       rw [hh693]
       exact ⟨by rw [own_ub, if_neg g0, if_neg g1, if_neg g2, if_neg g3, decide_eq_true ee0]; simp [own_b2], N693, rfl⟩
     ·have R704 := fun (tg : State) (kt : Steps p.tables e below (T693.setTop (mkF m 93 #[vI (own_i κ0), vI (own_i κ1), vI (own_i κ2), vI (own_i κ3), vJ (φ ra), .second, vJ (φ rb), .second, vJ (φ rq), .second, vI (4 : Int32)] [(.int (1 : Int32)), (.int (own_i κ1))])) tg) => R702 tg (by
       show Steps _ _ _ (T693.setTop (mkF m 82 #[vI (own_i κ0), vI (own_i κ1), vI (own_i κ2), vI (own_i κ3), vJ (φ ra), .second, vJ (φ rb), .second, vJ (φ rq), .second, vI (4 : Int32)] [(.int (1 : Int32)), (.int (own_i κ0))])) _
       refine XS.icmpNo X693.here hx rfl (hb hby d21_82) rfl (feq (fun q => ee0 ((own_ie1 l0).mp q) : ¬ ((own_i κ0) = (1 : Int32)))).1 ?_
       refine XS.iload X693.here hx rfl (hb hby d21_85) rfl ?_
       refine XS.iconst X693.here hx rfl (hb hby d21_87) ?_
       show Steps _ _ _ (T693.setTop (mkF m 88 #[vI (own_i κ0), vI (own_i κ1), vI (own_i κ2), vI (own_i κ3), vJ (φ ra), .second, vJ (φ rb), .second, vJ (φ rq), .second, vI (4 : Int32)] [(.int (1 : Int32)), (.int (4 : Int32))])) _
       refine XS.icmpNo X693.here hx rfl (hb hby d21_88) rfl (tlt (by decide : (1 : Int32) < (4 : Int32))).2.2.2 ?_
       refine XS.iloadN X693.here hx rfl (hb hby d21_91) rfl ?_
       refine XS.iconst X693.here hx rfl (hb hby d21_92) ?_
       exact kt)
      clear R702
      by_cases ee1 : κ1 = 1
      ·have R705 := fun (tg : State) (kt : Steps p.tables e below (T693.setTop (mkF m 123 #[vI (own_i κ0), vI (own_i κ1), vI (own_i κ2), vI (own_i κ3), vJ (φ ra), .second, vJ (φ rb), .second, vJ (φ rq), .second, vI (4 : Int32)] [(.int (1 : Int32))])) tg) => R704 tg (by
        show Steps _ _ _ (T693.setTop (mkF m 93 #[vI (own_i κ0), vI (own_i κ1), vI (own_i κ2), vI (own_i κ3), vJ (φ ra), .second, vJ (φ rb), .second, vJ (φ rq), .second, vI (4 : Int32)] [(.int (1 : Int32)), (.int (own_i κ1))])) _
        refine XS.icmpYes X693.here hx rfl (pc0 := 93) (pc' := 118) rfl (hb hby d21_93) rfl (teq ((own_ie1 l1).mpr ee1 : (own_i κ1) = (1 : Int32))).1 (by decide) (by decide) ?_
        refine XS.iconst X693.here hx rfl (hb hby d21_118) ?_
        show Steps _ _ _ (T693.setTop (mkF m 119 #[vI (own_i κ0), vI (own_i κ1), vI (own_i κ2), vI (own_i κ3), vJ (φ ra), .second, vJ (φ rb), .second, vJ (φ rq), .second, vI (4 : Int32)] [(.int (1 : Int32))])) _
        refine XS.goto X693.here hx rfl (pc0 := 119) (pc' := 123) rfl (hb hby d21_119) (by decide) (by decide) ?_
        exact kt)
       clear R704
       obtain ⟨fs, hr, hrun, hended, hW, hsame⟩ := X693.leave (v := some (.int (1 : Int32))) (fun h => by rw [Bd.returns] at h; cases h)
       refine ⟨_, _, pre0 _ (R705 _ ?_), hrun, hended, _, _, rfl, ?_, ⟨_, rfl⟩, hW, hsame.mono (by decide) (by decide)⟩
       ·exact retN X693 hx (t := .boolean) Bd.returns (by simp) (hb hby d21_123) hr
       ·show Q_rm_ubf Z p1 p2 p3 p4 q5 q6 q7 φ κ0 κ1 κ2 κ3 ra rb rq h0 n0 _ T693.heap _
        rw [hh693]
        exact ⟨by rw [own_ub, if_neg g0, if_neg g1, if_neg g2, if_neg g3, decide_eq_false ee0, decide_eq_true ee1]; simp [own_b2], N693, rfl⟩
      ·have R706 := fun (tg : State) (kt : Steps p.tables e below (T693.setTop (mkF m 104 #[vI (own_i κ0), vI (own_i κ1), vI (own_i κ2), vI (own_i κ3), vJ (φ ra), .second, vJ (φ rb), .second, vJ (φ rq), .second, vI (4 : Int32)] [(.int (1 : Int32)), (.int (own_i κ2))])) tg) => R704 tg (by
        show Steps _ _ _ (T693.setTop (mkF m 93 #[vI (own_i κ0), vI (own_i κ1), vI (own_i κ2), vI (own_i κ3), vJ (φ ra), .second, vJ (φ rb), .second, vJ (φ rq), .second, vI (4 : Int32)] [(.int (1 : Int32)), (.int (own_i κ1))])) _
        refine XS.icmpNo X693.here hx rfl (hb hby d21_93) rfl (feq (fun q => ee1 ((own_ie1 l1).mp q) : ¬ ((own_i κ1) = (1 : Int32)))).1 ?_
        refine XS.iload X693.here hx rfl (hb hby d21_96) rfl ?_
        refine XS.iconst X693.here hx rfl (hb hby d21_98) ?_
        show Steps _ _ _ (T693.setTop (mkF m 99 #[vI (own_i κ0), vI (own_i κ1), vI (own_i κ2), vI (own_i κ3), vJ (φ ra), .second, vJ (φ rb), .second, vJ (φ rq), .second, vI (4 : Int32)] [(.int (2 : Int32)), (.int (4 : Int32))])) _
        refine XS.icmpNo X693.here hx rfl (hb hby d21_99) rfl (tlt (by decide : (2 : Int32) < (4 : Int32))).2.2.2 ?_
        refine XS.iloadN X693.here hx rfl (hb hby d21_102) rfl ?_
        refine XS.iconst X693.here hx rfl (hb hby d21_103) ?_
        exact kt)
       clear R704
       by_cases ee2 : κ2 = 1
       ·have R707 := fun (tg : State) (kt : Steps p.tables e below (T693.setTop (mkF m 123 #[vI (own_i κ0), vI (own_i κ1), vI (own_i κ2), vI (own_i κ3), vJ (φ ra), .second, vJ (φ rb), .second, vJ (φ rq), .second, vI (4 : Int32)] [(.int (1 : Int32))])) tg) => R706 tg (by
         show Steps _ _ _ (T693.setTop (mkF m 104 #[vI (own_i κ0), vI (own_i κ1), vI (own_i κ2), vI (own_i κ3), vJ (φ ra), .second, vJ (φ rb), .second, vJ (φ rq), .second, vI (4 : Int32)] [(.int (1 : Int32)), (.int (own_i κ2))])) _
         refine XS.icmpYes X693.here hx rfl (pc0 := 104) (pc' := 118) rfl (hb hby d21_104) rfl (teq ((own_ie1 l2).mpr ee2 : (own_i κ2) = (1 : Int32))).1 (by decide) (by decide) ?_
         refine XS.iconst X693.here hx rfl (hb hby d21_118) ?_
         show Steps _ _ _ (T693.setTop (mkF m 119 #[vI (own_i κ0), vI (own_i κ1), vI (own_i κ2), vI (own_i κ3), vJ (φ ra), .second, vJ (φ rb), .second, vJ (φ rq), .second, vI (4 : Int32)] [(.int (1 : Int32))])) _
         refine XS.goto X693.here hx rfl (pc0 := 119) (pc' := 123) rfl (hb hby d21_119) (by decide) (by decide) ?_
         exact kt)
        clear R706
        obtain ⟨fs, hr, hrun, hended, hW, hsame⟩ := X693.leave (v := some (.int (1 : Int32))) (fun h => by rw [Bd.returns] at h; cases h)
        refine ⟨_, _, pre0 _ (R707 _ ?_), hrun, hended, _, _, rfl, ?_, ⟨_, rfl⟩, hW, hsame.mono (by decide) (by decide)⟩
        ·exact retN X693 hx (t := .boolean) Bd.returns (by simp) (hb hby d21_123) hr
        ·show Q_rm_ubf Z p1 p2 p3 p4 q5 q6 q7 φ κ0 κ1 κ2 κ3 ra rb rq h0 n0 _ T693.heap _
         rw [hh693]
         exact ⟨by rw [own_ub, if_neg g0, if_neg g1, if_neg g2, if_neg g3, decide_eq_false ee0, decide_eq_false ee1, decide_eq_true ee2]; simp [own_b2], N693, rfl⟩
       ·have R708 := fun (tg : State) (kt : Steps p.tables e below (T693.setTop (mkF m 115 #[vI (own_i κ0), vI (own_i κ1), vI (own_i κ2), vI (own_i κ3), vJ (φ ra), .second, vJ (φ rb), .second, vJ (φ rq), .second, vI (4 : Int32)] [(.int (1 : Int32)), (.int (own_i κ3))])) tg) => R706 tg (by
         show Steps _ _ _ (T693.setTop (mkF m 104 #[vI (own_i κ0), vI (own_i κ1), vI (own_i κ2), vI (own_i κ3), vJ (φ ra), .second, vJ (φ rb), .second, vJ (φ rq), .second, vI (4 : Int32)] [(.int (1 : Int32)), (.int (own_i κ2))])) _
         refine XS.icmpNo X693.here hx rfl (hb hby d21_104) rfl (feq (fun q => ee2 ((own_ie1 l2).mp q) : ¬ ((own_i κ2) = (1 : Int32)))).1 ?_
         refine XS.iload X693.here hx rfl (hb hby d21_107) rfl ?_
         refine XS.iconst X693.here hx rfl (hb hby d21_109) ?_
         show Steps _ _ _ (T693.setTop (mkF m 110 #[vI (own_i κ0), vI (own_i κ1), vI (own_i κ2), vI (own_i κ3), vJ (φ ra), .second, vJ (φ rb), .second, vJ (φ rq), .second, vI (4 : Int32)] [(.int (3 : Int32)), (.int (4 : Int32))])) _
         refine XS.icmpNo X693.here hx rfl (hb hby d21_110) rfl (tlt (by decide : (3 : Int32) < (4 : Int32))).2.2.2 ?_
         refine XS.iloadN X693.here hx rfl (hb hby d21_113) rfl ?_
         refine XS.iconst X693.here hx rfl (hb hby d21_114) ?_
         exact kt)
        clear R706
        by_cases ee3 : κ3 = 1
        ·have R709 := fun (tg : State) (kt : Steps p.tables e below (T693.setTop (mkF m 123 #[vI (own_i κ0), vI (own_i κ1), vI (own_i κ2), vI (own_i κ3), vJ (φ ra), .second, vJ (φ rb), .second, vJ (φ rq), .second, vI (4 : Int32)] [(.int (1 : Int32))])) tg) => R708 tg (by
          show Steps _ _ _ (T693.setTop (mkF m 115 #[vI (own_i κ0), vI (own_i κ1), vI (own_i κ2), vI (own_i κ3), vJ (φ ra), .second, vJ (φ rb), .second, vJ (φ rq), .second, vI (4 : Int32)] [(.int (1 : Int32)), (.int (own_i κ3))])) _
          refine XS.icmpNo X693.here hx rfl (hb hby d21_115) rfl (teq ((own_ie1 l3).mpr ee3 : (own_i κ3) = (1 : Int32))).2 ?_
          refine XS.iconst X693.here hx rfl (hb hby d21_118) ?_
          show Steps _ _ _ (T693.setTop (mkF m 119 #[vI (own_i κ0), vI (own_i κ1), vI (own_i κ2), vI (own_i κ3), vJ (φ ra), .second, vJ (φ rb), .second, vJ (φ rq), .second, vI (4 : Int32)] [(.int (1 : Int32))])) _
          refine XS.goto X693.here hx rfl (pc0 := 119) (pc' := 123) rfl (hb hby d21_119) (by decide) (by decide) ?_
          exact kt)
         clear R708
         obtain ⟨fs, hr, hrun, hended, hW, hsame⟩ := X693.leave (v := some (.int (1 : Int32))) (fun h => by rw [Bd.returns] at h; cases h)
         refine ⟨_, _, pre0 _ (R709 _ ?_), hrun, hended, _, _, rfl, ?_, ⟨_, rfl⟩, hW, hsame.mono (by decide) (by decide)⟩
         ·exact retN X693 hx (t := .boolean) Bd.returns (by simp) (hb hby d21_123) hr
         ·show Q_rm_ubf Z p1 p2 p3 p4 q5 q6 q7 φ κ0 κ1 κ2 κ3 ra rb rq h0 n0 _ T693.heap _
          rw [hh693]
          exact ⟨by rw [own_ub, if_neg g0, if_neg g1, if_neg g2, if_neg g3, decide_eq_false ee0, decide_eq_false ee1, decide_eq_false ee2, decide_eq_true ee3]; simp [own_b2], N693, rfl⟩
        ·have R710 := fun (tg : State) (kt : Steps p.tables e below (T693.setTop (mkF m 123 #[vI (own_i κ0), vI (own_i κ1), vI (own_i κ2), vI (own_i κ3), vJ (φ ra), .second, vJ (φ rb), .second, vJ (φ rq), .second, vI (4 : Int32)] [(.int (0 : Int32))])) tg) => R708 tg (by
          show Steps _ _ _ (T693.setTop (mkF m 115 #[vI (own_i κ0), vI (own_i κ1), vI (own_i κ2), vI (own_i κ3), vJ (φ ra), .second, vJ (φ rb), .second, vJ (φ rq), .second, vI (4 : Int32)] [(.int (1 : Int32)), (.int (own_i κ3))])) _
          refine XS.icmpYes X693.here hx rfl (pc0 := 115) (pc' := 122) rfl (hb hby d21_115) rfl (feq (fun q => ee3 ((own_ie1 l3).mp q) : ¬ ((own_i κ3) = (1 : Int32)))).2 (by decide) (by decide) ?_
          refine XS.iconst X693.here hx rfl (hb hby d21_122) ?_
          exact kt)
         clear R708
         obtain ⟨fs, hr, hrun, hended, hW, hsame⟩ := X693.leave (v := some (.int (0 : Int32))) (fun h => by rw [Bd.returns] at h; cases h)
         refine ⟨_, _, pre0 _ (R710 _ ?_), hrun, hended, _, _, rfl, ?_, ⟨_, rfl⟩, hW, hsame.mono (by decide) (by decide)⟩
         ·exact retN X693 hx (t := .boolean) Bd.returns (by simp) (hb hby d21_123) hr
         ·show Q_rm_ubf Z p1 p2 p3 p4 q5 q6 q7 φ κ0 κ1 κ2 κ3 ra rb rq h0 n0 _ T693.heap _
          rw [hh693]
          exact ⟨by rw [own_ub, if_neg g0, if_neg g1, if_neg g2, if_neg g3, decide_eq_false ee0, decide_eq_false ee1, decide_eq_false ee2, decide_eq_false ee3]; simp [own_b2], N693, rfl⟩
theorem pd_16 : parseMethodDescriptor "(Lcom/example/workaday_tariff/workadaytariff/engine/PeriodCensus;IJJ)V" = some ⟨[(.object "com/example/workaday_tariff/workadaytariff/engine/PeriodCensus"), .int, .long, .long], none⟩ := by decide +kernel
theorem pd_17 : parseMethodDescriptor "()Lcom/example/workaday_tariff/workadaytariff/engine/PeriodCensus$Repeats;" = some ⟨[], some (.object "com/example/workaday_tariff/workadaytariff/engine/PeriodCensus$Repeats")⟩ := by decide +kernel
theorem pd_18 : parseMethodDescriptor "(IIIIJJJ)Z" = some ⟨[.int, .int, .int, .int, .long, .long, .long], some .boolean⟩ := by decide +kernel
theorem pd_19 : parseMethodDescriptor "(J)Z" = some ⟨[.long], some .boolean⟩ := by decide +kernel
theorem pd_20 : parseMethodDescriptor "()Z" = some ⟨[], some .boolean⟩ := by decide +kernel
theorem ef_rm_law (m : MethodId) (q1 : Int64) (q2 : Int64) (q3 : Int64) (p4 : Int32) : entryFrame m #[(.long q1), (.long q2), (.long q3), (.int p4)] maxLocals = mkF m 0 #[vJ q1, .second, vJ q2, .second, vJ q3, .second, vI p4, .unset, .unset, .unset, .unset, .unset, .unset, .unset, .unset, .unset, .unset, .unset, .unset, .unset, .unset, .unset, .unset, .unset, .unset, .unset, .unset, .unset] [] := by first | (simp [entryFrame, mkF, argsToLocals, Value.category, maxLocals]; done) | rfl
def Q_rm_law (Z : State) (q1 : Int64) (q2 : Int64) (q3 : Int64) (p4 : Int32) (h0 : Heap) (n0 : Nat) (v : Option Value) (h : Heap) (L : List Loc) : Prop := v = some (.int (1 : Int32)) ∧ Fr n0 L
set_option maxRecDepth 65536 in
set_option maxHeartbeats 40000000 in
theorem rm_law (l : Launch) (Z : State) (a0 : Array Value) (hw : ∀ d ∈ tables_1, d.before a0 Z = true) (ws : List Jvm.Cond) (q1 : Int64) (q2 : Int64) (q3 : Int64) (p4 : Int32) (h0 : Heap) (n0 : Nat) (Z0 : n0 ≤ h0.size) :
  MetFree l x (head1 (Jvm.Cond.code x code maxLocals ret :: ws) room_1) (fun a U => a = #[(.long q1), (.long q2), (.long q3), (.int p4)] ∧ Z.Warmed39 U.vm ∧ U.heap = h0) (fun _ _ _ _ _ => True) (fun _ U oC U' => ∃ v L, oC = .returned v ∧ Q_rm_law Z q1 q2 q3 p4 h0 n0 v U'.heap L ∧ FrameEnd U oC U' L room_1.cells room_1.slots) := by
 refine MetFree.of_bodySF (plainFor_of_name pn_2) hisR ?_
 intro p e s m args below meth c s₁ Bd hml0 hP hK
 obtain ⟨rfl, hZ, hh⟩ := hP
 have hx := Bd.exec
 have hby := Bd.bytes
 have hml : c.maxLocals = 28 := hml0
 have hown : s.vm.findClass cL = some m.cls := findClass_of_methodNamed Bd.named
 have hnm := (name_of_methodNamed Bd.named Bd.method).1
 have X0 : Stand p l e room_1 s m #[(.long q1), (.long q2), (.long q3), (.int p4)] below meth c s₁ [] 0 0 := Stand.of_body Bd
 have e0 : s₁.heap = h0 := by rw [← hh, Bd.state]; rfl
 have N0 := Fr.nil n0
 have pre0 : Sq p e below (s₁.setTop (mkF m 0 #[vJ q1, .second, vJ q2, .second, vJ q3, .second, vI p4, .unset, .unset, .unset, .unset, .unset, .unset, .unset, .unset, .unset, .unset, .unset, .unset, .unset, .unset, .unset, .unset, .unset, .unset, .unset, .unset, .unset] [])) (s₁.setTop (entryFrame m #[(.long q1), (.long q2), (.long q3), (.int p4)] maxLocals)) := fun t k => castTop (ef_rm_law m q1 q2 q3 p4) k
 have pre00 : Sq p e below (s₁.setTop (mkF m 0 #[vJ q1, .second, vJ q2, .second, vJ q3, .second, vI p4, .unset, .unset, .unset, .unset, .unset, .unset, .unset, .unset, .unset, .unset, .unset, .unset, .unset, .unset, .unset, .unset, .unset, .unset, .unset, .unset, .unset] [])) (s₁.setTop (mkF m 0 #[vJ q1, .second, vJ q2, .second, vJ q3, .second, vI p4, .unset, .unset, .unset, .unset, .unset, .unset, .unset, .unset, .unset, .unset, .unset, .unset, .unset, .unset, .unset, .unset, .unset, .unset, .unset, .unset, .unset] [])) := fun _ k => k
 have R711 := fun (tg : State) (kt : Steps p.tables e below (s₁.setTop (mkF m 7 #[vJ q1, .second, vJ q2, .second, vJ q3, .second, vI p4, .unset, .unset, .unset, .unset, .unset, .unset, .unset, .unset, .unset, .unset, .unset, .unset, .unset, .unset, .unset, .unset, .unset, .unset, .unset, .unset, .unset] [(.int (((p4.toUInt32 >>> ((8 : Int32) &&& 31).toUInt32).toInt32) &&& (1 : Int32)))])) tg) => pre00 tg (by
  show Steps _ _ _ (s₁.setTop (mkF m 0 #[vJ q1, .second, vJ q2, .second, vJ q3, .second, vI p4, .unset, .unset, .unset, .unset, .unset, .unset, .unset, .unset, .unset, .unset, .unset, .unset, .unset, .unset, .unset, .unset, .unset, .unset, .unset, .unset, .unset] [])) _
  refine XS.iload X0.here hx rfl (hb hby at_0) rfl ?_
  refine XS.bipush X0.here hx rfl (hb hby at_2) ?_
  show Steps _ _ _ (s₁.setTop (mkF m 4 #[vJ q1, .second, vJ q2, .second, vJ q3, .second, vI p4, .unset, .unset, .unset, .unset, .unset, .unset, .unset, .unset, .unset, .unset, .unset, .unset, .unset, .unset, .unset, .unset, .unset, .unset, .unset, .unset, .unset] [(.int (8 : Int32)), (.int p4)])) _
  refine XS.iushr X0.here hx rfl (hb hby at_4) rfl ?_
  refine XS.iconst X0.here hx rfl (hb hby at_5) ?_
  show Steps _ _ _ (s₁.setTop (mkF m 6 #[vJ q1, .second, vJ q2, .second, vJ q3, .second, vI p4, .unset, .unset, .unset, .unset, .unset, .unset, .unset, .unset, .unset, .unset, .unset, .unset, .unset, .unset, .unset, .unset, .unset, .unset, .unset, .unset, .unset] [(.int (1 : Int32)), (.int ((p4.toUInt32 >>> ((8 : Int32) &&& 31).toUInt32).toInt32))])) _
  refine XS.iand X0.here hx rfl (hb hby at_6) rfl ?_
  exact kt)
 have R712 : ∀ tg, Steps p.tables e below (s₁.setTop (mkF m 17 #[vJ q1, .second, vJ q2, .second, vJ q3, .second, vI p4, .unset, .unset, .unset, .unset, .unset, .unset, .unset, .unset, .unset, .unset, .unset, .unset, .unset, .unset, .unset, .unset, .unset, .unset, .unset, .unset, .unset] [(.long (own_pk (((p4.toUInt32 >>> ((8 : Int32) &&& 31).toUInt32).toInt32) &&& (1 : Int32)) q1))])) tg → Steps p.tables e below (s₁.setTop (mkF m 0 #[vJ q1, .second, vJ q2, .second, vJ q3, .second, vI p4, .unset, .unset, .unset, .unset, .unset, .unset, .unset, .unset, .unset, .unset, .unset, .unset, .unset, .unset, .unset, .unset, .unset, .unset, .unset, .unset, .unset] [])) tg := by
  intro tg kt
  refine R711 _ ?_
  by_cases hc : (((p4.toUInt32 >>> ((8 : Int32) &&& 31).toUInt32).toInt32) &&& (1 : Int32)) = (0 : Int32)
  ·rw [show (own_pk (((p4.toUInt32 >>> ((8 : Int32) &&& 31).toUInt32).toInt32) &&& (1 : Int32)) q1) = q1 from (if_pos hc)] at kt
   show Steps p.tables e below (s₁.setTop (mkF m 7 #[vJ q1, .second, vJ q2, .second, vJ q3, .second, vI p4, .unset, .unset, .unset, .unset, .unset, .unset, .unset, .unset, .unset, .unset, .unset, .unset, .unset, .unset, .unset, .unset, .unset, .unset, .unset, .unset, .unset] [(.int (((p4.toUInt32 >>> ((8 : Int32) &&& 31).toUInt32).toInt32) &&& (1 : Int32)))])) _
   refine XS.ifYes X0.here hx rfl (pc0 := 7) (pc' := 16) rfl (hb hby at_7) rfl ((if0 _ _).trans (teq (hc : (((p4.toUInt32 >>> ((8 : Int32) &&& 31).toUInt32).toInt32) &&& (1 : Int32)) = (0 : Int32))).1) (by decide) (by decide) ?_
   refine XS.lloadN X0.here hx rfl (hb hby at_16) rfl ?_
   exact kt
  ·rw [show (own_pk (((p4.toUInt32 >>> ((8 : Int32) &&& 31).toUInt32).toInt32) &&& (1 : Int32)) q1) = (-3750763034362895579 : Int64) from (if_neg hc)] at kt
   show Steps p.tables e below (s₁.setTop (mkF m 7 #[vJ q1, .second, vJ q2, .second, vJ q3, .second, vI p4, .unset, .unset, .unset, .unset, .unset, .unset, .unset, .unset, .unset, .unset, .unset, .unset, .unset, .unset, .unset, .unset, .unset, .unset, .unset, .unset, .unset] [(.int (((p4.toUInt32 >>> ((8 : Int32) &&& 31).toUInt32).toInt32) &&& (1 : Int32)))])) _
   refine XS.ifNo X0.here hx rfl (hb hby at_7) rfl ((if0 _ _).trans (feq (hc : ¬ ((((p4.toUInt32 >>> ((8 : Int32) &&& 31).toUInt32).toInt32) &&& (1 : Int32)) = (0 : Int32)))).1) ?_
   show Steps p.tables e below (s₁.setTop (mkF m 10 #[vJ q1, .second, vJ q2, .second, vJ q3, .second, vI p4, .unset, .unset, .unset, .unset, .unset, .unset, .unset, .unset, .unset, .unset, .unset, .unset, .unset, .unset, .unset, .unset, .unset, .unset, .unset, .unset, .unset] [])) _
   refine X0.ldc2Long hx hown (mvT hZ (oW hw 113 rfl)) (g := (mkF m 10 #[vJ q1, .second, vJ q2, .second, vJ q3, .second, vI p4, .unset, .unset, .unset, .unset, .unset, .unset, .unset, .unset, .unset, .unset, .unset, .unset, .unset, .unset, .unset, .unset, .unset, .unset, .unset, .unset, .unset] [])) rfl (hb hby at_10) _ ?_
   show Steps p.tables e below (s₁.setTop (mkF m 13 #[vJ q1, .second, vJ q2, .second, vJ q3, .second, vI p4, .unset, .unset, .unset, .unset, .unset, .unset, .unset, .unset, .unset, .unset, .unset, .unset, .unset, .unset, .unset, .unset, .unset, .unset, .unset, .unset, .unset] [(.long (-3750763034362895579 : Int64))])) _
   refine XS.goto X0.here hx rfl (pc0 := 13) (pc' := 17) rfl (hb hby at_13) (by decide) (by decide) ?_
   exact kt
 clear R711
 have R713 := fun (tg : State) (kt : Steps p.tables e below (s₁.setTop (mkF m 26 #[vJ q1, .second, vJ q2, .second, vJ q3, .second, vI p4, vJ (own_pk (((p4.toUInt32 >>> ((8 : Int32) &&& 31).toUInt32).toInt32) &&& (1 : Int32)) q1), .second, .unset, .unset, .unset, .unset, .unset, .unset, .unset, .unset, .unset, .unset, .unset, .unset, .unset, .unset, .unset, .unset, .unset, .unset, .unset] [(.int (((p4.toUInt32 >>> ((9 : Int32) &&& 31).toUInt32).toInt32) &&& (1 : Int32)))])) tg) => R712 tg (by
  show Steps _ _ _ (s₁.setTop (mkF m 17 #[vJ q1, .second, vJ q2, .second, vJ q3, .second, vI p4, .unset, .unset, .unset, .unset, .unset, .unset, .unset, .unset, .unset, .unset, .unset, .unset, .unset, .unset, .unset, .unset, .unset, .unset, .unset, .unset, .unset] [(.long (own_pk (((p4.toUInt32 >>> ((8 : Int32) &&& 31).toUInt32).toInt32) &&& (1 : Int32)) q1))])) _
  refine XS.lstore X0.here hx rfl (hb hby at_17) rfl (l' := #[vJ q1, .second, vJ q2, .second, vJ q3, .second, vI p4, vJ (own_pk (((p4.toUInt32 >>> ((8 : Int32) &&& 31).toUInt32).toInt32) &&& (1 : Int32)) q1), .second, .unset, .unset, .unset, .unset, .unset, .unset, .unset, .unset, .unset, .unset, .unset, .unset, .unset, .unset, .unset, .unset, .unset, .unset, .unset]) rfl ?_
  refine XS.iload X0.here hx rfl (hb hby at_19) rfl ?_
  refine XS.bipush X0.here hx rfl (hb hby at_21) ?_
  show Steps _ _ _ (s₁.setTop (mkF m 23 #[vJ q1, .second, vJ q2, .second, vJ q3, .second, vI p4, vJ (own_pk (((p4.toUInt32 >>> ((8 : Int32) &&& 31).toUInt32).toInt32) &&& (1 : Int32)) q1), .second, .unset, .unset, .unset, .unset, .unset, .unset, .unset, .unset, .unset, .unset, .unset, .unset, .unset, .unset, .unset, .unset, .unset, .unset, .unset] [(.int (9 : Int32)), (.int p4)])) _
  refine XS.iushr X0.here hx rfl (hb hby at_23) rfl ?_
  refine XS.iconst X0.here hx rfl (hb hby at_24) ?_
  show Steps _ _ _ (s₁.setTop (mkF m 25 #[vJ q1, .second, vJ q2, .second, vJ q3, .second, vI p4, vJ (own_pk (((p4.toUInt32 >>> ((8 : Int32) &&& 31).toUInt32).toInt32) &&& (1 : Int32)) q1), .second, .unset, .unset, .unset, .unset, .unset, .unset, .unset, .unset, .unset, .unset, .unset, .unset, .unset, .unset, .unset, .unset, .unset, .unset, .unset] [(.int (1 : Int32)), (.int ((p4.toUInt32 >>> ((9 : Int32) &&& 31).toUInt32).toInt32))])) _
  refine XS.iand X0.here hx rfl (hb hby at_25) rfl ?_
  exact kt)
 clear R712
 have R714 : ∀ tg, Steps p.tables e below (s₁.setTop (mkF m 36 #[vJ q1, .second, vJ q2, .second, vJ q3, .second, vI p4, vJ (own_pk (((p4.toUInt32 >>> ((8 : Int32) &&& 31).toUInt32).toInt32) &&& (1 : Int32)) q1), .second, .unset, .unset, .unset, .unset, .unset, .unset, .unset, .unset, .unset, .unset, .unset, .unset, .unset, .unset, .unset, .unset, .unset, .unset, .unset] [(.long (own_pk (((p4.toUInt32 >>> ((9 : Int32) &&& 31).toUInt32).toInt32) &&& (1 : Int32)) q2))])) tg → Steps p.tables e below (s₁.setTop (mkF m 0 #[vJ q1, .second, vJ q2, .second, vJ q3, .second, vI p4, .unset, .unset, .unset, .unset, .unset, .unset, .unset, .unset, .unset, .unset, .unset, .unset, .unset, .unset, .unset, .unset, .unset, .unset, .unset, .unset, .unset] [])) tg := by
  intro tg kt
  refine R713 _ ?_
  by_cases hc : (((p4.toUInt32 >>> ((9 : Int32) &&& 31).toUInt32).toInt32) &&& (1 : Int32)) = (0 : Int32)
  ·rw [show (own_pk (((p4.toUInt32 >>> ((9 : Int32) &&& 31).toUInt32).toInt32) &&& (1 : Int32)) q2) = q2 from (if_pos hc)] at kt
   show Steps p.tables e below (s₁.setTop (mkF m 26 #[vJ q1, .second, vJ q2, .second, vJ q3, .second, vI p4, vJ (own_pk (((p4.toUInt32 >>> ((8 : Int32) &&& 31).toUInt32).toInt32) &&& (1 : Int32)) q1), .second, .unset, .unset, .unset, .unset, .unset, .unset, .unset, .unset, .unset, .unset, .unset, .unset, .unset, .unset, .unset, .unset, .unset, .unset, .unset] [(.int (((p4.toUInt32 >>> ((9 : Int32) &&& 31).toUInt32).toInt32) &&& (1 : Int32)))])) _
   refine XS.ifYes X0.here hx rfl (pc0 := 26) (pc' := 35) rfl (hb hby at_26) rfl ((if0 _ _).trans (teq (hc : (((p4.toUInt32 >>> ((9 : Int32) &&& 31).toUInt32).toInt32) &&& (1 : Int32)) = (0 : Int32))).1) (by decide) (by decide) ?_
   refine XS.lloadN X0.here hx rfl (hb hby at_35) rfl ?_
   exact kt
  ·rw [show (own_pk (((p4.toUInt32 >>> ((9 : Int32) &&& 31).toUInt32).toInt32) &&& (1 : Int32)) q2) = (-3750763034362895579 : Int64) from (if_neg hc)] at kt
   show Steps p.tables e below (s₁.setTop (mkF m 26 #[vJ q1, .second, vJ q2, .second, vJ q3, .second, vI p4, vJ (own_pk (((p4.toUInt32 >>> ((8 : Int32) &&& 31).toUInt32).toInt32) &&& (1 : Int32)) q1), .second, .unset, .unset, .unset, .unset, .unset, .unset, .unset, .unset, .unset, .unset, .unset, .unset, .unset, .unset, .unset, .unset, .unset, .unset, .unset] [(.int (((p4.toUInt32 >>> ((9 : Int32) &&& 31).toUInt32).toInt32) &&& (1 : Int32)))])) _
   refine XS.ifNo X0.here hx rfl (hb hby at_26) rfl ((if0 _ _).trans (feq (hc : ¬ ((((p4.toUInt32 >>> ((9 : Int32) &&& 31).toUInt32).toInt32) &&& (1 : Int32)) = (0 : Int32)))).1) ?_
   show Steps p.tables e below (s₁.setTop (mkF m 29 #[vJ q1, .second, vJ q2, .second, vJ q3, .second, vI p4, vJ (own_pk (((p4.toUInt32 >>> ((8 : Int32) &&& 31).toUInt32).toInt32) &&& (1 : Int32)) q1), .second, .unset, .unset, .unset, .unset, .unset, .unset, .unset, .unset, .unset, .unset, .unset, .unset, .unset, .unset, .unset, .unset, .unset, .unset, .unset] [])) _
   refine X0.ldc2Long hx hown (mvT hZ (oW hw 113 rfl)) (g := (mkF m 29 #[vJ q1, .second, vJ q2, .second, vJ q3, .second, vI p4, vJ (own_pk (((p4.toUInt32 >>> ((8 : Int32) &&& 31).toUInt32).toInt32) &&& (1 : Int32)) q1), .second, .unset, .unset, .unset, .unset, .unset, .unset, .unset, .unset, .unset, .unset, .unset, .unset, .unset, .unset, .unset, .unset, .unset, .unset, .unset] [])) rfl (hb hby at_29) _ ?_
   show Steps p.tables e below (s₁.setTop (mkF m 32 #[vJ q1, .second, vJ q2, .second, vJ q3, .second, vI p4, vJ (own_pk (((p4.toUInt32 >>> ((8 : Int32) &&& 31).toUInt32).toInt32) &&& (1 : Int32)) q1), .second, .unset, .unset, .unset, .unset, .unset, .unset, .unset, .unset, .unset, .unset, .unset, .unset, .unset, .unset, .unset, .unset, .unset, .unset, .unset] [(.long (-3750763034362895579 : Int64))])) _
   refine XS.goto X0.here hx rfl (pc0 := 32) (pc' := 36) rfl (hb hby at_32) (by decide) (by decide) ?_
   exact kt
 clear R713
 have R715 := fun (tg : State) (kt : Steps p.tables e below (s₁.setTop (mkF m 78 #[vJ q1, .second, vJ q2, .second, vJ q3, .second, vI p4, vJ (own_pk (((p4.toUInt32 >>> ((8 : Int32) &&& 31).toUInt32).toInt32) &&& (1 : Int32)) q1), .second, vJ (own_pk (((p4.toUInt32 >>> ((9 : Int32) &&& 31).toUInt32).toInt32) &&& (1 : Int32)) q2), .second, vI (p4 &&& (3 : Int32)), vI (((p4.toUInt32 >>> ((2 : Int32) &&& 31).toUInt32).toInt32) &&& (3 : Int32)), vI (((p4.toUInt32 >>> ((4 : Int32) &&& 31).toUInt32).toInt32) &&& (3 : Int32)), vI (((p4.toUInt32 >>> ((6 : Int32) &&& 31).toUInt32).toInt32) &&& (3 : Int32)), vI (((p4.toUInt32 >>> ((10 : Int32) &&& 31).toUInt32).toInt32) &&& (3 : Int32)), .unset, .unset, .unset, .unset, .unset, .unset, .unset, .unset, .unset, .unset, .unset, .unset] [])) tg) => R714 tg (by
  show Steps _ _ _ (s₁.setTop (mkF m 36 #[vJ q1, .second, vJ q2, .second, vJ q3, .second, vI p4, vJ (own_pk (((p4.toUInt32 >>> ((8 : Int32) &&& 31).toUInt32).toInt32) &&& (1 : Int32)) q1), .second, .unset, .unset, .unset, .unset, .unset, .unset, .unset, .unset, .unset, .unset, .unset, .unset, .unset, .unset, .unset, .unset, .unset, .unset, .unset] [(.long (own_pk (((p4.toUInt32 >>> ((9 : Int32) &&& 31).toUInt32).toInt32) &&& (1 : Int32)) q2))])) _
  refine XS.lstore X0.here hx rfl (hb hby at_36) rfl (l' := #[vJ q1, .second, vJ q2, .second, vJ q3, .second, vI p4, vJ (own_pk (((p4.toUInt32 >>> ((8 : Int32) &&& 31).toUInt32).toInt32) &&& (1 : Int32)) q1), .second, vJ (own_pk (((p4.toUInt32 >>> ((9 : Int32) &&& 31).toUInt32).toInt32) &&& (1 : Int32)) q2), .second, .unset, .unset, .unset, .unset, .unset, .unset, .unset, .unset, .unset, .unset, .unset, .unset, .unset, .unset, .unset, .unset, .unset]) rfl ?_
  refine XS.iload X0.here hx rfl (hb hby at_38) rfl ?_
  refine XS.iconst X0.here hx rfl (hb hby at_40) ?_
  show Steps _ _ _ (s₁.setTop (mkF m 41 #[vJ q1, .second, vJ q2, .second, vJ q3, .second, vI p4, vJ (own_pk (((p4.toUInt32 >>> ((8 : Int32) &&& 31).toUInt32).toInt32) &&& (1 : Int32)) q1), .second, vJ (own_pk (((p4.toUInt32 >>> ((9 : Int32) &&& 31).toUInt32).toInt32) &&& (1 : Int32)) q2), .second, .unset, .unset, .unset, .unset, .unset, .unset, .unset, .unset, .unset, .unset, .unset, .unset, .unset, .unset, .unset, .unset, .unset] [(.int (3 : Int32)), (.int p4)])) _
  refine XS.iand X0.here hx rfl (hb hby at_41) rfl ?_
  show Steps _ _ _ (s₁.setTop (mkF m 42 #[vJ q1, .second, vJ q2, .second, vJ q3, .second, vI p4, vJ (own_pk (((p4.toUInt32 >>> ((8 : Int32) &&& 31).toUInt32).toInt32) &&& (1 : Int32)) q1), .second, vJ (own_pk (((p4.toUInt32 >>> ((9 : Int32) &&& 31).toUInt32).toInt32) &&& (1 : Int32)) q2), .second, .unset, .unset, .unset, .unset, .unset, .unset, .unset, .unset, .unset, .unset, .unset, .unset, .unset, .unset, .unset, .unset, .unset] [(.int (p4 &&& (3 : Int32)))])) _
  refine XS.istore X0.here hx rfl (hb hby at_42) rfl (l' := #[vJ q1, .second, vJ q2, .second, vJ q3, .second, vI p4, vJ (own_pk (((p4.toUInt32 >>> ((8 : Int32) &&& 31).toUInt32).toInt32) &&& (1 : Int32)) q1), .second, vJ (own_pk (((p4.toUInt32 >>> ((9 : Int32) &&& 31).toUInt32).toInt32) &&& (1 : Int32)) q2), .second, vI (p4 &&& (3 : Int32)), .unset, .unset, .unset, .unset, .unset, .unset, .unset, .unset, .unset, .unset, .unset, .unset, .unset, .unset, .unset, .unset]) rfl ?_
  refine XS.iload X0.here hx rfl (hb hby at_44) rfl ?_
  refine XS.iconst X0.here hx rfl (hb hby at_46) ?_
  show Steps _ _ _ (s₁.setTop (mkF m 47 #[vJ q1, .second, vJ q2, .second, vJ q3, .second, vI p4, vJ (own_pk (((p4.toUInt32 >>> ((8 : Int32) &&& 31).toUInt32).toInt32) &&& (1 : Int32)) q1), .second, vJ (own_pk (((p4.toUInt32 >>> ((9 : Int32) &&& 31).toUInt32).toInt32) &&& (1 : Int32)) q2), .second, vI (p4 &&& (3 : Int32)), .unset, .unset, .unset, .unset, .unset, .unset, .unset, .unset, .unset, .unset, .unset, .unset, .unset, .unset, .unset, .unset] [(.int (2 : Int32)), (.int p4)])) _
  refine XS.iushr X0.here hx rfl (hb hby at_47) rfl ?_
  refine XS.iconst X0.here hx rfl (hb hby at_48) ?_
  show Steps _ _ _ (s₁.setTop (mkF m 49 #[vJ q1, .second, vJ q2, .second, vJ q3, .second, vI p4, vJ (own_pk (((p4.toUInt32 >>> ((8 : Int32) &&& 31).toUInt32).toInt32) &&& (1 : Int32)) q1), .second, vJ (own_pk (((p4.toUInt32 >>> ((9 : Int32) &&& 31).toUInt32).toInt32) &&& (1 : Int32)) q2), .second, vI (p4 &&& (3 : Int32)), .unset, .unset, .unset, .unset, .unset, .unset, .unset, .unset, .unset, .unset, .unset, .unset, .unset, .unset, .unset, .unset] [(.int (3 : Int32)), (.int ((p4.toUInt32 >>> ((2 : Int32) &&& 31).toUInt32).toInt32))])) _
  refine XS.iand X0.here hx rfl (hb hby at_49) rfl ?_
  show Steps _ _ _ (s₁.setTop (mkF m 50 #[vJ q1, .second, vJ q2, .second, vJ q3, .second, vI p4, vJ (own_pk (((p4.toUInt32 >>> ((8 : Int32) &&& 31).toUInt32).toInt32) &&& (1 : Int32)) q1), .second, vJ (own_pk (((p4.toUInt32 >>> ((9 : Int32) &&& 31).toUInt32).toInt32) &&& (1 : Int32)) q2), .second, vI (p4 &&& (3 : Int32)), .unset, .unset, .unset, .unset, .unset, .unset, .unset, .unset, .unset, .unset, .unset, .unset, .unset, .unset, .unset, .unset] [(.int (((p4.toUInt32 >>> ((2 : Int32) &&& 31).toUInt32).toInt32) &&& (3 : Int32)))])) _
  refine XS.istore X0.here hx rfl (hb hby at_50) rfl (l' := #[vJ q1, .second, vJ q2, .second, vJ q3, .second, vI p4, vJ (own_pk (((p4.toUInt32 >>> ((8 : Int32) &&& 31).toUInt32).toInt32) &&& (1 : Int32)) q1), .second, vJ (own_pk (((p4.toUInt32 >>> ((9 : Int32) &&& 31).toUInt32).toInt32) &&& (1 : Int32)) q2), .second, vI (p4 &&& (3 : Int32)), vI (((p4.toUInt32 >>> ((2 : Int32) &&& 31).toUInt32).toInt32) &&& (3 : Int32)), .unset, .unset, .unset, .unset, .unset, .unset, .unset, .unset, .unset, .unset, .unset, .unset, .unset, .unset, .unset]) rfl ?_
  refine XS.iload X0.here hx rfl (hb hby at_52) rfl ?_
  refine XS.iconst X0.here hx rfl (hb hby at_54) ?_
  show Steps _ _ _ (s₁.setTop (mkF m 55 #[vJ q1, .second, vJ q2, .second, vJ q3, .second, vI p4, vJ (own_pk (((p4.toUInt32 >>> ((8 : Int32) &&& 31).toUInt32).toInt32) &&& (1 : Int32)) q1), .second, vJ (own_pk (((p4.toUInt32 >>> ((9 : Int32) &&& 31).toUInt32).toInt32) &&& (1 : Int32)) q2), .second, vI (p4 &&& (3 : Int32)), vI (((p4.toUInt32 >>> ((2 : Int32) &&& 31).toUInt32).toInt32) &&& (3 : Int32)), .unset, .unset, .unset, .unset, .unset, .unset, .unset, .unset, .unset, .unset, .unset, .unset, .unset, .unset, .unset] [(.int (4 : Int32)), (.int p4)])) _
  refine XS.iushr X0.here hx rfl (hb hby at_55) rfl ?_
  refine XS.iconst X0.here hx rfl (hb hby at_56) ?_
  show Steps _ _ _ (s₁.setTop (mkF m 57 #[vJ q1, .second, vJ q2, .second, vJ q3, .second, vI p4, vJ (own_pk (((p4.toUInt32 >>> ((8 : Int32) &&& 31).toUInt32).toInt32) &&& (1 : Int32)) q1), .second, vJ (own_pk (((p4.toUInt32 >>> ((9 : Int32) &&& 31).toUInt32).toInt32) &&& (1 : Int32)) q2), .second, vI (p4 &&& (3 : Int32)), vI (((p4.toUInt32 >>> ((2 : Int32) &&& 31).toUInt32).toInt32) &&& (3 : Int32)), .unset, .unset, .unset, .unset, .unset, .unset, .unset, .unset, .unset, .unset, .unset, .unset, .unset, .unset, .unset] [(.int (3 : Int32)), (.int ((p4.toUInt32 >>> ((4 : Int32) &&& 31).toUInt32).toInt32))])) _
  refine XS.iand X0.here hx rfl (hb hby at_57) rfl ?_
  show Steps _ _ _ (s₁.setTop (mkF m 58 #[vJ q1, .second, vJ q2, .second, vJ q3, .second, vI p4, vJ (own_pk (((p4.toUInt32 >>> ((8 : Int32) &&& 31).toUInt32).toInt32) &&& (1 : Int32)) q1), .second, vJ (own_pk (((p4.toUInt32 >>> ((9 : Int32) &&& 31).toUInt32).toInt32) &&& (1 : Int32)) q2), .second, vI (p4 &&& (3 : Int32)), vI (((p4.toUInt32 >>> ((2 : Int32) &&& 31).toUInt32).toInt32) &&& (3 : Int32)), .unset, .unset, .unset, .unset, .unset, .unset, .unset, .unset, .unset, .unset, .unset, .unset, .unset, .unset, .unset] [(.int (((p4.toUInt32 >>> ((4 : Int32) &&& 31).toUInt32).toInt32) &&& (3 : Int32)))])) _
  refine XS.istore X0.here hx rfl (hb hby at_58) rfl (l' := #[vJ q1, .second, vJ q2, .second, vJ q3, .second, vI p4, vJ (own_pk (((p4.toUInt32 >>> ((8 : Int32) &&& 31).toUInt32).toInt32) &&& (1 : Int32)) q1), .second, vJ (own_pk (((p4.toUInt32 >>> ((9 : Int32) &&& 31).toUInt32).toInt32) &&& (1 : Int32)) q2), .second, vI (p4 &&& (3 : Int32)), vI (((p4.toUInt32 >>> ((2 : Int32) &&& 31).toUInt32).toInt32) &&& (3 : Int32)), vI (((p4.toUInt32 >>> ((4 : Int32) &&& 31).toUInt32).toInt32) &&& (3 : Int32)), .unset, .unset, .unset, .unset, .unset, .unset, .unset, .unset, .unset, .unset, .unset, .unset, .unset, .unset]) rfl ?_
  refine XS.iload X0.here hx rfl (hb hby at_60) rfl ?_
  refine XS.bipush X0.here hx rfl (hb hby at_62) ?_
  show Steps _ _ _ (s₁.setTop (mkF m 64 #[vJ q1, .second, vJ q2, .second, vJ q3, .second, vI p4, vJ (own_pk (((p4.toUInt32 >>> ((8 : Int32) &&& 31).toUInt32).toInt32) &&& (1 : Int32)) q1), .second, vJ (own_pk (((p4.toUInt32 >>> ((9 : Int32) &&& 31).toUInt32).toInt32) &&& (1 : Int32)) q2), .second, vI (p4 &&& (3 : Int32)), vI (((p4.toUInt32 >>> ((2 : Int32) &&& 31).toUInt32).toInt32) &&& (3 : Int32)), vI (((p4.toUInt32 >>> ((4 : Int32) &&& 31).toUInt32).toInt32) &&& (3 : Int32)), .unset, .unset, .unset, .unset, .unset, .unset, .unset, .unset, .unset, .unset, .unset, .unset, .unset, .unset] [(.int (6 : Int32)), (.int p4)])) _
  refine XS.iushr X0.here hx rfl (hb hby at_64) rfl ?_
  refine XS.iconst X0.here hx rfl (hb hby at_65) ?_
  show Steps _ _ _ (s₁.setTop (mkF m 66 #[vJ q1, .second, vJ q2, .second, vJ q3, .second, vI p4, vJ (own_pk (((p4.toUInt32 >>> ((8 : Int32) &&& 31).toUInt32).toInt32) &&& (1 : Int32)) q1), .second, vJ (own_pk (((p4.toUInt32 >>> ((9 : Int32) &&& 31).toUInt32).toInt32) &&& (1 : Int32)) q2), .second, vI (p4 &&& (3 : Int32)), vI (((p4.toUInt32 >>> ((2 : Int32) &&& 31).toUInt32).toInt32) &&& (3 : Int32)), vI (((p4.toUInt32 >>> ((4 : Int32) &&& 31).toUInt32).toInt32) &&& (3 : Int32)), .unset, .unset, .unset, .unset, .unset, .unset, .unset, .unset, .unset, .unset, .unset, .unset, .unset, .unset] [(.int (3 : Int32)), (.int ((p4.toUInt32 >>> ((6 : Int32) &&& 31).toUInt32).toInt32))])) _
  refine XS.iand X0.here hx rfl (hb hby at_66) rfl ?_
  show Steps _ _ _ (s₁.setTop (mkF m 67 #[vJ q1, .second, vJ q2, .second, vJ q3, .second, vI p4, vJ (own_pk (((p4.toUInt32 >>> ((8 : Int32) &&& 31).toUInt32).toInt32) &&& (1 : Int32)) q1), .second, vJ (own_pk (((p4.toUInt32 >>> ((9 : Int32) &&& 31).toUInt32).toInt32) &&& (1 : Int32)) q2), .second, vI (p4 &&& (3 : Int32)), vI (((p4.toUInt32 >>> ((2 : Int32) &&& 31).toUInt32).toInt32) &&& (3 : Int32)), vI (((p4.toUInt32 >>> ((4 : Int32) &&& 31).toUInt32).toInt32) &&& (3 : Int32)), .unset, .unset, .unset, .unset, .unset, .unset, .unset, .unset, .unset, .unset, .unset, .unset, .unset, .unset] [(.int (((p4.toUInt32 >>> ((6 : Int32) &&& 31).toUInt32).toInt32) &&& (3 : Int32)))])) _
  refine XS.istore X0.here hx rfl (hb hby at_67) rfl (l' := #[vJ q1, .second, vJ q2, .second, vJ q3, .second, vI p4, vJ (own_pk (((p4.toUInt32 >>> ((8 : Int32) &&& 31).toUInt32).toInt32) &&& (1 : Int32)) q1), .second, vJ (own_pk (((p4.toUInt32 >>> ((9 : Int32) &&& 31).toUInt32).toInt32) &&& (1 : Int32)) q2), .second, vI (p4 &&& (3 : Int32)), vI (((p4.toUInt32 >>> ((2 : Int32) &&& 31).toUInt32).toInt32) &&& (3 : Int32)), vI (((p4.toUInt32 >>> ((4 : Int32) &&& 31).toUInt32).toInt32) &&& (3 : Int32)), vI (((p4.toUInt32 >>> ((6 : Int32) &&& 31).toUInt32).toInt32) &&& (3 : Int32)), .unset, .unset, .unset, .unset, .unset, .unset, .unset, .unset, .unset, .unset, .unset, .unset, .unset]) rfl ?_
  refine XS.iload X0.here hx rfl (hb hby at_69) rfl ?_
  refine XS.bipush X0.here hx rfl (hb hby at_71) ?_
  show Steps _ _ _ (s₁.setTop (mkF m 73 #[vJ q1, .second, vJ q2, .second, vJ q3, .second, vI p4, vJ (own_pk (((p4.toUInt32 >>> ((8 : Int32) &&& 31).toUInt32).toInt32) &&& (1 : Int32)) q1), .second, vJ (own_pk (((p4.toUInt32 >>> ((9 : Int32) &&& 31).toUInt32).toInt32) &&& (1 : Int32)) q2), .second, vI (p4 &&& (3 : Int32)), vI (((p4.toUInt32 >>> ((2 : Int32) &&& 31).toUInt32).toInt32) &&& (3 : Int32)), vI (((p4.toUInt32 >>> ((4 : Int32) &&& 31).toUInt32).toInt32) &&& (3 : Int32)), vI (((p4.toUInt32 >>> ((6 : Int32) &&& 31).toUInt32).toInt32) &&& (3 : Int32)), .unset, .unset, .unset, .unset, .unset, .unset, .unset, .unset, .unset, .unset, .unset, .unset, .unset] [(.int (10 : Int32)), (.int p4)])) _
  refine XS.iushr X0.here hx rfl (hb hby at_73) rfl ?_
  refine XS.iconst X0.here hx rfl (hb hby at_74) ?_
  show Steps _ _ _ (s₁.setTop (mkF m 75 #[vJ q1, .second, vJ q2, .second, vJ q3, .second, vI p4, vJ (own_pk (((p4.toUInt32 >>> ((8 : Int32) &&& 31).toUInt32).toInt32) &&& (1 : Int32)) q1), .second, vJ (own_pk (((p4.toUInt32 >>> ((9 : Int32) &&& 31).toUInt32).toInt32) &&& (1 : Int32)) q2), .second, vI (p4 &&& (3 : Int32)), vI (((p4.toUInt32 >>> ((2 : Int32) &&& 31).toUInt32).toInt32) &&& (3 : Int32)), vI (((p4.toUInt32 >>> ((4 : Int32) &&& 31).toUInt32).toInt32) &&& (3 : Int32)), vI (((p4.toUInt32 >>> ((6 : Int32) &&& 31).toUInt32).toInt32) &&& (3 : Int32)), .unset, .unset, .unset, .unset, .unset, .unset, .unset, .unset, .unset, .unset, .unset, .unset, .unset] [(.int (3 : Int32)), (.int ((p4.toUInt32 >>> ((10 : Int32) &&& 31).toUInt32).toInt32))])) _
  refine XS.iand X0.here hx rfl (hb hby at_75) rfl ?_
  show Steps _ _ _ (s₁.setTop (mkF m 76 #[vJ q1, .second, vJ q2, .second, vJ q3, .second, vI p4, vJ (own_pk (((p4.toUInt32 >>> ((8 : Int32) &&& 31).toUInt32).toInt32) &&& (1 : Int32)) q1), .second, vJ (own_pk (((p4.toUInt32 >>> ((9 : Int32) &&& 31).toUInt32).toInt32) &&& (1 : Int32)) q2), .second, vI (p4 &&& (3 : Int32)), vI (((p4.toUInt32 >>> ((2 : Int32) &&& 31).toUInt32).toInt32) &&& (3 : Int32)), vI (((p4.toUInt32 >>> ((4 : Int32) &&& 31).toUInt32).toInt32) &&& (3 : Int32)), vI (((p4.toUInt32 >>> ((6 : Int32) &&& 31).toUInt32).toInt32) &&& (3 : Int32)), .unset, .unset, .unset, .unset, .unset, .unset, .unset, .unset, .unset, .unset, .unset, .unset, .unset] [(.int (((p4.toUInt32 >>> ((10 : Int32) &&& 31).toUInt32).toInt32) &&& (3 : Int32)))])) _
  refine XS.istore X0.here hx rfl (hb hby at_76) rfl (l' := #[vJ q1, .second, vJ q2, .second, vJ q3, .second, vI p4, vJ (own_pk (((p4.toUInt32 >>> ((8 : Int32) &&& 31).toUInt32).toInt32) &&& (1 : Int32)) q1), .second, vJ (own_pk (((p4.toUInt32 >>> ((9 : Int32) &&& 31).toUInt32).toInt32) &&& (1 : Int32)) q2), .second, vI (p4 &&& (3 : Int32)), vI (((p4.toUInt32 >>> ((2 : Int32) &&& 31).toUInt32).toInt32) &&& (3 : Int32)), vI (((p4.toUInt32 >>> ((4 : Int32) &&& 31).toUInt32).toInt32) &&& (3 : Int32)), vI (((p4.toUInt32 >>> ((6 : Int32) &&& 31).toUInt32).toInt32) &&& (3 : Int32)), vI (((p4.toUInt32 >>> ((10 : Int32) &&& 31).toUInt32).toInt32) &&& (3 : Int32)), .unset, .unset, .unset, .unset, .unset, .unset, .unset, .unset, .unset, .unset, .unset, .unset]) rfl ?_
  exact kt)
 clear R714
 obtain ⟨fa, hfa⟩ : ∃ z : Int64, z = (own_pk (((p4.toUInt32 >>> ((8 : Int32) &&& 31).toUInt32).toInt32) &&& (1 : Int32)) q1) := ⟨_, rfl⟩
 have R716 : Sq p e below (s₁.setTop (mkF m 78 #[vJ q1, .second, vJ q2, .second, vJ q3, .second, vI p4, vJ fa, .second, vJ (own_pk (((p4.toUInt32 >>> ((9 : Int32) &&& 31).toUInt32).toInt32) &&& (1 : Int32)) q2), .second, vI (p4 &&& (3 : Int32)), vI (((p4.toUInt32 >>> ((2 : Int32) &&& 31).toUInt32).toInt32) &&& (3 : Int32)), vI (((p4.toUInt32 >>> ((4 : Int32) &&& 31).toUInt32).toInt32) &&& (3 : Int32)), vI (((p4.toUInt32 >>> ((6 : Int32) &&& 31).toUInt32).toInt32) &&& (3 : Int32)), vI (((p4.toUInt32 >>> ((10 : Int32) &&& 31).toUInt32).toInt32) &&& (3 : Int32)), .unset, .unset, .unset, .unset, .unset, .unset, .unset, .unset, .unset, .unset, .unset, .unset] [])) (s₁.setTop (mkF m 0 #[vJ q1, .second, vJ q2, .second, vJ q3, .second, vI p4, .unset, .unset, .unset, .unset, .unset, .unset, .unset, .unset, .unset, .unset, .unset, .unset, .unset, .unset, .unset, .unset, .unset, .unset, .unset, .unset, .unset] [])) := by rw [hfa]; exact R715
 obtain ⟨fb, hfb⟩ : ∃ z : Int64, z = (own_pk (((p4.toUInt32 >>> ((9 : Int32) &&& 31).toUInt32).toInt32) &&& (1 : Int32)) q2) := ⟨_, rfl⟩
 have R717 : Sq p e below (s₁.setTop (mkF m 78 #[vJ q1, .second, vJ q2, .second, vJ q3, .second, vI p4, vJ fa, .second, vJ fb, .second, vI (p4 &&& (3 : Int32)), vI (((p4.toUInt32 >>> ((2 : Int32) &&& 31).toUInt32).toInt32) &&& (3 : Int32)), vI (((p4.toUInt32 >>> ((4 : Int32) &&& 31).toUInt32).toInt32) &&& (3 : Int32)), vI (((p4.toUInt32 >>> ((6 : Int32) &&& 31).toUInt32).toInt32) &&& (3 : Int32)), vI (((p4.toUInt32 >>> ((10 : Int32) &&& 31).toUInt32).toInt32) &&& (3 : Int32)), .unset, .unset, .unset, .unset, .unset, .unset, .unset, .unset, .unset, .unset, .unset, .unset] [])) (s₁.setTop (mkF m 0 #[vJ q1, .second, vJ q2, .second, vJ q3, .second, vI p4, .unset, .unset, .unset, .unset, .unset, .unset, .unset, .unset, .unset, .unset, .unset, .unset, .unset, .unset, .unset, .unset, .unset, .unset, .unset, .unset, .unset] [])) := by rw [hfb]; exact R716
 have R718 := fun (tg : State) (kt : Steps p.tables e below (s₁.setTop (mkF m 80 #[vJ q1, .second, vJ q2, .second, vJ q3, .second, vI p4, vJ fa, .second, vJ fb, .second, vI (p4 &&& (3 : Int32)), vI (((p4.toUInt32 >>> ((2 : Int32) &&& 31).toUInt32).toInt32) &&& (3 : Int32)), vI (((p4.toUInt32 >>> ((4 : Int32) &&& 31).toUInt32).toInt32) &&& (3 : Int32)), vI (((p4.toUInt32 >>> ((6 : Int32) &&& 31).toUInt32).toInt32) &&& (3 : Int32)), vI (((p4.toUInt32 >>> ((10 : Int32) &&& 31).toUInt32).toInt32) &&& (3 : Int32)), .unset, .unset, .unset, .unset, .unset, .unset, .unset, .unset, .unset, .unset, .unset, .unset] [(.int (((p4.toUInt32 >>> ((10 : Int32) &&& 31).toUInt32).toInt32) &&& (3 : Int32)))])) tg) => R717 tg (by
  show Steps _ _ _ (s₁.setTop (mkF m 78 #[vJ q1, .second, vJ q2, .second, vJ q3, .second, vI p4, vJ fa, .second, vJ fb, .second, vI (p4 &&& (3 : Int32)), vI (((p4.toUInt32 >>> ((2 : Int32) &&& 31).toUInt32).toInt32) &&& (3 : Int32)), vI (((p4.toUInt32 >>> ((4 : Int32) &&& 31).toUInt32).toInt32) &&& (3 : Int32)), vI (((p4.toUInt32 >>> ((6 : Int32) &&& 31).toUInt32).toInt32) &&& (3 : Int32)), vI (((p4.toUInt32 >>> ((10 : Int32) &&& 31).toUInt32).toInt32) &&& (3 : Int32)), .unset, .unset, .unset, .unset, .unset, .unset, .unset, .unset, .unset, .unset, .unset, .unset] [])) _
  refine XS.iload X0.here hx rfl (hb hby at_78) rfl ?_
  exact kt)
 clear R717
 have R719 : ∀ tg, Steps p.tables e below (s₁.setTop (mkF m 113 #[vJ q1, .second, vJ q2, .second, vJ q3, .second, vI p4, vJ fa, .second, vJ fb, .second, vI (p4 &&& (3 : Int32)), vI (((p4.toUInt32 >>> ((2 : Int32) &&& 31).toUInt32).toInt32) &&& (3 : Int32)), vI (((p4.toUInt32 >>> ((4 : Int32) &&& 31).toUInt32).toInt32) &&& (3 : Int32)), vI (((p4.toUInt32 >>> ((6 : Int32) &&& 31).toUInt32).toInt32) &&& (3 : Int32)), vI (((p4.toUInt32 >>> ((10 : Int32) &&& 31).toUInt32).toInt32) &&& (3 : Int32)), .unset, .unset, .unset, .unset, .unset, .unset, .unset, .unset, .unset, .unset, .unset, .unset] [(.long (own_qq (((p4.toUInt32 >>> ((10 : Int32) &&& 31).toUInt32).toInt32) &&& (3 : Int32)) fa fb q3))])) tg → Steps p.tables e below (s₁.setTop (mkF m 0 #[vJ q1, .second, vJ q2, .second, vJ q3, .second, vI p4, .unset, .unset, .unset, .unset, .unset, .unset, .unset, .unset, .unset, .unset, .unset, .unset, .unset, .unset, .unset, .unset, .unset, .unset, .unset, .unset, .unset] [])) tg := by
  intro tg kt
  refine R718 _ ?_
  by_cases hqa : (((p4.toUInt32 >>> ((10 : Int32) &&& 31).toUInt32).toInt32) &&& (3 : Int32)) = (0 : Int32)
  ·rw [show (own_qq (((p4.toUInt32 >>> ((10 : Int32) &&& 31).toUInt32).toInt32) &&& (3 : Int32)) fa fb q3) = fa from (if_pos hqa)] at kt
   show Steps p.tables e below (s₁.setTop (mkF m 80 #[vJ q1, .second, vJ q2, .second, vJ q3, .second, vI p4, vJ fa, .second, vJ fb, .second, vI (p4 &&& (3 : Int32)), vI (((p4.toUInt32 >>> ((2 : Int32) &&& 31).toUInt32).toInt32) &&& (3 : Int32)), vI (((p4.toUInt32 >>> ((4 : Int32) &&& 31).toUInt32).toInt32) &&& (3 : Int32)), vI (((p4.toUInt32 >>> ((6 : Int32) &&& 31).toUInt32).toInt32) &&& (3 : Int32)), vI (((p4.toUInt32 >>> ((10 : Int32) &&& 31).toUInt32).toInt32) &&& (3 : Int32)), .unset, .unset, .unset, .unset, .unset, .unset, .unset, .unset, .unset, .unset, .unset, .unset] [(.int (((p4.toUInt32 >>> ((10 : Int32) &&& 31).toUInt32).toInt32) &&& (3 : Int32)))])) _
   refine XS.ifNo X0.here hx rfl (hb hby at_80) rfl ((if0 _ _).trans (teq (hqa : (((p4.toUInt32 >>> ((10 : Int32) &&& 31).toUInt32).toInt32) &&& (3 : Int32)) = (0 : Int32))).2) ?_
   refine XS.lload X0.here hx rfl (hb hby at_83) rfl ?_
   show Steps p.tables e below (s₁.setTop (mkF m 85 #[vJ q1, .second, vJ q2, .second, vJ q3, .second, vI p4, vJ fa, .second, vJ fb, .second, vI (p4 &&& (3 : Int32)), vI (((p4.toUInt32 >>> ((2 : Int32) &&& 31).toUInt32).toInt32) &&& (3 : Int32)), vI (((p4.toUInt32 >>> ((4 : Int32) &&& 31).toUInt32).toInt32) &&& (3 : Int32)), vI (((p4.toUInt32 >>> ((6 : Int32) &&& 31).toUInt32).toInt32) &&& (3 : Int32)), vI (((p4.toUInt32 >>> ((10 : Int32) &&& 31).toUInt32).toInt32) &&& (3 : Int32)), .unset, .unset, .unset, .unset, .unset, .unset, .unset, .unset, .unset, .unset, .unset, .unset] [(.long fa)])) _
   refine XS.goto X0.here hx rfl (pc0 := 85) (pc' := 113) rfl (hb hby at_85) (by decide) (by decide) ?_
   exact kt
  ·by_cases hqb : (((p4.toUInt32 >>> ((10 : Int32) &&& 31).toUInt32).toInt32) &&& (3 : Int32)) = (1 : Int32)
   ·rw [show (own_qq (((p4.toUInt32 >>> ((10 : Int32) &&& 31).toUInt32).toInt32) &&& (3 : Int32)) fa fb q3) = fb from ((if_neg hqa).trans (if_pos hqb))] at kt
    show Steps p.tables e below (s₁.setTop (mkF m 80 #[vJ q1, .second, vJ q2, .second, vJ q3, .second, vI p4, vJ fa, .second, vJ fb, .second, vI (p4 &&& (3 : Int32)), vI (((p4.toUInt32 >>> ((2 : Int32) &&& 31).toUInt32).toInt32) &&& (3 : Int32)), vI (((p4.toUInt32 >>> ((4 : Int32) &&& 31).toUInt32).toInt32) &&& (3 : Int32)), vI (((p4.toUInt32 >>> ((6 : Int32) &&& 31).toUInt32).toInt32) &&& (3 : Int32)), vI (((p4.toUInt32 >>> ((10 : Int32) &&& 31).toUInt32).toInt32) &&& (3 : Int32)), .unset, .unset, .unset, .unset, .unset, .unset, .unset, .unset, .unset, .unset, .unset, .unset] [(.int (((p4.toUInt32 >>> ((10 : Int32) &&& 31).toUInt32).toInt32) &&& (3 : Int32)))])) _
    refine XS.ifYes X0.here hx rfl (pc0 := 80) (pc' := 88) rfl (hb hby at_80) rfl ((if0 _ _).trans (feq (hqa : ¬ ((((p4.toUInt32 >>> ((10 : Int32) &&& 31).toUInt32).toInt32) &&& (3 : Int32)) = (0 : Int32)))).2) (by decide) (by decide) ?_
    refine XS.iload X0.here hx rfl (hb hby at_88) rfl ?_
    refine XS.iconst X0.here hx rfl (hb hby at_90) ?_
    show Steps p.tables e below (s₁.setTop (mkF m 91 #[vJ q1, .second, vJ q2, .second, vJ q3, .second, vI p4, vJ fa, .second, vJ fb, .second, vI (p4 &&& (3 : Int32)), vI (((p4.toUInt32 >>> ((2 : Int32) &&& 31).toUInt32).toInt32) &&& (3 : Int32)), vI (((p4.toUInt32 >>> ((4 : Int32) &&& 31).toUInt32).toInt32) &&& (3 : Int32)), vI (((p4.toUInt32 >>> ((6 : Int32) &&& 31).toUInt32).toInt32) &&& (3 : Int32)), vI (((p4.toUInt32 >>> ((10 : Int32) &&& 31).toUInt32).toInt32) &&& (3 : Int32)), .unset, .unset, .unset, .unset, .unset, .unset, .unset, .unset, .unset, .unset, .unset, .unset] [(.int (1 : Int32)), (.int (((p4.toUInt32 >>> ((10 : Int32) &&& 31).toUInt32).toInt32) &&& (3 : Int32)))])) _
    refine XS.icmpNo X0.here hx rfl (hb hby at_91) rfl (teq (hqb : (((p4.toUInt32 >>> ((10 : Int32) &&& 31).toUInt32).toInt32) &&& (3 : Int32)) = (1 : Int32))).2 ?_
    refine XS.lload X0.here hx rfl (hb hby at_94) rfl ?_
    show Steps p.tables e below (s₁.setTop (mkF m 96 #[vJ q1, .second, vJ q2, .second, vJ q3, .second, vI p4, vJ fa, .second, vJ fb, .second, vI (p4 &&& (3 : Int32)), vI (((p4.toUInt32 >>> ((2 : Int32) &&& 31).toUInt32).toInt32) &&& (3 : Int32)), vI (((p4.toUInt32 >>> ((4 : Int32) &&& 31).toUInt32).toInt32) &&& (3 : Int32)), vI (((p4.toUInt32 >>> ((6 : Int32) &&& 31).toUInt32).toInt32) &&& (3 : Int32)), vI (((p4.toUInt32 >>> ((10 : Int32) &&& 31).toUInt32).toInt32) &&& (3 : Int32)), .unset, .unset, .unset, .unset, .unset, .unset, .unset, .unset, .unset, .unset, .unset, .unset] [(.long fb)])) _
    refine XS.goto X0.here hx rfl (pc0 := 96) (pc' := 113) rfl (hb hby at_96) (by decide) (by decide) ?_
    exact kt
   ·by_cases hqc : (((p4.toUInt32 >>> ((10 : Int32) &&& 31).toUInt32).toInt32) &&& (3 : Int32)) = (2 : Int32)
    ·rw [show (own_qq (((p4.toUInt32 >>> ((10 : Int32) &&& 31).toUInt32).toInt32) &&& (3 : Int32)) fa fb q3) = q3 from ((if_neg hqa).trans ((if_neg hqb).trans (if_pos hqc)))] at kt
     show Steps p.tables e below (s₁.setTop (mkF m 80 #[vJ q1, .second, vJ q2, .second, vJ q3, .second, vI p4, vJ fa, .second, vJ fb, .second, vI (p4 &&& (3 : Int32)), vI (((p4.toUInt32 >>> ((2 : Int32) &&& 31).toUInt32).toInt32) &&& (3 : Int32)), vI (((p4.toUInt32 >>> ((4 : Int32) &&& 31).toUInt32).toInt32) &&& (3 : Int32)), vI (((p4.toUInt32 >>> ((6 : Int32) &&& 31).toUInt32).toInt32) &&& (3 : Int32)), vI (((p4.toUInt32 >>> ((10 : Int32) &&& 31).toUInt32).toInt32) &&& (3 : Int32)), .unset, .unset, .unset, .unset, .unset, .unset, .unset, .unset, .unset, .unset, .unset, .unset] [(.int (((p4.toUInt32 >>> ((10 : Int32) &&& 31).toUInt32).toInt32) &&& (3 : Int32)))])) _
     refine XS.ifYes X0.here hx rfl (pc0 := 80) (pc' := 88) rfl (hb hby at_80) rfl ((if0 _ _).trans (feq (hqa : ¬ ((((p4.toUInt32 >>> ((10 : Int32) &&& 31).toUInt32).toInt32) &&& (3 : Int32)) = (0 : Int32)))).2) (by decide) (by decide) ?_
     refine XS.iload X0.here hx rfl (hb hby at_88) rfl ?_
     refine XS.iconst X0.here hx rfl (hb hby at_90) ?_
     show Steps p.tables e below (s₁.setTop (mkF m 91 #[vJ q1, .second, vJ q2, .second, vJ q3, .second, vI p4, vJ fa, .second, vJ fb, .second, vI (p4 &&& (3 : Int32)), vI (((p4.toUInt32 >>> ((2 : Int32) &&& 31).toUInt32).toInt32) &&& (3 : Int32)), vI (((p4.toUInt32 >>> ((4 : Int32) &&& 31).toUInt32).toInt32) &&& (3 : Int32)), vI (((p4.toUInt32 >>> ((6 : Int32) &&& 31).toUInt32).toInt32) &&& (3 : Int32)), vI (((p4.toUInt32 >>> ((10 : Int32) &&& 31).toUInt32).toInt32) &&& (3 : Int32)), .unset, .unset, .unset, .unset, .unset, .unset, .unset, .unset, .unset, .unset, .unset, .unset] [(.int (1 : Int32)), (.int (((p4.toUInt32 >>> ((10 : Int32) &&& 31).toUInt32).toInt32) &&& (3 : Int32)))])) _
     refine XS.icmpYes X0.here hx rfl (pc0 := 91) (pc' := 99) rfl (hb hby at_91) rfl (feq (hqb : ¬ ((((p4.toUInt32 >>> ((10 : Int32) &&& 31).toUInt32).toInt32) &&& (3 : Int32)) = (1 : Int32)))).2 (by decide) (by decide) ?_
     refine XS.iload X0.here hx rfl (hb hby at_99) rfl ?_
     refine XS.iconst X0.here hx rfl (hb hby at_101) ?_
     show Steps p.tables e below (s₁.setTop (mkF m 102 #[vJ q1, .second, vJ q2, .second, vJ q3, .second, vI p4, vJ fa, .second, vJ fb, .second, vI (p4 &&& (3 : Int32)), vI (((p4.toUInt32 >>> ((2 : Int32) &&& 31).toUInt32).toInt32) &&& (3 : Int32)), vI (((p4.toUInt32 >>> ((4 : Int32) &&& 31).toUInt32).toInt32) &&& (3 : Int32)), vI (((p4.toUInt32 >>> ((6 : Int32) &&& 31).toUInt32).toInt32) &&& (3 : Int32)), vI (((p4.toUInt32 >>> ((10 : Int32) &&& 31).toUInt32).toInt32) &&& (3 : Int32)), .unset, .unset, .unset, .unset, .unset, .unset, .unset, .unset, .unset, .unset, .unset, .unset] [(.int (2 : Int32)), (.int (((p4.toUInt32 >>> ((10 : Int32) &&& 31).toUInt32).toInt32) &&& (3 : Int32)))])) _
     refine XS.icmpNo X0.here hx rfl (hb hby at_102) rfl (teq (hqc : (((p4.toUInt32 >>> ((10 : Int32) &&& 31).toUInt32).toInt32) &&& (3 : Int32)) = (2 : Int32))).2 ?_
     refine XS.lload X0.here hx rfl (hb hby at_105) rfl ?_
     show Steps p.tables e below (s₁.setTop (mkF m 107 #[vJ q1, .second, vJ q2, .second, vJ q3, .second, vI p4, vJ fa, .second, vJ fb, .second, vI (p4 &&& (3 : Int32)), vI (((p4.toUInt32 >>> ((2 : Int32) &&& 31).toUInt32).toInt32) &&& (3 : Int32)), vI (((p4.toUInt32 >>> ((4 : Int32) &&& 31).toUInt32).toInt32) &&& (3 : Int32)), vI (((p4.toUInt32 >>> ((6 : Int32) &&& 31).toUInt32).toInt32) &&& (3 : Int32)), vI (((p4.toUInt32 >>> ((10 : Int32) &&& 31).toUInt32).toInt32) &&& (3 : Int32)), .unset, .unset, .unset, .unset, .unset, .unset, .unset, .unset, .unset, .unset, .unset, .unset] [(.long q3)])) _
     refine XS.goto X0.here hx rfl (pc0 := 107) (pc' := 113) rfl (hb hby at_107) (by decide) (by decide) ?_
     exact kt
    ·rw [show (own_qq (((p4.toUInt32 >>> ((10 : Int32) &&& 31).toUInt32).toInt32) &&& (3 : Int32)) fa fb q3) = (-3750763034362895579 : Int64) from ((if_neg hqa).trans ((if_neg hqb).trans (if_neg hqc)))] at kt
     show Steps p.tables e below (s₁.setTop (mkF m 80 #[vJ q1, .second, vJ q2, .second, vJ q3, .second, vI p4, vJ fa, .second, vJ fb, .second, vI (p4 &&& (3 : Int32)), vI (((p4.toUInt32 >>> ((2 : Int32) &&& 31).toUInt32).toInt32) &&& (3 : Int32)), vI (((p4.toUInt32 >>> ((4 : Int32) &&& 31).toUInt32).toInt32) &&& (3 : Int32)), vI (((p4.toUInt32 >>> ((6 : Int32) &&& 31).toUInt32).toInt32) &&& (3 : Int32)), vI (((p4.toUInt32 >>> ((10 : Int32) &&& 31).toUInt32).toInt32) &&& (3 : Int32)), .unset, .unset, .unset, .unset, .unset, .unset, .unset, .unset, .unset, .unset, .unset, .unset] [(.int (((p4.toUInt32 >>> ((10 : Int32) &&& 31).toUInt32).toInt32) &&& (3 : Int32)))])) _
     refine XS.ifYes X0.here hx rfl (pc0 := 80) (pc' := 88) rfl (hb hby at_80) rfl ((if0 _ _).trans (feq (hqa : ¬ ((((p4.toUInt32 >>> ((10 : Int32) &&& 31).toUInt32).toInt32) &&& (3 : Int32)) = (0 : Int32)))).2) (by decide) (by decide) ?_
     refine XS.iload X0.here hx rfl (hb hby at_88) rfl ?_
     refine XS.iconst X0.here hx rfl (hb hby at_90) ?_
     show Steps p.tables e below (s₁.setTop (mkF m 91 #[vJ q1, .second, vJ q2, .second, vJ q3, .second, vI p4, vJ fa, .second, vJ fb, .second, vI (p4 &&& (3 : Int32)), vI (((p4.toUInt32 >>> ((2 : Int32) &&& 31).toUInt32).toInt32) &&& (3 : Int32)), vI (((p4.toUInt32 >>> ((4 : Int32) &&& 31).toUInt32).toInt32) &&& (3 : Int32)), vI (((p4.toUInt32 >>> ((6 : Int32) &&& 31).toUInt32).toInt32) &&& (3 : Int32)), vI (((p4.toUInt32 >>> ((10 : Int32) &&& 31).toUInt32).toInt32) &&& (3 : Int32)), .unset, .unset, .unset, .unset, .unset, .unset, .unset, .unset, .unset, .unset, .unset, .unset] [(.int (1 : Int32)), (.int (((p4.toUInt32 >>> ((10 : Int32) &&& 31).toUInt32).toInt32) &&& (3 : Int32)))])) _
     refine XS.icmpYes X0.here hx rfl (pc0 := 91) (pc' := 99) rfl (hb hby at_91) rfl (feq (hqb : ¬ ((((p4.toUInt32 >>> ((10 : Int32) &&& 31).toUInt32).toInt32) &&& (3 : Int32)) = (1 : Int32)))).2 (by decide) (by decide) ?_
     refine XS.iload X0.here hx rfl (hb hby at_99) rfl ?_
     refine XS.iconst X0.here hx rfl (hb hby at_101) ?_
     show Steps p.tables e below (s₁.setTop (mkF m 102 #[vJ q1, .second, vJ q2, .second, vJ q3, .second, vI p4, vJ fa, .second, vJ fb, .second, vI (p4 &&& (3 : Int32)), vI (((p4.toUInt32 >>> ((2 : Int32) &&& 31).toUInt32).toInt32) &&& (3 : Int32)), vI (((p4.toUInt32 >>> ((4 : Int32) &&& 31).toUInt32).toInt32) &&& (3 : Int32)), vI (((p4.toUInt32 >>> ((6 : Int32) &&& 31).toUInt32).toInt32) &&& (3 : Int32)), vI (((p4.toUInt32 >>> ((10 : Int32) &&& 31).toUInt32).toInt32) &&& (3 : Int32)), .unset, .unset, .unset, .unset, .unset, .unset, .unset, .unset, .unset, .unset, .unset, .unset] [(.int (2 : Int32)), (.int (((p4.toUInt32 >>> ((10 : Int32) &&& 31).toUInt32).toInt32) &&& (3 : Int32)))])) _
     refine XS.icmpYes X0.here hx rfl (pc0 := 102) (pc' := 110) rfl (hb hby at_102) rfl (feq (hqc : ¬ ((((p4.toUInt32 >>> ((10 : Int32) &&& 31).toUInt32).toInt32) &&& (3 : Int32)) = (2 : Int32)))).2 (by decide) (by decide) ?_
     show Steps p.tables e below (s₁.setTop (mkF m 110 #[vJ q1, .second, vJ q2, .second, vJ q3, .second, vI p4, vJ fa, .second, vJ fb, .second, vI (p4 &&& (3 : Int32)), vI (((p4.toUInt32 >>> ((2 : Int32) &&& 31).toUInt32).toInt32) &&& (3 : Int32)), vI (((p4.toUInt32 >>> ((4 : Int32) &&& 31).toUInt32).toInt32) &&& (3 : Int32)), vI (((p4.toUInt32 >>> ((6 : Int32) &&& 31).toUInt32).toInt32) &&& (3 : Int32)), vI (((p4.toUInt32 >>> ((10 : Int32) &&& 31).toUInt32).toInt32) &&& (3 : Int32)), .unset, .unset, .unset, .unset, .unset, .unset, .unset, .unset, .unset, .unset, .unset, .unset] [])) _
     refine X0.ldc2Long hx hown (mvT hZ (oW hw 113 rfl)) (g := (mkF m 110 #[vJ q1, .second, vJ q2, .second, vJ q3, .second, vI p4, vJ fa, .second, vJ fb, .second, vI (p4 &&& (3 : Int32)), vI (((p4.toUInt32 >>> ((2 : Int32) &&& 31).toUInt32).toInt32) &&& (3 : Int32)), vI (((p4.toUInt32 >>> ((4 : Int32) &&& 31).toUInt32).toInt32) &&& (3 : Int32)), vI (((p4.toUInt32 >>> ((6 : Int32) &&& 31).toUInt32).toInt32) &&& (3 : Int32)), vI (((p4.toUInt32 >>> ((10 : Int32) &&& 31).toUInt32).toInt32) &&& (3 : Int32)), .unset, .unset, .unset, .unset, .unset, .unset, .unset, .unset, .unset, .unset, .unset, .unset] [])) rfl (hb hby at_110) _ ?_
     exact kt
 clear R718
 have R720 := fun (tg : State) (kt : Steps p.tables e below (s₁.setTop (mkF m 115 #[vJ q1, .second, vJ q2, .second, vJ q3, .second, vI p4, vJ fa, .second, vJ fb, .second, vI (p4 &&& (3 : Int32)), vI (((p4.toUInt32 >>> ((2 : Int32) &&& 31).toUInt32).toInt32) &&& (3 : Int32)), vI (((p4.toUInt32 >>> ((4 : Int32) &&& 31).toUInt32).toInt32) &&& (3 : Int32)), vI (((p4.toUInt32 >>> ((6 : Int32) &&& 31).toUInt32).toInt32) &&& (3 : Int32)), vI (((p4.toUInt32 >>> ((10 : Int32) &&& 31).toUInt32).toInt32) &&& (3 : Int32)), vJ (own_qq (((p4.toUInt32 >>> ((10 : Int32) &&& 31).toUInt32).toInt32) &&& (3 : Int32)) fa fb q3), .second, .unset, .unset, .unset, .unset, .unset, .unset, .unset, .unset, .unset, .unset] [])) tg) => R719 tg (by
  show Steps _ _ _ (s₁.setTop (mkF m 113 #[vJ q1, .second, vJ q2, .second, vJ q3, .second, vI p4, vJ fa, .second, vJ fb, .second, vI (p4 &&& (3 : Int32)), vI (((p4.toUInt32 >>> ((2 : Int32) &&& 31).toUInt32).toInt32) &&& (3 : Int32)), vI (((p4.toUInt32 >>> ((4 : Int32) &&& 31).toUInt32).toInt32) &&& (3 : Int32)), vI (((p4.toUInt32 >>> ((6 : Int32) &&& 31).toUInt32).toInt32) &&& (3 : Int32)), vI (((p4.toUInt32 >>> ((10 : Int32) &&& 31).toUInt32).toInt32) &&& (3 : Int32)), .unset, .unset, .unset, .unset, .unset, .unset, .unset, .unset, .unset, .unset, .unset, .unset] [(.long (own_qq (((p4.toUInt32 >>> ((10 : Int32) &&& 31).toUInt32).toInt32) &&& (3 : Int32)) fa fb q3))])) _
  refine XS.lstore X0.here hx rfl (hb hby at_113) rfl (l' := #[vJ q1, .second, vJ q2, .second, vJ q3, .second, vI p4, vJ fa, .second, vJ fb, .second, vI (p4 &&& (3 : Int32)), vI (((p4.toUInt32 >>> ((2 : Int32) &&& 31).toUInt32).toInt32) &&& (3 : Int32)), vI (((p4.toUInt32 >>> ((4 : Int32) &&& 31).toUInt32).toInt32) &&& (3 : Int32)), vI (((p4.toUInt32 >>> ((6 : Int32) &&& 31).toUInt32).toInt32) &&& (3 : Int32)), vI (((p4.toUInt32 >>> ((10 : Int32) &&& 31).toUInt32).toInt32) &&& (3 : Int32)), vJ (own_qq (((p4.toUInt32 >>> ((10 : Int32) &&& 31).toUInt32).toInt32) &&& (3 : Int32)) fa fb q3), .second, .unset, .unset, .unset, .unset, .unset, .unset, .unset, .unset, .unset, .unset]) rfl ?_
  exact kt)
 clear R719
 obtain ⟨qv, hqv⟩ : ∃ z : Int64, z = (own_qq (((p4.toUInt32 >>> ((10 : Int32) &&& 31).toUInt32).toInt32) &&& (3 : Int32)) fa fb q3) := ⟨_, rfl⟩
 have R721 : Sq p e below (s₁.setTop (mkF m 115 #[vJ q1, .second, vJ q2, .second, vJ q3, .second, vI p4, vJ fa, .second, vJ fb, .second, vI (p4 &&& (3 : Int32)), vI (((p4.toUInt32 >>> ((2 : Int32) &&& 31).toUInt32).toInt32) &&& (3 : Int32)), vI (((p4.toUInt32 >>> ((4 : Int32) &&& 31).toUInt32).toInt32) &&& (3 : Int32)), vI (((p4.toUInt32 >>> ((6 : Int32) &&& 31).toUInt32).toInt32) &&& (3 : Int32)), vI (((p4.toUInt32 >>> ((10 : Int32) &&& 31).toUInt32).toInt32) &&& (3 : Int32)), vJ qv, .second, .unset, .unset, .unset, .unset, .unset, .unset, .unset, .unset, .unset, .unset] [])) (s₁.setTop (mkF m 0 #[vJ q1, .second, vJ q2, .second, vJ q3, .second, vI p4, .unset, .unset, .unset, .unset, .unset, .unset, .unset, .unset, .unset, .unset, .unset, .unset, .unset, .unset, .unset, .unset, .unset, .unset, .unset, .unset, .unset] [])) := by rw [hqv]; exact R720
 obtain ⟨φ, ra, rb, rs, rq, H, ⟨ya, yb, ys, yq⟩, ea, eb, es, eq⟩ := own_phi fa fb (-3750763034362895579 : Int64) qv
 obtain ⟨κ0, ek0, k40⟩ := own_kap p4
 obtain ⟨κ1, ek1, k41⟩ := own_kap ((p4.toUInt32 >>> ((2 : Int32) &&& 31).toUInt32).toInt32)
 obtain ⟨κ2, ek2, k42⟩ := own_kap ((p4.toUInt32 >>> ((4 : Int32) &&& 31).toUInt32).toInt32)
 obtain ⟨κ3, ek3, k43⟩ := own_kap ((p4.toUInt32 >>> ((6 : Int32) &&& 31).toUInt32).toInt32)
 have R722 := fun (tg : State) (kt : Steps p.tables e below (s₁.setTop (mkF m 115 #[vJ q1, .second, vJ q2, .second, vJ q3, .second, vI p4, vJ (φ ra), .second, vJ (φ rb), .second, vI (own_i κ0), vI (own_i κ1), vI (own_i κ2), vI (own_i κ3), vI (((p4.toUInt32 >>> ((10 : Int32) &&& 31).toUInt32).toInt32) &&& (3 : Int32)), vJ (φ rq), .second, .unset, .unset, .unset, .unset, .unset, .unset, .unset, .unset, .unset, .unset] [])) tg) => R721 tg (by rw [ea, eb, eq, ek0, ek1, ek2, ek3]; exact kt)
 clear R721
 obtain ⟨T723, h723, X723, e723, E723, A723, D723, -, st723⟩ := newO X0 hx hZ hown (oW hw 0 rfl) (oW hw 1 rfl) (oW hw 2 rfl) e0 (g := (mkF m 115 #[vJ q1, .second, vJ q2, .second, vJ q3, .second, vI p4, vJ (φ ra), .second, vJ (φ rb), .second, vI (own_i κ0), vI (own_i κ1), vI (own_i κ2), vI (own_i κ3), vI (((p4.toUInt32 >>> ((10 : Int32) &&& 31).toUInt32).toInt32) &&& (3 : Int32)), vJ (φ rq), .second, .unset, .unset, .unset, .unset, .unset, .unset, .unset, .unset, .unset, .unset] [])) rfl (hb hby at_115) (by decide) (by decide)
 obtain ⟨a1, g723⟩ : ∃ z, z = h0.size := ⟨_, rfl⟩
 rw [← g723] at A723 D723 st723
 have E_a1 := A723
 have g_a1 : n0 ≤ a1 := Nat.le_trans Z0 (Nat.le_of_eq g723.symm)
 have Zs723 : n0 ≤ h723.size := Nat.le_trans Z0 E723.1
 have Fq : Fld Z h723 a1 cP "recent" "[J" .null := D723 (Or.inr (oW hw 11 rfl)) (ty := (.array .long)) (by decide)
 have Fl : Fld Z h723 a1 cP "recentLeading" "[Z" .null := D723 (Or.inr (oW hw 14 rfl)) (ty := (.array .boolean)) (by decide)
 have Fp : Fld Z h723 a1 cP "periods" cD .null := D723 (Or.inl (oW hw 25 rfl)) (ty := (.object cF)) (by decide)
 have Ff : Fld Z h723 a1 cP "followers" cD .null := D723 (Or.inl (oW hw 27 rfl)) (ty := (.object cF)) (by decide)
 have Fn : Fld Z h723 a1 cP "seen" "I" (.int (0 : Int32)) := D723 (Or.inl (oW hw 45 rfl)) (ty := .int) (by decide)
 have R724 := fun (tg : State) (kt : Steps p.tables e below (T723.setTop (mkF m 119 #[vJ q1, .second, vJ q2, .second, vJ q3, .second, vI p4, vJ (φ ra), .second, vJ (φ rb), .second, vI (own_i κ0), vI (own_i κ1), vI (own_i κ2), vI (own_i κ3), vI (((p4.toUInt32 >>> ((10 : Int32) &&& 31).toUInt32).toInt32) &&& (3 : Int32)), vJ (φ rq), .second, .unset, .unset, .unset, .unset, .unset, .unset, .unset, .unset, .unset, .unset] [(.ref a1), (.ref a1)])) tg) => R722 tg (by
  refine st723 _ ?_
  refine XS.dup X723.here hx rfl (hb hby at_118) rfl rfl ?_
  exact kt)
 clear R722 st723
 obtain ⟨_, _, ⟨T725, L725, k725, n725⟩, -, X725, ⟨Lc725, hQ725, l725, y725, z725⟩, st725⟩ := X723.specialBack hx (y := (⟨cP, "<init>", "()V"⟩ : MethodName)) rfl hown (mvT hZ (oW hw 3 rfl)) (mvT hZ (oW hw 4 rfl)) (mvT hZ (oW hw 5 rfl)) (by decide) (backOf (W := 1) (rm_pci l Z a0 hw [] a1 φ h723 n0 Zs723 E_a1 Fq Fl Fp Ff Fn g_a1) hZ (oW hw 5 rfl) (oW hw 2 rfl) (by decide) (by decide)) (g := (mkF m 119 #[vJ q1, .second, vJ q2, .second, vJ q3, .second, vI p4, vJ (φ ra), .second, vJ (φ rb), .second, vI (own_i κ0), vI (own_i κ1), vI (own_i κ2), vI (own_i κ3), vI (((p4.toUInt32 >>> ((10 : Int32) &&& 31).toUInt32).toInt32) &&& (3 : Int32)), vJ (φ rq), .second, .unset, .unset, .unset, .unset, .unset, .unset, .unset, .unset, .unset, .unset] [(.ref a1), (.ref a1)])) rfl (by rw [hml]; rfl) (Steps.refl _) (a := a1) (argsL := []) (rest := [(.ref a1)]) (lenOf pd_0 rfl) rfl (by show 2 * 0 + _ ≤ _; exact Nat.le_of_eq rfl) (hb hby at_119) (fun _ _ => ⟨rfl, e723, (by decide : 1 + 6 ≤ _), (by decide : 5 + 2084 ≤ _)⟩)
 dsimp only [Pt.U, Pt.locs, Pt.cells, Pt.slots] at X725 l725 y725 z725 st725 hQ725
 rw [l725, y725, z725] at X725
 obtain ⟨rc, lg, p1, t1, p2, t2, rfl, N725q, K725, ND, c0Ea, c0Fq, c0Fl, c0Fp, c0Ff, c0Fn, c0VR, c0VB, c0E1, c0Pv, c0Ps, c0VP, c0E2, c0Qv, c0Qs, c0VF⟩ := hQ725
 have N725 := Fr.app N0 N725q
 have Zs725 : n0 ≤ T725.heap.size := Nat.le_trans Zs723 K725.1
 obtain ⟨s0, hs0⟩ : ∃ z : own_T, z = ([], [], [], []) := ⟨_, rfl⟩
 have v0 : own_inv 0 s0 := by rw [hs0]; exact own_inv0
 have d0Ea : Exa Z T725.heap a1 cP := by first | exact c0Ea | (rw [hs0]; exact c0Ea)
 have d0Fq : Fld Z T725.heap a1 cP "recent" "[J" (.ref rc) := by first | exact c0Fq | (rw [hs0]; exact c0Fq)
 have d0Fl : Fld Z T725.heap a1 cP "recentLeading" "[Z" (.ref lg) := by first | exact c0Fl | (rw [hs0]; exact c0Fl)
 have d0Fp : Fld Z T725.heap a1 cP "periods" cD (.ref p1) := by first | exact c0Fp | (rw [hs0]; exact c0Fp)
 have d0Ff : Fld Z T725.heap a1 cP "followers" cD (.ref p2) := by first | exact c0Ff | (rw [hs0]; exact c0Ff)
 have d0Fn : Fld Z T725.heap a1 cP "seen" "I" (.int (own_i (s0.1).length)) := by first | exact c0Fn | (rw [hs0]; exact c0Fn)
 have d0VR : VG Z T725.heap rc .long 16 (fun r => .long (φ r)) 0 s0.1 := by first | exact c0VR | (rw [hs0]; exact c0VR)
 have d0VB : VG Z T725.heap lg .boolean 16 (fun b => .int (own_b2 b)) false s0.2.1 := by first | exact c0VB | (rw [hs0]; exact c0VB)
 have d0E1 : Exa Z T725.heap p1 cF := by first | exact c0E1 | (rw [hs0]; exact c0E1)
 have d0Pv : Fld Z T725.heap p1 cF "values" "[J" (.ref t1) := by first | exact c0Pv | (rw [hs0]; exact c0Pv)
 have d0Ps : Fld Z T725.heap p1 cF "size" "I" (.int (own_i (s0.2.2.1).length)) := by first | exact c0Ps | (rw [hs0]; exact c0Ps)
 have d0VP : VG Z T725.heap t1 .long 1024 (fun r => .long (φ r)) 0 s0.2.2.1 := by first | exact c0VP | (rw [hs0]; exact c0VP)
 have d0E2 : Exa Z T725.heap p2 cF := by first | exact c0E2 | (rw [hs0]; exact c0E2)
 have d0Qv : Fld Z T725.heap p2 cF "values" "[J" (.ref t2) := by first | exact c0Qv | (rw [hs0]; exact c0Qv)
 have d0Qs : Fld Z T725.heap p2 cF "size" "I" (.int (own_i (s0.2.2.2).length)) := by first | exact c0Qs | (rw [hs0]; exact c0Qs)
 have d0VF : VG Z T725.heap t2 .long 1024 (fun r => .long (φ r)) 0 s0.2.2.2 := by first | exact c0VF | (rw [hs0]; exact c0VF)
 clear c0Ea c0Fq c0Fl c0Fp c0Ff c0Fn c0VR c0VB c0E1 c0Pv c0Ps c0VP c0E2 c0Qv c0Qs c0VF
 have R726 := fun (tg : State) (kt : Steps p.tables e below (T725.setTop (mkF m 132 #[vJ q1, .second, vJ q2, .second, vJ q3, .second, vI p4, vJ (φ ra), .second, vJ (φ rb), .second, vI (own_i κ0), vI (own_i κ1), vI (own_i κ2), vI (own_i κ3), vI (((p4.toUInt32 >>> ((10 : Int32) &&& 31).toUInt32).toInt32) &&& (3 : Int32)), vJ (φ rq), .second, vR a1, .unset, .unset, .unset, .unset, .unset, .unset, .unset, .unset, .unset] [(.long (φ rb)), (.long (φ ra)), (.int (own_i κ0)), (.ref a1)])) tg) => R724 tg (by
  refine st725.trans ?_
  show Steps _ _ _ (T725.setTop (mkF m 122 #[vJ q1, .second, vJ q2, .second, vJ q3, .second, vI p4, vJ (φ ra), .second, vJ (φ rb), .second, vI (own_i κ0), vI (own_i κ1), vI (own_i κ2), vI (own_i κ3), vI (((p4.toUInt32 >>> ((10 : Int32) &&& 31).toUInt32).toInt32) &&& (3 : Int32)), vJ (φ rq), .second, .unset, .unset, .unset, .unset, .unset, .unset, .unset, .unset, .unset, .unset] [(.ref a1)])) _
  refine XS.astore X725.here hx rfl (hb hby at_122) rfl rfl (l' := #[vJ q1, .second, vJ q2, .second, vJ q3, .second, vI p4, vJ (φ ra), .second, vJ (φ rb), .second, vI (own_i κ0), vI (own_i κ1), vI (own_i κ2), vI (own_i κ3), vI (((p4.toUInt32 >>> ((10 : Int32) &&& 31).toUInt32).toInt32) &&& (3 : Int32)), vJ (φ rq), .second, vR a1, .unset, .unset, .unset, .unset, .unset, .unset, .unset, .unset, .unset]) rfl ?_
  refine XS.aload X725.here hx rfl (hb hby at_124) rfl rfl ?_
  refine XS.iload X725.here hx rfl (hb hby at_126) rfl ?_
  refine XS.lload X725.here hx rfl (hb hby at_128) rfl ?_
  show Steps _ _ _ (T725.setTop (mkF m 130 #[vJ q1, .second, vJ q2, .second, vJ q3, .second, vI p4, vJ (φ ra), .second, vJ (φ rb), .second, vI (own_i κ0), vI (own_i κ1), vI (own_i κ2), vI (own_i κ3), vI (((p4.toUInt32 >>> ((10 : Int32) &&& 31).toUInt32).toInt32) &&& (3 : Int32)), vJ (φ rq), .second, vR a1, .unset, .unset, .unset, .unset, .unset, .unset, .unset, .unset, .unset] [(.long (φ ra)), (.int (own_i κ0)), (.ref a1)])) _
  refine XS.lload X725.here hx rfl (hb hby at_130) rfl ?_
  exact kt)
 clear R724 st725
 obtain ⟨_, _, ⟨T727, L727, k727, n727⟩, -, X727, ⟨Lc727, hQ727, l727, y727, z727⟩, st727⟩ := Jvm.LawKit.callS X725 hx (y := (⟨cL, "row", "(Lcom/example/workaday_tariff/workadaytariff/engine/PeriodCensus;IJJ)V"⟩ : MethodName)) hown (mvT hZ (oW hw 28 rfl)) (mvT hZ (oW hw 29 rfl)) (mvT hZ (oW hw 30 rfl)) (mvT hZ (oW hw 31 rfl)) (by decide) (backOf (W := 0) (rm_row l Z a0 hw [] a1 (own_i κ0) (φ ra) (φ rb) φ rc lg p1 t1 p2 t2 s0.1 s0.2.1 s0.2.2.1 s0.2.2.2 κ0 ra rb rs T725.heap n0 Zs725 d0Ea d0Fq d0Fl d0Fp d0Ff d0Fn d0VR d0VB d0E1 d0Pv d0Ps d0VP d0E2 d0Qv d0Qs d0VF ND rfl rfl rfl es.symm H v0.1.1 ya yb (Nat.le_trans v0.1.2 (by decide)) v0.2.1 v0.2.2.1.1.1 v0.2.2.2.1.1 k40) hZ (oW hw 31 rfl) (oW hw 30 rfl) (by decide) (by decide)) (g := (mkF m 132 #[vJ q1, .second, vJ q2, .second, vJ q3, .second, vI p4, vJ (φ ra), .second, vJ (φ rb), .second, vI (own_i κ0), vI (own_i κ1), vI (own_i κ2), vI (own_i κ3), vI (((p4.toUInt32 >>> ((10 : Int32) &&& 31).toUInt32).toInt32) &&& (3 : Int32)), vJ (φ rq), .second, vR a1, .unset, .unset, .unset, .unset, .unset, .unset, .unset, .unset, .unset] [(.long (φ rb)), (.long (φ ra)), (.int (own_i κ0)), (.ref a1)])) rfl (by rw [hml]; rfl) (argsL := [(.ref a1), (.int (own_i κ0)), (.long (φ ra)), (.long (φ rb))]) (rest := []) (lenOf pd_16 rfl) rfl (by show 2 * 0 + _ ≤ _; exact Nat.le_of_eq rfl) (hb hby at_132) (fun _ _ => ⟨rfl, rfl, (by decide : 7 + 0 ≤ _), (by decide : 2089 + 0 ≤ _)⟩)
 dsimp only [Pt.U, Pt.locs, Pt.cells, Pt.slots] at X727 l727 y727 z727 st727 hQ727
 rw [l727, y727, z727] at X727
 obtain ⟨rfl, N727q, K727, c1Ea, c1Fq, c1Fl, c1Fp, c1Ff, c1Fn, c1VR, c1VB, c1E1, c1Pv, c1Ps, c1VP, c1E2, c1Qv, c1Qs, c1VF⟩ := hQ727
 have N727 := Fr.app N725 N727q
 have Zs727 : n0 ≤ T727.heap.size := Nat.le_trans Zs725 K727.1
 obtain ⟨s1, hs1⟩ : ∃ z : own_T, z = own_stp κ0 ra rb rs s0 := ⟨_, rfl⟩
 have v1 : own_inv 1 s1 := by rw [hs1]; exact own_stp_ok v0 (by decide) ya yb ys k40
 have d1Ea : Exa Z T727.heap a1 cP := by first | exact c1Ea | (rw [hs1]; exact c1Ea)
 have d1Fq : Fld Z T727.heap a1 cP "recent" "[J" (.ref rc) := by first | exact c1Fq | (rw [hs1]; exact c1Fq)
 have d1Fl : Fld Z T727.heap a1 cP "recentLeading" "[Z" (.ref lg) := by first | exact c1Fl | (rw [hs1]; exact c1Fl)
 have d1Fp : Fld Z T727.heap a1 cP "periods" cD (.ref p1) := by first | exact c1Fp | (rw [hs1]; exact c1Fp)
 have d1Ff : Fld Z T727.heap a1 cP "followers" cD (.ref p2) := by first | exact c1Ff | (rw [hs1]; exact c1Ff)
 have d1Fn : Fld Z T727.heap a1 cP "seen" "I" (.int (own_i (s1.1).length)) := by first | exact c1Fn | (rw [hs1]; exact c1Fn)
 have d1VR : VG Z T727.heap rc .long 16 (fun r => .long (φ r)) 0 s1.1 := by first | exact c1VR | (rw [hs1]; exact c1VR)
 have d1VB : VG Z T727.heap lg .boolean 16 (fun b => .int (own_b2 b)) false s1.2.1 := by first | exact c1VB | (rw [hs1]; exact c1VB)
 have d1E1 : Exa Z T727.heap p1 cF := by first | exact c1E1 | (rw [hs1]; exact c1E1)
 have d1Pv : Fld Z T727.heap p1 cF "values" "[J" (.ref t1) := by first | exact c1Pv | (rw [hs1]; exact c1Pv)
 have d1Ps : Fld Z T727.heap p1 cF "size" "I" (.int (own_i (s1.2.2.1).length)) := by first | exact c1Ps | (rw [hs1]; exact c1Ps)
 have d1VP : VG Z T727.heap t1 .long 1024 (fun r => .long (φ r)) 0 s1.2.2.1 := by first | exact c1VP | (rw [hs1]; exact c1VP)
 have d1E2 : Exa Z T727.heap p2 cF := by first | exact c1E2 | (rw [hs1]; exact c1E2)
 have d1Qv : Fld Z T727.heap p2 cF "values" "[J" (.ref t2) := by first | exact c1Qv | (rw [hs1]; exact c1Qv)
 have d1Qs : Fld Z T727.heap p2 cF "size" "I" (.int (own_i (s1.2.2.2).length)) := by first | exact c1Qs | (rw [hs1]; exact c1Qs)
 have d1VF : VG Z T727.heap t2 .long 1024 (fun r => .long (φ r)) 0 s1.2.2.2 := by first | exact c1VF | (rw [hs1]; exact c1VF)
 clear c1Ea c1Fq c1Fl c1Fp c1Ff c1Fn c1VR c1VB c1E1 c1Pv c1Ps c1VP c1E2 c1Qv c1Qs c1VF d0Ea d0Fq d0Fl d0Fp d0Ff d0Fn d0VR d0VB d0E1 d0Pv d0Ps d0VP d0E2 d0Qv d0Qs d0VF
 have R728 := fun (tg : State) (kt : Steps p.tables e below (T727.setTop (mkF m 143 #[vJ q1, .second, vJ q2, .second, vJ q3, .second, vI p4, vJ (φ ra), .second, vJ (φ rb), .second, vI (own_i κ0), vI (own_i κ1), vI (own_i κ2), vI (own_i κ3), vI (((p4.toUInt32 >>> ((10 : Int32) &&& 31).toUInt32).toInt32) &&& (3 : Int32)), vJ (φ rq), .second, vR a1, .unset, .unset, .unset, .unset, .unset, .unset, .unset, .unset, .unset] [(.long (φ rb)), (.long (φ ra)), (.int (own_i κ1)), (.ref a1)])) tg) => R726 tg (by
  refine st727 _ ?_
  refine XS.aload X727.here hx rfl (hb hby at_135) rfl rfl ?_
  refine XS.iload X727.here hx rfl (hb hby at_137) rfl ?_
  refine XS.lload X727.here hx rfl (hb hby at_139) rfl ?_
  show Steps _ _ _ (T727.setTop (mkF m 141 #[vJ q1, .second, vJ q2, .second, vJ q3, .second, vI p4, vJ (φ ra), .second, vJ (φ rb), .second, vI (own_i κ0), vI (own_i κ1), vI (own_i κ2), vI (own_i κ3), vI (((p4.toUInt32 >>> ((10 : Int32) &&& 31).toUInt32).toInt32) &&& (3 : Int32)), vJ (φ rq), .second, vR a1, .unset, .unset, .unset, .unset, .unset, .unset, .unset, .unset, .unset] [(.long (φ ra)), (.int (own_i κ1)), (.ref a1)])) _
  refine XS.lload X727.here hx rfl (hb hby at_141) rfl ?_
  exact kt)
 clear R726 st727
 obtain ⟨_, _, ⟨T729, L729, k729, n729⟩, -, X729, ⟨Lc729, hQ729, l729, y729, z729⟩, st729⟩ := Jvm.LawKit.callS X727 hx (y := (⟨cL, "row", "(Lcom/example/workaday_tariff/workadaytariff/engine/PeriodCensus;IJJ)V"⟩ : MethodName)) hown (mvT hZ (oW hw 28 rfl)) (mvT hZ (oW hw 29 rfl)) (mvT hZ (oW hw 30 rfl)) (mvT hZ (oW hw 31 rfl)) (by decide) (backOf (W := 0) (rm_row l Z a0 hw [] a1 (own_i κ1) (φ ra) (φ rb) φ rc lg p1 t1 p2 t2 s1.1 s1.2.1 s1.2.2.1 s1.2.2.2 κ1 ra rb rs T727.heap n0 Zs727 d1Ea d1Fq d1Fl d1Fp d1Ff d1Fn d1VR d1VB d1E1 d1Pv d1Ps d1VP d1E2 d1Qv d1Qs d1VF ND rfl rfl rfl es.symm H v1.1.1 ya yb (Nat.le_trans v1.1.2 (by decide)) v1.2.1 v1.2.2.1.1.1 v1.2.2.2.1.1 k41) hZ (oW hw 31 rfl) (oW hw 30 rfl) (by decide) (by decide)) (g := (mkF m 143 #[vJ q1, .second, vJ q2, .second, vJ q3, .second, vI p4, vJ (φ ra), .second, vJ (φ rb), .second, vI (own_i κ0), vI (own_i κ1), vI (own_i κ2), vI (own_i κ3), vI (((p4.toUInt32 >>> ((10 : Int32) &&& 31).toUInt32).toInt32) &&& (3 : Int32)), vJ (φ rq), .second, vR a1, .unset, .unset, .unset, .unset, .unset, .unset, .unset, .unset, .unset] [(.long (φ rb)), (.long (φ ra)), (.int (own_i κ1)), (.ref a1)])) rfl (by rw [hml]; rfl) (argsL := [(.ref a1), (.int (own_i κ1)), (.long (φ ra)), (.long (φ rb))]) (rest := []) (lenOf pd_16 rfl) rfl (by show 2 * 0 + _ ≤ _; exact Nat.le_of_eq rfl) (hb hby at_143) (fun _ _ => ⟨rfl, rfl, (by decide : 7 + 0 ≤ _), (by decide : 2089 + 0 ≤ _)⟩)
 dsimp only [Pt.U, Pt.locs, Pt.cells, Pt.slots] at X729 l729 y729 z729 st729 hQ729
 rw [l729, y729, z729] at X729
 obtain ⟨rfl, N729q, K729, c2Ea, c2Fq, c2Fl, c2Fp, c2Ff, c2Fn, c2VR, c2VB, c2E1, c2Pv, c2Ps, c2VP, c2E2, c2Qv, c2Qs, c2VF⟩ := hQ729
 have N729 := Fr.app N727 N729q
 have Zs729 : n0 ≤ T729.heap.size := Nat.le_trans Zs727 K729.1
 obtain ⟨s2, hs2⟩ : ∃ z : own_T, z = own_stp κ1 ra rb rs s1 := ⟨_, rfl⟩
 have v2 : own_inv 2 s2 := by rw [hs2]; exact own_stp_ok v1 (by decide) ya yb ys k41
 have d2Ea : Exa Z T729.heap a1 cP := by first | exact c2Ea | (rw [hs2]; exact c2Ea)
 have d2Fq : Fld Z T729.heap a1 cP "recent" "[J" (.ref rc) := by first | exact c2Fq | (rw [hs2]; exact c2Fq)
 have d2Fl : Fld Z T729.heap a1 cP "recentLeading" "[Z" (.ref lg) := by first | exact c2Fl | (rw [hs2]; exact c2Fl)
 have d2Fp : Fld Z T729.heap a1 cP "periods" cD (.ref p1) := by first | exact c2Fp | (rw [hs2]; exact c2Fp)
 have d2Ff : Fld Z T729.heap a1 cP "followers" cD (.ref p2) := by first | exact c2Ff | (rw [hs2]; exact c2Ff)
 have d2Fn : Fld Z T729.heap a1 cP "seen" "I" (.int (own_i (s2.1).length)) := by first | exact c2Fn | (rw [hs2]; exact c2Fn)
 have d2VR : VG Z T729.heap rc .long 16 (fun r => .long (φ r)) 0 s2.1 := by first | exact c2VR | (rw [hs2]; exact c2VR)
 have d2VB : VG Z T729.heap lg .boolean 16 (fun b => .int (own_b2 b)) false s2.2.1 := by first | exact c2VB | (rw [hs2]; exact c2VB)
 have d2E1 : Exa Z T729.heap p1 cF := by first | exact c2E1 | (rw [hs2]; exact c2E1)
 have d2Pv : Fld Z T729.heap p1 cF "values" "[J" (.ref t1) := by first | exact c2Pv | (rw [hs2]; exact c2Pv)
 have d2Ps : Fld Z T729.heap p1 cF "size" "I" (.int (own_i (s2.2.2.1).length)) := by first | exact c2Ps | (rw [hs2]; exact c2Ps)
 have d2VP : VG Z T729.heap t1 .long 1024 (fun r => .long (φ r)) 0 s2.2.2.1 := by first | exact c2VP | (rw [hs2]; exact c2VP)
 have d2E2 : Exa Z T729.heap p2 cF := by first | exact c2E2 | (rw [hs2]; exact c2E2)
 have d2Qv : Fld Z T729.heap p2 cF "values" "[J" (.ref t2) := by first | exact c2Qv | (rw [hs2]; exact c2Qv)
 have d2Qs : Fld Z T729.heap p2 cF "size" "I" (.int (own_i (s2.2.2.2).length)) := by first | exact c2Qs | (rw [hs2]; exact c2Qs)
 have d2VF : VG Z T729.heap t2 .long 1024 (fun r => .long (φ r)) 0 s2.2.2.2 := by first | exact c2VF | (rw [hs2]; exact c2VF)
 clear c2Ea c2Fq c2Fl c2Fp c2Ff c2Fn c2VR c2VB c2E1 c2Pv c2Ps c2VP c2E2 c2Qv c2Qs c2VF d1Ea d1Fq d1Fl d1Fp d1Ff d1Fn d1VR d1VB d1E1 d1Pv d1Ps d1VP d1E2 d1Qv d1Qs d1VF
 have R730 := fun (tg : State) (kt : Steps p.tables e below (T729.setTop (mkF m 154 #[vJ q1, .second, vJ q2, .second, vJ q3, .second, vI p4, vJ (φ ra), .second, vJ (φ rb), .second, vI (own_i κ0), vI (own_i κ1), vI (own_i κ2), vI (own_i κ3), vI (((p4.toUInt32 >>> ((10 : Int32) &&& 31).toUInt32).toInt32) &&& (3 : Int32)), vJ (φ rq), .second, vR a1, .unset, .unset, .unset, .unset, .unset, .unset, .unset, .unset, .unset] [(.long (φ rb)), (.long (φ ra)), (.int (own_i κ2)), (.ref a1)])) tg) => R728 tg (by
  refine st729 _ ?_
  refine XS.aload X729.here hx rfl (hb hby at_146) rfl rfl ?_
  refine XS.iload X729.here hx rfl (hb hby at_148) rfl ?_
  refine XS.lload X729.here hx rfl (hb hby at_150) rfl ?_
  show Steps _ _ _ (T729.setTop (mkF m 152 #[vJ q1, .second, vJ q2, .second, vJ q3, .second, vI p4, vJ (φ ra), .second, vJ (φ rb), .second, vI (own_i κ0), vI (own_i κ1), vI (own_i κ2), vI (own_i κ3), vI (((p4.toUInt32 >>> ((10 : Int32) &&& 31).toUInt32).toInt32) &&& (3 : Int32)), vJ (φ rq), .second, vR a1, .unset, .unset, .unset, .unset, .unset, .unset, .unset, .unset, .unset] [(.long (φ ra)), (.int (own_i κ2)), (.ref a1)])) _
  refine XS.lload X729.here hx rfl (hb hby at_152) rfl ?_
  exact kt)
 clear R728 st729
 obtain ⟨_, _, ⟨T731, L731, k731, n731⟩, -, X731, ⟨Lc731, hQ731, l731, y731, z731⟩, st731⟩ := Jvm.LawKit.callS X729 hx (y := (⟨cL, "row", "(Lcom/example/workaday_tariff/workadaytariff/engine/PeriodCensus;IJJ)V"⟩ : MethodName)) hown (mvT hZ (oW hw 28 rfl)) (mvT hZ (oW hw 29 rfl)) (mvT hZ (oW hw 30 rfl)) (mvT hZ (oW hw 31 rfl)) (by decide) (backOf (W := 0) (rm_row l Z a0 hw [] a1 (own_i κ2) (φ ra) (φ rb) φ rc lg p1 t1 p2 t2 s2.1 s2.2.1 s2.2.2.1 s2.2.2.2 κ2 ra rb rs T729.heap n0 Zs729 d2Ea d2Fq d2Fl d2Fp d2Ff d2Fn d2VR d2VB d2E1 d2Pv d2Ps d2VP d2E2 d2Qv d2Qs d2VF ND rfl rfl rfl es.symm H v2.1.1 ya yb (Nat.le_trans v2.1.2 (by decide)) v2.2.1 v2.2.2.1.1.1 v2.2.2.2.1.1 k42) hZ (oW hw 31 rfl) (oW hw 30 rfl) (by decide) (by decide)) (g := (mkF m 154 #[vJ q1, .second, vJ q2, .second, vJ q3, .second, vI p4, vJ (φ ra), .second, vJ (φ rb), .second, vI (own_i κ0), vI (own_i κ1), vI (own_i κ2), vI (own_i κ3), vI (((p4.toUInt32 >>> ((10 : Int32) &&& 31).toUInt32).toInt32) &&& (3 : Int32)), vJ (φ rq), .second, vR a1, .unset, .unset, .unset, .unset, .unset, .unset, .unset, .unset, .unset] [(.long (φ rb)), (.long (φ ra)), (.int (own_i κ2)), (.ref a1)])) rfl (by rw [hml]; rfl) (argsL := [(.ref a1), (.int (own_i κ2)), (.long (φ ra)), (.long (φ rb))]) (rest := []) (lenOf pd_16 rfl) rfl (by show 2 * 0 + _ ≤ _; exact Nat.le_of_eq rfl) (hb hby at_154) (fun _ _ => ⟨rfl, rfl, (by decide : 7 + 0 ≤ _), (by decide : 2089 + 0 ≤ _)⟩)
 dsimp only [Pt.U, Pt.locs, Pt.cells, Pt.slots] at X731 l731 y731 z731 st731 hQ731
 rw [l731, y731, z731] at X731
 obtain ⟨rfl, N731q, K731, c3Ea, c3Fq, c3Fl, c3Fp, c3Ff, c3Fn, c3VR, c3VB, c3E1, c3Pv, c3Ps, c3VP, c3E2, c3Qv, c3Qs, c3VF⟩ := hQ731
 have N731 := Fr.app N729 N731q
 have Zs731 : n0 ≤ T731.heap.size := Nat.le_trans Zs729 K731.1
 obtain ⟨s3, hs3⟩ : ∃ z : own_T, z = own_stp κ2 ra rb rs s2 := ⟨_, rfl⟩
 have v3 : own_inv 3 s3 := by rw [hs3]; exact own_stp_ok v2 (by decide) ya yb ys k42
 have d3Ea : Exa Z T731.heap a1 cP := by first | exact c3Ea | (rw [hs3]; exact c3Ea)
 have d3Fq : Fld Z T731.heap a1 cP "recent" "[J" (.ref rc) := by first | exact c3Fq | (rw [hs3]; exact c3Fq)
 have d3Fl : Fld Z T731.heap a1 cP "recentLeading" "[Z" (.ref lg) := by first | exact c3Fl | (rw [hs3]; exact c3Fl)
 have d3Fp : Fld Z T731.heap a1 cP "periods" cD (.ref p1) := by first | exact c3Fp | (rw [hs3]; exact c3Fp)
 have d3Ff : Fld Z T731.heap a1 cP "followers" cD (.ref p2) := by first | exact c3Ff | (rw [hs3]; exact c3Ff)
 have d3Fn : Fld Z T731.heap a1 cP "seen" "I" (.int (own_i (s3.1).length)) := by first | exact c3Fn | (rw [hs3]; exact c3Fn)
 have d3VR : VG Z T731.heap rc .long 16 (fun r => .long (φ r)) 0 s3.1 := by first | exact c3VR | (rw [hs3]; exact c3VR)
 have d3VB : VG Z T731.heap lg .boolean 16 (fun b => .int (own_b2 b)) false s3.2.1 := by first | exact c3VB | (rw [hs3]; exact c3VB)
 have d3E1 : Exa Z T731.heap p1 cF := by first | exact c3E1 | (rw [hs3]; exact c3E1)
 have d3Pv : Fld Z T731.heap p1 cF "values" "[J" (.ref t1) := by first | exact c3Pv | (rw [hs3]; exact c3Pv)
 have d3Ps : Fld Z T731.heap p1 cF "size" "I" (.int (own_i (s3.2.2.1).length)) := by first | exact c3Ps | (rw [hs3]; exact c3Ps)
 have d3VP : VG Z T731.heap t1 .long 1024 (fun r => .long (φ r)) 0 s3.2.2.1 := by first | exact c3VP | (rw [hs3]; exact c3VP)
 have d3E2 : Exa Z T731.heap p2 cF := by first | exact c3E2 | (rw [hs3]; exact c3E2)
 have d3Qv : Fld Z T731.heap p2 cF "values" "[J" (.ref t2) := by first | exact c3Qv | (rw [hs3]; exact c3Qv)
 have d3Qs : Fld Z T731.heap p2 cF "size" "I" (.int (own_i (s3.2.2.2).length)) := by first | exact c3Qs | (rw [hs3]; exact c3Qs)
 have d3VF : VG Z T731.heap t2 .long 1024 (fun r => .long (φ r)) 0 s3.2.2.2 := by first | exact c3VF | (rw [hs3]; exact c3VF)
 clear c3Ea c3Fq c3Fl c3Fp c3Ff c3Fn c3VR c3VB c3E1 c3Pv c3Ps c3VP c3E2 c3Qv c3Qs c3VF d2Ea d2Fq d2Fl d2Fp d2Ff d2Fn d2VR d2VB d2E1 d2Pv d2Ps d2VP d2E2 d2Qv d2Qs d2VF
 have R732 := fun (tg : State) (kt : Steps p.tables e below (T731.setTop (mkF m 165 #[vJ q1, .second, vJ q2, .second, vJ q3, .second, vI p4, vJ (φ ra), .second, vJ (φ rb), .second, vI (own_i κ0), vI (own_i κ1), vI (own_i κ2), vI (own_i κ3), vI (((p4.toUInt32 >>> ((10 : Int32) &&& 31).toUInt32).toInt32) &&& (3 : Int32)), vJ (φ rq), .second, vR a1, .unset, .unset, .unset, .unset, .unset, .unset, .unset, .unset, .unset] [(.long (φ rb)), (.long (φ ra)), (.int (own_i κ3)), (.ref a1)])) tg) => R730 tg (by
  refine st731 _ ?_
  refine XS.aload X731.here hx rfl (hb hby at_157) rfl rfl ?_
  refine XS.iload X731.here hx rfl (hb hby at_159) rfl ?_
  refine XS.lload X731.here hx rfl (hb hby at_161) rfl ?_
  show Steps _ _ _ (T731.setTop (mkF m 163 #[vJ q1, .second, vJ q2, .second, vJ q3, .second, vI p4, vJ (φ ra), .second, vJ (φ rb), .second, vI (own_i κ0), vI (own_i κ1), vI (own_i κ2), vI (own_i κ3), vI (((p4.toUInt32 >>> ((10 : Int32) &&& 31).toUInt32).toInt32) &&& (3 : Int32)), vJ (φ rq), .second, vR a1, .unset, .unset, .unset, .unset, .unset, .unset, .unset, .unset, .unset] [(.long (φ ra)), (.int (own_i κ3)), (.ref a1)])) _
  refine XS.lload X731.here hx rfl (hb hby at_163) rfl ?_
  exact kt)
 clear R730 st731
 obtain ⟨_, _, ⟨T733, L733, k733, n733⟩, -, X733, ⟨Lc733, hQ733, l733, y733, z733⟩, st733⟩ := Jvm.LawKit.callS X731 hx (y := (⟨cL, "row", "(Lcom/example/workaday_tariff/workadaytariff/engine/PeriodCensus;IJJ)V"⟩ : MethodName)) hown (mvT hZ (oW hw 28 rfl)) (mvT hZ (oW hw 29 rfl)) (mvT hZ (oW hw 30 rfl)) (mvT hZ (oW hw 31 rfl)) (by decide) (backOf (W := 0) (rm_row l Z a0 hw [] a1 (own_i κ3) (φ ra) (φ rb) φ rc lg p1 t1 p2 t2 s3.1 s3.2.1 s3.2.2.1 s3.2.2.2 κ3 ra rb rs T731.heap n0 Zs731 d3Ea d3Fq d3Fl d3Fp d3Ff d3Fn d3VR d3VB d3E1 d3Pv d3Ps d3VP d3E2 d3Qv d3Qs d3VF ND rfl rfl rfl es.symm H v3.1.1 ya yb (Nat.le_trans v3.1.2 (by decide)) v3.2.1 v3.2.2.1.1.1 v3.2.2.2.1.1 k43) hZ (oW hw 31 rfl) (oW hw 30 rfl) (by decide) (by decide)) (g := (mkF m 165 #[vJ q1, .second, vJ q2, .second, vJ q3, .second, vI p4, vJ (φ ra), .second, vJ (φ rb), .second, vI (own_i κ0), vI (own_i κ1), vI (own_i κ2), vI (own_i κ3), vI (((p4.toUInt32 >>> ((10 : Int32) &&& 31).toUInt32).toInt32) &&& (3 : Int32)), vJ (φ rq), .second, vR a1, .unset, .unset, .unset, .unset, .unset, .unset, .unset, .unset, .unset] [(.long (φ rb)), (.long (φ ra)), (.int (own_i κ3)), (.ref a1)])) rfl (by rw [hml]; rfl) (argsL := [(.ref a1), (.int (own_i κ3)), (.long (φ ra)), (.long (φ rb))]) (rest := []) (lenOf pd_16 rfl) rfl (by show 2 * 0 + _ ≤ _; exact Nat.le_of_eq rfl) (hb hby at_165) (fun _ _ => ⟨rfl, rfl, (by decide : 7 + 0 ≤ _), (by decide : 2089 + 0 ≤ _)⟩)
 dsimp only [Pt.U, Pt.locs, Pt.cells, Pt.slots] at X733 l733 y733 z733 st733 hQ733
 rw [l733, y733, z733] at X733
 obtain ⟨rfl, N733q, K733, c4Ea, c4Fq, c4Fl, c4Fp, c4Ff, c4Fn, c4VR, c4VB, c4E1, c4Pv, c4Ps, c4VP, c4E2, c4Qv, c4Qs, c4VF⟩ := hQ733
 have N733 := Fr.app N731 N733q
 have Zs733 : n0 ≤ T733.heap.size := Nat.le_trans Zs731 K733.1
 obtain ⟨s4, hs4⟩ : ∃ z : own_T, z = own_stp κ3 ra rb rs s3 := ⟨_, rfl⟩
 have v4 : own_inv 4 s4 := by rw [hs4]; exact own_stp_ok v3 (by decide) ya yb ys k43
 have d4Ea : Exa Z T733.heap a1 cP := by first | exact c4Ea | (rw [hs4]; exact c4Ea)
 have d4Fq : Fld Z T733.heap a1 cP "recent" "[J" (.ref rc) := by first | exact c4Fq | (rw [hs4]; exact c4Fq)
 have d4Fl : Fld Z T733.heap a1 cP "recentLeading" "[Z" (.ref lg) := by first | exact c4Fl | (rw [hs4]; exact c4Fl)
 have d4Fp : Fld Z T733.heap a1 cP "periods" cD (.ref p1) := by first | exact c4Fp | (rw [hs4]; exact c4Fp)
 have d4Ff : Fld Z T733.heap a1 cP "followers" cD (.ref p2) := by first | exact c4Ff | (rw [hs4]; exact c4Ff)
 have d4Fn : Fld Z T733.heap a1 cP "seen" "I" (.int (own_i (s4.1).length)) := by first | exact c4Fn | (rw [hs4]; exact c4Fn)
 have d4VR : VG Z T733.heap rc .long 16 (fun r => .long (φ r)) 0 s4.1 := by first | exact c4VR | (rw [hs4]; exact c4VR)
 have d4VB : VG Z T733.heap lg .boolean 16 (fun b => .int (own_b2 b)) false s4.2.1 := by first | exact c4VB | (rw [hs4]; exact c4VB)
 have d4E1 : Exa Z T733.heap p1 cF := by first | exact c4E1 | (rw [hs4]; exact c4E1)
 have d4Pv : Fld Z T733.heap p1 cF "values" "[J" (.ref t1) := by first | exact c4Pv | (rw [hs4]; exact c4Pv)
 have d4Ps : Fld Z T733.heap p1 cF "size" "I" (.int (own_i (s4.2.2.1).length)) := by first | exact c4Ps | (rw [hs4]; exact c4Ps)
 have d4VP : VG Z T733.heap t1 .long 1024 (fun r => .long (φ r)) 0 s4.2.2.1 := by first | exact c4VP | (rw [hs4]; exact c4VP)
 have d4E2 : Exa Z T733.heap p2 cF := by first | exact c4E2 | (rw [hs4]; exact c4E2)
 have d4Qv : Fld Z T733.heap p2 cF "values" "[J" (.ref t2) := by first | exact c4Qv | (rw [hs4]; exact c4Qv)
 have d4Qs : Fld Z T733.heap p2 cF "size" "I" (.int (own_i (s4.2.2.2).length)) := by first | exact c4Qs | (rw [hs4]; exact c4Qs)
 have d4VF : VG Z T733.heap t2 .long 1024 (fun r => .long (φ r)) 0 s4.2.2.2 := by first | exact c4VF | (rw [hs4]; exact c4VF)
 clear c4Ea c4Fq c4Fl c4Fp c4Ff c4Fn c4VR c4VB c4E1 c4Pv c4Ps c4VP c4E2 c4Qv c4Qs c4VF d3Ea d3Fq d3Fl d3Fp d3Ff d3Fn d3VR d3VB d3E1 d3Pv d3Ps d3VP d3E2 d3Qv d3Qs d3VF
 have R734 := fun (tg : State) (kt : Steps p.tables e below (T733.setTop (mkF m 170 #[vJ q1, .second, vJ q2, .second, vJ q3, .second, vI p4, vJ (φ ra), .second, vJ (φ rb), .second, vI (own_i κ0), vI (own_i κ1), vI (own_i κ2), vI (own_i κ3), vI (((p4.toUInt32 >>> ((10 : Int32) &&& 31).toUInt32).toInt32) &&& (3 : Int32)), vJ (φ rq), .second, vR a1, .unset, .unset, .unset, .unset, .unset, .unset, .unset, .unset, .unset] [(.ref a1)])) tg) => R732 tg (by
  refine st733 _ ?_
  refine XS.aload X733.here hx rfl (hb hby at_168) rfl rfl ?_
  exact kt)
 clear R732 st733
 obtain ⟨cq735, kq735, q735a, q735b, q735c⟩ := isOf hZ rfl d4Ea
 obtain ⟨_, _, ⟨T735, L735, k735, n735⟩, -, X735, ⟨Lc735, hQ735, l735, y735, z735⟩, st735⟩ := X733.virtualBack hx (y := (⟨cP, "repeats", "()Lcom/example/workaday_tariff/workadaytariff/engine/PeriodCensus$Repeats;"⟩ : MethodName)) (z := (⟨cP, "repeats", "()Lcom/example/workaday_tariff/workadaytariff/engine/PeriodCensus$Repeats;"⟩ : MethodName)) hown (mvT hZ (oW hw 54 rfl)) (mvT hZ (oW hw 55 rfl)) (notFace_of_selects (args := #[]) (mvT hZ (oW hw 57 rfl))) (mvT hZ (oW hw 57 rfl)) (mvT hZ (oW hw 56 rfl)) (by decide) (backOf (W := 0) (rm_rep l Z a0 hw [] a1 φ rc lg p1 t1 p2 t2 s4.1 s4.2.1 s4.2.2.1 s4.2.2.2 T733.heap n0 Zs733 d4Ea d4Fq d4Fl d4Fp d4Ff d4Fn d4VR d4VB d4E1 d4Pv d4Ps d4VP d4E2 d4Qv d4Qs d4VF ND H v4.2.2.1.1 v4.2.2.2.1) hZ (oW hw 58 rfl) (oW hw 2 rfl) (by decide) (by decide)) q735a q735c (g := (mkF m 170 #[vJ q1, .second, vJ q2, .second, vJ q3, .second, vI p4, vJ (φ ra), .second, vJ (φ rb), .second, vI (own_i κ0), vI (own_i κ1), vI (own_i κ2), vI (own_i κ3), vI (((p4.toUInt32 >>> ((10 : Int32) &&& 31).toUInt32).toInt32) &&& (3 : Int32)), vJ (φ rq), .second, vR a1, .unset, .unset, .unset, .unset, .unset, .unset, .unset, .unset, .unset] [(.ref a1)])) rfl (by rw [hml]; rfl) (Steps.refl _) (argsL := []) (rest := []) (lenOf pd_17 rfl) rfl (by show 2 * 0 + _ ≤ _; exact Nat.le_of_eq rfl) (hb hby at_170) (fun _ _ => ⟨rfl, rfl, (by decide : 7 + 10 ≤ _), (by decide : 2089 + 2200 ≤ _)⟩)
 dsimp only [Pt.U, Pt.locs, Pt.cells, Pt.slots] at X735 l735 y735 z735 st735 hQ735
 rw [l735, y735, z735] at X735
 obtain ⟨rp, f1, f2, f3, rfl, N735q, Zs735, ⟨rEr, rGf, rGr, rGn, rGs, rGy, rWF, rWR, rWN⟩, ⟨u1, u2, u3, u4⟩, u5⟩ := hQ735
 have N735 := Fr.app N733 N735q
 clear d4Ea d4Fq d4Fl d4Fp d4Ff d4Fn d4VR d4VB d4E1 d4Pv d4Ps d4VP d4E2 d4Qv d4Qs d4VF
 obtain ⟨rr, hrr⟩ : ∃ z : List Nat × List Nat × List Bool × Bool, z = (own_rp (own_sort s4.2.2.1) (own_sort s4.2.2.2) 4 0 0 [] [] [] false) := ⟨_, rfl⟩
 obtain ⟨cap, hcap⟩ : ∃ z : Nat, z = (own_cn (own_sort s4.2.2.1) 4 0) := ⟨_, rfl⟩
 rw [← hrr, ← hcap] at u1 u2 u3
 rw [← hrr] at u4
 rw [← hcap] at u5
 have yEr : Exa Z T735.heap rp cR := by first | exact rEr | (rw [hrr]; exact rEr)
 have yGf : Fld Z T735.heap rp cR "fingerprints" "[J" (.ref f1) := by first | exact rGf | (rw [hrr]; exact rGf)
 have yGr : Fld Z T735.heap rp cR "rows" "[I" (.ref f2) := by first | exact rGr | (rw [hrr]; exact rGr)
 have yGn : Fld Z T735.heap rp cR "near" "[Z" (.ref f3) := by first | exact rGn | (rw [hrr]; exact rGn)
 have yGs : Fld Z T735.heap rp cR "size" "I" (.int (own_i (rr.1).length)) := by first | exact rGs | (rw [hrr]; exact rGs)
 have yGy : Fld Z T735.heap rp cR "anyFar" "Z" (.int (own_b2 rr.2.2.2)) := by first | exact rGy | (rw [hrr]; exact rGy)
 have yWF : VG Z T735.heap f1 .long cap (fun r => .long (φ r)) 0 rr.1 := by first | exact rWF | (rw [hrr, hcap]; exact rWF)
 have yWR : VG Z T735.heap f2 .int cap (fun r => .int (own_i r)) 0 rr.2.1 := by first | exact rWR | (rw [hrr, hcap]; exact rWR)
 have yWN : VG Z T735.heap f3 .boolean cap (fun b => .int (own_b2 b)) false rr.2.2.1 := by first | exact rWN | (rw [hrr, hcap]; exact rWN)
 clear rEr rGf rGr rGn rGs rGy rWF rWR rWN
 have o2 : own_ok2 rr.1 := ⟨by rw [u1]; exact u5, u4⟩
 have cap4 : cap ≤ 4 := Nat.le_trans u5 (by decide)
 have w1 : rr.2.1.length = rr.1.length := u2.trans u1.symm
 have w2 : rr.2.2.1.length = rr.1.length := u3.trans u1.symm
 have R736 := fun (tg : State) (kt : Steps p.tables e below (T735.setTop (mkF m 183 #[vJ q1, .second, vJ q2, .second, vJ q3, .second, vI p4, vJ (φ ra), .second, vJ (φ rb), .second, vI (own_i κ0), vI (own_i κ1), vI (own_i κ2), vI (own_i κ3), vI (((p4.toUInt32 >>> ((10 : Int32) &&& 31).toUInt32).toInt32) &&& (3 : Int32)), vJ (φ rq), .second, vR a1, vR rp, .unset, .unset, .unset, .unset, .unset, .unset, .unset, .unset] [(.long (φ rq)), (.long (φ rb)), (.long (φ ra)), (.int (own_i κ0))])) tg) => R734 tg (by
  refine st735.trans ?_
  show Steps _ _ _ (T735.setTop (mkF m 173 #[vJ q1, .second, vJ q2, .second, vJ q3, .second, vI p4, vJ (φ ra), .second, vJ (φ rb), .second, vI (own_i κ0), vI (own_i κ1), vI (own_i κ2), vI (own_i κ3), vI (((p4.toUInt32 >>> ((10 : Int32) &&& 31).toUInt32).toInt32) &&& (3 : Int32)), vJ (φ rq), .second, vR a1, .unset, .unset, .unset, .unset, .unset, .unset, .unset, .unset, .unset] [(.ref rp)])) _
  refine XS.astore X735.here hx rfl (hb hby at_173) rfl rfl (l' := #[vJ q1, .second, vJ q2, .second, vJ q3, .second, vI p4, vJ (φ ra), .second, vJ (φ rb), .second, vI (own_i κ0), vI (own_i κ1), vI (own_i κ2), vI (own_i κ3), vI (((p4.toUInt32 >>> ((10 : Int32) &&& 31).toUInt32).toInt32) &&& (3 : Int32)), vJ (φ rq), .second, vR a1, vR rp, .unset, .unset, .unset, .unset, .unset, .unset, .unset, .unset]) rfl ?_
  refine XS.iload X735.here hx rfl (hb hby at_175) rfl ?_
  refine XS.lload X735.here hx rfl (hb hby at_177) rfl ?_
  refine XS.lload X735.here hx rfl (hb hby at_179) rfl ?_
  show Steps _ _ _ (T735.setTop (mkF m 181 #[vJ q1, .second, vJ q2, .second, vJ q3, .second, vI p4, vJ (φ ra), .second, vJ (φ rb), .second, vI (own_i κ0), vI (own_i κ1), vI (own_i κ2), vI (own_i κ3), vI (((p4.toUInt32 >>> ((10 : Int32) &&& 31).toUInt32).toInt32) &&& (3 : Int32)), vJ (φ rq), .second, vR a1, vR rp, .unset, .unset, .unset, .unset, .unset, .unset, .unset, .unset] [(.long (φ rb)), (.long (φ ra)), (.int (own_i κ0))])) _
  refine XS.lload X735.here hx rfl (hb hby at_181) rfl ?_
  exact kt)
 clear R734 st735
 obtain ⟨_, _, ⟨T737, L737, k737, n737⟩, -, X737, ⟨Lc737, hQ737, l737, y737, z737⟩, st737⟩ := Jvm.LawKit.callS X735 hx (y := (⟨cL, "hit", "(IJJJ)I"⟩ : MethodName)) hown (mvT hZ (oW hw 110 rfl)) (mvT hZ (oW hw 111 rfl)) (mvT hZ (oW hw 30 rfl)) (mvT hZ (oW hw 112 rfl)) (by decide) (backOf (W := 0) (rm_hit l Z a0 hw [] (own_i κ0) (φ ra) (φ rb) (φ rq) φ κ0 ra rb rq T735.heap n0 Zs735 rfl rfl rfl rfl H ya yb yq k40) hZ (oW hw 112 rfl) (oW hw 30 rfl) (by decide) (by decide)) (g := (mkF m 183 #[vJ q1, .second, vJ q2, .second, vJ q3, .second, vI p4, vJ (φ ra), .second, vJ (φ rb), .second, vI (own_i κ0), vI (own_i κ1), vI (own_i κ2), vI (own_i κ3), vI (((p4.toUInt32 >>> ((10 : Int32) &&& 31).toUInt32).toInt32) &&& (3 : Int32)), vJ (φ rq), .second, vR a1, vR rp, .unset, .unset, .unset, .unset, .unset, .unset, .unset, .unset] [(.long (φ rq)), (.long (φ rb)), (.long (φ ra)), (.int (own_i κ0))])) rfl (by rw [hml]; rfl) (argsL := [(.int (own_i κ0)), (.long (φ ra)), (.long (φ rb)), (.long (φ rq))]) (rest := []) (lenOf pd_15 rfl) rfl (by show 2 * 0 + _ ≤ _; exact Nat.le_of_eq rfl) (hb hby at_183) (fun _ _ => ⟨rfl, rfl, (by decide : 17 + 0 ≤ _), (by decide : 4289 + 0 ≤ _)⟩)
 dsimp only [Pt.U, Pt.locs, Pt.cells, Pt.slots] at X737 l737 y737 z737 st737 hQ737
 rw [l737, y737, z737] at X737
 obtain ⟨rfl, N737q, hh737⟩ := hQ737
 have N737 := Fr.app N735 N737q
 have R738 := fun (tg : State) (kt : Steps p.tables e below (T737.setTop (mkF m 194 #[vJ q1, .second, vJ q2, .second, vJ q3, .second, vI p4, vJ (φ ra), .second, vJ (φ rb), .second, vI (own_i κ0), vI (own_i κ1), vI (own_i κ2), vI (own_i κ3), vI (((p4.toUInt32 >>> ((10 : Int32) &&& 31).toUInt32).toInt32) &&& (3 : Int32)), vJ (φ rq), .second, vR a1, vR rp, .unset, .unset, .unset, .unset, .unset, .unset, .unset, .unset] [(.long (φ rq)), (.long (φ rb)), (.long (φ ra)), (.int (own_i κ1)), (.int (own_i (own_h κ0 ra rb rq)))])) tg) => R736 tg (by
  refine st737 _ ?_
  refine XS.iload X737.here hx rfl (hb hby at_186) rfl ?_
  refine XS.lload X737.here hx rfl (hb hby at_188) rfl ?_
  refine XS.lload X737.here hx rfl (hb hby at_190) rfl ?_
  show Steps _ _ _ (T737.setTop (mkF m 192 #[vJ q1, .second, vJ q2, .second, vJ q3, .second, vI p4, vJ (φ ra), .second, vJ (φ rb), .second, vI (own_i κ0), vI (own_i κ1), vI (own_i κ2), vI (own_i κ3), vI (((p4.toUInt32 >>> ((10 : Int32) &&& 31).toUInt32).toInt32) &&& (3 : Int32)), vJ (φ rq), .second, vR a1, vR rp, .unset, .unset, .unset, .unset, .unset, .unset, .unset, .unset] [(.long (φ rb)), (.long (φ ra)), (.int (own_i κ1)), (.int (own_i (own_h κ0 ra rb rq)))])) _
  refine XS.lload X737.here hx rfl (hb hby at_192) rfl ?_
  exact kt)
 clear R736 st737
 obtain ⟨_, _, ⟨T739, L739, k739, n739⟩, -, X739, ⟨Lc739, hQ739, l739, y739, z739⟩, st739⟩ := Jvm.LawKit.callS X737 hx (y := (⟨cL, "hit", "(IJJJ)I"⟩ : MethodName)) hown (mvT hZ (oW hw 110 rfl)) (mvT hZ (oW hw 111 rfl)) (mvT hZ (oW hw 30 rfl)) (mvT hZ (oW hw 112 rfl)) (by decide) (backOf (W := 1) (rm_hit l Z a0 hw [] (own_i κ1) (φ ra) (φ rb) (φ rq) φ κ1 ra rb rq T735.heap n0 Zs735 rfl rfl rfl rfl H ya yb yq k41) hZ (oW hw 112 rfl) (oW hw 30 rfl) (by decide) (by decide)) (g := (mkF m 194 #[vJ q1, .second, vJ q2, .second, vJ q3, .second, vI p4, vJ (φ ra), .second, vJ (φ rb), .second, vI (own_i κ0), vI (own_i κ1), vI (own_i κ2), vI (own_i κ3), vI (((p4.toUInt32 >>> ((10 : Int32) &&& 31).toUInt32).toInt32) &&& (3 : Int32)), vJ (φ rq), .second, vR a1, vR rp, .unset, .unset, .unset, .unset, .unset, .unset, .unset, .unset] [(.long (φ rq)), (.long (φ rb)), (.long (φ ra)), (.int (own_i κ1)), (.int (own_i (own_h κ0 ra rb rq)))])) rfl (by rw [hml]; rfl) (argsL := [(.int (own_i κ1)), (.long (φ ra)), (.long (φ rb)), (.long (φ rq))]) (rest := [(.int (own_i (own_h κ0 ra rb rq)))]) (lenOf pd_15 rfl) rfl (by show 2 * 0 + _ ≤ _; exact Nat.le_of_eq rfl) (hb hby at_194) (fun _ _ => ⟨rfl, hh737, (by decide : 17 + 0 ≤ _), (by decide : 4289 + 0 ≤ _)⟩)
 dsimp only [Pt.U, Pt.locs, Pt.cells, Pt.slots] at X739 l739 y739 z739 st739 hQ739
 rw [l739, y739, z739] at X739
 obtain ⟨rfl, N739q, hh739⟩ := hQ739
 have N739 := Fr.app N737 N739q
 have R740 := fun (tg : State) (kt : Steps p.tables e below (T739.setTop (mkF m 206 #[vJ q1, .second, vJ q2, .second, vJ q3, .second, vI p4, vJ (φ ra), .second, vJ (φ rb), .second, vI (own_i κ0), vI (own_i κ1), vI (own_i κ2), vI (own_i κ3), vI (((p4.toUInt32 >>> ((10 : Int32) &&& 31).toUInt32).toInt32) &&& (3 : Int32)), vJ (φ rq), .second, vR a1, vR rp, .unset, .unset, .unset, .unset, .unset, .unset, .unset, .unset] [(.long (φ rq)), (.long (φ rb)), (.long (φ ra)), (.int (own_i κ2)), (.int ((own_i (own_h κ0 ra rb rq)) + (own_i (own_h κ1 ra rb rq))))])) tg) => R738 tg (by
  refine st739 _ ?_
  show Steps _ _ _ (T739.setTop (mkF m 197 #[vJ q1, .second, vJ q2, .second, vJ q3, .second, vI p4, vJ (φ ra), .second, vJ (φ rb), .second, vI (own_i κ0), vI (own_i κ1), vI (own_i κ2), vI (own_i κ3), vI (((p4.toUInt32 >>> ((10 : Int32) &&& 31).toUInt32).toInt32) &&& (3 : Int32)), vJ (φ rq), .second, vR a1, vR rp, .unset, .unset, .unset, .unset, .unset, .unset, .unset, .unset] [(.int (own_i (own_h κ1 ra rb rq))), (.int (own_i (own_h κ0 ra rb rq)))])) _
  refine XS.iadd X739.here hx rfl (hb hby at_197) rfl ?_
  refine XS.iload X739.here hx rfl (hb hby at_198) rfl ?_
  refine XS.lload X739.here hx rfl (hb hby at_200) rfl ?_
  refine XS.lload X739.here hx rfl (hb hby at_202) rfl ?_
  show Steps _ _ _ (T739.setTop (mkF m 204 #[vJ q1, .second, vJ q2, .second, vJ q3, .second, vI p4, vJ (φ ra), .second, vJ (φ rb), .second, vI (own_i κ0), vI (own_i κ1), vI (own_i κ2), vI (own_i κ3), vI (((p4.toUInt32 >>> ((10 : Int32) &&& 31).toUInt32).toInt32) &&& (3 : Int32)), vJ (φ rq), .second, vR a1, vR rp, .unset, .unset, .unset, .unset, .unset, .unset, .unset, .unset] [(.long (φ rb)), (.long (φ ra)), (.int (own_i κ2)), (.int ((own_i (own_h κ0 ra rb rq)) + (own_i (own_h κ1 ra rb rq))))])) _
  refine XS.lload X739.here hx rfl (hb hby at_204) rfl ?_
  exact kt)
 clear R738 st739
 obtain ⟨_, _, ⟨T741, L741, k741, n741⟩, -, X741, ⟨Lc741, hQ741, l741, y741, z741⟩, st741⟩ := Jvm.LawKit.callS X739 hx (y := (⟨cL, "hit", "(IJJJ)I"⟩ : MethodName)) hown (mvT hZ (oW hw 110 rfl)) (mvT hZ (oW hw 111 rfl)) (mvT hZ (oW hw 30 rfl)) (mvT hZ (oW hw 112 rfl)) (by decide) (backOf (W := 1) (rm_hit l Z a0 hw [] (own_i κ2) (φ ra) (φ rb) (φ rq) φ κ2 ra rb rq T735.heap n0 Zs735 rfl rfl rfl rfl H ya yb yq k42) hZ (oW hw 112 rfl) (oW hw 30 rfl) (by decide) (by decide)) (g := (mkF m 206 #[vJ q1, .second, vJ q2, .second, vJ q3, .second, vI p4, vJ (φ ra), .second, vJ (φ rb), .second, vI (own_i κ0), vI (own_i κ1), vI (own_i κ2), vI (own_i κ3), vI (((p4.toUInt32 >>> ((10 : Int32) &&& 31).toUInt32).toInt32) &&& (3 : Int32)), vJ (φ rq), .second, vR a1, vR rp, .unset, .unset, .unset, .unset, .unset, .unset, .unset, .unset] [(.long (φ rq)), (.long (φ rb)), (.long (φ ra)), (.int (own_i κ2)), (.int ((own_i (own_h κ0 ra rb rq)) + (own_i (own_h κ1 ra rb rq))))])) rfl (by rw [hml]; rfl) (argsL := [(.int (own_i κ2)), (.long (φ ra)), (.long (φ rb)), (.long (φ rq))]) (rest := [(.int ((own_i (own_h κ0 ra rb rq)) + (own_i (own_h κ1 ra rb rq))))]) (lenOf pd_15 rfl) rfl (by show 2 * 0 + _ ≤ _; exact Nat.le_of_eq rfl) (hb hby at_206) (fun _ _ => ⟨rfl, hh739, (by decide : 17 + 0 ≤ _), (by decide : 4289 + 0 ≤ _)⟩)
 dsimp only [Pt.U, Pt.locs, Pt.cells, Pt.slots] at X741 l741 y741 z741 st741 hQ741
 rw [l741, y741, z741] at X741
 obtain ⟨rfl, N741q, hh741⟩ := hQ741
 have N741 := Fr.app N739 N741q
 have R742 := fun (tg : State) (kt : Steps p.tables e below (T741.setTop (mkF m 218 #[vJ q1, .second, vJ q2, .second, vJ q3, .second, vI p4, vJ (φ ra), .second, vJ (φ rb), .second, vI (own_i κ0), vI (own_i κ1), vI (own_i κ2), vI (own_i κ3), vI (((p4.toUInt32 >>> ((10 : Int32) &&& 31).toUInt32).toInt32) &&& (3 : Int32)), vJ (φ rq), .second, vR a1, vR rp, .unset, .unset, .unset, .unset, .unset, .unset, .unset, .unset] [(.long (φ rq)), (.long (φ rb)), (.long (φ ra)), (.int (own_i κ3)), (.int (((own_i (own_h κ0 ra rb rq)) + (own_i (own_h κ1 ra rb rq))) + (own_i (own_h κ2 ra rb rq))))])) tg) => R740 tg (by
  refine st741 _ ?_
  show Steps _ _ _ (T741.setTop (mkF m 209 #[vJ q1, .second, vJ q2, .second, vJ q3, .second, vI p4, vJ (φ ra), .second, vJ (φ rb), .second, vI (own_i κ0), vI (own_i κ1), vI (own_i κ2), vI (own_i κ3), vI (((p4.toUInt32 >>> ((10 : Int32) &&& 31).toUInt32).toInt32) &&& (3 : Int32)), vJ (φ rq), .second, vR a1, vR rp, .unset, .unset, .unset, .unset, .unset, .unset, .unset, .unset] [(.int (own_i (own_h κ2 ra rb rq))), (.int ((own_i (own_h κ0 ra rb rq)) + (own_i (own_h κ1 ra rb rq))))])) _
  refine XS.iadd X741.here hx rfl (hb hby at_209) rfl ?_
  refine XS.iload X741.here hx rfl (hb hby at_210) rfl ?_
  refine XS.lload X741.here hx rfl (hb hby at_212) rfl ?_
  refine XS.lload X741.here hx rfl (hb hby at_214) rfl ?_
  show Steps _ _ _ (T741.setTop (mkF m 216 #[vJ q1, .second, vJ q2, .second, vJ q3, .second, vI p4, vJ (φ ra), .second, vJ (φ rb), .second, vI (own_i κ0), vI (own_i κ1), vI (own_i κ2), vI (own_i κ3), vI (((p4.toUInt32 >>> ((10 : Int32) &&& 31).toUInt32).toInt32) &&& (3 : Int32)), vJ (φ rq), .second, vR a1, vR rp, .unset, .unset, .unset, .unset, .unset, .unset, .unset, .unset] [(.long (φ rb)), (.long (φ ra)), (.int (own_i κ3)), (.int (((own_i (own_h κ0 ra rb rq)) + (own_i (own_h κ1 ra rb rq))) + (own_i (own_h κ2 ra rb rq))))])) _
  refine XS.lload X741.here hx rfl (hb hby at_216) rfl ?_
  exact kt)
 clear R740 st741
 obtain ⟨_, _, ⟨T743, L743, k743, n743⟩, -, X743, ⟨Lc743, hQ743, l743, y743, z743⟩, st743⟩ := Jvm.LawKit.callS X741 hx (y := (⟨cL, "hit", "(IJJJ)I"⟩ : MethodName)) hown (mvT hZ (oW hw 110 rfl)) (mvT hZ (oW hw 111 rfl)) (mvT hZ (oW hw 30 rfl)) (mvT hZ (oW hw 112 rfl)) (by decide) (backOf (W := 1) (rm_hit l Z a0 hw [] (own_i κ3) (φ ra) (φ rb) (φ rq) φ κ3 ra rb rq T735.heap n0 Zs735 rfl rfl rfl rfl H ya yb yq k43) hZ (oW hw 112 rfl) (oW hw 30 rfl) (by decide) (by decide)) (g := (mkF m 218 #[vJ q1, .second, vJ q2, .second, vJ q3, .second, vI p4, vJ (φ ra), .second, vJ (φ rb), .second, vI (own_i κ0), vI (own_i κ1), vI (own_i κ2), vI (own_i κ3), vI (((p4.toUInt32 >>> ((10 : Int32) &&& 31).toUInt32).toInt32) &&& (3 : Int32)), vJ (φ rq), .second, vR a1, vR rp, .unset, .unset, .unset, .unset, .unset, .unset, .unset, .unset] [(.long (φ rq)), (.long (φ rb)), (.long (φ ra)), (.int (own_i κ3)), (.int (((own_i (own_h κ0 ra rb rq)) + (own_i (own_h κ1 ra rb rq))) + (own_i (own_h κ2 ra rb rq))))])) rfl (by rw [hml]; rfl) (argsL := [(.int (own_i κ3)), (.long (φ ra)), (.long (φ rb)), (.long (φ rq))]) (rest := [(.int (((own_i (own_h κ0 ra rb rq)) + (own_i (own_h κ1 ra rb rq))) + (own_i (own_h κ2 ra rb rq))))]) (lenOf pd_15 rfl) rfl (by show 2 * 0 + _ ≤ _; exact Nat.le_of_eq rfl) (hb hby at_218) (fun _ _ => ⟨rfl, hh741, (by decide : 17 + 0 ≤ _), (by decide : 4289 + 0 ≤ _)⟩)
 dsimp only [Pt.U, Pt.locs, Pt.cells, Pt.slots] at X743 l743 y743 z743 st743 hQ743
 rw [l743, y743, z743] at X743
 obtain ⟨rfl, N743q, hh743⟩ := hQ743
 have N743 := Fr.app N741 N743q
 have R744 := fun (tg : State) (kt : Steps p.tables e below (T743.setTop (mkF m 222 #[vJ q1, .second, vJ q2, .second, vJ q3, .second, vI p4, vJ (φ ra), .second, vJ (φ rb), .second, vI (own_i κ0), vI (own_i κ1), vI (own_i κ2), vI (own_i κ3), vI (((p4.toUInt32 >>> ((10 : Int32) &&& 31).toUInt32).toInt32) &&& (3 : Int32)), vJ (φ rq), .second, vR a1, vR rp, .unset, .unset, .unset, .unset, .unset, .unset, .unset, .unset] [(.int ((((own_i (own_h κ0 ra rb rq)) + (own_i (own_h κ1 ra rb rq))) + (own_i (own_h κ2 ra rb rq))) + (own_i (own_h κ3 ra rb rq))))])) tg) => R742 tg (by
  refine st743 _ ?_
  show Steps _ _ _ (T743.setTop (mkF m 221 #[vJ q1, .second, vJ q2, .second, vJ q3, .second, vI p4, vJ (φ ra), .second, vJ (φ rb), .second, vI (own_i κ0), vI (own_i κ1), vI (own_i κ2), vI (own_i κ3), vI (((p4.toUInt32 >>> ((10 : Int32) &&& 31).toUInt32).toInt32) &&& (3 : Int32)), vJ (φ rq), .second, vR a1, vR rp, .unset, .unset, .unset, .unset, .unset, .unset, .unset, .unset] [(.int (own_i (own_h κ3 ra rb rq))), (.int (((own_i (own_h κ0 ra rb rq)) + (own_i (own_h κ1 ra rb rq))) + (own_i (own_h κ2 ra rb rq))))])) _
  refine XS.iadd X743.here hx rfl (hb hby at_221) rfl ?_
  exact kt)
 clear R742 st743
 obtain ⟨nq, hnq⟩ : ∃ z : Nat, z = own_h κ0 ra rb rq + own_h κ1 ra rb rq + own_h κ2 ra rb rq + own_h κ3 ra rb rq := ⟨_, rfl⟩
 have R745 := fun (tg : State) (kt : Steps p.tables e below (T743.setTop (mkF m 222 #[vJ q1, .second, vJ q2, .second, vJ q3, .second, vI p4, vJ (φ ra), .second, vJ (φ rb), .second, vI (own_i κ0), vI (own_i κ1), vI (own_i κ2), vI (own_i κ3), vI (((p4.toUInt32 >>> ((10 : Int32) &&& 31).toUInt32).toInt32) &&& (3 : Int32)), vJ (φ rq), .second, vR a1, vR rp, .unset, .unset, .unset, .unset, .unset, .unset, .unset, .unset] [(.int (own_i nq))])) tg) => R744 tg (by rw [own_iad (own_h1 _ _ _ _) (own_h1 _ _ _ _) (own_h1 _ _ _ _) (own_h1 _ _ _ _), ← hnq]; exact kt)
 clear R744
 have R746 := fun (tg : State) (kt : Steps p.tables e below (T743.setTop (mkF m 233 #[vJ q1, .second, vJ q2, .second, vJ q3, .second, vI p4, vJ (φ ra), .second, vJ (φ rb), .second, vI (own_i κ0), vI (own_i κ1), vI (own_i κ2), vI (own_i κ3), vI (((p4.toUInt32 >>> ((10 : Int32) &&& 31).toUInt32).toInt32) &&& (3 : Int32)), vJ (φ rq), .second, vR a1, vR rp, vI (own_i nq), .unset, .unset, .unset, .unset, .unset, .unset, .unset] [(.long (-3750763034362895579 : Int64)), (.long (φ rb)), (.long (φ ra)), (.int (own_i κ0))])) tg) => R745 tg (by
  show Steps _ _ _ (T743.setTop (mkF m 222 #[vJ q1, .second, vJ q2, .second, vJ q3, .second, vI p4, vJ (φ ra), .second, vJ (φ rb), .second, vI (own_i κ0), vI (own_i κ1), vI (own_i κ2), vI (own_i κ3), vI (((p4.toUInt32 >>> ((10 : Int32) &&& 31).toUInt32).toInt32) &&& (3 : Int32)), vJ (φ rq), .second, vR a1, vR rp, .unset, .unset, .unset, .unset, .unset, .unset, .unset, .unset] [(.int (own_i nq))])) _
  refine XS.istore X743.here hx rfl (hb hby at_222) rfl (l' := #[vJ q1, .second, vJ q2, .second, vJ q3, .second, vI p4, vJ (φ ra), .second, vJ (φ rb), .second, vI (own_i κ0), vI (own_i κ1), vI (own_i κ2), vI (own_i κ3), vI (((p4.toUInt32 >>> ((10 : Int32) &&& 31).toUInt32).toInt32) &&& (3 : Int32)), vJ (φ rq), .second, vR a1, vR rp, vI (own_i nq), .unset, .unset, .unset, .unset, .unset, .unset, .unset]) rfl ?_
  refine XS.iload X743.here hx rfl (hb hby at_224) rfl ?_
  refine XS.lload X743.here hx rfl (hb hby at_226) rfl ?_
  refine XS.lload X743.here hx rfl (hb hby at_228) rfl ?_
  show Steps _ _ _ (T743.setTop (mkF m 230 #[vJ q1, .second, vJ q2, .second, vJ q3, .second, vI p4, vJ (φ ra), .second, vJ (φ rb), .second, vI (own_i κ0), vI (own_i κ1), vI (own_i κ2), vI (own_i κ3), vI (((p4.toUInt32 >>> ((10 : Int32) &&& 31).toUInt32).toInt32) &&& (3 : Int32)), vJ (φ rq), .second, vR a1, vR rp, vI (own_i nq), .unset, .unset, .unset, .unset, .unset, .unset, .unset] [(.long (φ rb)), (.long (φ ra)), (.int (own_i κ0))])) _
  refine X743.ldc2Long hx hown (mvT hZ (oW hw 113 rfl)) (g := (mkF m 230 #[vJ q1, .second, vJ q2, .second, vJ q3, .second, vI p4, vJ (φ ra), .second, vJ (φ rb), .second, vI (own_i κ0), vI (own_i κ1), vI (own_i κ2), vI (own_i κ3), vI (((p4.toUInt32 >>> ((10 : Int32) &&& 31).toUInt32).toInt32) &&& (3 : Int32)), vJ (φ rq), .second, vR a1, vR rp, vI (own_i nq), .unset, .unset, .unset, .unset, .unset, .unset, .unset] [(.long (φ rb)), (.long (φ ra)), (.int (own_i κ0))])) rfl (hb hby at_230) _ ?_
  exact kt)
 clear R745
 obtain ⟨_, _, ⟨T747, L747, k747, n747⟩, -, X747, ⟨Lc747, hQ747, l747, y747, z747⟩, st747⟩ := Jvm.LawKit.callS X743 hx (y := (⟨cL, "hit", "(IJJJ)I"⟩ : MethodName)) hown (mvT hZ (oW hw 110 rfl)) (mvT hZ (oW hw 111 rfl)) (mvT hZ (oW hw 30 rfl)) (mvT hZ (oW hw 112 rfl)) (by decide) (backOf (W := 0) (rm_hit l Z a0 hw [] (own_i κ0) (φ ra) (φ rb) (-3750763034362895579 : Int64) φ κ0 ra rb rs T735.heap n0 Zs735 rfl rfl rfl es H ya yb ys k40) hZ (oW hw 112 rfl) (oW hw 30 rfl) (by decide) (by decide)) (g := (mkF m 233 #[vJ q1, .second, vJ q2, .second, vJ q3, .second, vI p4, vJ (φ ra), .second, vJ (φ rb), .second, vI (own_i κ0), vI (own_i κ1), vI (own_i κ2), vI (own_i κ3), vI (((p4.toUInt32 >>> ((10 : Int32) &&& 31).toUInt32).toInt32) &&& (3 : Int32)), vJ (φ rq), .second, vR a1, vR rp, vI (own_i nq), .unset, .unset, .unset, .unset, .unset, .unset, .unset] [(.long (-3750763034362895579 : Int64)), (.long (φ rb)), (.long (φ ra)), (.int (own_i κ0))])) rfl (by rw [hml]; rfl) (argsL := [(.int (own_i κ0)), (.long (φ ra)), (.long (φ rb)), (.long (-3750763034362895579 : Int64))]) (rest := []) (lenOf pd_15 rfl) rfl (by show 2 * 0 + _ ≤ _; exact Nat.le_of_eq rfl) (hb hby at_233) (fun _ _ => ⟨rfl, hh743, (by decide : 17 + 0 ≤ _), (by decide : 4289 + 0 ≤ _)⟩)
 dsimp only [Pt.U, Pt.locs, Pt.cells, Pt.slots] at X747 l747 y747 z747 st747 hQ747
 rw [l747, y747, z747] at X747
 obtain ⟨rfl, N747q, hh747⟩ := hQ747
 have N747 := Fr.app N743 N747q
 have R748 := fun (tg : State) (kt : Steps p.tables e below (T747.setTop (mkF m 245 #[vJ q1, .second, vJ q2, .second, vJ q3, .second, vI p4, vJ (φ ra), .second, vJ (φ rb), .second, vI (own_i κ0), vI (own_i κ1), vI (own_i κ2), vI (own_i κ3), vI (((p4.toUInt32 >>> ((10 : Int32) &&& 31).toUInt32).toInt32) &&& (3 : Int32)), vJ (φ rq), .second, vR a1, vR rp, vI (own_i nq), .unset, .unset, .unset, .unset, .unset, .unset, .unset] [(.long (-3750763034362895579 : Int64)), (.long (φ rb)), (.long (φ ra)), (.int (own_i κ1)), (.int (own_i (own_h κ0 ra rb rs)))])) tg) => R746 tg (by
  refine st747 _ ?_
  refine XS.iload X747.here hx rfl (hb hby at_236) rfl ?_
  refine XS.lload X747.here hx rfl (hb hby at_238) rfl ?_
  refine XS.lload X747.here hx rfl (hb hby at_240) rfl ?_
  show Steps _ _ _ (T747.setTop (mkF m 242 #[vJ q1, .second, vJ q2, .second, vJ q3, .second, vI p4, vJ (φ ra), .second, vJ (φ rb), .second, vI (own_i κ0), vI (own_i κ1), vI (own_i κ2), vI (own_i κ3), vI (((p4.toUInt32 >>> ((10 : Int32) &&& 31).toUInt32).toInt32) &&& (3 : Int32)), vJ (φ rq), .second, vR a1, vR rp, vI (own_i nq), .unset, .unset, .unset, .unset, .unset, .unset, .unset] [(.long (φ rb)), (.long (φ ra)), (.int (own_i κ1)), (.int (own_i (own_h κ0 ra rb rs)))])) _
  refine X747.ldc2Long hx hown (mvT hZ (oW hw 113 rfl)) (g := (mkF m 242 #[vJ q1, .second, vJ q2, .second, vJ q3, .second, vI p4, vJ (φ ra), .second, vJ (φ rb), .second, vI (own_i κ0), vI (own_i κ1), vI (own_i κ2), vI (own_i κ3), vI (((p4.toUInt32 >>> ((10 : Int32) &&& 31).toUInt32).toInt32) &&& (3 : Int32)), vJ (φ rq), .second, vR a1, vR rp, vI (own_i nq), .unset, .unset, .unset, .unset, .unset, .unset, .unset] [(.long (φ rb)), (.long (φ ra)), (.int (own_i κ1)), (.int (own_i (own_h κ0 ra rb rs)))])) rfl (hb hby at_242) _ ?_
  exact kt)
 clear R746 st747
 obtain ⟨_, _, ⟨T749, L749, k749, n749⟩, -, X749, ⟨Lc749, hQ749, l749, y749, z749⟩, st749⟩ := Jvm.LawKit.callS X747 hx (y := (⟨cL, "hit", "(IJJJ)I"⟩ : MethodName)) hown (mvT hZ (oW hw 110 rfl)) (mvT hZ (oW hw 111 rfl)) (mvT hZ (oW hw 30 rfl)) (mvT hZ (oW hw 112 rfl)) (by decide) (backOf (W := 1) (rm_hit l Z a0 hw [] (own_i κ1) (φ ra) (φ rb) (-3750763034362895579 : Int64) φ κ1 ra rb rs T735.heap n0 Zs735 rfl rfl rfl es H ya yb ys k41) hZ (oW hw 112 rfl) (oW hw 30 rfl) (by decide) (by decide)) (g := (mkF m 245 #[vJ q1, .second, vJ q2, .second, vJ q3, .second, vI p4, vJ (φ ra), .second, vJ (φ rb), .second, vI (own_i κ0), vI (own_i κ1), vI (own_i κ2), vI (own_i κ3), vI (((p4.toUInt32 >>> ((10 : Int32) &&& 31).toUInt32).toInt32) &&& (3 : Int32)), vJ (φ rq), .second, vR a1, vR rp, vI (own_i nq), .unset, .unset, .unset, .unset, .unset, .unset, .unset] [(.long (-3750763034362895579 : Int64)), (.long (φ rb)), (.long (φ ra)), (.int (own_i κ1)), (.int (own_i (own_h κ0 ra rb rs)))])) rfl (by rw [hml]; rfl) (argsL := [(.int (own_i κ1)), (.long (φ ra)), (.long (φ rb)), (.long (-3750763034362895579 : Int64))]) (rest := [(.int (own_i (own_h κ0 ra rb rs)))]) (lenOf pd_15 rfl) rfl (by show 2 * 0 + _ ≤ _; exact Nat.le_of_eq rfl) (hb hby at_245) (fun _ _ => ⟨rfl, hh747, (by decide : 17 + 0 ≤ _), (by decide : 4289 + 0 ≤ _)⟩)
 dsimp only [Pt.U, Pt.locs, Pt.cells, Pt.slots] at X749 l749 y749 z749 st749 hQ749
 rw [l749, y749, z749] at X749
 obtain ⟨rfl, N749q, hh749⟩ := hQ749
 have N749 := Fr.app N747 N749q
 have R750 := fun (tg : State) (kt : Steps p.tables e below (T749.setTop (mkF m 258 #[vJ q1, .second, vJ q2, .second, vJ q3, .second, vI p4, vJ (φ ra), .second, vJ (φ rb), .second, vI (own_i κ0), vI (own_i κ1), vI (own_i κ2), vI (own_i κ3), vI (((p4.toUInt32 >>> ((10 : Int32) &&& 31).toUInt32).toInt32) &&& (3 : Int32)), vJ (φ rq), .second, vR a1, vR rp, vI (own_i nq), .unset, .unset, .unset, .unset, .unset, .unset, .unset] [(.long (-3750763034362895579 : Int64)), (.long (φ rb)), (.long (φ ra)), (.int (own_i κ2)), (.int ((own_i (own_h κ0 ra rb rs)) + (own_i (own_h κ1 ra rb rs))))])) tg) => R748 tg (by
  refine st749 _ ?_
  show Steps _ _ _ (T749.setTop (mkF m 248 #[vJ q1, .second, vJ q2, .second, vJ q3, .second, vI p4, vJ (φ ra), .second, vJ (φ rb), .second, vI (own_i κ0), vI (own_i κ1), vI (own_i κ2), vI (own_i κ3), vI (((p4.toUInt32 >>> ((10 : Int32) &&& 31).toUInt32).toInt32) &&& (3 : Int32)), vJ (φ rq), .second, vR a1, vR rp, vI (own_i nq), .unset, .unset, .unset, .unset, .unset, .unset, .unset] [(.int (own_i (own_h κ1 ra rb rs))), (.int (own_i (own_h κ0 ra rb rs)))])) _
  refine XS.iadd X749.here hx rfl (hb hby at_248) rfl ?_
  refine XS.iload X749.here hx rfl (hb hby at_249) rfl ?_
  refine XS.lload X749.here hx rfl (hb hby at_251) rfl ?_
  refine XS.lload X749.here hx rfl (hb hby at_253) rfl ?_
  show Steps _ _ _ (T749.setTop (mkF m 255 #[vJ q1, .second, vJ q2, .second, vJ q3, .second, vI p4, vJ (φ ra), .second, vJ (φ rb), .second, vI (own_i κ0), vI (own_i κ1), vI (own_i κ2), vI (own_i κ3), vI (((p4.toUInt32 >>> ((10 : Int32) &&& 31).toUInt32).toInt32) &&& (3 : Int32)), vJ (φ rq), .second, vR a1, vR rp, vI (own_i nq), .unset, .unset, .unset, .unset, .unset, .unset, .unset] [(.long (φ rb)), (.long (φ ra)), (.int (own_i κ2)), (.int ((own_i (own_h κ0 ra rb rs)) + (own_i (own_h κ1 ra rb rs))))])) _
  refine X749.ldc2Long hx hown (mvT hZ (oW hw 113 rfl)) (g := (mkF m 255 #[vJ q1, .second, vJ q2, .second, vJ q3, .second, vI p4, vJ (φ ra), .second, vJ (φ rb), .second, vI (own_i κ0), vI (own_i κ1), vI (own_i κ2), vI (own_i κ3), vI (((p4.toUInt32 >>> ((10 : Int32) &&& 31).toUInt32).toInt32) &&& (3 : Int32)), vJ (φ rq), .second, vR a1, vR rp, vI (own_i nq), .unset, .unset, .unset, .unset, .unset, .unset, .unset] [(.long (φ rb)), (.long (φ ra)), (.int (own_i κ2)), (.int ((own_i (own_h κ0 ra rb rs)) + (own_i (own_h κ1 ra rb rs))))])) rfl (hb hby at_255) _ ?_
  exact kt)
 clear R748 st749
 obtain ⟨_, _, ⟨T751, L751, k751, n751⟩, -, X751, ⟨Lc751, hQ751, l751, y751, z751⟩, st751⟩ := Jvm.LawKit.callS X749 hx (y := (⟨cL, "hit", "(IJJJ)I"⟩ : MethodName)) hown (mvT hZ (oW hw 110 rfl)) (mvT hZ (oW hw 111 rfl)) (mvT hZ (oW hw 30 rfl)) (mvT hZ (oW hw 112 rfl)) (by decide) (backOf (W := 1) (rm_hit l Z a0 hw [] (own_i κ2) (φ ra) (φ rb) (-3750763034362895579 : Int64) φ κ2 ra rb rs T735.heap n0 Zs735 rfl rfl rfl es H ya yb ys k42) hZ (oW hw 112 rfl) (oW hw 30 rfl) (by decide) (by decide)) (g := (mkF m 258 #[vJ q1, .second, vJ q2, .second, vJ q3, .second, vI p4, vJ (φ ra), .second, vJ (φ rb), .second, vI (own_i κ0), vI (own_i κ1), vI (own_i κ2), vI (own_i κ3), vI (((p4.toUInt32 >>> ((10 : Int32) &&& 31).toUInt32).toInt32) &&& (3 : Int32)), vJ (φ rq), .second, vR a1, vR rp, vI (own_i nq), .unset, .unset, .unset, .unset, .unset, .unset, .unset] [(.long (-3750763034362895579 : Int64)), (.long (φ rb)), (.long (φ ra)), (.int (own_i κ2)), (.int ((own_i (own_h κ0 ra rb rs)) + (own_i (own_h κ1 ra rb rs))))])) rfl (by rw [hml]; rfl) (argsL := [(.int (own_i κ2)), (.long (φ ra)), (.long (φ rb)), (.long (-3750763034362895579 : Int64))]) (rest := [(.int ((own_i (own_h κ0 ra rb rs)) + (own_i (own_h κ1 ra rb rs))))]) (lenOf pd_15 rfl) rfl (by show 2 * 0 + _ ≤ _; exact Nat.le_of_eq rfl) (hb hby at_258) (fun _ _ => ⟨rfl, hh749, (by decide : 17 + 0 ≤ _), (by decide : 4289 + 0 ≤ _)⟩)
 dsimp only [Pt.U, Pt.locs, Pt.cells, Pt.slots] at X751 l751 y751 z751 st751 hQ751
 rw [l751, y751, z751] at X751
 obtain ⟨rfl, N751q, hh751⟩ := hQ751
 have N751 := Fr.app N749 N751q
 have R752 := fun (tg : State) (kt : Steps p.tables e below (T751.setTop (mkF m 271 #[vJ q1, .second, vJ q2, .second, vJ q3, .second, vI p4, vJ (φ ra), .second, vJ (φ rb), .second, vI (own_i κ0), vI (own_i κ1), vI (own_i κ2), vI (own_i κ3), vI (((p4.toUInt32 >>> ((10 : Int32) &&& 31).toUInt32).toInt32) &&& (3 : Int32)), vJ (φ rq), .second, vR a1, vR rp, vI (own_i nq), .unset, .unset, .unset, .unset, .unset, .unset, .unset] [(.long (-3750763034362895579 : Int64)), (.long (φ rb)), (.long (φ ra)), (.int (own_i κ3)), (.int (((own_i (own_h κ0 ra rb rs)) + (own_i (own_h κ1 ra rb rs))) + (own_i (own_h κ2 ra rb rs))))])) tg) => R750 tg (by
  refine st751 _ ?_
  show Steps _ _ _ (T751.setTop (mkF m 261 #[vJ q1, .second, vJ q2, .second, vJ q3, .second, vI p4, vJ (φ ra), .second, vJ (φ rb), .second, vI (own_i κ0), vI (own_i κ1), vI (own_i κ2), vI (own_i κ3), vI (((p4.toUInt32 >>> ((10 : Int32) &&& 31).toUInt32).toInt32) &&& (3 : Int32)), vJ (φ rq), .second, vR a1, vR rp, vI (own_i nq), .unset, .unset, .unset, .unset, .unset, .unset, .unset] [(.int (own_i (own_h κ2 ra rb rs))), (.int ((own_i (own_h κ0 ra rb rs)) + (own_i (own_h κ1 ra rb rs))))])) _
  refine XS.iadd X751.here hx rfl (hb hby at_261) rfl ?_
  refine XS.iload X751.here hx rfl (hb hby at_262) rfl ?_
  refine XS.lload X751.here hx rfl (hb hby at_264) rfl ?_
  refine XS.lload X751.here hx rfl (hb hby at_266) rfl ?_
  show Steps _ _ _ (T751.setTop (mkF m 268 #[vJ q1, .second, vJ q2, .second, vJ q3, .second, vI p4, vJ (φ ra), .second, vJ (φ rb), .second, vI (own_i κ0), vI (own_i κ1), vI (own_i κ2), vI (own_i κ3), vI (((p4.toUInt32 >>> ((10 : Int32) &&& 31).toUInt32).toInt32) &&& (3 : Int32)), vJ (φ rq), .second, vR a1, vR rp, vI (own_i nq), .unset, .unset, .unset, .unset, .unset, .unset, .unset] [(.long (φ rb)), (.long (φ ra)), (.int (own_i κ3)), (.int (((own_i (own_h κ0 ra rb rs)) + (own_i (own_h κ1 ra rb rs))) + (own_i (own_h κ2 ra rb rs))))])) _
  refine X751.ldc2Long hx hown (mvT hZ (oW hw 113 rfl)) (g := (mkF m 268 #[vJ q1, .second, vJ q2, .second, vJ q3, .second, vI p4, vJ (φ ra), .second, vJ (φ rb), .second, vI (own_i κ0), vI (own_i κ1), vI (own_i κ2), vI (own_i κ3), vI (((p4.toUInt32 >>> ((10 : Int32) &&& 31).toUInt32).toInt32) &&& (3 : Int32)), vJ (φ rq), .second, vR a1, vR rp, vI (own_i nq), .unset, .unset, .unset, .unset, .unset, .unset, .unset] [(.long (φ rb)), (.long (φ ra)), (.int (own_i κ3)), (.int (((own_i (own_h κ0 ra rb rs)) + (own_i (own_h κ1 ra rb rs))) + (own_i (own_h κ2 ra rb rs))))])) rfl (hb hby at_268) _ ?_
  exact kt)
 clear R750 st751
 obtain ⟨_, _, ⟨T753, L753, k753, n753⟩, -, X753, ⟨Lc753, hQ753, l753, y753, z753⟩, st753⟩ := Jvm.LawKit.callS X751 hx (y := (⟨cL, "hit", "(IJJJ)I"⟩ : MethodName)) hown (mvT hZ (oW hw 110 rfl)) (mvT hZ (oW hw 111 rfl)) (mvT hZ (oW hw 30 rfl)) (mvT hZ (oW hw 112 rfl)) (by decide) (backOf (W := 1) (rm_hit l Z a0 hw [] (own_i κ3) (φ ra) (φ rb) (-3750763034362895579 : Int64) φ κ3 ra rb rs T735.heap n0 Zs735 rfl rfl rfl es H ya yb ys k43) hZ (oW hw 112 rfl) (oW hw 30 rfl) (by decide) (by decide)) (g := (mkF m 271 #[vJ q1, .second, vJ q2, .second, vJ q3, .second, vI p4, vJ (φ ra), .second, vJ (φ rb), .second, vI (own_i κ0), vI (own_i κ1), vI (own_i κ2), vI (own_i κ3), vI (((p4.toUInt32 >>> ((10 : Int32) &&& 31).toUInt32).toInt32) &&& (3 : Int32)), vJ (φ rq), .second, vR a1, vR rp, vI (own_i nq), .unset, .unset, .unset, .unset, .unset, .unset, .unset] [(.long (-3750763034362895579 : Int64)), (.long (φ rb)), (.long (φ ra)), (.int (own_i κ3)), (.int (((own_i (own_h κ0 ra rb rs)) + (own_i (own_h κ1 ra rb rs))) + (own_i (own_h κ2 ra rb rs))))])) rfl (by rw [hml]; rfl) (argsL := [(.int (own_i κ3)), (.long (φ ra)), (.long (φ rb)), (.long (-3750763034362895579 : Int64))]) (rest := [(.int (((own_i (own_h κ0 ra rb rs)) + (own_i (own_h κ1 ra rb rs))) + (own_i (own_h κ2 ra rb rs))))]) (lenOf pd_15 rfl) rfl (by show 2 * 0 + _ ≤ _; exact Nat.le_of_eq rfl) (hb hby at_271) (fun _ _ => ⟨rfl, hh751, (by decide : 17 + 0 ≤ _), (by decide : 4289 + 0 ≤ _)⟩)
 dsimp only [Pt.U, Pt.locs, Pt.cells, Pt.slots] at X753 l753 y753 z753 st753 hQ753
 rw [l753, y753, z753] at X753
 obtain ⟨rfl, N753q, hh753⟩ := hQ753
 have N753 := Fr.app N751 N753q
 have R754 := fun (tg : State) (kt : Steps p.tables e below (T753.setTop (mkF m 275 #[vJ q1, .second, vJ q2, .second, vJ q3, .second, vI p4, vJ (φ ra), .second, vJ (φ rb), .second, vI (own_i κ0), vI (own_i κ1), vI (own_i κ2), vI (own_i κ3), vI (((p4.toUInt32 >>> ((10 : Int32) &&& 31).toUInt32).toInt32) &&& (3 : Int32)), vJ (φ rq), .second, vR a1, vR rp, vI (own_i nq), .unset, .unset, .unset, .unset, .unset, .unset, .unset] [(.int ((((own_i (own_h κ0 ra rb rs)) + (own_i (own_h κ1 ra rb rs))) + (own_i (own_h κ2 ra rb rs))) + (own_i (own_h κ3 ra rb rs))))])) tg) => R752 tg (by
  refine st753 _ ?_
  show Steps _ _ _ (T753.setTop (mkF m 274 #[vJ q1, .second, vJ q2, .second, vJ q3, .second, vI p4, vJ (φ ra), .second, vJ (φ rb), .second, vI (own_i κ0), vI (own_i κ1), vI (own_i κ2), vI (own_i κ3), vI (((p4.toUInt32 >>> ((10 : Int32) &&& 31).toUInt32).toInt32) &&& (3 : Int32)), vJ (φ rq), .second, vR a1, vR rp, vI (own_i nq), .unset, .unset, .unset, .unset, .unset, .unset, .unset] [(.int (own_i (own_h κ3 ra rb rs))), (.int (((own_i (own_h κ0 ra rb rs)) + (own_i (own_h κ1 ra rb rs))) + (own_i (own_h κ2 ra rb rs))))])) _
  refine XS.iadd X753.here hx rfl (hb hby at_274) rfl ?_
  exact kt)
 clear R752 st753
 obtain ⟨ns, hns⟩ : ∃ z : Nat, z = own_h κ0 ra rb rs + own_h κ1 ra rb rs + own_h κ2 ra rb rs + own_h κ3 ra rb rs := ⟨_, rfl⟩
 have R755 := fun (tg : State) (kt : Steps p.tables e below (T753.setTop (mkF m 275 #[vJ q1, .second, vJ q2, .second, vJ q3, .second, vI p4, vJ (φ ra), .second, vJ (φ rb), .second, vI (own_i κ0), vI (own_i κ1), vI (own_i κ2), vI (own_i κ3), vI (((p4.toUInt32 >>> ((10 : Int32) &&& 31).toUInt32).toInt32) &&& (3 : Int32)), vJ (φ rq), .second, vR a1, vR rp, vI (own_i nq), .unset, .unset, .unset, .unset, .unset, .unset, .unset] [(.int (own_i ns))])) tg) => R754 tg (by rw [own_iad (own_h1 _ _ _ _) (own_h1 _ _ _ _) (own_h1 _ _ _ _) (own_h1 _ _ _ _), ← hns]; exact kt)
 clear R754
 have R756 := fun (tg : State) (kt : Steps p.tables e below (T753.setTop (mkF m 283 #[vJ q1, .second, vJ q2, .second, vJ q3, .second, vI p4, vJ (φ ra), .second, vJ (φ rb), .second, vI (own_i κ0), vI (own_i κ1), vI (own_i κ2), vI (own_i κ3), vI (((p4.toUInt32 >>> ((10 : Int32) &&& 31).toUInt32).toInt32) &&& (3 : Int32)), vJ (φ rq), .second, vR a1, vR rp, vI (own_i nq), vI (own_i ns), .unset, .unset, .unset, .unset, .unset, .unset] [(.int (lcmpW (φ rq) (-3750763034362895579 : Int64)))])) tg) => R755 tg (by
  show Steps _ _ _ (T753.setTop (mkF m 275 #[vJ q1, .second, vJ q2, .second, vJ q3, .second, vI p4, vJ (φ ra), .second, vJ (φ rb), .second, vI (own_i κ0), vI (own_i κ1), vI (own_i κ2), vI (own_i κ3), vI (((p4.toUInt32 >>> ((10 : Int32) &&& 31).toUInt32).toInt32) &&& (3 : Int32)), vJ (φ rq), .second, vR a1, vR rp, vI (own_i nq), .unset, .unset, .unset, .unset, .unset, .unset, .unset] [(.int (own_i ns))])) _
  refine XS.istore X753.here hx rfl (hb hby at_275) rfl (l' := #[vJ q1, .second, vJ q2, .second, vJ q3, .second, vI p4, vJ (φ ra), .second, vJ (φ rb), .second, vI (own_i κ0), vI (own_i κ1), vI (own_i κ2), vI (own_i κ3), vI (((p4.toUInt32 >>> ((10 : Int32) &&& 31).toUInt32).toInt32) &&& (3 : Int32)), vJ (φ rq), .second, vR a1, vR rp, vI (own_i nq), vI (own_i ns), .unset, .unset, .unset, .unset, .unset, .unset]) rfl ?_
  refine XS.lload X753.here hx rfl (hb hby at_277) rfl ?_
  show Steps _ _ _ (T753.setTop (mkF m 279 #[vJ q1, .second, vJ q2, .second, vJ q3, .second, vI p4, vJ (φ ra), .second, vJ (φ rb), .second, vI (own_i κ0), vI (own_i κ1), vI (own_i κ2), vI (own_i κ3), vI (((p4.toUInt32 >>> ((10 : Int32) &&& 31).toUInt32).toInt32) &&& (3 : Int32)), vJ (φ rq), .second, vR a1, vR rp, vI (own_i nq), vI (own_i ns), .unset, .unset, .unset, .unset, .unset, .unset] [(.long (φ rq))])) _
  refine X753.ldc2Long hx hown (mvT hZ (oW hw 113 rfl)) (g := (mkF m 279 #[vJ q1, .second, vJ q2, .second, vJ q3, .second, vI p4, vJ (φ ra), .second, vJ (φ rb), .second, vI (own_i κ0), vI (own_i κ1), vI (own_i κ2), vI (own_i κ3), vI (((p4.toUInt32 >>> ((10 : Int32) &&& 31).toUInt32).toInt32) &&& (3 : Int32)), vJ (φ rq), .second, vR a1, vR rp, vI (own_i nq), vI (own_i ns), .unset, .unset, .unset, .unset, .unset, .unset] [(.long (φ rq))])) rfl (hb hby at_279) _ ?_
  show Steps _ _ _ (T753.setTop (mkF m 282 #[vJ q1, .second, vJ q2, .second, vJ q3, .second, vI p4, vJ (φ ra), .second, vJ (φ rb), .second, vI (own_i κ0), vI (own_i κ1), vI (own_i κ2), vI (own_i κ3), vI (((p4.toUInt32 >>> ((10 : Int32) &&& 31).toUInt32).toInt32) &&& (3 : Int32)), vJ (φ rq), .second, vR a1, vR rp, vI (own_i nq), vI (own_i ns), .unset, .unset, .unset, .unset, .unset, .unset] [(.long (-3750763034362895579 : Int64)), (.long (φ rq))])) _
  refine XS.lcmp X753.here hx rfl (hb hby at_282) rfl ?_
  exact kt)
 clear R755
 have ce : lcmpW (φ rq) (-3750763034362895579 : Int64) = (0 : Int32) ↔ rq = rs := by rw [es]; exact own_ce H yq ys
 obtain ⟨T766, L766, X766, e766, N766, st766⟩ : ∃ (T' : State) (L' : List Loc), Stand p l e room_1 s m #[(.long q1), (.long q2), (.long q3), (.int p4)] below meth c T' L' 17 4289 ∧ T'.heap = T735.heap ∧ Fr n0 L' ∧ Sq p e below (T'.setTop (mkF m 313 #[vJ q1, .second, vJ q2, .second, vJ q3, .second, vI p4, vJ (φ ra), .second, vJ (φ rb), .second, vI (own_i κ0), vI (own_i κ1), vI (own_i κ2), vI (own_i κ3), vI (((p4.toUInt32 >>> ((10 : Int32) &&& 31).toUInt32).toInt32) &&& (3 : Int32)), vJ (φ rq), .second, vR a1, vR rp, vI (own_i nq), vI (own_i ns), vI (own_b2 (decide (rq = rs) && own_ub κ0 κ1 κ2 κ3 ra rb rq)), .unset, .unset, .unset, .unset, .unset] [])) (T753.setTop (mkF m 283 #[vJ q1, .second, vJ q2, .second, vJ q3, .second, vI p4, vJ (φ ra), .second, vJ (φ rb), .second, vI (own_i κ0), vI (own_i κ1), vI (own_i κ2), vI (own_i κ3), vI (((p4.toUInt32 >>> ((10 : Int32) &&& 31).toUInt32).toInt32) &&& (3 : Int32)), vJ (φ rq), .second, vR a1, vR rp, vI (own_i nq), vI (own_i ns), .unset, .unset, .unset, .unset, .unset, .unset] [(.int (lcmpW (φ rq) (-3750763034362895579 : Int64)))])) := by
  by_cases hq : rq = rs
  ·have R760 := fun (tg : State) (kt : Steps p.tables e below (T753.setTop (mkF m 300 #[vJ q1, .second, vJ q2, .second, vJ q3, .second, vI p4, vJ (φ ra), .second, vJ (φ rb), .second, vI (own_i κ0), vI (own_i κ1), vI (own_i κ2), vI (own_i κ3), vI (((p4.toUInt32 >>> ((10 : Int32) &&& 31).toUInt32).toInt32) &&& (3 : Int32)), vJ (φ rq), .second, vR a1, vR rp, vI (own_i nq), vI (own_i ns), .unset, .unset, .unset, .unset, .unset, .unset] [(.long (φ rq)), (.long (φ rb)), (.long (φ ra)), (.int (own_i κ3)), (.int (own_i κ2)), (.int (own_i κ1)), (.int (own_i κ0))])) tg) => (fun (t : State) (k : Steps p.tables e below (T753.setTop (mkF m 283 #[vJ q1, .second, vJ q2, .second, vJ q3, .second, vI p4, vJ (φ ra), .second, vJ (φ rb), .second, vI (own_i κ0), vI (own_i κ1), vI (own_i κ2), vI (own_i κ3), vI (((p4.toUInt32 >>> ((10 : Int32) &&& 31).toUInt32).toInt32) &&& (3 : Int32)), vJ (φ rq), .second, vR a1, vR rp, vI (own_i nq), vI (own_i ns), .unset, .unset, .unset, .unset, .unset, .unset] [(.int (lcmpW (φ rq) (-3750763034362895579 : Int64)))])) t) => k) tg (by
    show Steps _ _ _ (T753.setTop (mkF m 283 #[vJ q1, .second, vJ q2, .second, vJ q3, .second, vI p4, vJ (φ ra), .second, vJ (φ rb), .second, vI (own_i κ0), vI (own_i κ1), vI (own_i κ2), vI (own_i κ3), vI (((p4.toUInt32 >>> ((10 : Int32) &&& 31).toUInt32).toInt32) &&& (3 : Int32)), vJ (φ rq), .second, vR a1, vR rp, vI (own_i nq), vI (own_i ns), .unset, .unset, .unset, .unset, .unset, .unset] [(.int (lcmpW (φ rq) (-3750763034362895579 : Int64)))])) _
    refine XS.ifNo X753.here hx rfl (hb hby at_283) rfl ((if0 _ _).trans (teq (ce.mpr hq : (lcmpW (φ rq) (-3750763034362895579 : Int64)) = (0 : Int32))).2) ?_
    refine XS.iload X753.here hx rfl (hb hby at_286) rfl ?_
    refine XS.iload X753.here hx rfl (hb hby at_288) rfl ?_
    refine XS.iload X753.here hx rfl (hb hby at_290) rfl ?_
    show Steps _ _ _ (T753.setTop (mkF m 292 #[vJ q1, .second, vJ q2, .second, vJ q3, .second, vI p4, vJ (φ ra), .second, vJ (φ rb), .second, vI (own_i κ0), vI (own_i κ1), vI (own_i κ2), vI (own_i κ3), vI (((p4.toUInt32 >>> ((10 : Int32) &&& 31).toUInt32).toInt32) &&& (3 : Int32)), vJ (φ rq), .second, vR a1, vR rp, vI (own_i nq), vI (own_i ns), .unset, .unset, .unset, .unset, .unset, .unset] [(.int (own_i κ2)), (.int (own_i κ1)), (.int (own_i κ0))])) _
    refine XS.iload X753.here hx rfl (hb hby at_292) rfl ?_
    refine XS.lload X753.here hx rfl (hb hby at_294) rfl ?_
    refine XS.lload X753.here hx rfl (hb hby at_296) rfl ?_
    refine XS.lload X753.here hx rfl (hb hby at_298) rfl ?_
    exact kt)
   obtain ⟨_, _, ⟨T761, L761, k761, n761⟩, -, X761, ⟨Lc761, hQ761, l761, y761, z761⟩, st761⟩ := Jvm.LawKit.callS X753 hx (y := (⟨cL, "unnamedBeforeFirst", "(IIIIJJJ)Z"⟩ : MethodName)) hown (mvT hZ (oW hw 114 rfl)) (mvT hZ (oW hw 115 rfl)) (mvT hZ (oW hw 30 rfl)) (mvT hZ (oW hw 116 rfl)) (by decide) (backOf (W := 0) (rm_ubf l Z a0 hw [] (own_i κ0) (own_i κ1) (own_i κ2) (own_i κ3) (φ ra) (φ rb) (φ rq) φ κ0 κ1 κ2 κ3 ra rb rq T735.heap n0 Zs735 rfl rfl rfl rfl rfl rfl rfl H ya yb yq k40 k41 k42 k43) hZ (oW hw 116 rfl) (oW hw 30 rfl) (by decide) (by decide)) (g := (mkF m 300 #[vJ q1, .second, vJ q2, .second, vJ q3, .second, vI p4, vJ (φ ra), .second, vJ (φ rb), .second, vI (own_i κ0), vI (own_i κ1), vI (own_i κ2), vI (own_i κ3), vI (((p4.toUInt32 >>> ((10 : Int32) &&& 31).toUInt32).toInt32) &&& (3 : Int32)), vJ (φ rq), .second, vR a1, vR rp, vI (own_i nq), vI (own_i ns), .unset, .unset, .unset, .unset, .unset, .unset] [(.long (φ rq)), (.long (φ rb)), (.long (φ ra)), (.int (own_i κ3)), (.int (own_i κ2)), (.int (own_i κ1)), (.int (own_i κ0))])) rfl (by rw [hml]; rfl) (argsL := [(.int (own_i κ0)), (.int (own_i κ1)), (.int (own_i κ2)), (.int (own_i κ3)), (.long (φ ra)), (.long (φ rb)), (.long (φ rq))]) (rest := []) (lenOf pd_18 rfl) rfl (by show 2 * 0 + _ ≤ _; exact Nat.le_of_eq rfl) (hb hby at_300) (fun _ _ => ⟨rfl, hh753, (by decide : 17 + 0 ≤ _), (by decide : 4289 + 0 ≤ _)⟩)
   dsimp only [Pt.U, Pt.locs, Pt.cells, Pt.slots] at X761 l761 y761 z761 st761 hQ761
   rw [l761, y761, z761] at X761
   obtain ⟨rfl, N761q, hh761⟩ := hQ761
   have N761 := Fr.app N753 N761q
   have R762 := fun (tg : State) (kt : Steps p.tables e below (T761.setTop (mkF m 303 #[vJ q1, .second, vJ q2, .second, vJ q3, .second, vI p4, vJ (φ ra), .second, vJ (φ rb), .second, vI (own_i κ0), vI (own_i κ1), vI (own_i κ2), vI (own_i κ3), vI (((p4.toUInt32 >>> ((10 : Int32) &&& 31).toUInt32).toInt32) &&& (3 : Int32)), vJ (φ rq), .second, vR a1, vR rp, vI (own_i nq), vI (own_i ns), .unset, .unset, .unset, .unset, .unset, .unset] [(.int (own_b2 (own_ub κ0 κ1 κ2 κ3 ra rb rq)))])) tg) => R760 tg (by
    refine st761 _ ?_
    exact kt)
   clear R760 st761
   have R763 : Sq p e below (T761.setTop (mkF m 311 #[vJ q1, .second, vJ q2, .second, vJ q3, .second, vI p4, vJ (φ ra), .second, vJ (φ rb), .second, vI (own_i κ0), vI (own_i κ1), vI (own_i κ2), vI (own_i κ3), vI (((p4.toUInt32 >>> ((10 : Int32) &&& 31).toUInt32).toInt32) &&& (3 : Int32)), vJ (φ rq), .second, vR a1, vR rp, vI (own_i nq), vI (own_i ns), .unset, .unset, .unset, .unset, .unset, .unset] [(.int (own_b0 (own_ub κ0 κ1 κ2 κ3 ra rb rq)))])) (T753.setTop (mkF m 283 #[vJ q1, .second, vJ q2, .second, vJ q3, .second, vI p4, vJ (φ ra), .second, vJ (φ rb), .second, vI (own_i κ0), vI (own_i κ1), vI (own_i κ2), vI (own_i κ3), vI (((p4.toUInt32 >>> ((10 : Int32) &&& 31).toUInt32).toInt32) &&& (3 : Int32)), vJ (φ rq), .second, vR a1, vR rp, vI (own_i nq), vI (own_i ns), .unset, .unset, .unset, .unset, .unset, .unset] [(.int (lcmpW (φ rq) (-3750763034362895579 : Int64)))])) := by
    intro tg kt
    refine R762 _ ?_
    by_cases hub : (own_b2 (own_ub κ0 κ1 κ2 κ3 ra rb rq)) = (0 : Int32)
    ·rw [show (own_b0 (own_ub κ0 κ1 κ2 κ3 ra rb rq)) = (0 : Int32) from if_pos hub] at kt
     show Steps p.tables e below (T761.setTop (mkF m 303 #[vJ q1, .second, vJ q2, .second, vJ q3, .second, vI p4, vJ (φ ra), .second, vJ (φ rb), .second, vI (own_i κ0), vI (own_i κ1), vI (own_i κ2), vI (own_i κ3), vI (((p4.toUInt32 >>> ((10 : Int32) &&& 31).toUInt32).toInt32) &&& (3 : Int32)), vJ (φ rq), .second, vR a1, vR rp, vI (own_i nq), vI (own_i ns), .unset, .unset, .unset, .unset, .unset, .unset] [(.int (own_b2 (own_ub κ0 κ1 κ2 κ3 ra rb rq)))])) _
     refine XS.ifYes X761.here hx rfl (pc0 := 303) (pc' := 310) rfl (hb hby at_303) rfl ((if0 _ _).trans (teq (hub : (own_b2 (own_ub κ0 κ1 κ2 κ3 ra rb rq)) = (0 : Int32))).1) (by decide) (by decide) ?_
     refine XS.iconst X761.here hx rfl (hb hby at_310) ?_
     exact kt
    ·rw [show (own_b0 (own_ub κ0 κ1 κ2 κ3 ra rb rq)) = (1 : Int32) from if_neg hub] at kt
     show Steps p.tables e below (T761.setTop (mkF m 303 #[vJ q1, .second, vJ q2, .second, vJ q3, .second, vI p4, vJ (φ ra), .second, vJ (φ rb), .second, vI (own_i κ0), vI (own_i κ1), vI (own_i κ2), vI (own_i κ3), vI (((p4.toUInt32 >>> ((10 : Int32) &&& 31).toUInt32).toInt32) &&& (3 : Int32)), vJ (φ rq), .second, vR a1, vR rp, vI (own_i nq), vI (own_i ns), .unset, .unset, .unset, .unset, .unset, .unset] [(.int (own_b2 (own_ub κ0 κ1 κ2 κ3 ra rb rq)))])) _
     refine XS.ifNo X761.here hx rfl (hb hby at_303) rfl ((if0 _ _).trans (feq (hub : ¬ ((own_b2 (own_ub κ0 κ1 κ2 κ3 ra rb rq)) = (0 : Int32)))).1) ?_
     refine XS.iconst X761.here hx rfl (hb hby at_306) ?_
     show Steps p.tables e below (T761.setTop (mkF m 307 #[vJ q1, .second, vJ q2, .second, vJ q3, .second, vI p4, vJ (φ ra), .second, vJ (φ rb), .second, vI (own_i κ0), vI (own_i κ1), vI (own_i κ2), vI (own_i κ3), vI (((p4.toUInt32 >>> ((10 : Int32) &&& 31).toUInt32).toInt32) &&& (3 : Int32)), vJ (φ rq), .second, vR a1, vR rp, vI (own_i nq), vI (own_i ns), .unset, .unset, .unset, .unset, .unset, .unset] [(.int (1 : Int32))])) _
     refine XS.goto X761.here hx rfl (pc0 := 307) (pc' := 311) rfl (hb hby at_307) (by decide) (by decide) ?_
     exact kt
   clear R762
   have R764 := fun (tg : State) (kt : Steps p.tables e below (T761.setTop (mkF m 311 #[vJ q1, .second, vJ q2, .second, vJ q3, .second, vI p4, vJ (φ ra), .second, vJ (φ rb), .second, vI (own_i κ0), vI (own_i κ1), vI (own_i κ2), vI (own_i κ3), vI (((p4.toUInt32 >>> ((10 : Int32) &&& 31).toUInt32).toInt32) &&& (3 : Int32)), vJ (φ rq), .second, vR a1, vR rp, vI (own_i nq), vI (own_i ns), .unset, .unset, .unset, .unset, .unset, .unset] [(.int (own_b2 (decide (rq = rs) && own_ub κ0 κ1 κ2 κ3 ra rb rq)))])) tg) => R763 tg (by rw [show own_b2 (decide (rq = rs) && own_ub κ0 κ1 κ2 κ3 ra rb rq) = (own_b0 (own_ub κ0 κ1 κ2 κ3 ra rb rq)) from by rw [decide_eq_true hq, Bool.true_and, ← own_b0e]] at kt; exact kt)
   clear R763
   have R765 := fun (tg : State) (kt : Steps p.tables e below (T761.setTop (mkF m 313 #[vJ q1, .second, vJ q2, .second, vJ q3, .second, vI p4, vJ (φ ra), .second, vJ (φ rb), .second, vI (own_i κ0), vI (own_i κ1), vI (own_i κ2), vI (own_i κ3), vI (((p4.toUInt32 >>> ((10 : Int32) &&& 31).toUInt32).toInt32) &&& (3 : Int32)), vJ (φ rq), .second, vR a1, vR rp, vI (own_i nq), vI (own_i ns), vI (own_b2 (decide (rq = rs) && own_ub κ0 κ1 κ2 κ3 ra rb rq)), .unset, .unset, .unset, .unset, .unset] [])) tg) => R764 tg (by
    show Steps _ _ _ (T761.setTop (mkF m 311 #[vJ q1, .second, vJ q2, .second, vJ q3, .second, vI p4, vJ (φ ra), .second, vJ (φ rb), .second, vI (own_i κ0), vI (own_i κ1), vI (own_i κ2), vI (own_i κ3), vI (((p4.toUInt32 >>> ((10 : Int32) &&& 31).toUInt32).toInt32) &&& (3 : Int32)), vJ (φ rq), .second, vR a1, vR rp, vI (own_i nq), vI (own_i ns), .unset, .unset, .unset, .unset, .unset, .unset] [(.int (own_b2 (decide (rq = rs) && own_ub κ0 κ1 κ2 κ3 ra rb rq)))])) _
    refine XS.istore X761.here hx rfl (hb hby at_311) rfl (l' := #[vJ q1, .second, vJ q2, .second, vJ q3, .second, vI p4, vJ (φ ra), .second, vJ (φ rb), .second, vI (own_i κ0), vI (own_i κ1), vI (own_i κ2), vI (own_i κ3), vI (((p4.toUInt32 >>> ((10 : Int32) &&& 31).toUInt32).toInt32) &&& (3 : Int32)), vJ (φ rq), .second, vR a1, vR rp, vI (own_i nq), vI (own_i ns), vI (own_b2 (decide (rq = rs) && own_ub κ0 κ1 κ2 κ3 ra rb rq)), .unset, .unset, .unset, .unset, .unset]) rfl ?_
    exact kt)
   clear R764
   exact ⟨_, _, X761, hh761, N761, R765⟩
  ·have R757 := fun (tg : State) (kt : Steps p.tables e below (T753.setTop (mkF m 311 #[vJ q1, .second, vJ q2, .second, vJ q3, .second, vI p4, vJ (φ ra), .second, vJ (φ rb), .second, vI (own_i κ0), vI (own_i κ1), vI (own_i κ2), vI (own_i κ3), vI (((p4.toUInt32 >>> ((10 : Int32) &&& 31).toUInt32).toInt32) &&& (3 : Int32)), vJ (φ rq), .second, vR a1, vR rp, vI (own_i nq), vI (own_i ns), .unset, .unset, .unset, .unset, .unset, .unset] [(.int (0 : Int32))])) tg) => (fun (t : State) (k : Steps p.tables e below (T753.setTop (mkF m 283 #[vJ q1, .second, vJ q2, .second, vJ q3, .second, vI p4, vJ (φ ra), .second, vJ (φ rb), .second, vI (own_i κ0), vI (own_i κ1), vI (own_i κ2), vI (own_i κ3), vI (((p4.toUInt32 >>> ((10 : Int32) &&& 31).toUInt32).toInt32) &&& (3 : Int32)), vJ (φ rq), .second, vR a1, vR rp, vI (own_i nq), vI (own_i ns), .unset, .unset, .unset, .unset, .unset, .unset] [(.int (lcmpW (φ rq) (-3750763034362895579 : Int64)))])) t) => k) tg (by
    show Steps _ _ _ (T753.setTop (mkF m 283 #[vJ q1, .second, vJ q2, .second, vJ q3, .second, vI p4, vJ (φ ra), .second, vJ (φ rb), .second, vI (own_i κ0), vI (own_i κ1), vI (own_i κ2), vI (own_i κ3), vI (((p4.toUInt32 >>> ((10 : Int32) &&& 31).toUInt32).toInt32) &&& (3 : Int32)), vJ (φ rq), .second, vR a1, vR rp, vI (own_i nq), vI (own_i ns), .unset, .unset, .unset, .unset, .unset, .unset] [(.int (lcmpW (φ rq) (-3750763034362895579 : Int64)))])) _
    refine XS.ifYes X753.here hx rfl (pc0 := 283) (pc' := 310) rfl (hb hby at_283) rfl ((if0 _ _).trans (feq (fun q => hq (ce.mp q) : ¬ ((lcmpW (φ rq) (-3750763034362895579 : Int64)) = (0 : Int32)))).2) (by decide) (by decide) ?_
    refine XS.iconst X753.here hx rfl (hb hby at_310) ?_
    exact kt)
   have R758 := fun (tg : State) (kt : Steps p.tables e below (T753.setTop (mkF m 311 #[vJ q1, .second, vJ q2, .second, vJ q3, .second, vI p4, vJ (φ ra), .second, vJ (φ rb), .second, vI (own_i κ0), vI (own_i κ1), vI (own_i κ2), vI (own_i κ3), vI (((p4.toUInt32 >>> ((10 : Int32) &&& 31).toUInt32).toInt32) &&& (3 : Int32)), vJ (φ rq), .second, vR a1, vR rp, vI (own_i nq), vI (own_i ns), .unset, .unset, .unset, .unset, .unset, .unset] [(.int (own_b2 (decide (rq = rs) && own_ub κ0 κ1 κ2 κ3 ra rb rq)))])) tg) => R757 tg (by rw [show own_b2 (decide (rq = rs) && own_ub κ0 κ1 κ2 κ3 ra rb rq) = (0 : Int32) from by rw [decide_eq_false hq]; rfl] at kt; exact kt)
   clear R757
   have R759 := fun (tg : State) (kt : Steps p.tables e below (T753.setTop (mkF m 313 #[vJ q1, .second, vJ q2, .second, vJ q3, .second, vI p4, vJ (φ ra), .second, vJ (φ rb), .second, vI (own_i κ0), vI (own_i κ1), vI (own_i κ2), vI (own_i κ3), vI (((p4.toUInt32 >>> ((10 : Int32) &&& 31).toUInt32).toInt32) &&& (3 : Int32)), vJ (φ rq), .second, vR a1, vR rp, vI (own_i nq), vI (own_i ns), vI (own_b2 (decide (rq = rs) && own_ub κ0 κ1 κ2 κ3 ra rb rq)), .unset, .unset, .unset, .unset, .unset] [])) tg) => R758 tg (by
    show Steps _ _ _ (T753.setTop (mkF m 311 #[vJ q1, .second, vJ q2, .second, vJ q3, .second, vI p4, vJ (φ ra), .second, vJ (φ rb), .second, vI (own_i κ0), vI (own_i κ1), vI (own_i κ2), vI (own_i κ3), vI (((p4.toUInt32 >>> ((10 : Int32) &&& 31).toUInt32).toInt32) &&& (3 : Int32)), vJ (φ rq), .second, vR a1, vR rp, vI (own_i nq), vI (own_i ns), .unset, .unset, .unset, .unset, .unset, .unset] [(.int (own_b2 (decide (rq = rs) && own_ub κ0 κ1 κ2 κ3 ra rb rq)))])) _
    refine XS.istore X753.here hx rfl (hb hby at_311) rfl (l' := #[vJ q1, .second, vJ q2, .second, vJ q3, .second, vI p4, vJ (φ ra), .second, vJ (φ rb), .second, vI (own_i κ0), vI (own_i κ1), vI (own_i κ2), vI (own_i κ3), vI (((p4.toUInt32 >>> ((10 : Int32) &&& 31).toUInt32).toInt32) &&& (3 : Int32)), vJ (φ rq), .second, vR a1, vR rp, vI (own_i nq), vI (own_i ns), vI (own_b2 (decide (rq = rs) && own_ub κ0 κ1 κ2 κ3 ra rb rq)), .unset, .unset, .unset, .unset, .unset]) rfl ?_
    exact kt)
   clear R758
   exact ⟨_, _, X753, hh753, N753, R759⟩
 have R767 := fun (tg : State) (kt : Steps p.tables e below (T766.setTop (mkF m 328 #[vJ q1, .second, vJ q2, .second, vJ q3, .second, vI p4, vJ (φ ra), .second, vJ (φ rb), .second, vI (own_i κ0), vI (own_i κ1), vI (own_i κ2), vI (own_i κ3), vI (((p4.toUInt32 >>> ((10 : Int32) &&& 31).toUInt32).toInt32) &&& (3 : Int32)), vJ (φ rq), .second, vR a1, vR rp, vI (own_i nq), vI (own_i ns), vI (own_b2 (decide (rq = rs) && own_ub κ0 κ1 κ2 κ3 ra rb rq)), .unset, .unset, .unset, .unset, .unset] [(.long (-3750763034362895579 : Int64)), (.long (φ rb)), (.long (φ ra)), (.int (own_i κ3)), (.int (own_i κ2)), (.int (own_i κ1)), (.int (own_i κ0))])) tg) => R756 tg (by
  refine st766 _ ?_
  refine XS.iload X766.here hx rfl (hb hby at_313) rfl ?_
  refine XS.iload X766.here hx rfl (hb hby at_315) rfl ?_
  refine XS.iload X766.here hx rfl (hb hby at_317) rfl ?_
  show Steps _ _ _ (T766.setTop (mkF m 319 #[vJ q1, .second, vJ q2, .second, vJ q3, .second, vI p4, vJ (φ ra), .second, vJ (φ rb), .second, vI (own_i κ0), vI (own_i κ1), vI (own_i κ2), vI (own_i κ3), vI (((p4.toUInt32 >>> ((10 : Int32) &&& 31).toUInt32).toInt32) &&& (3 : Int32)), vJ (φ rq), .second, vR a1, vR rp, vI (own_i nq), vI (own_i ns), vI (own_b2 (decide (rq = rs) && own_ub κ0 κ1 κ2 κ3 ra rb rq)), .unset, .unset, .unset, .unset, .unset] [(.int (own_i κ2)), (.int (own_i κ1)), (.int (own_i κ0))])) _
  refine XS.iload X766.here hx rfl (hb hby at_319) rfl ?_
  refine XS.lload X766.here hx rfl (hb hby at_321) rfl ?_
  refine XS.lload X766.here hx rfl (hb hby at_323) rfl ?_
  show Steps _ _ _ (T766.setTop (mkF m 325 #[vJ q1, .second, vJ q2, .second, vJ q3, .second, vI p4, vJ (φ ra), .second, vJ (φ rb), .second, vI (own_i κ0), vI (own_i κ1), vI (own_i κ2), vI (own_i κ3), vI (((p4.toUInt32 >>> ((10 : Int32) &&& 31).toUInt32).toInt32) &&& (3 : Int32)), vJ (φ rq), .second, vR a1, vR rp, vI (own_i nq), vI (own_i ns), vI (own_b2 (decide (rq = rs) && own_ub κ0 κ1 κ2 κ3 ra rb rq)), .unset, .unset, .unset, .unset, .unset] [(.long (φ rb)), (.long (φ ra)), (.int (own_i κ3)), (.int (own_i κ2)), (.int (own_i κ1)), (.int (own_i κ0))])) _
  refine X766.ldc2Long hx hown (mvT hZ (oW hw 113 rfl)) (g := (mkF m 325 #[vJ q1, .second, vJ q2, .second, vJ q3, .second, vI p4, vJ (φ ra), .second, vJ (φ rb), .second, vI (own_i κ0), vI (own_i κ1), vI (own_i κ2), vI (own_i κ3), vI (((p4.toUInt32 >>> ((10 : Int32) &&& 31).toUInt32).toInt32) &&& (3 : Int32)), vJ (φ rq), .second, vR a1, vR rp, vI (own_i nq), vI (own_i ns), vI (own_b2 (decide (rq = rs) && own_ub κ0 κ1 κ2 κ3 ra rb rq)), .unset, .unset, .unset, .unset, .unset] [(.long (φ rb)), (.long (φ ra)), (.int (own_i κ3)), (.int (own_i κ2)), (.int (own_i κ1)), (.int (own_i κ0))])) rfl (hb hby at_325) _ ?_
  exact kt)
 clear R756 st766
 obtain ⟨_, _, ⟨T768, L768, k768, n768⟩, -, X768, ⟨Lc768, hQ768, l768, y768, z768⟩, st768⟩ := Jvm.LawKit.callS X766 hx (y := (⟨cL, "unnamedBeforeFirst", "(IIIIJJJ)Z"⟩ : MethodName)) hown (mvT hZ (oW hw 114 rfl)) (mvT hZ (oW hw 115 rfl)) (mvT hZ (oW hw 30 rfl)) (mvT hZ (oW hw 116 rfl)) (by decide) (backOf (W := 0) (rm_ubf l Z a0 hw [] (own_i κ0) (own_i κ1) (own_i κ2) (own_i κ3) (φ ra) (φ rb) (-3750763034362895579 : Int64) φ κ0 κ1 κ2 κ3 ra rb rs T735.heap n0 Zs735 rfl rfl rfl rfl rfl rfl es H ya yb ys k40 k41 k42 k43) hZ (oW hw 116 rfl) (oW hw 30 rfl) (by decide) (by decide)) (g := (mkF m 328 #[vJ q1, .second, vJ q2, .second, vJ q3, .second, vI p4, vJ (φ ra), .second, vJ (φ rb), .second, vI (own_i κ0), vI (own_i κ1), vI (own_i κ2), vI (own_i κ3), vI (((p4.toUInt32 >>> ((10 : Int32) &&& 31).toUInt32).toInt32) &&& (3 : Int32)), vJ (φ rq), .second, vR a1, vR rp, vI (own_i nq), vI (own_i ns), vI (own_b2 (decide (rq = rs) && own_ub κ0 κ1 κ2 κ3 ra rb rq)), .unset, .unset, .unset, .unset, .unset] [(.long (-3750763034362895579 : Int64)), (.long (φ rb)), (.long (φ ra)), (.int (own_i κ3)), (.int (own_i κ2)), (.int (own_i κ1)), (.int (own_i κ0))])) rfl (by rw [hml]; rfl) (argsL := [(.int (own_i κ0)), (.int (own_i κ1)), (.int (own_i κ2)), (.int (own_i κ3)), (.long (φ ra)), (.long (φ rb)), (.long (-3750763034362895579 : Int64))]) (rest := []) (lenOf pd_18 rfl) rfl (by show 2 * 0 + _ ≤ _; exact Nat.le_of_eq rfl) (hb hby at_328) (fun _ _ => ⟨rfl, e766, (by decide : 17 + 0 ≤ _), (by decide : 4289 + 0 ≤ _)⟩)
 dsimp only [Pt.U, Pt.locs, Pt.cells, Pt.slots] at X768 l768 y768 z768 st768 hQ768
 rw [l768, y768, z768] at X768
 obtain ⟨rfl, N768q, hh768⟩ := hQ768
 have N768 := Fr.app N766 N768q
 have R769 := fun (tg : State) (kt : Steps p.tables e below (T768.setTop (mkF m 333 #[vJ q1, .second, vJ q2, .second, vJ q3, .second, vI p4, vJ (φ ra), .second, vJ (φ rb), .second, vI (own_i κ0), vI (own_i κ1), vI (own_i κ2), vI (own_i κ3), vI (((p4.toUInt32 >>> ((10 : Int32) &&& 31).toUInt32).toInt32) &&& (3 : Int32)), vJ (φ rq), .second, vR a1, vR rp, vI (own_i nq), vI (own_i ns), vI (own_b2 (decide (rq = rs) && own_ub κ0 κ1 κ2 κ3 ra rb rq)), vI (own_b2 (own_ub κ0 κ1 κ2 κ3 ra rb rs)), .unset, .unset, .unset, .unset] [])) tg) => R767 tg (by
  refine st768 _ ?_
  show Steps _ _ _ (T768.setTop (mkF m 331 #[vJ q1, .second, vJ q2, .second, vJ q3, .second, vI p4, vJ (φ ra), .second, vJ (φ rb), .second, vI (own_i κ0), vI (own_i κ1), vI (own_i κ2), vI (own_i κ3), vI (((p4.toUInt32 >>> ((10 : Int32) &&& 31).toUInt32).toInt32) &&& (3 : Int32)), vJ (φ rq), .second, vR a1, vR rp, vI (own_i nq), vI (own_i ns), vI (own_b2 (decide (rq = rs) && own_ub κ0 κ1 κ2 κ3 ra rb rq)), .unset, .unset, .unset, .unset, .unset] [(.int (own_b2 (own_ub κ0 κ1 κ2 κ3 ra rb rs)))])) _
  refine XS.istore X768.here hx rfl (hb hby at_331) rfl (l' := #[vJ q1, .second, vJ q2, .second, vJ q3, .second, vI p4, vJ (φ ra), .second, vJ (φ rb), .second, vI (own_i κ0), vI (own_i κ1), vI (own_i κ2), vI (own_i κ3), vI (((p4.toUInt32 >>> ((10 : Int32) &&& 31).toUInt32).toInt32) &&& (3 : Int32)), vJ (φ rq), .second, vR a1, vR rp, vI (own_i nq), vI (own_i ns), vI (own_b2 (decide (rq = rs) && own_ub κ0 κ1 κ2 κ3 ra rb rq)), vI (own_b2 (own_ub κ0 κ1 κ2 κ3 ra rb rs)), .unset, .unset, .unset, .unset]) rfl ?_
  exact kt)
 clear R767 st768
 obtain ⟨bq, hbq⟩ : ∃ z : Bool, z = (decide (rq = rs) && own_ub κ0 κ1 κ2 κ3 ra rb rq) := ⟨_, rfl⟩
 obtain ⟨bs, hbs⟩ : ∃ z : Bool, z = (own_ub κ0 κ1 κ2 κ3 ra rb rs) := ⟨_, rfl⟩
 have R770 := fun (tg : State) (kt : Steps p.tables e below (T768.setTop (mkF m 333 #[vJ q1, .second, vJ q2, .second, vJ q3, .second, vI p4, vJ (φ ra), .second, vJ (φ rb), .second, vI (own_i κ0), vI (own_i κ1), vI (own_i κ2), vI (own_i κ3), vI (((p4.toUInt32 >>> ((10 : Int32) &&& 31).toUInt32).toInt32) &&& (3 : Int32)), vJ (φ rq), .second, vR a1, vR rp, vI (own_i nq), vI (own_i ns), vI (own_b2 bq), vI (own_b2 bs), .unset, .unset, .unset, .unset] [])) tg) => R769 tg (by rw [← hbq, ← hbs]; exact kt)
 clear R769
 have R771 := fun (tg : State) (kt : Steps p.tables e below (T768.setTop (mkF m 336 #[vJ q1, .second, vJ q2, .second, vJ q3, .second, vI p4, vJ (φ ra), .second, vJ (φ rb), .second, vI (own_i κ0), vI (own_i κ1), vI (own_i κ2), vI (own_i κ3), vI (((p4.toUInt32 >>> ((10 : Int32) &&& 31).toUInt32).toInt32) &&& (3 : Int32)), vJ (φ rq), .second, vR a1, vR rp, vI (own_i nq), vI (own_i ns), vI (own_b2 bq), vI (own_b2 bs), .unset, .unset, .unset, .unset] [(.int (1 : Int32)), (.int (own_i nq))])) tg) => R770 tg (by
  show Steps _ _ _ (T768.setTop (mkF m 333 #[vJ q1, .second, vJ q2, .second, vJ q3, .second, vI p4, vJ (φ ra), .second, vJ (φ rb), .second, vI (own_i κ0), vI (own_i κ1), vI (own_i κ2), vI (own_i κ3), vI (((p4.toUInt32 >>> ((10 : Int32) &&& 31).toUInt32).toInt32) &&& (3 : Int32)), vJ (φ rq), .second, vR a1, vR rp, vI (own_i nq), vI (own_i ns), vI (own_b2 bq), vI (own_b2 bs), .unset, .unset, .unset, .unset] [])) _
  refine XS.iload X768.here hx rfl (hb hby at_333) rfl ?_
  refine XS.iconst X768.here hx rfl (hb hby at_335) ?_
  exact kt)
 clear R770
 have R772 : Sq p e below (T768.setTop (mkF m 344 #[vJ q1, .second, vJ q2, .second, vJ q3, .second, vI p4, vJ (φ ra), .second, vJ (φ rb), .second, vI (own_i κ0), vI (own_i κ1), vI (own_i κ2), vI (own_i κ3), vI (((p4.toUInt32 >>> ((10 : Int32) &&& 31).toUInt32).toInt32) &&& (3 : Int32)), vJ (φ rq), .second, vR a1, vR rp, vI (own_i nq), vI (own_i ns), vI (own_b2 bq), vI (own_b2 bs), .unset, .unset, .unset, .unset] [(.int (own_x24 nq))])) (s₁.setTop (mkF m 0 #[vJ q1, .second, vJ q2, .second, vJ q3, .second, vI p4, .unset, .unset, .unset, .unset, .unset, .unset, .unset, .unset, .unset, .unset, .unset, .unset, .unset, .unset, .unset, .unset, .unset, .unset, .unset, .unset, .unset] [])) := by
  intro tg kt
  refine R771 _ ?_
  by_cases hqa : (1 : Int32) < (own_i nq)
  ·rw [show (own_x24 nq) = (1 : Int32) from (if_pos hqa)] at kt
   show Steps p.tables e below (T768.setTop (mkF m 336 #[vJ q1, .second, vJ q2, .second, vJ q3, .second, vI p4, vJ (φ ra), .second, vJ (φ rb), .second, vI (own_i κ0), vI (own_i κ1), vI (own_i κ2), vI (own_i κ3), vI (((p4.toUInt32 >>> ((10 : Int32) &&& 31).toUInt32).toInt32) &&& (3 : Int32)), vJ (φ rq), .second, vR a1, vR rp, vI (own_i nq), vI (own_i ns), vI (own_b2 bq), vI (own_b2 bs), .unset, .unset, .unset, .unset] [(.int (1 : Int32)), (.int (own_i nq))])) _
   refine XS.icmpNo X768.here hx rfl (hb hby at_336) rfl (tlt (hqa : (1 : Int32) < (own_i nq))).2.2.2 ?_
   refine XS.iconst X768.here hx rfl (hb hby at_339) ?_
   show Steps p.tables e below (T768.setTop (mkF m 340 #[vJ q1, .second, vJ q2, .second, vJ q3, .second, vI p4, vJ (φ ra), .second, vJ (φ rb), .second, vI (own_i κ0), vI (own_i κ1), vI (own_i κ2), vI (own_i κ3), vI (((p4.toUInt32 >>> ((10 : Int32) &&& 31).toUInt32).toInt32) &&& (3 : Int32)), vJ (φ rq), .second, vR a1, vR rp, vI (own_i nq), vI (own_i ns), vI (own_b2 bq), vI (own_b2 bs), .unset, .unset, .unset, .unset] [(.int (1 : Int32))])) _
   refine XS.goto X768.here hx rfl (pc0 := 340) (pc' := 344) rfl (hb hby at_340) (by decide) (by decide) ?_
   exact kt
  ·rw [show (own_x24 nq) = (0 : Int32) from (if_neg hqa)] at kt
   show Steps p.tables e below (T768.setTop (mkF m 336 #[vJ q1, .second, vJ q2, .second, vJ q3, .second, vI p4, vJ (φ ra), .second, vJ (φ rb), .second, vI (own_i κ0), vI (own_i κ1), vI (own_i κ2), vI (own_i κ3), vI (((p4.toUInt32 >>> ((10 : Int32) &&& 31).toUInt32).toInt32) &&& (3 : Int32)), vJ (φ rq), .second, vR a1, vR rp, vI (own_i nq), vI (own_i ns), vI (own_b2 bq), vI (own_b2 bs), .unset, .unset, .unset, .unset] [(.int (1 : Int32)), (.int (own_i nq))])) _
   refine XS.icmpYes X768.here hx rfl (pc0 := 336) (pc' := 343) rfl (hb hby at_336) rfl (flt (hqa : ¬ ((1 : Int32) < (own_i nq)))).2.2.2 (by decide) (by decide) ?_
   refine XS.iconst X768.here hx rfl (hb hby at_343) ?_
   exact kt
 clear R771
 have R773 := fun (tg : State) (kt : Steps p.tables e below (T768.setTop (mkF m 349 #[vJ q1, .second, vJ q2, .second, vJ q3, .second, vI p4, vJ (φ ra), .second, vJ (φ rb), .second, vI (own_i κ0), vI (own_i κ1), vI (own_i κ2), vI (own_i κ3), vI (((p4.toUInt32 >>> ((10 : Int32) &&& 31).toUInt32).toInt32) &&& (3 : Int32)), vJ (φ rq), .second, vR a1, vR rp, vI (own_i nq), vI (own_i ns), vI (own_b2 bq), vI (own_b2 bs), vI (own_x24 nq), .unset, .unset, .unset] [(.int (1 : Int32)), (.int (own_i nq))])) tg) => R772 tg (by
  show Steps _ _ _ (T768.setTop (mkF m 344 #[vJ q1, .second, vJ q2, .second, vJ q3, .second, vI p4, vJ (φ ra), .second, vJ (φ rb), .second, vI (own_i κ0), vI (own_i κ1), vI (own_i κ2), vI (own_i κ3), vI (((p4.toUInt32 >>> ((10 : Int32) &&& 31).toUInt32).toInt32) &&& (3 : Int32)), vJ (φ rq), .second, vR a1, vR rp, vI (own_i nq), vI (own_i ns), vI (own_b2 bq), vI (own_b2 bs), .unset, .unset, .unset, .unset] [(.int (own_x24 nq))])) _
  refine XS.istore X768.here hx rfl (hb hby at_344) rfl (l' := #[vJ q1, .second, vJ q2, .second, vJ q3, .second, vI p4, vJ (φ ra), .second, vJ (φ rb), .second, vI (own_i κ0), vI (own_i κ1), vI (own_i κ2), vI (own_i κ3), vI (((p4.toUInt32 >>> ((10 : Int32) &&& 31).toUInt32).toInt32) &&& (3 : Int32)), vJ (φ rq), .second, vR a1, vR rp, vI (own_i nq), vI (own_i ns), vI (own_b2 bq), vI (own_b2 bs), vI (own_x24 nq), .unset, .unset, .unset]) rfl ?_
  refine XS.iload X768.here hx rfl (hb hby at_346) rfl ?_
  refine XS.iconst X768.here hx rfl (hb hby at_348) ?_
  exact kt)
 clear R772
 have R774 : Sq p e below (T768.setTop (mkF m 362 #[vJ q1, .second, vJ q2, .second, vJ q3, .second, vI p4, vJ (φ ra), .second, vJ (φ rb), .second, vI (own_i κ0), vI (own_i κ1), vI (own_i κ2), vI (own_i κ3), vI (((p4.toUInt32 >>> ((10 : Int32) &&& 31).toUInt32).toInt32) &&& (3 : Int32)), vJ (φ rq), .second, vR a1, vR rp, vI (own_i nq), vI (own_i ns), vI (own_b2 bq), vI (own_b2 bs), vI (own_x24 nq), .unset, .unset, .unset] [(.int (own_x25 nq bq))])) (s₁.setTop (mkF m 0 #[vJ q1, .second, vJ q2, .second, vJ q3, .second, vI p4, .unset, .unset, .unset, .unset, .unset, .unset, .unset, .unset, .unset, .unset, .unset, .unset, .unset, .unset, .unset, .unset, .unset, .unset, .unset, .unset, .unset] [])) := by
  intro tg kt
  refine R773 _ ?_
  by_cases hqa : (1 : Int32) < (own_i nq)
  ·by_cases hqb : (own_b2 bq) = (0 : Int32)
   ·rw [show (own_x25 nq bq) = (0 : Int32) from ((if_pos hqa).trans (if_pos hqb))] at kt
    show Steps p.tables e below (T768.setTop (mkF m 349 #[vJ q1, .second, vJ q2, .second, vJ q3, .second, vI p4, vJ (φ ra), .second, vJ (φ rb), .second, vI (own_i κ0), vI (own_i κ1), vI (own_i κ2), vI (own_i κ3), vI (((p4.toUInt32 >>> ((10 : Int32) &&& 31).toUInt32).toInt32) &&& (3 : Int32)), vJ (φ rq), .second, vR a1, vR rp, vI (own_i nq), vI (own_i ns), vI (own_b2 bq), vI (own_b2 bs), vI (own_x24 nq), .unset, .unset, .unset] [(.int (1 : Int32)), (.int (own_i nq))])) _
    refine XS.icmpNo X768.here hx rfl (hb hby at_349) rfl (tlt (hqa : (1 : Int32) < (own_i nq))).2.2.2 ?_
    refine XS.iload X768.here hx rfl (hb hby at_352) rfl ?_
    show Steps p.tables e below (T768.setTop (mkF m 354 #[vJ q1, .second, vJ q2, .second, vJ q3, .second, vI p4, vJ (φ ra), .second, vJ (φ rb), .second, vI (own_i κ0), vI (own_i κ1), vI (own_i κ2), vI (own_i κ3), vI (((p4.toUInt32 >>> ((10 : Int32) &&& 31).toUInt32).toInt32) &&& (3 : Int32)), vJ (φ rq), .second, vR a1, vR rp, vI (own_i nq), vI (own_i ns), vI (own_b2 bq), vI (own_b2 bs), vI (own_x24 nq), .unset, .unset, .unset] [(.int (own_b2 bq))])) _
    refine XS.ifYes X768.here hx rfl (pc0 := 354) (pc' := 361) rfl (hb hby at_354) rfl ((if0 _ _).trans (teq (hqb : (own_b2 bq) = (0 : Int32))).1) (by decide) (by decide) ?_
    refine XS.iconst X768.here hx rfl (hb hby at_361) ?_
    exact kt
   ·rw [show (own_x25 nq bq) = (1 : Int32) from ((if_pos hqa).trans (if_neg hqb))] at kt
    show Steps p.tables e below (T768.setTop (mkF m 349 #[vJ q1, .second, vJ q2, .second, vJ q3, .second, vI p4, vJ (φ ra), .second, vJ (φ rb), .second, vI (own_i κ0), vI (own_i κ1), vI (own_i κ2), vI (own_i κ3), vI (((p4.toUInt32 >>> ((10 : Int32) &&& 31).toUInt32).toInt32) &&& (3 : Int32)), vJ (φ rq), .second, vR a1, vR rp, vI (own_i nq), vI (own_i ns), vI (own_b2 bq), vI (own_b2 bs), vI (own_x24 nq), .unset, .unset, .unset] [(.int (1 : Int32)), (.int (own_i nq))])) _
    refine XS.icmpNo X768.here hx rfl (hb hby at_349) rfl (tlt (hqa : (1 : Int32) < (own_i nq))).2.2.2 ?_
    refine XS.iload X768.here hx rfl (hb hby at_352) rfl ?_
    show Steps p.tables e below (T768.setTop (mkF m 354 #[vJ q1, .second, vJ q2, .second, vJ q3, .second, vI p4, vJ (φ ra), .second, vJ (φ rb), .second, vI (own_i κ0), vI (own_i κ1), vI (own_i κ2), vI (own_i κ3), vI (((p4.toUInt32 >>> ((10 : Int32) &&& 31).toUInt32).toInt32) &&& (3 : Int32)), vJ (φ rq), .second, vR a1, vR rp, vI (own_i nq), vI (own_i ns), vI (own_b2 bq), vI (own_b2 bs), vI (own_x24 nq), .unset, .unset, .unset] [(.int (own_b2 bq))])) _
    refine XS.ifNo X768.here hx rfl (hb hby at_354) rfl ((if0 _ _).trans (feq (hqb : ¬ ((own_b2 bq) = (0 : Int32)))).1) ?_
    refine XS.iconst X768.here hx rfl (hb hby at_357) ?_
    show Steps p.tables e below (T768.setTop (mkF m 358 #[vJ q1, .second, vJ q2, .second, vJ q3, .second, vI p4, vJ (φ ra), .second, vJ (φ rb), .second, vI (own_i κ0), vI (own_i κ1), vI (own_i κ2), vI (own_i κ3), vI (((p4.toUInt32 >>> ((10 : Int32) &&& 31).toUInt32).toInt32) &&& (3 : Int32)), vJ (φ rq), .second, vR a1, vR rp, vI (own_i nq), vI (own_i ns), vI (own_b2 bq), vI (own_b2 bs), vI (own_x24 nq), .unset, .unset, .unset] [(.int (1 : Int32))])) _
    refine XS.goto X768.here hx rfl (pc0 := 358) (pc' := 362) rfl (hb hby at_358) (by decide) (by decide) ?_
    exact kt
  ·rw [show (own_x25 nq bq) = (0 : Int32) from (if_neg hqa)] at kt
   show Steps p.tables e below (T768.setTop (mkF m 349 #[vJ q1, .second, vJ q2, .second, vJ q3, .second, vI p4, vJ (φ ra), .second, vJ (φ rb), .second, vI (own_i κ0), vI (own_i κ1), vI (own_i κ2), vI (own_i κ3), vI (((p4.toUInt32 >>> ((10 : Int32) &&& 31).toUInt32).toInt32) &&& (3 : Int32)), vJ (φ rq), .second, vR a1, vR rp, vI (own_i nq), vI (own_i ns), vI (own_b2 bq), vI (own_b2 bs), vI (own_x24 nq), .unset, .unset, .unset] [(.int (1 : Int32)), (.int (own_i nq))])) _
   refine XS.icmpYes X768.here hx rfl (pc0 := 349) (pc' := 361) rfl (hb hby at_349) rfl (flt (hqa : ¬ ((1 : Int32) < (own_i nq)))).2.2.2 (by decide) (by decide) ?_
   refine XS.iconst X768.here hx rfl (hb hby at_361) ?_
   exact kt
 clear R773
 have R775 := fun (tg : State) (kt : Steps p.tables e below (T768.setTop (mkF m 367 #[vJ q1, .second, vJ q2, .second, vJ q3, .second, vI p4, vJ (φ ra), .second, vJ (φ rb), .second, vI (own_i κ0), vI (own_i κ1), vI (own_i κ2), vI (own_i κ3), vI (((p4.toUInt32 >>> ((10 : Int32) &&& 31).toUInt32).toInt32) &&& (3 : Int32)), vJ (φ rq), .second, vR a1, vR rp, vI (own_i nq), vI (own_i ns), vI (own_b2 bq), vI (own_b2 bs), vI (own_x24 nq), vI (own_x25 nq bq), .unset, .unset] [(.int (1 : Int32)), (.int (own_i nq))])) tg) => R774 tg (by
  show Steps _ _ _ (T768.setTop (mkF m 362 #[vJ q1, .second, vJ q2, .second, vJ q3, .second, vI p4, vJ (φ ra), .second, vJ (φ rb), .second, vI (own_i κ0), vI (own_i κ1), vI (own_i κ2), vI (own_i κ3), vI (((p4.toUInt32 >>> ((10 : Int32) &&& 31).toUInt32).toInt32) &&& (3 : Int32)), vJ (φ rq), .second, vR a1, vR rp, vI (own_i nq), vI (own_i ns), vI (own_b2 bq), vI (own_b2 bs), vI (own_x24 nq), .unset, .unset, .unset] [(.int (own_x25 nq bq))])) _
  refine XS.istore X768.here hx rfl (hb hby at_362) rfl (l' := #[vJ q1, .second, vJ q2, .second, vJ q3, .second, vI p4, vJ (φ ra), .second, vJ (φ rb), .second, vI (own_i κ0), vI (own_i κ1), vI (own_i κ2), vI (own_i κ3), vI (((p4.toUInt32 >>> ((10 : Int32) &&& 31).toUInt32).toInt32) &&& (3 : Int32)), vJ (φ rq), .second, vR a1, vR rp, vI (own_i nq), vI (own_i ns), vI (own_b2 bq), vI (own_b2 bs), vI (own_x24 nq), vI (own_x25 nq bq), .unset, .unset]) rfl ?_
  refine XS.iload X768.here hx rfl (hb hby at_364) rfl ?_
  refine XS.iconst X768.here hx rfl (hb hby at_366) ?_
  exact kt)
 clear R774
 have R776 : Sq p e below (T768.setTop (mkF m 381 #[vJ q1, .second, vJ q2, .second, vJ q3, .second, vI p4, vJ (φ ra), .second, vJ (φ rb), .second, vI (own_i κ0), vI (own_i κ1), vI (own_i κ2), vI (own_i κ3), vI (((p4.toUInt32 >>> ((10 : Int32) &&& 31).toUInt32).toInt32) &&& (3 : Int32)), vJ (φ rq), .second, vR a1, vR rp, vI (own_i nq), vI (own_i ns), vI (own_b2 bq), vI (own_b2 bs), vI (own_x24 nq), vI (own_x25 nq bq), .unset, .unset] [(.int (own_x26 nq bq))])) (s₁.setTop (mkF m 0 #[vJ q1, .second, vJ q2, .second, vJ q3, .second, vI p4, .unset, .unset, .unset, .unset, .unset, .unset, .unset, .unset, .unset, .unset, .unset, .unset, .unset, .unset, .unset, .unset, .unset, .unset, .unset, .unset, .unset] [])) := by
  intro tg kt
  refine R775 _ ?_
  by_cases hqa : (1 : Int32) < (own_i nq)
  ·by_cases hqb : (own_b2 bq) = (0 : Int32)
   ·rw [show (own_x26 nq bq) = (own_i nq) from ((if_pos hqa).trans (if_pos hqb))] at kt
    show Steps p.tables e below (T768.setTop (mkF m 367 #[vJ q1, .second, vJ q2, .second, vJ q3, .second, vI p4, vJ (φ ra), .second, vJ (φ rb), .second, vI (own_i κ0), vI (own_i κ1), vI (own_i κ2), vI (own_i κ3), vI (((p4.toUInt32 >>> ((10 : Int32) &&& 31).toUInt32).toInt32) &&& (3 : Int32)), vJ (φ rq), .second, vR a1, vR rp, vI (own_i nq), vI (own_i ns), vI (own_b2 bq), vI (own_b2 bs), vI (own_x24 nq), vI (own_x25 nq bq), .unset, .unset] [(.int (1 : Int32)), (.int (own_i nq))])) _
    refine XS.icmpNo X768.here hx rfl (hb hby at_367) rfl (tlt (hqa : (1 : Int32) < (own_i nq))).2.2.2 ?_
    refine XS.iload X768.here hx rfl (hb hby at_370) rfl ?_
    show Steps p.tables e below (T768.setTop (mkF m 372 #[vJ q1, .second, vJ q2, .second, vJ q3, .second, vI p4, vJ (φ ra), .second, vJ (φ rb), .second, vI (own_i κ0), vI (own_i κ1), vI (own_i κ2), vI (own_i κ3), vI (((p4.toUInt32 >>> ((10 : Int32) &&& 31).toUInt32).toInt32) &&& (3 : Int32)), vJ (φ rq), .second, vR a1, vR rp, vI (own_i nq), vI (own_i ns), vI (own_b2 bq), vI (own_b2 bs), vI (own_x24 nq), vI (own_x25 nq bq), .unset, .unset] [(.int (own_b2 bq))])) _
    refine XS.ifNo X768.here hx rfl (hb hby at_372) rfl ((if0 _ _).trans (teq (hqb : (own_b2 bq) = (0 : Int32))).2) ?_
    refine XS.iload X768.here hx rfl (hb hby at_375) rfl ?_
    show Steps p.tables e below (T768.setTop (mkF m 377 #[vJ q1, .second, vJ q2, .second, vJ q3, .second, vI p4, vJ (φ ra), .second, vJ (φ rb), .second, vI (own_i κ0), vI (own_i κ1), vI (own_i κ2), vI (own_i κ3), vI (((p4.toUInt32 >>> ((10 : Int32) &&& 31).toUInt32).toInt32) &&& (3 : Int32)), vJ (φ rq), .second, vR a1, vR rp, vI (own_i nq), vI (own_i ns), vI (own_b2 bq), vI (own_b2 bs), vI (own_x24 nq), vI (own_x25 nq bq), .unset, .unset] [(.int (own_i nq))])) _
    refine XS.goto X768.here hx rfl (pc0 := 377) (pc' := 381) rfl (hb hby at_377) (by decide) (by decide) ?_
    exact kt
   ·rw [show (own_x26 nq bq) = (0 : Int32) from ((if_pos hqa).trans (if_neg hqb))] at kt
    show Steps p.tables e below (T768.setTop (mkF m 367 #[vJ q1, .second, vJ q2, .second, vJ q3, .second, vI p4, vJ (φ ra), .second, vJ (φ rb), .second, vI (own_i κ0), vI (own_i κ1), vI (own_i κ2), vI (own_i κ3), vI (((p4.toUInt32 >>> ((10 : Int32) &&& 31).toUInt32).toInt32) &&& (3 : Int32)), vJ (φ rq), .second, vR a1, vR rp, vI (own_i nq), vI (own_i ns), vI (own_b2 bq), vI (own_b2 bs), vI (own_x24 nq), vI (own_x25 nq bq), .unset, .unset] [(.int (1 : Int32)), (.int (own_i nq))])) _
    refine XS.icmpNo X768.here hx rfl (hb hby at_367) rfl (tlt (hqa : (1 : Int32) < (own_i nq))).2.2.2 ?_
    refine XS.iload X768.here hx rfl (hb hby at_370) rfl ?_
    show Steps p.tables e below (T768.setTop (mkF m 372 #[vJ q1, .second, vJ q2, .second, vJ q3, .second, vI p4, vJ (φ ra), .second, vJ (φ rb), .second, vI (own_i κ0), vI (own_i κ1), vI (own_i κ2), vI (own_i κ3), vI (((p4.toUInt32 >>> ((10 : Int32) &&& 31).toUInt32).toInt32) &&& (3 : Int32)), vJ (φ rq), .second, vR a1, vR rp, vI (own_i nq), vI (own_i ns), vI (own_b2 bq), vI (own_b2 bs), vI (own_x24 nq), vI (own_x25 nq bq), .unset, .unset] [(.int (own_b2 bq))])) _
    refine XS.ifYes X768.here hx rfl (pc0 := 372) (pc' := 380) rfl (hb hby at_372) rfl ((if0 _ _).trans (feq (hqb : ¬ ((own_b2 bq) = (0 : Int32)))).2) (by decide) (by decide) ?_
    refine XS.iconst X768.here hx rfl (hb hby at_380) ?_
    exact kt
  ·rw [show (own_x26 nq bq) = (0 : Int32) from (if_neg hqa)] at kt
   show Steps p.tables e below (T768.setTop (mkF m 367 #[vJ q1, .second, vJ q2, .second, vJ q3, .second, vI p4, vJ (φ ra), .second, vJ (φ rb), .second, vI (own_i κ0), vI (own_i κ1), vI (own_i κ2), vI (own_i κ3), vI (((p4.toUInt32 >>> ((10 : Int32) &&& 31).toUInt32).toInt32) &&& (3 : Int32)), vJ (φ rq), .second, vR a1, vR rp, vI (own_i nq), vI (own_i ns), vI (own_b2 bq), vI (own_b2 bs), vI (own_x24 nq), vI (own_x25 nq bq), .unset, .unset] [(.int (1 : Int32)), (.int (own_i nq))])) _
   refine XS.icmpYes X768.here hx rfl (pc0 := 367) (pc' := 380) rfl (hb hby at_367) rfl (flt (hqa : ¬ ((1 : Int32) < (own_i nq)))).2.2.2 (by decide) (by decide) ?_
   refine XS.iconst X768.here hx rfl (hb hby at_380) ?_
   exact kt
 clear R775
 have R777 := fun (tg : State) (kt : Steps p.tables e below (T768.setTop (mkF m 386 #[vJ q1, .second, vJ q2, .second, vJ q3, .second, vI p4, vJ (φ ra), .second, vJ (φ rb), .second, vI (own_i κ0), vI (own_i κ1), vI (own_i κ2), vI (own_i κ3), vI (((p4.toUInt32 >>> ((10 : Int32) &&& 31).toUInt32).toInt32) &&& (3 : Int32)), vJ (φ rq), .second, vR a1, vR rp, vI (own_i nq), vI (own_i ns), vI (own_b2 bq), vI (own_b2 bs), vI (own_x24 nq), vI (own_x25 nq bq), vI (own_x26 nq bq), .unset] [(.int (1 : Int32)), (.int (own_i ns))])) tg) => R776 tg (by
  show Steps _ _ _ (T768.setTop (mkF m 381 #[vJ q1, .second, vJ q2, .second, vJ q3, .second, vI p4, vJ (φ ra), .second, vJ (φ rb), .second, vI (own_i κ0), vI (own_i κ1), vI (own_i κ2), vI (own_i κ3), vI (((p4.toUInt32 >>> ((10 : Int32) &&& 31).toUInt32).toInt32) &&& (3 : Int32)), vJ (φ rq), .second, vR a1, vR rp, vI (own_i nq), vI (own_i ns), vI (own_b2 bq), vI (own_b2 bs), vI (own_x24 nq), vI (own_x25 nq bq), .unset, .unset] [(.int (own_x26 nq bq))])) _
  refine XS.istore X768.here hx rfl (hb hby at_381) rfl (l' := #[vJ q1, .second, vJ q2, .second, vJ q3, .second, vI p4, vJ (φ ra), .second, vJ (φ rb), .second, vI (own_i κ0), vI (own_i κ1), vI (own_i κ2), vI (own_i κ3), vI (((p4.toUInt32 >>> ((10 : Int32) &&& 31).toUInt32).toInt32) &&& (3 : Int32)), vJ (φ rq), .second, vR a1, vR rp, vI (own_i nq), vI (own_i ns), vI (own_b2 bq), vI (own_b2 bs), vI (own_x24 nq), vI (own_x25 nq bq), vI (own_x26 nq bq), .unset]) rfl ?_
  refine XS.iload X768.here hx rfl (hb hby at_383) rfl ?_
  refine XS.iconst X768.here hx rfl (hb hby at_385) ?_
  exact kt)
 clear R776
 have R778 : Sq p e below (T768.setTop (mkF m 399 #[vJ q1, .second, vJ q2, .second, vJ q3, .second, vI p4, vJ (φ ra), .second, vJ (φ rb), .second, vI (own_i κ0), vI (own_i κ1), vI (own_i κ2), vI (own_i κ3), vI (((p4.toUInt32 >>> ((10 : Int32) &&& 31).toUInt32).toInt32) &&& (3 : Int32)), vJ (φ rq), .second, vR a1, vR rp, vI (own_i nq), vI (own_i ns), vI (own_b2 bq), vI (own_b2 bs), vI (own_x24 nq), vI (own_x25 nq bq), vI (own_x26 nq bq), .unset] [(.int (own_x25 ns bs))])) (s₁.setTop (mkF m 0 #[vJ q1, .second, vJ q2, .second, vJ q3, .second, vI p4, .unset, .unset, .unset, .unset, .unset, .unset, .unset, .unset, .unset, .unset, .unset, .unset, .unset, .unset, .unset, .unset, .unset, .unset, .unset, .unset, .unset] [])) := by
  intro tg kt
  refine R777 _ ?_
  by_cases hqa : (1 : Int32) < (own_i ns)
  ·by_cases hqb : (own_b2 bs) = (0 : Int32)
   ·rw [show (own_x25 ns bs) = (0 : Int32) from ((if_pos hqa).trans (if_pos hqb))] at kt
    show Steps p.tables e below (T768.setTop (mkF m 386 #[vJ q1, .second, vJ q2, .second, vJ q3, .second, vI p4, vJ (φ ra), .second, vJ (φ rb), .second, vI (own_i κ0), vI (own_i κ1), vI (own_i κ2), vI (own_i κ3), vI (((p4.toUInt32 >>> ((10 : Int32) &&& 31).toUInt32).toInt32) &&& (3 : Int32)), vJ (φ rq), .second, vR a1, vR rp, vI (own_i nq), vI (own_i ns), vI (own_b2 bq), vI (own_b2 bs), vI (own_x24 nq), vI (own_x25 nq bq), vI (own_x26 nq bq), .unset] [(.int (1 : Int32)), (.int (own_i ns))])) _
    refine XS.icmpNo X768.here hx rfl (hb hby at_386) rfl (tlt (hqa : (1 : Int32) < (own_i ns))).2.2.2 ?_
    refine XS.iload X768.here hx rfl (hb hby at_389) rfl ?_
    show Steps p.tables e below (T768.setTop (mkF m 391 #[vJ q1, .second, vJ q2, .second, vJ q3, .second, vI p4, vJ (φ ra), .second, vJ (φ rb), .second, vI (own_i κ0), vI (own_i κ1), vI (own_i κ2), vI (own_i κ3), vI (((p4.toUInt32 >>> ((10 : Int32) &&& 31).toUInt32).toInt32) &&& (3 : Int32)), vJ (φ rq), .second, vR a1, vR rp, vI (own_i nq), vI (own_i ns), vI (own_b2 bq), vI (own_b2 bs), vI (own_x24 nq), vI (own_x25 nq bq), vI (own_x26 nq bq), .unset] [(.int (own_b2 bs))])) _
    refine XS.ifYes X768.here hx rfl (pc0 := 391) (pc' := 398) rfl (hb hby at_391) rfl ((if0 _ _).trans (teq (hqb : (own_b2 bs) = (0 : Int32))).1) (by decide) (by decide) ?_
    refine XS.iconst X768.here hx rfl (hb hby at_398) ?_
    exact kt
   ·rw [show (own_x25 ns bs) = (1 : Int32) from ((if_pos hqa).trans (if_neg hqb))] at kt
    show Steps p.tables e below (T768.setTop (mkF m 386 #[vJ q1, .second, vJ q2, .second, vJ q3, .second, vI p4, vJ (φ ra), .second, vJ (φ rb), .second, vI (own_i κ0), vI (own_i κ1), vI (own_i κ2), vI (own_i κ3), vI (((p4.toUInt32 >>> ((10 : Int32) &&& 31).toUInt32).toInt32) &&& (3 : Int32)), vJ (φ rq), .second, vR a1, vR rp, vI (own_i nq), vI (own_i ns), vI (own_b2 bq), vI (own_b2 bs), vI (own_x24 nq), vI (own_x25 nq bq), vI (own_x26 nq bq), .unset] [(.int (1 : Int32)), (.int (own_i ns))])) _
    refine XS.icmpNo X768.here hx rfl (hb hby at_386) rfl (tlt (hqa : (1 : Int32) < (own_i ns))).2.2.2 ?_
    refine XS.iload X768.here hx rfl (hb hby at_389) rfl ?_
    show Steps p.tables e below (T768.setTop (mkF m 391 #[vJ q1, .second, vJ q2, .second, vJ q3, .second, vI p4, vJ (φ ra), .second, vJ (φ rb), .second, vI (own_i κ0), vI (own_i κ1), vI (own_i κ2), vI (own_i κ3), vI (((p4.toUInt32 >>> ((10 : Int32) &&& 31).toUInt32).toInt32) &&& (3 : Int32)), vJ (φ rq), .second, vR a1, vR rp, vI (own_i nq), vI (own_i ns), vI (own_b2 bq), vI (own_b2 bs), vI (own_x24 nq), vI (own_x25 nq bq), vI (own_x26 nq bq), .unset] [(.int (own_b2 bs))])) _
    refine XS.ifNo X768.here hx rfl (hb hby at_391) rfl ((if0 _ _).trans (feq (hqb : ¬ ((own_b2 bs) = (0 : Int32)))).1) ?_
    refine XS.iconst X768.here hx rfl (hb hby at_394) ?_
    show Steps p.tables e below (T768.setTop (mkF m 395 #[vJ q1, .second, vJ q2, .second, vJ q3, .second, vI p4, vJ (φ ra), .second, vJ (φ rb), .second, vI (own_i κ0), vI (own_i κ1), vI (own_i κ2), vI (own_i κ3), vI (((p4.toUInt32 >>> ((10 : Int32) &&& 31).toUInt32).toInt32) &&& (3 : Int32)), vJ (φ rq), .second, vR a1, vR rp, vI (own_i nq), vI (own_i ns), vI (own_b2 bq), vI (own_b2 bs), vI (own_x24 nq), vI (own_x25 nq bq), vI (own_x26 nq bq), .unset] [(.int (1 : Int32))])) _
    refine XS.goto X768.here hx rfl (pc0 := 395) (pc' := 399) rfl (hb hby at_395) (by decide) (by decide) ?_
    exact kt
  ·rw [show (own_x25 ns bs) = (0 : Int32) from (if_neg hqa)] at kt
   show Steps p.tables e below (T768.setTop (mkF m 386 #[vJ q1, .second, vJ q2, .second, vJ q3, .second, vI p4, vJ (φ ra), .second, vJ (φ rb), .second, vI (own_i κ0), vI (own_i κ1), vI (own_i κ2), vI (own_i κ3), vI (((p4.toUInt32 >>> ((10 : Int32) &&& 31).toUInt32).toInt32) &&& (3 : Int32)), vJ (φ rq), .second, vR a1, vR rp, vI (own_i nq), vI (own_i ns), vI (own_b2 bq), vI (own_b2 bs), vI (own_x24 nq), vI (own_x25 nq bq), vI (own_x26 nq bq), .unset] [(.int (1 : Int32)), (.int (own_i ns))])) _
   refine XS.icmpYes X768.here hx rfl (pc0 := 386) (pc' := 398) rfl (hb hby at_386) rfl (flt (hqa : ¬ ((1 : Int32) < (own_i ns)))).2.2.2 (by decide) (by decide) ?_
   refine XS.iconst X768.here hx rfl (hb hby at_398) ?_
   exact kt
 clear R777
 have ms := own_master (own_k4b k40) (own_k4b k41) (own_k4b k42) (own_k4b k43) ya yb ys yq
 dsimp only [own_chk] at ms
 rw [← hs0, ← hs1, ← hs2, ← hs3, ← hs4, ← hrr] at ms
 simp only [← hnq, ← hns, ← hbq, ← hbs, Bool.and_eq_true, decide_eq_true_eq] at ms
 obtain ⟨⟨⟨mA, mB⟩, mC⟩, mD⟩ := ms
 have R779 := fun (tg : State) (kt : Steps p.tables e below (T768.setTop (mkF m 405 #[vJ q1, .second, vJ q2, .second, vJ q3, .second, vI p4, vJ (φ ra), .second, vJ (φ rb), .second, vI (own_i κ0), vI (own_i κ1), vI (own_i κ2), vI (own_i κ3), vI (((p4.toUInt32 >>> ((10 : Int32) &&& 31).toUInt32).toInt32) &&& (3 : Int32)), vJ (φ rq), .second, vR a1, vR rp, vI (own_i nq), vI (own_i ns), vI (own_b2 bq), vI (own_b2 bs), vI (own_x24 nq), vI (own_x25 nq bq), vI (own_x26 nq bq), vI (own_x25 ns bs)] [(.long (φ rq)), (.ref rp)])) tg) => R778 tg (by
  show Steps _ _ _ (T768.setTop (mkF m 399 #[vJ q1, .second, vJ q2, .second, vJ q3, .second, vI p4, vJ (φ ra), .second, vJ (φ rb), .second, vI (own_i κ0), vI (own_i κ1), vI (own_i κ2), vI (own_i κ3), vI (((p4.toUInt32 >>> ((10 : Int32) &&& 31).toUInt32).toInt32) &&& (3 : Int32)), vJ (φ rq), .second, vR a1, vR rp, vI (own_i nq), vI (own_i ns), vI (own_b2 bq), vI (own_b2 bs), vI (own_x24 nq), vI (own_x25 nq bq), vI (own_x26 nq bq), .unset] [(.int (own_x25 ns bs))])) _
  refine XS.istore X768.here hx rfl (hb hby at_399) rfl (l' := #[vJ q1, .second, vJ q2, .second, vJ q3, .second, vI p4, vJ (φ ra), .second, vJ (φ rb), .second, vI (own_i κ0), vI (own_i κ1), vI (own_i κ2), vI (own_i κ3), vI (((p4.toUInt32 >>> ((10 : Int32) &&& 31).toUInt32).toInt32) &&& (3 : Int32)), vJ (φ rq), .second, vR a1, vR rp, vI (own_i nq), vI (own_i ns), vI (own_b2 bq), vI (own_b2 bs), vI (own_x24 nq), vI (own_x25 nq bq), vI (own_x26 nq bq), vI (own_x25 ns bs)]) rfl ?_
  refine XS.aload X768.here hx rfl (hb hby at_401) rfl rfl ?_
  refine XS.lload X768.here hx rfl (hb hby at_403) rfl ?_
  exact kt)
 clear R778
 obtain ⟨cq780, kq780, q780a, q780b, q780c⟩ := isOf hZ hh768 yEr
 obtain ⟨_, _, ⟨T780, L780, k780, n780⟩, -, X780, ⟨Lc780, hQ780, l780, y780, z780⟩, st780⟩ := X768.virtualBack hx (y := (⟨cR, "repeated", "(J)Z"⟩ : MethodName)) (z := (⟨cR, "repeated", "(J)Z"⟩ : MethodName)) hown (mvT hZ (oW hw 117 rfl)) (mvT hZ (oW hw 118 rfl)) (notFace_of_selects (args := #[]) (mvT hZ (oW hw 120 rfl))) (mvT hZ (oW hw 120 rfl)) (mvT hZ (oW hw 119 rfl)) (by decide) (backOf (W := 0) (rm_rpd l Z a0 hw [] rp (φ rq) φ cap f1 f2 f3 rr.1 rr.2.1 rr.2.2.1 rr.2.2.2 rq T735.heap n0 Zs735 yEr yGf yGr yGn yGs yGy yWF yWR yWN H o2 yq rfl cap4 w1 w2) hZ (oW hw 121 rfl) (oW hw 93 rfl) (by decide) (by decide)) q780a q780c (g := (mkF m 405 #[vJ q1, .second, vJ q2, .second, vJ q3, .second, vI p4, vJ (φ ra), .second, vJ (φ rb), .second, vI (own_i κ0), vI (own_i κ1), vI (own_i κ2), vI (own_i κ3), vI (((p4.toUInt32 >>> ((10 : Int32) &&& 31).toUInt32).toInt32) &&& (3 : Int32)), vJ (φ rq), .second, vR a1, vR rp, vI (own_i nq), vI (own_i ns), vI (own_b2 bq), vI (own_b2 bs), vI (own_x24 nq), vI (own_x25 nq bq), vI (own_x26 nq bq), vI (own_x25 ns bs)] [(.long (φ rq)), (.ref rp)])) rfl (by rw [hml]; rfl) (Steps.refl _) (argsL := [(.long (φ rq))]) (rest := []) (lenOf pd_19 rfl) rfl (by show 2 * 0 + _ ≤ _; exact Nat.le_of_eq rfl) (hb hby at_405) (fun _ _ => ⟨rfl, hh768, (by decide : 17 + 0 ≤ _), (by decide : 4289 + 0 ≤ _)⟩)
 dsimp only [Pt.U, Pt.locs, Pt.cells, Pt.slots] at X780 l780 y780 z780 st780 hQ780
 rw [l780, y780, z780] at X780
 obtain ⟨rfl, N780q, hh780⟩ := hQ780
 have N780 := Fr.app N768 N780q
 have R781 := fun (tg : State) (kt : Steps p.tables e below (T780.setTop (mkF m 417 #[vJ q1, .second, vJ q2, .second, vJ q3, .second, vI p4, vJ (φ ra), .second, vJ (φ rb), .second, vI (own_i κ0), vI (own_i κ1), vI (own_i κ2), vI (own_i κ3), vI (((p4.toUInt32 >>> ((10 : Int32) &&& 31).toUInt32).toInt32) &&& (3 : Int32)), vJ (φ rq), .second, vR a1, vR rp, vI (own_i nq), vI (own_i ns), vI (own_b2 bq), vI (own_b2 bs), vI (own_x24 nq), vI (own_x25 nq bq), vI (own_x26 nq bq), vI (own_x25 ns bs)] [(.long (φ rq)), (.ref rp)])) tg) => R779 tg (by
  refine st780.trans ?_
  refine XS.iload X780.here hx rfl (hb hby at_408) rfl ?_
  show Steps _ _ _ (T780.setTop (mkF m 410 #[vJ q1, .second, vJ q2, .second, vJ q3, .second, vI p4, vJ (φ ra), .second, vJ (φ rb), .second, vI (own_i κ0), vI (own_i κ1), vI (own_i κ2), vI (own_i κ3), vI (((p4.toUInt32 >>> ((10 : Int32) &&& 31).toUInt32).toInt32) &&& (3 : Int32)), vJ (φ rq), .second, vR a1, vR rp, vI (own_i nq), vI (own_i ns), vI (own_b2 bq), vI (own_b2 bs), vI (own_x24 nq), vI (own_x25 nq bq), vI (own_x26 nq bq), vI (own_x25 ns bs)] [(.int (own_x24 nq)), (.int (own_rpd rr.1 rq))])) _
  refine XS.icmpNo X780.here hx rfl (hb hby at_410) rfl (teq (mA : (own_rpd rr.1 rq) = (own_x24 nq))).2 ?_
  refine XS.aload X780.here hx rfl (hb hby at_413) rfl rfl ?_
  refine XS.lload X780.here hx rfl (hb hby at_415) rfl ?_
  exact kt)
 clear R779 st780
 obtain ⟨cq782, kq782, q782a, q782b, q782c⟩ := isOf hZ hh780 yEr
 obtain ⟨_, _, ⟨T782, L782, k782, n782⟩, -, X782, ⟨Lc782, hQ782, l782, y782, z782⟩, st782⟩ := X780.virtualBack hx (y := (⟨cR, "nearRows", "(J)I"⟩ : MethodName)) (z := (⟨cR, "nearRows", "(J)I"⟩ : MethodName)) hown (mvT hZ (oW hw 134 rfl)) (mvT hZ (oW hw 135 rfl)) (notFace_of_selects (args := #[]) (mvT hZ (oW hw 137 rfl))) (mvT hZ (oW hw 137 rfl)) (mvT hZ (oW hw 136 rfl)) (by decide) (backOf (W := 0) (rm_nearRows l Z a0 hw [] rp (φ rq) φ cap f1 f2 f3 rr.1 rr.2.1 rr.2.2.1 rr.2.2.2 rq T735.heap n0 Zs735 yEr yGf yGr yGn yGs yGy yWF yWR yWN H o2 yq rfl cap4 w1 w2) hZ (oW hw 138 rfl) (oW hw 93 rfl) (by decide) (by decide)) q782a q782c (g := (mkF m 417 #[vJ q1, .second, vJ q2, .second, vJ q3, .second, vI p4, vJ (φ ra), .second, vJ (φ rb), .second, vI (own_i κ0), vI (own_i κ1), vI (own_i κ2), vI (own_i κ3), vI (((p4.toUInt32 >>> ((10 : Int32) &&& 31).toUInt32).toInt32) &&& (3 : Int32)), vJ (φ rq), .second, vR a1, vR rp, vI (own_i nq), vI (own_i ns), vI (own_b2 bq), vI (own_b2 bs), vI (own_x24 nq), vI (own_x25 nq bq), vI (own_x26 nq bq), vI (own_x25 ns bs)] [(.long (φ rq)), (.ref rp)])) rfl (by rw [hml]; rfl) (Steps.refl _) (argsL := [(.long (φ rq))]) (rest := []) (lenOf pd_9 rfl) rfl (by show 2 * 0 + _ ≤ _; exact Nat.le_of_eq rfl) (hb hby at_417) (fun _ _ => ⟨rfl, hh780, (by decide : 17 + 0 ≤ _), (by decide : 4289 + 0 ≤ _)⟩)
 dsimp only [Pt.U, Pt.locs, Pt.cells, Pt.slots] at X782 l782 y782 z782 st782 hQ782
 rw [l782, y782, z782] at X782
 obtain ⟨rfl, N782q, hh782⟩ := hQ782
 have N782 := Fr.app N780 N782q
 have R783 := fun (tg : State) (kt : Steps p.tables e below (T782.setTop (mkF m 429 #[vJ q1, .second, vJ q2, .second, vJ q3, .second, vI p4, vJ (φ ra), .second, vJ (φ rb), .second, vI (own_i κ0), vI (own_i κ1), vI (own_i κ2), vI (own_i κ3), vI (((p4.toUInt32 >>> ((10 : Int32) &&& 31).toUInt32).toInt32) &&& (3 : Int32)), vJ (φ rq), .second, vR a1, vR rp, vI (own_i nq), vI (own_i ns), vI (own_b2 bq), vI (own_b2 bs), vI (own_x24 nq), vI (own_x25 nq bq), vI (own_x26 nq bq), vI (own_x25 ns bs)] [(.long (φ rq)), (.ref rp)])) tg) => R781 tg (by
  refine st782.trans ?_
  refine XS.iload X782.here hx rfl (hb hby at_420) rfl ?_
  show Steps _ _ _ (T782.setTop (mkF m 422 #[vJ q1, .second, vJ q2, .second, vJ q3, .second, vI p4, vJ (φ ra), .second, vJ (φ rb), .second, vI (own_i κ0), vI (own_i κ1), vI (own_i κ2), vI (own_i κ3), vI (((p4.toUInt32 >>> ((10 : Int32) &&& 31).toUInt32).toInt32) &&& (3 : Int32)), vJ (φ rq), .second, vR a1, vR rp, vI (own_i nq), vI (own_i ns), vI (own_b2 bq), vI (own_b2 bs), vI (own_x24 nq), vI (own_x25 nq bq), vI (own_x26 nq bq), vI (own_x25 ns bs)] [(.int (own_x26 nq bq)), (.int (own_nrw rr.1 rr.2.1 rr.2.2.1 rq))])) _
  refine XS.icmpNo X782.here hx rfl (hb hby at_422) rfl (teq (mB : (own_nrw rr.1 rr.2.1 rr.2.2.1 rq) = (own_x26 nq bq))).2 ?_
  refine XS.aload X782.here hx rfl (hb hby at_425) rfl rfl ?_
  refine XS.lload X782.here hx rfl (hb hby at_427) rfl ?_
  exact kt)
 clear R781 st782
 obtain ⟨cq784, kq784, q784a, q784b, q784c⟩ := isOf hZ hh782 yEr
 obtain ⟨_, _, ⟨T784, L784, k784, n784⟩, -, X784, ⟨Lc784, hQ784, l784, y784, z784⟩, st784⟩ := X782.virtualBack hx (y := (⟨cR, "far", "(J)Z"⟩ : MethodName)) (z := (⟨cR, "far", "(J)Z"⟩ : MethodName)) hown (mvT hZ (oW hw 139 rfl)) (mvT hZ (oW hw 140 rfl)) (notFace_of_selects (args := #[]) (mvT hZ (oW hw 142 rfl))) (mvT hZ (oW hw 142 rfl)) (mvT hZ (oW hw 141 rfl)) (by decide) (backOf (W := 0) (rm_far l Z a0 hw [] rp (φ rq) φ cap f1 f2 f3 rr.1 rr.2.1 rr.2.2.1 rr.2.2.2 rq T735.heap n0 Zs735 yEr yGf yGr yGn yGs yGy yWF yWR yWN H o2 yq rfl cap4 w1 w2) hZ (oW hw 143 rfl) (oW hw 93 rfl) (by decide) (by decide)) q784a q784c (g := (mkF m 429 #[vJ q1, .second, vJ q2, .second, vJ q3, .second, vI p4, vJ (φ ra), .second, vJ (φ rb), .second, vI (own_i κ0), vI (own_i κ1), vI (own_i κ2), vI (own_i κ3), vI (((p4.toUInt32 >>> ((10 : Int32) &&& 31).toUInt32).toInt32) &&& (3 : Int32)), vJ (φ rq), .second, vR a1, vR rp, vI (own_i nq), vI (own_i ns), vI (own_b2 bq), vI (own_b2 bs), vI (own_x24 nq), vI (own_x25 nq bq), vI (own_x26 nq bq), vI (own_x25 ns bs)] [(.long (φ rq)), (.ref rp)])) rfl (by rw [hml]; rfl) (Steps.refl _) (argsL := [(.long (φ rq))]) (rest := []) (lenOf pd_19 rfl) rfl (by show 2 * 0 + _ ≤ _; exact Nat.le_of_eq rfl) (hb hby at_429) (fun _ _ => ⟨rfl, hh782, (by decide : 17 + 0 ≤ _), (by decide : 4289 + 0 ≤ _)⟩)
 dsimp only [Pt.U, Pt.locs, Pt.cells, Pt.slots] at X784 l784 y784 z784 st784 hQ784
 rw [l784, y784, z784] at X784
 obtain ⟨rfl, N784q, hh784⟩ := hQ784
 have N784 := Fr.app N782 N784q
 have R785 := fun (tg : State) (kt : Steps p.tables e below (T784.setTop (mkF m 439 #[vJ q1, .second, vJ q2, .second, vJ q3, .second, vI p4, vJ (φ ra), .second, vJ (φ rb), .second, vI (own_i κ0), vI (own_i κ1), vI (own_i κ2), vI (own_i κ3), vI (((p4.toUInt32 >>> ((10 : Int32) &&& 31).toUInt32).toInt32) &&& (3 : Int32)), vJ (φ rq), .second, vR a1, vR rp, vI (own_i nq), vI (own_i ns), vI (own_b2 bq), vI (own_b2 bs), vI (own_x24 nq), vI (own_x25 nq bq), vI (own_x26 nq bq), vI (own_x25 ns bs)] [(.ref rp)])) tg) => R783 tg (by
  refine st784.trans ?_
  refine XS.iload X784.here hx rfl (hb hby at_432) rfl ?_
  show Steps _ _ _ (T784.setTop (mkF m 434 #[vJ q1, .second, vJ q2, .second, vJ q3, .second, vI p4, vJ (φ ra), .second, vJ (φ rb), .second, vI (own_i κ0), vI (own_i κ1), vI (own_i κ2), vI (own_i κ3), vI (((p4.toUInt32 >>> ((10 : Int32) &&& 31).toUInt32).toInt32) &&& (3 : Int32)), vJ (φ rq), .second, vR a1, vR rp, vI (own_i nq), vI (own_i ns), vI (own_b2 bq), vI (own_b2 bs), vI (own_x24 nq), vI (own_x25 nq bq), vI (own_x26 nq bq), vI (own_x25 ns bs)] [(.int (own_x25 nq bq)), (.int (own_fr rr.1 rr.2.2.1 rq))])) _
  refine XS.icmpNo X784.here hx rfl (hb hby at_434) rfl (teq (mC : (own_fr rr.1 rr.2.2.1 rq) = (own_x25 nq bq))).2 ?_
  refine XS.aload X784.here hx rfl (hb hby at_437) rfl rfl ?_
  exact kt)
 clear R783 st784
 obtain ⟨cq786, kq786, q786a, q786b, q786c⟩ := isOf hZ hh784 yEr
 obtain ⟨_, _, ⟨T786, L786, k786, n786⟩, -, X786, ⟨Lc786, hQ786, l786, y786, z786⟩, st786⟩ := X784.virtualBack hx (y := (⟨cR, "anyFar", "()Z"⟩ : MethodName)) (z := (⟨cR, "anyFar", "()Z"⟩ : MethodName)) hown (mvT hZ (oW hw 144 rfl)) (mvT hZ (oW hw 145 rfl)) (notFace_of_selects (args := #[]) (mvT hZ (oW hw 147 rfl))) (mvT hZ (oW hw 147 rfl)) (mvT hZ (oW hw 146 rfl)) (by decide) (backOf (W := 0) (rm_anf l Z a0 hw [] rp rr.2.2.2 T735.heap n0 Zs735 yGy) hZ (oW hw 148 rfl) (oW hw 93 rfl) (by decide) (by decide)) q786a q786c (g := (mkF m 439 #[vJ q1, .second, vJ q2, .second, vJ q3, .second, vI p4, vJ (φ ra), .second, vJ (φ rb), .second, vI (own_i κ0), vI (own_i κ1), vI (own_i κ2), vI (own_i κ3), vI (((p4.toUInt32 >>> ((10 : Int32) &&& 31).toUInt32).toInt32) &&& (3 : Int32)), vJ (φ rq), .second, vR a1, vR rp, vI (own_i nq), vI (own_i ns), vI (own_b2 bq), vI (own_b2 bs), vI (own_x24 nq), vI (own_x25 nq bq), vI (own_x26 nq bq), vI (own_x25 ns bs)] [(.ref rp)])) rfl (by rw [hml]; rfl) (Steps.refl _) (argsL := []) (rest := []) (lenOf pd_20 rfl) rfl (by show 2 * 0 + _ ≤ _; exact Nat.le_of_eq rfl) (hb hby at_439) (fun _ _ => ⟨rfl, hh784, (by decide : 17 + 0 ≤ _), (by decide : 4289 + 0 ≤ _)⟩)
 dsimp only [Pt.U, Pt.locs, Pt.cells, Pt.slots] at X786 l786 y786 z786 st786 hQ786
 rw [l786, y786, z786] at X786
 obtain ⟨rfl, N786q, hh786⟩ := hQ786
 have N786 := Fr.app N784 N786q
 have R787 := fun (tg : State) (kt : Steps p.tables e below (T786.setTop (mkF m 452 #[vJ q1, .second, vJ q2, .second, vJ q3, .second, vI p4, vJ (φ ra), .second, vJ (φ rb), .second, vI (own_i κ0), vI (own_i κ1), vI (own_i κ2), vI (own_i κ3), vI (((p4.toUInt32 >>> ((10 : Int32) &&& 31).toUInt32).toInt32) &&& (3 : Int32)), vJ (φ rq), .second, vR a1, vR rp, vI (own_i nq), vI (own_i ns), vI (own_b2 bq), vI (own_b2 bs), vI (own_x24 nq), vI (own_x25 nq bq), vI (own_x26 nq bq), vI (own_x25 ns bs)] [(.int (1 : Int32))])) tg) => R785 tg (by
  refine st786.trans ?_
  refine XS.iload X786.here hx rfl (hb hby at_442) rfl ?_
  show Steps _ _ _ (T786.setTop (mkF m 444 #[vJ q1, .second, vJ q2, .second, vJ q3, .second, vI p4, vJ (φ ra), .second, vJ (φ rb), .second, vI (own_i κ0), vI (own_i κ1), vI (own_i κ2), vI (own_i κ3), vI (((p4.toUInt32 >>> ((10 : Int32) &&& 31).toUInt32).toInt32) &&& (3 : Int32)), vJ (φ rq), .second, vR a1, vR rp, vI (own_i nq), vI (own_i ns), vI (own_b2 bq), vI (own_b2 bs), vI (own_x24 nq), vI (own_x25 nq bq), vI (own_x26 nq bq), vI (own_x25 ns bs)] [(.int (own_x25 ns bs)), (.int (own_b2 rr.2.2.2))])) _
  refine XS.icmpNo X786.here hx rfl (hb hby at_444) rfl (teq (mD : (own_b2 rr.2.2.2) = (own_x25 ns bs))).2 ?_
  refine XS.iconst X786.here hx rfl (hb hby at_447) ?_
  show Steps _ _ _ (T786.setTop (mkF m 448 #[vJ q1, .second, vJ q2, .second, vJ q3, .second, vI p4, vJ (φ ra), .second, vJ (φ rb), .second, vI (own_i κ0), vI (own_i κ1), vI (own_i κ2), vI (own_i κ3), vI (((p4.toUInt32 >>> ((10 : Int32) &&& 31).toUInt32).toInt32) &&& (3 : Int32)), vJ (φ rq), .second, vR a1, vR rp, vI (own_i nq), vI (own_i ns), vI (own_b2 bq), vI (own_b2 bs), vI (own_x24 nq), vI (own_x25 nq bq), vI (own_x26 nq bq), vI (own_x25 ns bs)] [(.int (1 : Int32))])) _
  refine XS.goto X786.here hx rfl (pc0 := 448) (pc' := 452) rfl (hb hby at_448) (by decide) (by decide) ?_
  exact kt)
 clear R785 st786
 obtain ⟨fs, hr, hrun, hended, hW, hsame⟩ := X786.leave (v := some (.int (1 : Int32))) (fun h => by rw [Bd.returns] at h; cases h)
 refine ⟨_, _, pre0 _ (R787 _ ?_), hrun, hended, _, _, rfl, ?_, ⟨_, rfl⟩, hW, hsame.mono (by decide) (by decide)⟩
 ·exact retN X786 hx (t := .boolean) Bd.returns (by simp) (hb hby at_452) hr
 ·show Q_rm_law Z q1 q2 q3 p4 h0 n0 _ T786.heap _
  rw [hh786]
  exact ⟨rfl, N786⟩
set_option maxRecDepth 65536 in
set_option maxHeartbeats 40000000 in
theorem comes_1 {Post : Tables → Env → Array Value → State → Outcome → State → Prop} (hpost : ∀ tb e args s v u, (limb_1_1.after args s (.returned v) u = true ∧ limb_1_2.after args s (.returned v) u = true ∧ True) → FrameEnd s (.returned v) u (Jvm.fieldLocs frame_1_writes args s ++ Jvm.arrayLocs frame_1_arrays args s ++ Jvm.staticLocs frame_1_statics s) 40 8384 → Post tb e args s (.returned v) u) :
  ArmFor flags0 classFile x code maxLocals ret World_1 tables_1 room_1 Calls_1 rest_1 Pre_1 Post := by
 intro l hfl _ _ p e ha hc hk s m args below hf hA hF happ hP
 obtain ⟨hcalls, hrest, hpre⟩ := hP
 obtain ⟨-, -, -, hnamed, -, -, -, hat⟩ := (Spec.applies_iff hf).mp happ
 obtain ⟨hg, hn⟩ := and_e (Cond.before_iff.mp (show (Jvm.Cond.and given_1 narrow_1).before args s = true from hpre))
 obtain ⟨gc, gr0⟩ := and_e hg
 obtain ⟨ga0, gr1⟩ := and_e gr0
 obtain ⟨ga1, gr2⟩ := and_e gr1
 obtain ⟨ga2, gr3⟩ := and_e gr2
 obtain ⟨w0, w1, w2, w3, rfl⟩ : ∃ w0 w1 w2 w3 : Value, args = #[w0, w1, w2, w3] := by
  have hs : args.size = 4 := by simpa [Cond.value, given_1] using gc
  obtain ⟨L⟩ := args
  match L, hs with
  | [w0, w1, w2, w3], _ => exact ⟨w0, w1, w2, w3, rfl⟩
 have hw := fun d (hd : d ∈ tables_1) => atoms_spec (ws := Jvm.Cond.code x code maxLocals ret :: tables_1) hat d (List.mem_cons_of_mem _ hd)
 have hfit : Fit s := fun {y c} hc i hi => by
  obtain ⟨ha, rfl⟩ := Array.getElem?_eq_some_iff.mp hc
  have q := List.all_eq_true.mp ((Array.all_eq_true_iff_forall_mem.mp hF) _ (Array.getElem_mem ha)) i (List.mem_range.mpr hi)
  simpa [Array.getElem?_eq_getElem hi] using q
 obtain ⟨i0, ei0⟩ := isL_v ga0
 obtain rfl : w0 = (.long i0) := Option.some.inj ei0
 obtain ⟨i1, ei1⟩ := isL_v ga1
 obtain rfl : w1 = (.long i1) := Option.some.inj ei1
 obtain ⟨i2, ei2⟩ := isL_v ga2
 obtain rfl : w2 = (.long i2) := Option.some.inj ei2
 obtain ⟨i3, ei3⟩ := is_v gr3
 obtain rfl : w3 = (.int i3) := Option.some.inj ei3
 obtain ⟨n, o, h1, h2, h3, _, L, rfl, ⟨rfl, N⟩, hq⟩ := rm_law l s _ hw tables_1 i0 i1 i2 i3 s.heap s.heap.size (Nat.le_refl _)  p e ha hc hk s m _ below hf ((Spec.applies_iff_loose hf).mp happ).1 ⟨rfl, State.Warmed39.refl s, rfl⟩ trivial
 refine ⟨n, _, h1, h2, h3, hpost _ _ _ _ _ _ ⟨Cond.after_iff.mpr rfl, Cond.after_iff.mpr (eq_i res_at (Term.int_eval (1)) rfl), trivial⟩ ⟨hq.1, hq.2.1, (hq.2.2.sift fun y hy => Or.inr (N y hy)).mono (by decide) (by decide)⟩⟩
theorem main_1_1 : Claimed_1_1 := comes_1 fun _ _ _ _ _ _ h hF => ⟨h.1, hF⟩
theorem main_1_2 : Claimed_1_2 := comes_1 fun _ _ _ _ _ _ h hF => ⟨h.2.1, hF⟩
end Jvm.Pilot.@@N@@
namespace Jvm.Pilot.@@N@@
open Jvm Jvm.ClassFile Sem Op Lib Jvm.Free Jvm.Stand Jvm.Pilot.@@N@@.Jvm.D
/-! MADE BY PROGRAM (witnessworld.py) out of the Statement's table words and the real class files: 18 classes; the members and pool entries that the words name. The judged class is class 1, her method 1. -/
namespace start1
open Jvm.ClassFile
def u (s : String) : CpInfo := .utf8 (stringToUtf16 s)
/-- a pool by its gaps: so many unusable entries, then the entry; so many at the end -/
def gap : Nat → List CpInfo → List CpInfo
  | 0, r => r
  | n + 1, r => .unusable :: gap n r
def poolList (es : List (Nat × CpInfo)) (last : Nat) : List CpInfo := es.foldr (fun e r => gap e.1 (e.2 :: r)) (gap last [])
def pool (es : List (Nat × CpInfo)) (last : Nat) : Array CpInfo := ⟨poolList es last⟩
def fileOf (pool : Array CpInfo) (this : Nat) (attrs : Array Attribute := #[]) (ms : Array MethodInfo := #[]) (fl : Nat := 33) (sup : Nat := 0) (ifs : Array Nat := #[]) (fds : Array FieldInfo := #[]) : ClassFile where
  minorVersion := 0
  majorVersion := 65
  constantPool := pool
  accessFlags := fl
  thisClass := this
  superClass := sup
  interfaces := ifs
  fields := fds
  methods := ms
  attributes := attrs
def plain (name : String) (sup : Option ClassId) : Class where
  name := name
  kind := .ordinary
  loader := none
  accessFlags := 33
  super := sup
  interfaces := #[]
  cf := none
  fields := #[]
  methods := #[]
  instanceTypes := #[]
  staticTypes := #[]
  resolved := #[]
  callSites := []
  init := .initialized
  statics := none
  mirror := none

def pool0 : Array CpInfo := pool [(5, u "<init>"), (0, u "()V"), (1, .class_ 10), (1, u "java/lang/Object")] 113

def k0c0 : Code := { maxStack := 0, maxLocals := 1, code := object_method_1_code, exceptionTable := #[], attributes := #[] }
def k0m0 : Method := { name := "<init>", desc := "()V", sig := { parameters := [], returnType := none }, accessFlags := 1, code := some k0c0 }
/-- java/lang/Object -/
def k0 : Class := { plain "java/lang/Object" none with
  accessFlags := 33
  interfaces := #[]
  cf := some (fileOf pool0 8 #[] #[{ accessFlags := 1, nameIndex := 5, descriptorIndex := 6, attributes := #[] }] 33 0 #[] #[])
  fields := #[]
  methods := #[k0m0]
  instanceTypes := #[]
  staticTypes := #[]
  resolved := Array.replicate 124 none
  statics := none }

def pool1 : Array CpInfo := pool [(2, .class_ 4), (0, .nameAndType 5 6), (0, u "java/lang/Object"), (0, u "<init>"), (0, u "()V"), (0, .long 14695981039346656037), (1, .class_ 10), (0, u "com/example/workaday_tariff/workadaytariff/engine/PeriodCensus"), (0, .methodref 9 3), (0, .methodref 13 14), (0, .class_ 15), (0, .nameAndType 16 17), (0, u "com/example/workaday_tariff/workadaytariff/engine/PeriodCensusAddPinLaw"), (0, u "row"), (0, u "(Lcom/example/workaday_tariff/workadaytariff/engine/PeriodCensus;IJJ)V"), (0, .methodref 9 19), (0, .nameAndType 20 21), (0, u "repeats"), (0, u "()Lcom/example/workaday_tariff/workadaytariff/engine/PeriodCensus$Repeats;"), (0, .methodref 13 23), (0, .nameAndType 24 25), (0, u "hit"), (0, u "(IJJJ)I"), (0, .methodref 13 27), (0, .nameAndType 28 29), (0, u "unnamedBeforeFirst"), (0, u "(IIIIJJJ)Z"), (0, .methodref 31 32), (0, .class_ 33), (0, .nameAndType 34 35), (0, u "com/example/workaday_tariff/workadaytariff/engine/PeriodCensus$Repeats"), (0, u "repeated"), (0, u "(J)Z"), (0, .methodref 31 37), (0, .nameAndType 38 39), (0, u "nearRows"), (0, u "(J)I"), (0, .methodref 31 41), (0, .nameAndType 42 35), (0, u "far"), (0, .methodref 31 44), (0, .nameAndType 45 46), (0, u "anyFar"), (0, u "()Z"), (0, .methodref 9 48), (0, .nameAndType 49 6), (0, u "addUnnamed"), (0, .methodref 9 51), (0, .nameAndType 52 53), (0, u "add"), (0, u "(J)V"), (2, u "law"), (0, u "(JJJI)Z")] 5

def k1m0 : Method := { name := "<init>", desc := "()V", sig := { parameters := [], returnType := none }, accessFlags := 1, code := none }
def k1c1 : Code := { maxStack := 10, maxLocals := 28, code := code, exceptionTable := #[], attributes := #[] }
def k1m1 : Method := { name := "law", desc := "(JJJI)Z", sig := { parameters := [.long, .long, .long, .int], returnType := some .boolean }, accessFlags := 9, code := some k1c1 }
def k1c2 : Code := { maxStack := 3, maxLocals := 6, code := method_3_code, exceptionTable := #[], attributes := #[] }
def k1m2 : Method := { name := "row", desc := "(Lcom/example/workaday_tariff/workadaytariff/engine/PeriodCensus;IJJ)V", sig := { parameters := [(.object "com/example/workaday_tariff/workadaytariff/engine/PeriodCensus"), .int, .long, .long], returnType := none }, accessFlags := 10, code := some k1c2 }
def k1c3 : Code := { maxStack := 4, maxLocals := 7, code := method_4_code, exceptionTable := #[], attributes := #[] }
def k1m3 : Method := { name := "hit", desc := "(IJJJ)I", sig := { parameters := [.int, .long, .long, .long], returnType := some .int }, accessFlags := 10, code := some k1c3 }
def k1c4 : Code := { maxStack := 7, maxLocals := 11, code := method_5_code, exceptionTable := #[], attributes := #[] }
def k1m4 : Method := { name := "unnamedBeforeFirst", desc := "(IIIIJJJ)Z", sig := { parameters := [.int, .int, .int, .int, .long, .long, .long], returnType := some .boolean }, accessFlags := 10, code := some k1c4 }
/-- com/example/workaday_tariff/workadaytariff/engine/PeriodCensusAddPinLaw -/
def k1 : Class := { plain "com/example/workaday_tariff/workadaytariff/engine/PeriodCensusAddPinLaw" (some 0) with
  accessFlags := 49
  interfaces := #[]
  cf := some (fileOf pool1 13 #[] #[{ accessFlags := 1, nameIndex := 5, descriptorIndex := 6, attributes := #[] }, { accessFlags := 9, nameIndex := 56, descriptorIndex := 57, attributes := #[] }, { accessFlags := 10, nameIndex := 16, descriptorIndex := 17, attributes := #[] }, { accessFlags := 10, nameIndex := 24, descriptorIndex := 25, attributes := #[] }, { accessFlags := 10, nameIndex := 28, descriptorIndex := 29, attributes := #[] }] 49 2 #[] #[])
  fields := #[]
  methods := #[k1m0, k1m1, k1m2, k1m3, k1m4]
  instanceTypes := #[]
  staticTypes := #[]
  resolved := Array.replicate 63 none
  statics := none }

def pool2 : Array CpInfo := pool [(1, .methodref 2 3), (0, .class_ 4), (0, .nameAndType 5 6), (0, u "java/lang/Object"), (0, u "<init>"), (0, u "()V"), (2, .fieldref 10 11), (0, .class_ 12), (0, .nameAndType 13 14), (0, u "com/example/workaday_tariff/workadaytariff/engine/PeriodCensus"), (0, u "recent"), (0, u "[J"), (0, .fieldref 10 16), (0, .nameAndType 17 18), (0, u "recentLeading"), (0, u "[Z"), (0, .class_ 20), (0, u "com/example/workaday_tariff/workadaytariff/engine/PeriodCensus$Fingerprints"), (0, .methodref 19 3), (0, .fieldref 10 23), (0, .nameAndType 24 25), (0, u "periods"), (0, u "Lcom/example/workaday_tariff/workadaytariff/engine/PeriodCensus$Fingerprints;"), (0, .fieldref 10 27), (0, .nameAndType 28 25), (0, u "followers"), (0, .methodref 19 30), (0, .nameAndType 31 32), (0, u "add"), (0, u "(J)V"), (0, .fieldref 10 34), (0, .nameAndType 35 36), (0, u "seen"), (0, u "I"), (0, .methodref 38 39), (0, .class_ 40), (0, .nameAndType 41 42), (0, u "java/lang/Math"), (0, u "min"), (0, u "(II)I"), (0, .methodref 10 44), (0, .nameAndType 45 46), (0, u "remember"), (0, u "(JZ)V"), (2, .long 14695981039346656037), (1, .methodref 19 52), (0, .nameAndType 53 6), (0, u "sort"), (0, .methodref 19 55), (0, .nameAndType 56 57), (0, u "size"), (0, u "()I"), (0, .methodref 19 59), (0, .nameAndType 60 61), (0, u "runEnd"), (0, u "(I)I"), (0, .class_ 63), (0, u "com/example/workaday_tariff/workadaytariff/engine/PeriodCensus$Repeats"), (0, .methodref 62 65), (0, .nameAndType 5 66), (0, u "(I)V"), (0, .methodref 19 68), (0, .nameAndType 69 70), (0, u "get"), (0, u "(I)J"), (0, .methodref 62 72), (0, .nameAndType 31 73), (0, u "(JIZ)V"), (3, u "addUnnamed"), (0, u "repeats"), (0, u "()Lcom/example/workaday_tariff/workadaytariff/engine/PeriodCensus$Repeats;")] 6

def k2c0 : Code := { maxStack := 3, maxLocals := 1, code := prog_41_method_1_code, exceptionTable := #[], attributes := #[] }
def k2m0 : Method := { name := "<init>", desc := "()V", sig := { parameters := [], returnType := none }, accessFlags := 0, code := some k2c0 }
def k2c1 : Code := { maxStack := 4, maxLocals := 6, code := prog_41_method_2_code, exceptionTable := #[], attributes := #[] }
def k2m1 : Method := { name := "add", desc := "(J)V", sig := { parameters := [.long], returnType := none }, accessFlags := 0, code := some k2c1 }
def k2c2 : Code := { maxStack := 4, maxLocals := 1, code := prog_41_method_3_code, exceptionTable := #[], attributes := #[] }
def k2m2 : Method := { name := "addUnnamed", desc := "()V", sig := { parameters := [], returnType := none }, accessFlags := 0, code := some k2c2 }
def k2c3 : Code := { maxStack := 7, maxLocals := 11, code := prog_41_method_4_code, exceptionTable := #[], attributes := #[] }
def k2m3 : Method := { name := "repeats", desc := "()Lcom/example/workaday_tariff/workadaytariff/engine/PeriodCensus$Repeats;", sig := { parameters := [], returnType := some (.object "com/example/workaday_tariff/workadaytariff/engine/PeriodCensus$Repeats") }, accessFlags := 0, code := some k2c3 }
def k2c4 : Code := { maxStack := 4, maxLocals := 5, code := prog_41_method_5_code, exceptionTable := #[], attributes := #[] }
def k2m4 : Method := { name := "remember", desc := "(JZ)V", sig := { parameters := [.long, .boolean], returnType := none }, accessFlags := 2, code := some k2c4 }
/-- com/example/workaday_tariff/workadaytariff/engine/PeriodCensus -/
def k2 : Class := { plain "com/example/workaday_tariff/workadaytariff/engine/PeriodCensus" (some 0) with
  accessFlags := 48
  interfaces := #[]
  cf := some (fileOf pool2 10 #[.nestMembers #[19, 62]] #[{ accessFlags := 0, nameIndex := 5, descriptorIndex := 6, attributes := #[] }, { accessFlags := 0, nameIndex := 31, descriptorIndex := 32, attributes := #[] }, { accessFlags := 0, nameIndex := 77, descriptorIndex := 6, attributes := #[] }, { accessFlags := 0, nameIndex := 78, descriptorIndex := 79, attributes := #[] }, { accessFlags := 2, nameIndex := 45, descriptorIndex := 46, attributes := #[] }] 48 2 #[] #[{ accessFlags := 18, nameIndex := 13, descriptorIndex := 14, attributes := #[] }, { accessFlags := 18, nameIndex := 17, descriptorIndex := 18, attributes := #[] }, { accessFlags := 2, nameIndex := 24, descriptorIndex := 25, attributes := #[] }, { accessFlags := 2, nameIndex := 28, descriptorIndex := 25, attributes := #[] }, { accessFlags := 2, nameIndex := 35, descriptorIndex := 36, attributes := #[] }])
  fields := #[{ name := "recent", type := (.array .long), accessFlags := 18, slot := 0, constantValue := 0 }, { name := "recentLeading", type := (.array .boolean), accessFlags := 18, slot := 1, constantValue := 0 }, { name := "periods", type := (.object "com/example/workaday_tariff/workadaytariff/engine/PeriodCensus$Fingerprints"), accessFlags := 2, slot := 2, constantValue := 0 }, { name := "followers", type := (.object "com/example/workaday_tariff/workadaytariff/engine/PeriodCensus$Fingerprints"), accessFlags := 2, slot := 3, constantValue := 0 }, { name := "seen", type := .int, accessFlags := 2, slot := 4, constantValue := 0 }]
  methods := #[k2m0, k2m1, k2m2, k2m3, k2m4]
  instanceTypes := #[(.array .long), (.array .boolean), (.object "com/example/workaday_tariff/workadaytariff/engine/PeriodCensus$Fingerprints"), (.object "com/example/workaday_tariff/workadaytariff/engine/PeriodCensus$Fingerprints"), .int]
  staticTypes := #[]
  resolved := (((((Array.replicate 86 none).setIfInBounds 19 (some (.cls 3))).setIfInBounds 62 (some (.cls 7))).setIfInBounds 21 (some (.method ⟨3, 0⟩))).setIfInBounds 64 (some (.method ⟨7, 0⟩))).setIfInBounds 71 (some (.method ⟨7, 5⟩))
  statics := none }

def pool3 : Array CpInfo := pool [(1, .methodref 2 3), (0, .class_ 4), (0, .nameAndType 5 6), (0, u "java/lang/Object"), (0, u "<init>"), (0, u "()V"), (0, .fieldref 8 9), (0, .class_ 10), (0, .nameAndType 11 12), (0, u "com/example/workaday_tariff/workadaytariff/engine/PeriodCensus$Fingerprints"), (0, u "values"), (0, u "[J"), (0, .fieldref 8 14), (0, .nameAndType 15 16), (0, u "size"), (0, u "I"), (1, .class_ 20), (1, u "java/util/Arrays"), (2, .methodref 18 24), (0, .nameAndType 25 26), (0, u "sort"), (0, u "([JII)V"), (2, u "add"), (0, u "(J)V"), (1, u "get"), (0, u "(I)J"), (0, u "()I"), (0, u "runEnd"), (0, u "(I)I"), (3, .class_ 41), (0, u "com/example/workaday_tariff/workadaytariff/engine/PeriodCensus")] 2

def k3c0 : Code := { maxStack := 2, maxLocals := 1, code := prog_42_method_1_code, exceptionTable := #[], attributes := #[] }
def k3m0 : Method := { name := "<init>", desc := "()V", sig := { parameters := [], returnType := none }, accessFlags := 2, code := some k3c0 }
def k3c1 : Code := { maxStack := 5, maxLocals := 3, code := prog_42_method_2_code, exceptionTable := #[], attributes := #[] }
def k3m1 : Method := { name := "add", desc := "(J)V", sig := { parameters := [.long], returnType := none }, accessFlags := 0, code := some k3c1 }
def k3c2 : Code := { maxStack := 2, maxLocals := 2, code := prog_42_method_3_code, exceptionTable := #[], attributes := #[] }
def k3m2 : Method := { name := "get", desc := "(I)J", sig := { parameters := [.int], returnType := some .long }, accessFlags := 0, code := some k3c2 }
def k3c3 : Code := { maxStack := 1, maxLocals := 1, code := prog_42_method_4_code, exceptionTable := #[], attributes := #[] }
def k3m3 : Method := { name := "size", desc := "()I", sig := { parameters := [], returnType := some .int }, accessFlags := 0, code := some k3c3 }
def k3c4 : Code := { maxStack := 3, maxLocals := 1, code := prog_42_method_5_code, exceptionTable := #[], attributes := #[] }
def k3m4 : Method := { name := "sort", desc := "()V", sig := { parameters := [], returnType := none }, accessFlags := 0, code := some k3c4 }
def k3c5 : Code := { maxStack := 4, maxLocals := 3, code := prog_42_method_6_code, exceptionTable := #[], attributes := #[] }
def k3m5 : Method := { name := "runEnd", desc := "(I)I", sig := { parameters := [.int], returnType := some .int }, accessFlags := 0, code := some k3c5 }
/-- com/example/workaday_tariff/workadaytariff/engine/PeriodCensus$Fingerprints -/
def k3 : Class := { plain "com/example/workaday_tariff/workadaytariff/engine/PeriodCensus$Fingerprints" (some 0) with
  accessFlags := 48
  interfaces := #[]
  cf := some (fileOf pool3 8 #[.nestHost 40] #[{ accessFlags := 2, nameIndex := 5, descriptorIndex := 6, attributes := #[] }, { accessFlags := 0, nameIndex := 29, descriptorIndex := 30, attributes := #[] }, { accessFlags := 0, nameIndex := 32, descriptorIndex := 33, attributes := #[] }, { accessFlags := 0, nameIndex := 15, descriptorIndex := 34, attributes := #[] }, { accessFlags := 0, nameIndex := 25, descriptorIndex := 6, attributes := #[] }, { accessFlags := 0, nameIndex := 35, descriptorIndex := 36, attributes := #[] }] 48 2 #[] #[{ accessFlags := 2, nameIndex := 11, descriptorIndex := 12, attributes := #[] }, { accessFlags := 2, nameIndex := 15, descriptorIndex := 16, attributes := #[] }])
  fields := #[{ name := "values", type := (.array .long), accessFlags := 2, slot := 0, constantValue := 0 }, { name := "size", type := .int, accessFlags := 2, slot := 1, constantValue := 0 }]
  methods := #[k3m0, k3m1, k3m2, k3m3, k3m4, k3m5]
  instanceTypes := #[(.array .long), .int]
  staticTypes := #[]
  resolved := Array.replicate 44 none
  statics := none }

def pool4 : Array CpInfo := pool [(1, .class_ 2), (0, u "java/lang/Math"), (1, .class_ 6), (1, u "java/lang/Object"), (0, u "<init>"), (0, u "()V"), (89, .class_ 100), (1, u "java/lang/Math$RandomNumberGeneratorHolder"), (71, u "negativeZeroFloatBits"), (0, u "J"), (2, u "negativeZeroDoubleBits"), (24, u "min"), (43, u "$assertionsDisabled"), (0, u "Z"), (88, u "(II)I"), (2, u "twoToTheDoubleScaleDown"), (0, u "D"), (4, u "twoToTheDoubleScaleUp"), (9, u "E"), (3, u "PI"), (2, u "TAU"), (2, u "DEGREES_TO_RADIANS"), (0, u "RADIANS_TO_DEGREES")] 94

def k4m0 : Method := { name := "<init>", desc := "()V", sig := { parameters := [], returnType := none }, accessFlags := 2, code := none }
def k4c1 : Code := { maxStack := 2, maxLocals := 2, code := jdk_29_method_69_code, exceptionTable := #[], attributes := #[] }
def k4m1 : Method := { name := "min", desc := "(II)I", sig := { parameters := [.int, .int], returnType := some .int }, accessFlags := 9, code := some k4c1 }
/-- java/lang/Math -/
def k4 : Class := { plain "java/lang/Math" (some 0) with
  accessFlags := 49
  interfaces := #[]
  cf := some (fileOf pool4 1 #[.nestMembers #[98]] #[{ accessFlags := 2, nameIndex := 7, descriptorIndex := 8, attributes := #[] }, { accessFlags := 9, nameIndex := 201, descriptorIndex := 335, attributes := #[] }] 49 4 #[] #[{ accessFlags := 25, nameIndex := 354, descriptorIndex := 339, attributes := #[] }, { accessFlags := 25, nameIndex := 358, descriptorIndex := 339, attributes := #[] }, { accessFlags := 25, nameIndex := 361, descriptorIndex := 339, attributes := #[] }, { accessFlags := 26, nameIndex := 364, descriptorIndex := 339, attributes := #[] }, { accessFlags := 26, nameIndex := 365, descriptorIndex := 339, attributes := #[] }, { accessFlags := 26, nameIndex := 172, descriptorIndex := 173, attributes := #[] }, { accessFlags := 26, nameIndex := 176, descriptorIndex := 173, attributes := #[] }, { accessFlags := 8, nameIndex := 344, descriptorIndex := 339, attributes := #[] }, { accessFlags := 8, nameIndex := 338, descriptorIndex := 339, attributes := #[] }, { accessFlags := 4120, nameIndex := 245, descriptorIndex := 246, attributes := #[] }])
  fields := #[{ name := "E", type := .double, accessFlags := 25, slot := 0, constantValue := 0 }, { name := "PI", type := .double, accessFlags := 25, slot := 1, constantValue := 0 }, { name := "TAU", type := .double, accessFlags := 25, slot := 2, constantValue := 0 }, { name := "DEGREES_TO_RADIANS", type := .double, accessFlags := 26, slot := 3, constantValue := 0 }, { name := "RADIANS_TO_DEGREES", type := .double, accessFlags := 26, slot := 4, constantValue := 0 }, { name := "negativeZeroFloatBits", type := .long, accessFlags := 26, slot := 5, constantValue := 0 }, { name := "negativeZeroDoubleBits", type := .long, accessFlags := 26, slot := 6, constantValue := 0 }, { name := "twoToTheDoubleScaleUp", type := .double, accessFlags := 8, slot := 7, constantValue := 0 }, { name := "twoToTheDoubleScaleDown", type := .double, accessFlags := 8, slot := 8, constantValue := 0 }, { name := "$assertionsDisabled", type := .boolean, accessFlags := 4120, slot := 9, constantValue := 0 }]
  methods := #[k4m0, k4m1]
  instanceTypes := #[]
  staticTypes := #[.double, .double, .double, .double, .double, .long, .long, .double, .double, .boolean]
  resolved := Array.replicate 460 none
  statics := none }

def pool5 : Array CpInfo := pool [(2, .class_ 4), (1, u "java/lang/Object"), (0, u "<init>"), (0, u "()V"), (1, .class_ 10), (1, u "java/util/DualPivotQuicksort"), (0, u "sort"), (1, .methodref 14 15), (0, .class_ 16), (0, .nameAndType 17 18), (0, u "java/util/Arrays"), (0, u "rangeCheck"), (0, u "(III)V"), (0, .methodref 8 20), (0, .nameAndType 11 21), (0, u "([JIII)V"), (52, .class_ 76), (1, u "java/util/Arrays$NaturalOrder"), (36, .class_ 115), (1, u "java/util/Arrays$LegacyMergeSort"), (1, u "Z"), (87, .methodref 14 206), (0, .nameAndType 207 208), (0, u "binarySearch0"), (0, u "([JIIJ)I"), (166, .class_ 376), (0, u "java/util/Arrays$ArrayList"), (68, u "$assertionsDisabled"), (269, u "MIN_ARRAY_SORT_GRAN"), (0, u "I"), (2, u "INSERTIONSORT_THRESHOLD"), (12, u "([JII)V"), (61, u "binarySearch"), (180, .class_ 976), (0, u "java/util/Arrays$ArrayItr")] 52

def k5m0 : Method := { name := "<init>", desc := "()V", sig := { parameters := [], returnType := none }, accessFlags := 2, code := none }
def k5c1 : Code := { maxStack := 4, maxLocals := 3, code := jdk_65_method_5_code, exceptionTable := #[], attributes := #[] }
def k5m1 : Method := { name := "sort", desc := "([JII)V", sig := { parameters := [(.array .long), .int, .int], returnType := none }, accessFlags := 9, code := some k5c1 }
def k5c2 : Code := { maxStack := 4, maxLocals := 3, code := jdk_65_method_30_code, exceptionTable := #[], attributes := #[] }
def k5m2 : Method := { name := "rangeCheck", desc := "(III)V", sig := { parameters := [.int, .int, .int], returnType := none }, accessFlags := 8, code := some k5c2 }
def k5c3 : Code := { maxStack := 5, maxLocals := 5, code := jdk_65_method_55_code, exceptionTable := #[], attributes := #[] }
def k5m3 : Method := { name := "binarySearch", desc := "([JIIJ)I", sig := { parameters := [(.array .long), .int, .int, .long], returnType := some .int }, accessFlags := 9, code := some k5c3 }
def k5c4 : Code := { maxStack := 4, maxLocals := 10, code := jdk_65_method_56_code, exceptionTable := #[], attributes := #[] }
def k5m4 : Method := { name := "binarySearch0", desc := "([JIIJ)I", sig := { parameters := [(.array .long), .int, .int, .long], returnType := some .int }, accessFlags := 10, code := some k5c4 }
/-- java/util/Arrays -/
def k5 : Class := { plain "java/util/Arrays" (some 0) with
  accessFlags := 49
  interfaces := #[]
  cf := some (fileOf pool5 14 #[.nestMembers #[975, 375, 113, 74]] #[{ accessFlags := 2, nameIndex := 5, descriptorIndex := 6, attributes := #[] }, { accessFlags := 9, nameIndex := 11, descriptorIndex := 732, attributes := #[] }, { accessFlags := 8, nameIndex := 17, descriptorIndex := 18, attributes := #[] }, { accessFlags := 9, nameIndex := 794, descriptorIndex := 208, attributes := #[] }, { accessFlags := 10, nameIndex := 207, descriptorIndex := 208, attributes := #[] }] 49 2 #[] #[{ accessFlags := 26, nameIndex := 715, descriptorIndex := 716, attributes := #[] }, { accessFlags := 26, nameIndex := 719, descriptorIndex := 716, attributes := #[] }, { accessFlags := 4120, nameIndex := 445, descriptorIndex := 117, attributes := #[] }])
  fields := #[{ name := "MIN_ARRAY_SORT_GRAN", type := .int, accessFlags := 26, slot := 0, constantValue := 0 }, { name := "INSERTIONSORT_THRESHOLD", type := .int, accessFlags := 26, slot := 1, constantValue := 0 }, { name := "$assertionsDisabled", type := .boolean, accessFlags := 4120, slot := 2, constantValue := 0 }]
  methods := #[k5m0, k5m1, k5m2, k5m3, k5m4]
  instanceTypes := #[]
  staticTypes := #[.int, .int, .boolean]
  resolved := Array.replicate 1029 none
  statics := none }

def pool6 : Array CpInfo := pool [(1, .class_ 2), (0, u "java/util/DualPivotQuicksort"), (5, .class_ 10), (1, u "java/lang/Object"), (0, u "<init>"), (0, u "()V"), (4, .class_ 18), (0, u "java/util/DualPivotQuicksort$Sorter"), (9, u "sort"), (7, u "insertionSort"), (31, u "I"), (4, .class_ 74), (0, u "java/util/DualPivotQuicksort$RunMerger"), (10, .class_ 86), (0, u "java/util/DualPivotQuicksort$Merger"), (12, .methodref 1 100), (0, .nameAndType 28 101), (0, u "(Ljava/util/DualPivotQuicksort$Sorter;[JIII)V"), (2, u "([JIII)V"), (0, .methodref 1 106), (0, .nameAndType 36 107), (0, u "([JII)V"), (106, u "MAX_MIXED_INSERTION_SORT_SIZE"), (2, u "MAX_INSERTION_SORT_SIZE"), (1, u "MIN_PARALLEL_SORT_SIZE"), (1, u "MIN_TRY_MERGE_SIZE"), (0, u "MIN_FIRST_RUN_SIZE"), (1, u "MIN_FIRST_RUNS_FACTOR"), (1, u "MAX_RUN_CAPACITY"), (1, u "MIN_RUN_COUNT"), (1, u "MIN_PARALLEL_MERGE_PARTS_SIZE"), (0, u "MIN_BYTE_COUNTING_SORT_SIZE"), (1, u "MIN_SHORT_OR_CHAR_COUNTING_SORT_SIZE"), (1, u "DELTA"), (1, u "MAX_RECURSION_DEPTH"), (1, u "NUM_BYTE_VALUES"), (1, u "MAX_BYTE_INDEX"), (0, u "NUM_CHAR_VALUES"), (0, u "NUM_SHORT_VALUES"), (0, u "MAX_SHORT_INDEX")] 86

def k6m0 : Method := { name := "<init>", desc := "()V", sig := { parameters := [], returnType := none }, accessFlags := 2, code := none }
def k6c1 : Code := { maxStack := 9, maxLocals := 7, code := jdk_2529_method_12_code, exceptionTable := #[], attributes := #[] }
def k6m1 : Method := { name := "sort", desc := "([JIII)V", sig := { parameters := [(.array .long), .int, .int, .int], returnType := none }, accessFlags := 8, code := some k6c1 }
def k6c2 : Code := { maxStack := 6, maxLocals := 25, code := jdk_2529_method_13_code, exceptionTable := #[], attributes := #[] }
def k6m2 : Method := { name := "sort", desc := "(Ljava/util/DualPivotQuicksort$Sorter;[JIII)V", sig := { parameters := [(.object "java/util/DualPivotQuicksort$Sorter"), (.array .long), .int, .int, .int], returnType := none }, accessFlags := 8, code := some k6c2 }
def k6c3 : Code := { maxStack := 5, maxLocals := 7, code := jdk_2529_method_15_code, exceptionTable := #[], attributes := #[] }
def k6m3 : Method := { name := "insertionSort", desc := "([JII)V", sig := { parameters := [(.array .long), .int, .int], returnType := none }, accessFlags := 10, code := some k6c3 }
/-- java/util/DualPivotQuicksort -/
def k6 : Class := { plain "java/util/DualPivotQuicksort" (some 0) with
  accessFlags := 48
  interfaces := #[]
  cf := some (fileOf pool6 1 #[.nestMembers #[73, 85, 17]] #[{ accessFlags := 2, nameIndex := 11, descriptorIndex := 12, attributes := #[] }, { accessFlags := 8, nameIndex := 28, descriptorIndex := 104, attributes := #[] }, { accessFlags := 8, nameIndex := 28, descriptorIndex := 101, attributes := #[] }, { accessFlags := 10, nameIndex := 36, descriptorIndex := 107, attributes := #[] }] 48 8 #[] #[{ accessFlags := 26, nameIndex := 214, descriptorIndex := 68, attributes := #[] }, { accessFlags := 26, nameIndex := 217, descriptorIndex := 68, attributes := #[] }, { accessFlags := 26, nameIndex := 219, descriptorIndex := 68, attributes := #[] }, { accessFlags := 26, nameIndex := 221, descriptorIndex := 68, attributes := #[] }, { accessFlags := 26, nameIndex := 222, descriptorIndex := 68, attributes := #[] }, { accessFlags := 26, nameIndex := 224, descriptorIndex := 68, attributes := #[] }, { accessFlags := 26, nameIndex := 226, descriptorIndex := 68, attributes := #[] }, { accessFlags := 26, nameIndex := 228, descriptorIndex := 68, attributes := #[] }, { accessFlags := 26, nameIndex := 230, descriptorIndex := 68, attributes := #[] }, { accessFlags := 26, nameIndex := 231, descriptorIndex := 68, attributes := #[] }, { accessFlags := 26, nameIndex := 233, descriptorIndex := 68, attributes := #[] }, { accessFlags := 26, nameIndex := 235, descriptorIndex := 68, attributes := #[] }, { accessFlags := 26, nameIndex := 237, descriptorIndex := 68, attributes := #[] }, { accessFlags := 26, nameIndex := 239, descriptorIndex := 68, attributes := #[] }, { accessFlags := 26, nameIndex := 241, descriptorIndex := 68, attributes := #[] }, { accessFlags := 26, nameIndex := 242, descriptorIndex := 68, attributes := #[] }, { accessFlags := 26, nameIndex := 243, descriptorIndex := 68, attributes := #[] }, { accessFlags := 26, nameIndex := 244, descriptorIndex := 68, attributes := #[] }])
  fields := #[{ name := "MAX_MIXED_INSERTION_SORT_SIZE", type := .int, accessFlags := 26, slot := 0, constantValue := 0 }, { name := "MAX_INSERTION_SORT_SIZE", type := .int, accessFlags := 26, slot := 1, constantValue := 0 }, { name := "MIN_PARALLEL_SORT_SIZE", type := .int, accessFlags := 26, slot := 2, constantValue := 0 }, { name := "MIN_TRY_MERGE_SIZE", type := .int, accessFlags := 26, slot := 3, constantValue := 0 }, { name := "MIN_FIRST_RUN_SIZE", type := .int, accessFlags := 26, slot := 4, constantValue := 0 }, { name := "MIN_FIRST_RUNS_FACTOR", type := .int, accessFlags := 26, slot := 5, constantValue := 0 }, { name := "MAX_RUN_CAPACITY", type := .int, accessFlags := 26, slot := 6, constantValue := 0 }, { name := "MIN_RUN_COUNT", type := .int, accessFlags := 26, slot := 7, constantValue := 0 }, { name := "MIN_PARALLEL_MERGE_PARTS_SIZE", type := .int, accessFlags := 26, slot := 8, constantValue := 0 }, { name := "MIN_BYTE_COUNTING_SORT_SIZE", type := .int, accessFlags := 26, slot := 9, constantValue := 0 }, { name := "MIN_SHORT_OR_CHAR_COUNTING_SORT_SIZE", type := .int, accessFlags := 26, slot := 10, constantValue := 0 }, { name := "DELTA", type := .int, accessFlags := 26, slot := 11, constantValue := 0 }, { name := "MAX_RECURSION_DEPTH", type := .int, accessFlags := 26, slot := 12, constantValue := 0 }, { name := "NUM_BYTE_VALUES", type := .int, accessFlags := 26, slot := 13, constantValue := 0 }, { name := "MAX_BYTE_INDEX", type := .int, accessFlags := 26, slot := 14, constantValue := 0 }, { name := "NUM_CHAR_VALUES", type := .int, accessFlags := 26, slot := 15, constantValue := 0 }, { name := "NUM_SHORT_VALUES", type := .int, accessFlags := 26, slot := 16, constantValue := 0 }, { name := "MAX_SHORT_INDEX", type := .int, accessFlags := 26, slot := 17, constantValue := 0 }]
  methods := #[k6m0, k6m1, k6m2, k6m3]
  instanceTypes := #[]
  staticTypes := #[.int, .int, .int, .int, .int, .int, .int, .int, .int, .int, .int, .int, .int, .int, .int, .int, .int, .int]
  resolved := Array.replicate 331 none
  statics := none }

def pool7 : Array CpInfo := pool [(1, .methodref 2 3), (0, .class_ 4), (0, .nameAndType 5 6), (0, u "java/lang/Object"), (0, u "<init>"), (0, u "()V"), (0, .fieldref 8 9), (0, .class_ 10), (0, .nameAndType 11 12), (0, u "com/example/workaday_tariff/workadaytariff/engine/PeriodCensus$Repeats"), (0, u "fingerprints"), (0, u "[J"), (0, .fieldref 8 14), (0, .nameAndType 15 16), (0, u "rows"), (0, u "[I"), (0, .fieldref 8 18), (0, .nameAndType 19 20), (0, u "near"), (0, u "[Z"), (0, .methodref 8 22), (0, .nameAndType 23 24), (0, u "find"), (0, u "(J)I"), (0, .fieldref 8 26), (0, .nameAndType 27 28), (0, u "anyFar"), (0, u "Z"), (0, .fieldref 8 30), (0, .nameAndType 31 32), (0, u "size"), (0, u "I"), (0, .methodref 34 35), (0, .class_ 36), (0, .nameAndType 37 38), (0, u "java/util/Arrays"), (0, u "binarySearch"), (0, u "([JIIJ)I"), (0, u "(I)V"), (2, u "repeated"), (0, u "(J)Z"), (1, u "nearRows"), (0, u "far"), (0, u "()Z"), (0, u "add"), (0, u "(JIZ)V"), (3, .class_ 54), (0, u "com/example/workaday_tariff/workadaytariff/engine/PeriodCensus")] 2

def k7c0 : Code := { maxStack := 2, maxLocals := 2, code := prog_43_method_1_code, exceptionTable := #[], attributes := #[] }
def k7m0 : Method := { name := "<init>", desc := "(I)V", sig := { parameters := [.int], returnType := none }, accessFlags := 2, code := some k7c0 }
def k7c1 : Code := { maxStack := 3, maxLocals := 3, code := prog_43_method_2_code, exceptionTable := #[], attributes := #[] }
def k7m1 : Method := { name := "repeated", desc := "(J)Z", sig := { parameters := [.long], returnType := some .boolean }, accessFlags := 0, code := some k7c1 }
def k7c2 : Code := { maxStack := 3, maxLocals := 4, code := prog_43_method_3_code, exceptionTable := #[], attributes := #[] }
def k7m2 : Method := { name := "nearRows", desc := "(J)I", sig := { parameters := [.long], returnType := some .int }, accessFlags := 0, code := some k7c2 }
def k7c3 : Code := { maxStack := 3, maxLocals := 4, code := prog_43_method_4_code, exceptionTable := #[], attributes := #[] }
def k7m3 : Method := { name := "far", desc := "(J)Z", sig := { parameters := [.long], returnType := some .boolean }, accessFlags := 0, code := some k7c3 }
def k7c4 : Code := { maxStack := 1, maxLocals := 1, code := prog_43_method_5_code, exceptionTable := #[], attributes := #[] }
def k7m4 : Method := { name := "anyFar", desc := "()Z", sig := { parameters := [], returnType := some .boolean }, accessFlags := 0, code := some k7c4 }
def k7c5 : Code := { maxStack := 4, maxLocals := 5, code := prog_43_method_6_code, exceptionTable := #[], attributes := #[] }
def k7m5 : Method := { name := "add", desc := "(JIZ)V", sig := { parameters := [.long, .int, .boolean], returnType := none }, accessFlags := 2, code := some k7c5 }
def k7c6 : Code := { maxStack := 5, maxLocals := 3, code := prog_43_method_7_code, exceptionTable := #[], attributes := #[] }
def k7m6 : Method := { name := "find", desc := "(J)I", sig := { parameters := [.long], returnType := some .int }, accessFlags := 2, code := some k7c6 }
/-- com/example/workaday_tariff/workadaytariff/engine/PeriodCensus$Repeats -/
def k7 : Class := { plain "com/example/workaday_tariff/workadaytariff/engine/PeriodCensus$Repeats" (some 0) with
  accessFlags := 48
  interfaces := #[]
  cf := some (fileOf pool7 8 #[.nestHost 53] #[{ accessFlags := 2, nameIndex := 5, descriptorIndex := 39, attributes := #[] }, { accessFlags := 0, nameIndex := 42, descriptorIndex := 43, attributes := #[] }, { accessFlags := 0, nameIndex := 45, descriptorIndex := 24, attributes := #[] }, { accessFlags := 0, nameIndex := 46, descriptorIndex := 43, attributes := #[] }, { accessFlags := 0, nameIndex := 27, descriptorIndex := 47, attributes := #[] }, { accessFlags := 2, nameIndex := 48, descriptorIndex := 49, attributes := #[] }, { accessFlags := 2, nameIndex := 23, descriptorIndex := 24, attributes := #[] }] 48 2 #[] #[{ accessFlags := 18, nameIndex := 11, descriptorIndex := 12, attributes := #[] }, { accessFlags := 18, nameIndex := 15, descriptorIndex := 16, attributes := #[] }, { accessFlags := 18, nameIndex := 19, descriptorIndex := 20, attributes := #[] }, { accessFlags := 2, nameIndex := 31, descriptorIndex := 32, attributes := #[] }, { accessFlags := 2, nameIndex := 27, descriptorIndex := 28, attributes := #[] }])
  fields := #[{ name := "fingerprints", type := (.array .long), accessFlags := 18, slot := 0, constantValue := 0 }, { name := "rows", type := (.array .int), accessFlags := 18, slot := 1, constantValue := 0 }, { name := "near", type := (.array .boolean), accessFlags := 18, slot := 2, constantValue := 0 }, { name := "size", type := .int, accessFlags := 2, slot := 3, constantValue := 0 }, { name := "anyFar", type := .boolean, accessFlags := 2, slot := 4, constantValue := 0 }]
  methods := #[k7m0, k7m1, k7m2, k7m3, k7m4, k7m5, k7m6]
  instanceTypes := #[(.array .long), (.array .int), (.array .boolean), .int, .boolean]
  staticTypes := #[]
  resolved := Array.replicate 57 none
  statics := none }

def pool8 : Array CpInfo := pool [(1, u "java/lang/Cloneable"), (0, .class_ 1), (0, u "java/lang/Object"), (0, .class_ 3)] 3

/-- java/lang/Cloneable -/
def k8 : Class := { plain "java/lang/Cloneable" (some 0) with
  accessFlags := 1537
  interfaces := #[]
  cf := some (fileOf pool8 2 #[] #[] 1537 4 #[] #[])
  fields := #[]
  methods := #[]
  instanceTypes := #[]
  staticTypes := #[]
  resolved := Array.replicate 8 none
  statics := none }

def pool9 : Array CpInfo := pool [(1, u "java/io/Serializable"), (0, .class_ 1), (0, u "java/lang/Object"), (0, .class_ 3)] 3

/-- java/io/Serializable -/
def k9 : Class := { plain "java/io/Serializable" (some 0) with
  accessFlags := 1537
  interfaces := #[]
  cf := some (fileOf pool9 2 #[] #[] 1537 4 #[] #[])
  fields := #[]
  methods := #[]
  instanceTypes := #[]
  staticTypes := #[]
  resolved := Array.replicate 8 none
  statics := none }

/-- the primitive boolean -/
def k10 : Class := { plain "boolean" none with kind := .primitive 'Z', accessFlags := 0x411 }
/-- [Z -/
def k11 : Class := { plain "[Z" (some 0) with kind := .array 10 .boolean, interfaces := #[8, 9], accessFlags := 1041 }

/-- the primitive byte -/
def k12 : Class := { plain "byte" none with kind := .primitive 'B', accessFlags := 0x411 }
/-- [B -/
def k13 : Class := { plain "[B" (some 0) with kind := .array 12 .byte, interfaces := #[8, 9], accessFlags := 1041 }

/-- the primitive int -/
def k14 : Class := { plain "int" none with kind := .primitive 'I', accessFlags := 0x411 }
/-- [I -/
def k15 : Class := { plain "[I" (some 0) with kind := .array 14 .int, interfaces := #[8, 9], accessFlags := 1041 }

/-- the primitive long -/
def k16 : Class := { plain "long" none with kind := .primitive 'J', accessFlags := 0x411 }
/-- [J -/
def k17 : Class := { plain "[J" (some 0) with kind := .array 16 .long, interfaces := #[8, 9], accessFlags := 1041 }

def heap : Heap := #[]
def classes : Array Class := #[k0, k1, k2, k3, k4, k5, k6, k7, k8, k9, k10, k11, k12, k13, k14, k15, k16, k17]
def interned : List (Array UInt16 × Addr) := []
def slotsUsed : Nat := 0
def theMethod : MethodId := ⟨1, 1⟩
def args0 : Array Value := #[.long 5, .long 7, .long 9, .int 170]
def aboutOver (below : List Frame) : State where
  vm := { classes := classes, interned := interned.toArray }
  heap := heap
  slotsUsed := slotsUsed
  threads := #[{ frames := .invoking theMethod args0 :: below }]
def below0 : List Frame := [.native { method := ⟨0, 0⟩, args := #[] }]
def about1 : State := aboutOver below0
def p0 : Program := .bare "" "" ""
def e0 : Env := launch0.env 0 0 0
theorem w_frames : about1.frames = Frame.invoking theMethod args0 :: below0 := rfl
set_option maxRecDepth 65536 in
theorem w_args : argsFit about1.vm theMethod args0 = true := by decide +kernel
set_option maxRecDepth 65536 in
theorem w_heap : heapFits about1 = true := by decide +kernel
set_option maxRecDepth 65536 in
theorem w_runnable : about1.curStatus? = some .runnable := by decide +kernel
set_option maxRecDepth 65536 in
theorem w_alone : about1.alone = true := by decide +kernel
set_option maxRecDepth 65536 in
theorem w_named : about1.methodNamed? x = some theMethod := by decide +kernel
set_option maxRecDepth 65536 in
theorem w_hears : about1.hears theMethod below0 = true := by decide +kernel
set_option maxRecDepth 65536 in
theorem w_ripe : about1.ripe theMethod args0 below0 = true := by decide +kernel
theorem w_running : about1.status = .running := rfl
set_option maxRecDepth 65536 in
theorem w_room : about1.hasRoom e0.platform room_1 = true :=
  launch0.hasRoom_least _ room_1 (by decide +kernel) (by decide +kernel) (by decide +kernel) (by decide +kernel) (by decide +kernel) (by decide +kernel)
theorem allAtoms_all (ts : List Jvm.Cond) (a : Array Jvm.Value) (st : Jvm.State) : (allAtoms ts).before a st = ts.all (fun c => c.before a st) := by
  induction ts with
  | nil => rfl
  | cons c t ih =>
    show (Jvm.Cond.and c (allAtoms t)).before a st = _
    rw [Jvm.Cond.before_and, ih, List.all_cons]
def words1 : List Jvm.Cond := Jvm.Cond.code x code maxLocals ret :: tables_1
/-- a 'code' word, met by the world's own term for the bytes: nothing is compared byte by byte -/
theorem code_word {y : MethodName} {bytes : ByteArray} {mx : Nat} {rt : Option FieldType} {a : Array Value} {s : State} {m : MethodId} {meth : Method} {c : Code} (h1 : s.methodNamed? y = some m) (h2 : s.vm.method? m = some meth) (h3 : meth.code = some c) (h4 : c.code = bytes)
    (h5 : (c.maxLocals == mx && c.exceptionTable.isEmpty && decide (c.maxStack ≤ mostOperands) && decide (meth.sig.returnType = rt) && !meth.locks && decide (parseMethodDescriptor y.desc = some meth.sig)) = true) : (Jvm.Cond.code y bytes mx rt).before a s = true := by
  simp only [Bool.and_eq_true, beq_iff_eq, Bool.not_eq_true', decide_eq_true_eq] at h5
  obtain ⟨⟨⟨⟨⟨g1, g2⟩, g3⟩, g4⟩, g5⟩, g6⟩ := h5
  simp [Cond.before, Cond.holds, Cond.value, h1, h2, h3, h4, g1, g2, g3, g4, g5, g6]
def isCode : Jvm.Cond → Bool
  | .code _ _ _ _ => true
  | _ => false
theorem all_split {L : List Jvm.Cond} {P : Jvm.Cond → Bool} (h1 : L.all (fun c => isCode c || P c) = true) (h2 : ∀ c ∈ L.filter isCode, P c = true) : L.all P = true := by
  refine List.all_eq_true.mpr fun c hc => ?_
  have h := List.all_eq_true.mp h1 c hc
  rcases Bool.eq_false_or_eq_true (isCode c) with hi | hi
  · exact h2 c (List.mem_filter.mpr ⟨hc, hi⟩)
  · simpa [hi] using h
set_option maxRecDepth 65536 in
theorem w_c0 : (Jvm.Cond.code x code maxLocals ret).before args0 about1 = true := code_word (m := ⟨1, 1⟩) (meth := k1m1) (c := k1c1) (by decide +kernel) rfl rfl rfl (by decide +kernel)
set_option maxRecDepth 65536 in
theorem w_c1 : (Jvm.Cond.code ({ cls := "com/example/workaday_tariff/workadaytariff/engine/PeriodCensus", name := "<init>", desc := "()V" } : Jvm.MethodName) prog_41_method_1_code (1 : Nat) (Option.none : Option Jvm.ClassFile.FieldType)).before args0 about1 = true := code_word (m := ⟨2, 0⟩) (meth := k2m0) (c := k2c0) (by decide +kernel) rfl rfl rfl (by decide +kernel)
set_option maxRecDepth 65536 in
theorem w_c2 : (Jvm.Cond.code ({ cls := "java/lang/Object", name := "<init>", desc := "()V" } : Jvm.MethodName) object_method_1_code (1 : Nat) (Option.none : Option Jvm.ClassFile.FieldType)).before args0 about1 = true := code_word (m := ⟨0, 0⟩) (meth := k0m0) (c := k0c0) (by decide +kernel) rfl rfl rfl (by decide +kernel)
set_option maxRecDepth 65536 in
theorem w_c3 : (Jvm.Cond.code ({ cls := "com/example/workaday_tariff/workadaytariff/engine/PeriodCensus$Fingerprints", name := "<init>", desc := "()V" } : Jvm.MethodName) prog_42_method_1_code (1 : Nat) (Option.none : Option Jvm.ClassFile.FieldType)).before args0 about1 = true := code_word (m := ⟨3, 0⟩) (meth := k3m0) (c := k3c0) (by decide +kernel) rfl rfl rfl (by decide +kernel)
set_option maxRecDepth 65536 in
theorem w_c4 : (Jvm.Cond.code ({ cls := "com/example/workaday_tariff/workadaytariff/engine/PeriodCensusAddPinLaw", name := "row", desc := "(Lcom/example/workaday_tariff/workadaytariff/engine/PeriodCensus;IJJ)V" } : Jvm.MethodName) method_3_code (6 : Nat) (Option.none : Option Jvm.ClassFile.FieldType)).before args0 about1 = true := code_word (m := ⟨1, 2⟩) (meth := k1m2) (c := k1c2) (by decide +kernel) rfl rfl rfl (by decide +kernel)
set_option maxRecDepth 65536 in
theorem w_c5 : (Jvm.Cond.code ({ cls := "com/example/workaday_tariff/workadaytariff/engine/PeriodCensus", name := "add", desc := "(J)V" } : Jvm.MethodName) prog_41_method_2_code (6 : Nat) (Option.none : Option Jvm.ClassFile.FieldType)).before args0 about1 = true := code_word (m := ⟨2, 1⟩) (meth := k2m1) (c := k2c1) (by decide +kernel) rfl rfl rfl (by decide +kernel)
set_option maxRecDepth 65536 in
theorem w_c6 : (Jvm.Cond.code ({ cls := "com/example/workaday_tariff/workadaytariff/engine/PeriodCensus$Fingerprints", name := "add", desc := "(J)V" } : Jvm.MethodName) prog_42_method_2_code (3 : Nat) (Option.none : Option Jvm.ClassFile.FieldType)).before args0 about1 = true := code_word (m := ⟨3, 1⟩) (meth := k3m1) (c := k3c1) (by decide +kernel) rfl rfl rfl (by decide +kernel)
set_option maxRecDepth 65536 in
theorem w_c7 : (Jvm.Cond.code ({ cls := "java/lang/Math", name := "min", desc := "(II)I" } : Jvm.MethodName) jdk_29_method_69_code (2 : Nat) (Option.some Jvm.ClassFile.FieldType.int)).before args0 about1 = true := code_word (m := ⟨4, 1⟩) (meth := k4m1) (c := k4c1) (by decide +kernel) rfl rfl rfl (by decide +kernel)
set_option maxRecDepth 65536 in
theorem w_c8 : (Jvm.Cond.code ({ cls := "com/example/workaday_tariff/workadaytariff/engine/PeriodCensus", name := "remember", desc := "(JZ)V" } : Jvm.MethodName) prog_41_method_5_code (5 : Nat) (Option.none : Option Jvm.ClassFile.FieldType)).before args0 about1 = true := code_word (m := ⟨2, 4⟩) (meth := k2m4) (c := k2c4) (by decide +kernel) rfl rfl rfl (by decide +kernel)
set_option maxRecDepth 65536 in
theorem w_c9 : (Jvm.Cond.code ({ cls := "com/example/workaday_tariff/workadaytariff/engine/PeriodCensus", name := "repeats", desc := "()Lcom/example/workaday_tariff/workadaytariff/engine/PeriodCensus$Repeats;" } : Jvm.MethodName) prog_41_method_4_code (11 : Nat) (Option.some (Jvm.ClassFile.FieldType.object "com/example/workaday_tariff/workadaytariff/engine/PeriodCensus$Repeats"))).before args0 about1 = true := code_word (m := ⟨2, 3⟩) (meth := k2m3) (c := k2c3) (by decide +kernel) rfl rfl rfl (by decide +kernel)
set_option maxRecDepth 65536 in
theorem w_c10 : (Jvm.Cond.code ({ cls := "com/example/workaday_tariff/workadaytariff/engine/PeriodCensus$Fingerprints", name := "sort", desc := "()V" } : Jvm.MethodName) prog_42_method_5_code (1 : Nat) (Option.none : Option Jvm.ClassFile.FieldType)).before args0 about1 = true := code_word (m := ⟨3, 4⟩) (meth := k3m4) (c := k3c4) (by decide +kernel) rfl rfl rfl (by decide +kernel)
set_option maxRecDepth 65536 in
theorem w_c11 : (Jvm.Cond.code ({ cls := "java/util/Arrays", name := "sort", desc := "([JII)V" } : Jvm.MethodName) jdk_65_method_5_code (3 : Nat) (Option.none : Option Jvm.ClassFile.FieldType)).before args0 about1 = true := code_word (m := ⟨5, 1⟩) (meth := k5m1) (c := k5c1) (by decide +kernel) rfl rfl rfl (by decide +kernel)
set_option maxRecDepth 65536 in
theorem w_c12 : (Jvm.Cond.code ({ cls := "java/util/Arrays", name := "rangeCheck", desc := "(III)V" } : Jvm.MethodName) jdk_65_method_30_code (3 : Nat) (Option.none : Option Jvm.ClassFile.FieldType)).before args0 about1 = true := code_word (m := ⟨5, 2⟩) (meth := k5m2) (c := k5c2) (by decide +kernel) rfl rfl rfl (by decide +kernel)
set_option maxRecDepth 65536 in
theorem w_c13 : (Jvm.Cond.code ({ cls := "java/util/DualPivotQuicksort", name := "sort", desc := "([JIII)V" } : Jvm.MethodName) jdk_2529_method_12_code (7 : Nat) (Option.none : Option Jvm.ClassFile.FieldType)).before args0 about1 = true := code_word (m := ⟨6, 1⟩) (meth := k6m1) (c := k6c1) (by decide +kernel) rfl rfl rfl (by decide +kernel)
set_option maxRecDepth 65536 in
theorem w_c14 : (Jvm.Cond.code ({ cls := "java/util/DualPivotQuicksort", name := "sort", desc := "(Ljava/util/DualPivotQuicksort$Sorter;[JIII)V" } : Jvm.MethodName) jdk_2529_method_13_code (25 : Nat) (Option.none : Option Jvm.ClassFile.FieldType)).before args0 about1 = true := code_word (m := ⟨6, 2⟩) (meth := k6m2) (c := k6c2) (by decide +kernel) rfl rfl rfl (by decide +kernel)
set_option maxRecDepth 65536 in
theorem w_c15 : (Jvm.Cond.code ({ cls := "java/util/DualPivotQuicksort", name := "insertionSort", desc := "([JII)V" } : Jvm.MethodName) jdk_2529_method_15_code (7 : Nat) (Option.none : Option Jvm.ClassFile.FieldType)).before args0 about1 = true := code_word (m := ⟨6, 3⟩) (meth := k6m3) (c := k6c3) (by decide +kernel) rfl rfl rfl (by decide +kernel)
set_option maxRecDepth 65536 in
theorem w_c16 : (Jvm.Cond.code ({ cls := "com/example/workaday_tariff/workadaytariff/engine/PeriodCensus$Fingerprints", name := "size", desc := "()I" } : Jvm.MethodName) prog_42_method_4_code (1 : Nat) (Option.some Jvm.ClassFile.FieldType.int)).before args0 about1 = true := code_word (m := ⟨3, 3⟩) (meth := k3m3) (c := k3c3) (by decide +kernel) rfl rfl rfl (by decide +kernel)
set_option maxRecDepth 65536 in
theorem w_c17 : (Jvm.Cond.code ({ cls := "com/example/workaday_tariff/workadaytariff/engine/PeriodCensus$Fingerprints", name := "runEnd", desc := "(I)I" } : Jvm.MethodName) prog_42_method_6_code (3 : Nat) (Option.some Jvm.ClassFile.FieldType.int)).before args0 about1 = true := code_word (m := ⟨3, 5⟩) (meth := k3m5) (c := k3c5) (by decide +kernel) rfl rfl rfl (by decide +kernel)
set_option maxRecDepth 65536 in
theorem w_c18 : (Jvm.Cond.code ({ cls := "com/example/workaday_tariff/workadaytariff/engine/PeriodCensus$Repeats", name := "<init>", desc := "(I)V" } : Jvm.MethodName) prog_43_method_1_code (2 : Nat) (Option.none : Option Jvm.ClassFile.FieldType)).before args0 about1 = true := code_word (m := ⟨7, 0⟩) (meth := k7m0) (c := k7c0) (by decide +kernel) rfl rfl rfl (by decide +kernel)
set_option maxRecDepth 65536 in
theorem w_c19 : (Jvm.Cond.code ({ cls := "com/example/workaday_tariff/workadaytariff/engine/PeriodCensus$Fingerprints", name := "get", desc := "(I)J" } : Jvm.MethodName) prog_42_method_3_code (2 : Nat) (Option.some Jvm.ClassFile.FieldType.long)).before args0 about1 = true := code_word (m := ⟨3, 2⟩) (meth := k3m2) (c := k3c2) (by decide +kernel) rfl rfl rfl (by decide +kernel)
set_option maxRecDepth 65536 in
theorem w_c20 : (Jvm.Cond.code ({ cls := "com/example/workaday_tariff/workadaytariff/engine/PeriodCensusAddPinLaw", name := "hit", desc := "(IJJJ)I" } : Jvm.MethodName) method_4_code (7 : Nat) (Option.some Jvm.ClassFile.FieldType.int)).before args0 about1 = true := code_word (m := ⟨1, 3⟩) (meth := k1m3) (c := k1c3) (by decide +kernel) rfl rfl rfl (by decide +kernel)
set_option maxRecDepth 65536 in
theorem w_c21 : (Jvm.Cond.code ({ cls := "com/example/workaday_tariff/workadaytariff/engine/PeriodCensusAddPinLaw", name := "unnamedBeforeFirst", desc := "(IIIIJJJ)Z" } : Jvm.MethodName) method_5_code (11 : Nat) (Option.some Jvm.ClassFile.FieldType.boolean)).before args0 about1 = true := code_word (m := ⟨1, 4⟩) (meth := k1m4) (c := k1c4) (by decide +kernel) rfl rfl rfl (by decide +kernel)
set_option maxRecDepth 65536 in
theorem w_c22 : (Jvm.Cond.code ({ cls := "com/example/workaday_tariff/workadaytariff/engine/PeriodCensus$Repeats", name := "repeated", desc := "(J)Z" } : Jvm.MethodName) prog_43_method_2_code (3 : Nat) (Option.some Jvm.ClassFile.FieldType.boolean)).before args0 about1 = true := code_word (m := ⟨7, 1⟩) (meth := k7m1) (c := k7c1) (by decide +kernel) rfl rfl rfl (by decide +kernel)
set_option maxRecDepth 65536 in
theorem w_c23 : (Jvm.Cond.code ({ cls := "com/example/workaday_tariff/workadaytariff/engine/PeriodCensus$Repeats", name := "find", desc := "(J)I" } : Jvm.MethodName) prog_43_method_7_code (3 : Nat) (Option.some Jvm.ClassFile.FieldType.int)).before args0 about1 = true := code_word (m := ⟨7, 6⟩) (meth := k7m6) (c := k7c6) (by decide +kernel) rfl rfl rfl (by decide +kernel)
set_option maxRecDepth 65536 in
theorem w_c24 : (Jvm.Cond.code ({ cls := "java/util/Arrays", name := "binarySearch", desc := "([JIIJ)I" } : Jvm.MethodName) jdk_65_method_55_code (5 : Nat) (Option.some Jvm.ClassFile.FieldType.int)).before args0 about1 = true := code_word (m := ⟨5, 3⟩) (meth := k5m3) (c := k5c3) (by decide +kernel) rfl rfl rfl (by decide +kernel)
set_option maxRecDepth 65536 in
theorem w_c25 : (Jvm.Cond.code ({ cls := "java/util/Arrays", name := "binarySearch0", desc := "([JIIJ)I" } : Jvm.MethodName) jdk_65_method_56_code (10 : Nat) (Option.some Jvm.ClassFile.FieldType.int)).before args0 about1 = true := code_word (m := ⟨5, 4⟩) (meth := k5m4) (c := k5c4) (by decide +kernel) rfl rfl rfl (by decide +kernel)
set_option maxRecDepth 65536 in
theorem w_c26 : (Jvm.Cond.code ({ cls := "com/example/workaday_tariff/workadaytariff/engine/PeriodCensus$Repeats", name := "nearRows", desc := "(J)I" } : Jvm.MethodName) prog_43_method_3_code (4 : Nat) (Option.some Jvm.ClassFile.FieldType.int)).before args0 about1 = true := code_word (m := ⟨7, 2⟩) (meth := k7m2) (c := k7c2) (by decide +kernel) rfl rfl rfl (by decide +kernel)
set_option maxRecDepth 65536 in
theorem w_c27 : (Jvm.Cond.code ({ cls := "com/example/workaday_tariff/workadaytariff/engine/PeriodCensus$Repeats", name := "far", desc := "(J)Z" } : Jvm.MethodName) prog_43_method_4_code (4 : Nat) (Option.some Jvm.ClassFile.FieldType.boolean)).before args0 about1 = true := code_word (m := ⟨7, 3⟩) (meth := k7m3) (c := k7c3) (by decide +kernel) rfl rfl rfl (by decide +kernel)
set_option maxRecDepth 65536 in
theorem w_c28 : (Jvm.Cond.code ({ cls := "com/example/workaday_tariff/workadaytariff/engine/PeriodCensus$Repeats", name := "anyFar", desc := "()Z" } : Jvm.MethodName) prog_43_method_5_code (1 : Nat) (Option.some Jvm.ClassFile.FieldType.boolean)).before args0 about1 = true := code_word (m := ⟨7, 4⟩) (meth := k7m4) (c := k7c4) (by decide +kernel) rfl rfl rfl (by decide +kernel)
set_option maxRecDepth 65536 in
theorem w_c29 : (Jvm.Cond.code ({ cls := "com/example/workaday_tariff/workadaytariff/engine/PeriodCensus", name := "addUnnamed", desc := "()V" } : Jvm.MethodName) prog_41_method_3_code (1 : Nat) (Option.none : Option Jvm.ClassFile.FieldType)).before args0 about1 = true := code_word (m := ⟨2, 2⟩) (meth := k2m2) (c := k2c2) (by decide +kernel) rfl rfl rfl (by decide +kernel)
set_option maxRecDepth 65536 in
theorem w_c30 : (Jvm.Cond.code ({ cls := "com/example/workaday_tariff/workadaytariff/engine/PeriodCensus$Repeats", name := "add", desc := "(JIZ)V" } : Jvm.MethodName) prog_43_method_6_code (5 : Nat) (Option.none : Option Jvm.ClassFile.FieldType)).before args0 about1 = true := code_word (m := ⟨7, 5⟩) (meth := k7m5) (c := k7c5) (by decide +kernel) rfl rfl rfl (by decide +kernel)
def codes1 : List Jvm.Cond := [Jvm.Cond.code x code maxLocals ret, Jvm.Cond.code ({ cls := "com/example/workaday_tariff/workadaytariff/engine/PeriodCensus", name := "<init>", desc := "()V" } : Jvm.MethodName) prog_41_method_1_code (1 : Nat) (Option.none : Option Jvm.ClassFile.FieldType), Jvm.Cond.code ({ cls := "java/lang/Object", name := "<init>", desc := "()V" } : Jvm.MethodName) object_method_1_code (1 : Nat) (Option.none : Option Jvm.ClassFile.FieldType), Jvm.Cond.code ({ cls := "com/example/workaday_tariff/workadaytariff/engine/PeriodCensus$Fingerprints", name := "<init>", desc := "()V" } : Jvm.MethodName) prog_42_method_1_code (1 : Nat) (Option.none : Option Jvm.ClassFile.FieldType), Jvm.Cond.code ({ cls := "com/example/workaday_tariff/workadaytariff/engine/PeriodCensusAddPinLaw", name := "row", desc := "(Lcom/example/workaday_tariff/workadaytariff/engine/PeriodCensus;IJJ)V" } : Jvm.MethodName) method_3_code (6 : Nat) (Option.none : Option Jvm.ClassFile.FieldType), Jvm.Cond.code ({ cls := "com/example/workaday_tariff/workadaytariff/engine/PeriodCensus", name := "add", desc := "(J)V" } : Jvm.MethodName) prog_41_method_2_code (6 : Nat) (Option.none : Option Jvm.ClassFile.FieldType), Jvm.Cond.code ({ cls := "com/example/workaday_tariff/workadaytariff/engine/PeriodCensus$Fingerprints", name := "add", desc := "(J)V" } : Jvm.MethodName) prog_42_method_2_code (3 : Nat) (Option.none : Option Jvm.ClassFile.FieldType), Jvm.Cond.code ({ cls := "java/lang/Math", name := "min", desc := "(II)I" } : Jvm.MethodName) jdk_29_method_69_code (2 : Nat) (Option.some Jvm.ClassFile.FieldType.int), Jvm.Cond.code ({ cls := "com/example/workaday_tariff/workadaytariff/engine/PeriodCensus", name := "remember", desc := "(JZ)V" } : Jvm.MethodName) prog_41_method_5_code (5 : Nat) (Option.none : Option Jvm.ClassFile.FieldType), Jvm.Cond.code ({ cls := "com/example/workaday_tariff/workadaytariff/engine/PeriodCensus", name := "repeats", desc := "()Lcom/example/workaday_tariff/workadaytariff/engine/PeriodCensus$Repeats;" } : Jvm.MethodName) prog_41_method_4_code (11 : Nat) (Option.some (Jvm.ClassFile.FieldType.object "com/example/workaday_tariff/workadaytariff/engine/PeriodCensus$Repeats")), Jvm.Cond.code ({ cls := "com/example/workaday_tariff/workadaytariff/engine/PeriodCensus$Fingerprints", name := "sort", desc := "()V" } : Jvm.MethodName) prog_42_method_5_code (1 : Nat) (Option.none : Option Jvm.ClassFile.FieldType), Jvm.Cond.code ({ cls := "java/util/Arrays", name := "sort", desc := "([JII)V" } : Jvm.MethodName) jdk_65_method_5_code (3 : Nat) (Option.none : Option Jvm.ClassFile.FieldType), Jvm.Cond.code ({ cls := "java/util/Arrays", name := "rangeCheck", desc := "(III)V" } : Jvm.MethodName) jdk_65_method_30_code (3 : Nat) (Option.none : Option Jvm.ClassFile.FieldType), Jvm.Cond.code ({ cls := "java/util/DualPivotQuicksort", name := "sort", desc := "([JIII)V" } : Jvm.MethodName) jdk_2529_method_12_code (7 : Nat) (Option.none : Option Jvm.ClassFile.FieldType), Jvm.Cond.code ({ cls := "java/util/DualPivotQuicksort", name := "sort", desc := "(Ljava/util/DualPivotQuicksort$Sorter;[JIII)V" } : Jvm.MethodName) jdk_2529_method_13_code (25 : Nat) (Option.none : Option Jvm.ClassFile.FieldType), Jvm.Cond.code ({ cls := "java/util/DualPivotQuicksort", name := "insertionSort", desc := "([JII)V" } : Jvm.MethodName) jdk_2529_method_15_code (7 : Nat) (Option.none : Option Jvm.ClassFile.FieldType), Jvm.Cond.code ({ cls := "com/example/workaday_tariff/workadaytariff/engine/PeriodCensus$Fingerprints", name := "size", desc := "()I" } : Jvm.MethodName) prog_42_method_4_code (1 : Nat) (Option.some Jvm.ClassFile.FieldType.int), Jvm.Cond.code ({ cls := "com/example/workaday_tariff/workadaytariff/engine/PeriodCensus$Fingerprints", name := "runEnd", desc := "(I)I" } : Jvm.MethodName) prog_42_method_6_code (3 : Nat) (Option.some Jvm.ClassFile.FieldType.int), Jvm.Cond.code ({ cls := "com/example/workaday_tariff/workadaytariff/engine/PeriodCensus$Repeats", name := "<init>", desc := "(I)V" } : Jvm.MethodName) prog_43_method_1_code (2 : Nat) (Option.none : Option Jvm.ClassFile.FieldType), Jvm.Cond.code ({ cls := "com/example/workaday_tariff/workadaytariff/engine/PeriodCensus$Fingerprints", name := "get", desc := "(I)J" } : Jvm.MethodName) prog_42_method_3_code (2 : Nat) (Option.some Jvm.ClassFile.FieldType.long), Jvm.Cond.code ({ cls := "com/example/workaday_tariff/workadaytariff/engine/PeriodCensusAddPinLaw", name := "hit", desc := "(IJJJ)I" } : Jvm.MethodName) method_4_code (7 : Nat) (Option.some Jvm.ClassFile.FieldType.int), Jvm.Cond.code ({ cls := "com/example/workaday_tariff/workadaytariff/engine/PeriodCensusAddPinLaw", name := "unnamedBeforeFirst", desc := "(IIIIJJJ)Z" } : Jvm.MethodName) method_5_code (11 : Nat) (Option.some Jvm.ClassFile.FieldType.boolean), Jvm.Cond.code ({ cls := "com/example/workaday_tariff/workadaytariff/engine/PeriodCensus$Repeats", name := "repeated", desc := "(J)Z" } : Jvm.MethodName) prog_43_method_2_code (3 : Nat) (Option.some Jvm.ClassFile.FieldType.boolean), Jvm.Cond.code ({ cls := "com/example/workaday_tariff/workadaytariff/engine/PeriodCensus$Repeats", name := "find", desc := "(J)I" } : Jvm.MethodName) prog_43_method_7_code (3 : Nat) (Option.some Jvm.ClassFile.FieldType.int), Jvm.Cond.code ({ cls := "java/util/Arrays", name := "binarySearch", desc := "([JIIJ)I" } : Jvm.MethodName) jdk_65_method_55_code (5 : Nat) (Option.some Jvm.ClassFile.FieldType.int), Jvm.Cond.code ({ cls := "java/util/Arrays", name := "binarySearch0", desc := "([JIIJ)I" } : Jvm.MethodName) jdk_65_method_56_code (10 : Nat) (Option.some Jvm.ClassFile.FieldType.int), Jvm.Cond.code ({ cls := "com/example/workaday_tariff/workadaytariff/engine/PeriodCensus$Repeats", name := "nearRows", desc := "(J)I" } : Jvm.MethodName) prog_43_method_3_code (4 : Nat) (Option.some Jvm.ClassFile.FieldType.int), Jvm.Cond.code ({ cls := "com/example/workaday_tariff/workadaytariff/engine/PeriodCensus$Repeats", name := "far", desc := "(J)Z" } : Jvm.MethodName) prog_43_method_4_code (4 : Nat) (Option.some Jvm.ClassFile.FieldType.boolean), Jvm.Cond.code ({ cls := "com/example/workaday_tariff/workadaytariff/engine/PeriodCensus$Repeats", name := "anyFar", desc := "()Z" } : Jvm.MethodName) prog_43_method_5_code (1 : Nat) (Option.some Jvm.ClassFile.FieldType.boolean), Jvm.Cond.code ({ cls := "com/example/workaday_tariff/workadaytariff/engine/PeriodCensus", name := "addUnnamed", desc := "()V" } : Jvm.MethodName) prog_41_method_3_code (1 : Nat) (Option.none : Option Jvm.ClassFile.FieldType), Jvm.Cond.code ({ cls := "com/example/workaday_tariff/workadaytariff/engine/PeriodCensus$Repeats", name := "add", desc := "(JIZ)V" } : Jvm.MethodName) prog_43_method_6_code (5 : Nat) (Option.none : Option Jvm.ClassFile.FieldType)]
set_option maxRecDepth 65536 in
theorem codes_eq : words1.filter isCode = codes1 := rfl
theorem w_codes : ∀ c ∈ words1.filter isCode, c.before args0 about1 = true := by
  rw [codes_eq]
  intro c hc
  simp only [codes1, List.mem_cons, List.not_mem_nil, or_false] at hc
  rcases hc with rfl | rfl | rfl | rfl | rfl | rfl | rfl | rfl | rfl | rfl | rfl | rfl | rfl | rfl | rfl | rfl | rfl | rfl | rfl | rfl | rfl | rfl | rfl | rfl | rfl | rfl | rfl | rfl | rfl | rfl | rfl
  · exact w_c0
  · exact w_c1
  · exact w_c2
  · exact w_c3
  · exact w_c4
  · exact w_c5
  · exact w_c6
  · exact w_c7
  · exact w_c8
  · exact w_c9
  · exact w_c10
  · exact w_c11
  · exact w_c12
  · exact w_c13
  · exact w_c14
  · exact w_c15
  · exact w_c16
  · exact w_c17
  · exact w_c18
  · exact w_c19
  · exact w_c20
  · exact w_c21
  · exact w_c22
  · exact w_c23
  · exact w_c24
  · exact w_c25
  · exact w_c26
  · exact w_c27
  · exact w_c28
  · exact w_c29
  · exact w_c30
set_option maxRecDepth 65536 in
theorem w_t1 : (words1.take 24).all (fun c => isCode c || c.before args0 about1) = true := by decide +kernel
set_option maxRecDepth 65536 in
theorem w_t2 : ((words1.drop 24).take 24).all (fun c => isCode c || c.before args0 about1) = true := by decide +kernel
set_option maxRecDepth 65536 in
theorem w_t3 : (((words1.drop 24).drop 24).take 24).all (fun c => isCode c || c.before args0 about1) = true := by decide +kernel
set_option maxRecDepth 65536 in
theorem w_t4 : ((((words1.drop 24).drop 24).drop 24).take 24).all (fun c => isCode c || c.before args0 about1) = true := by decide +kernel
set_option maxRecDepth 65536 in
theorem w_t5 : (((((words1.drop 24).drop 24).drop 24).drop 24).take 24).all (fun c => isCode c || c.before args0 about1) = true := by decide +kernel
set_option maxRecDepth 65536 in
theorem w_t6 : ((((((words1.drop 24).drop 24).drop 24).drop 24).drop 24).take 24).all (fun c => isCode c || c.before args0 about1) = true := by decide +kernel
set_option maxRecDepth 65536 in
theorem w_t7 : ((((((words1.drop 24).drop 24).drop 24).drop 24).drop 24).drop 24).all (fun c => isCode c || c.before args0 about1) = true := by decide +kernel
theorem w_tables : (allAtoms (Jvm.Cond.code x code maxLocals ret :: tables_1)).before args0 about1 = true := by
  rw [allAtoms_all]
  show words1.all (fun c => c.before args0 about1) = true
  refine all_split ?_ w_codes
  rw [← List.take_append_drop 24 words1, List.all_append, w_t1, ← List.take_append_drop 24 (words1.drop 24), List.all_append, w_t2, ← List.take_append_drop 24 ((words1.drop 24).drop 24), List.all_append, w_t3, ← List.take_append_drop 24 (((words1.drop 24).drop 24).drop 24), List.all_append, w_t4, ← List.take_append_drop 24 ((((words1.drop 24).drop 24).drop 24).drop 24), List.all_append, w_t5, ← List.take_append_drop 24 (((((words1.drop 24).drop 24).drop 24).drop 24).drop 24), List.all_append, w_t6, w_t7]
  rfl
set_option maxRecDepth 65536 in
theorem w_case : (Jvm.Cond.and given_1 narrow_1).before args0 about1 = true := by decide +kernel
theorem w_applies : (headSpec (Jvm.Cond.code x code maxLocals ret :: tables_1) room_1).applies x e0.platform about1 = true :=
  (Spec.applies_iff w_frames).mpr ⟨w_running, w_runnable, w_alone, w_named, w_hears, w_ripe, w_room, w_tables⟩
theorem atStart : AtStart classFile x code maxLocals ret World_1 tables_1 room_1 Calls_1 rest_1 Pre_1 launch0 p0 e0 about1 theMethod args0 below0 :=
  ⟨lists_1, trivial, launch0.admits_env _ _ _, launch0.least_env, fairChoices_fair.cas, fairChoices_fair.clock, w_frames, w_args, w_heap, w_applies, trivial, trivial, w_case⟩
end start1
theorem witness_1 : WitnessClaimed_1 := ⟨start1.p0, start1.e0, start1.about1, start1.theMethod, start1.args0, start1.below0, start1.atStart⟩
end Jvm.Pilot.@@N@@
